import JvmDerived
import JvmDerived.Pilot.@@N@@Statement
import JvmDerived.Pilot.@@N@@Code
set_option linter.unusedVariables false
set_option linter.unusedSimpArgs false
namespace Jvm.RoadKit
open Sem ClassFile Op Lib Jvm.Stand Jvm.Free Jvm.LawKit
section New
variable {p : Program} {l : Launch} {e : Env} {R : Room} {s : State} {m : MethodId} {args : Array Value} {below : List Frame} {meth : Method} {c : Code} {T : State} {locs : List Loc} {cells slots : Nat}
theorem retI (X : Stand p l e R s m args below meth c T locs cells slots) (hx : p.tables.exec = Jvm.exec) {pc : Nat} {Ls : Array Slot} {z : Int32} {rest : List Value} (hret : meth.sig.returnType = some .int) (hd : decode c.code pc = .ok (.ireturn, 1)) {fs : List Frame}
    (hl : ∀ (f : JFrame) (acts : List Action), f.method = m → f.locked = none → f.entered = [] → (doReturn e (T.setTop f) acts (some (.int z))).1 = T.setFrames fs) : Steps p.tables e below (T.setTop (mkF m pc Ls (.int z :: rest))) (T.setFrames fs) := by
  have hm' : T.vm.method? m = some meth := X.method'
  have hn : narrow .int (.int z) = .int z := rfl
  show Steps p.tables e below (T.setTop { method := m, pc := pc, locals := Ls, stack := _ :: rest, locked := none }) _
  jvm_step X.here [X.here.top, hx, hd, hm', hret, hn]
  first | (intro acts; rw [hl _ acts rfl rfl rfl]) | rw [hl _ _ rfl rfl rfl]
  exact Steps.refl _
end New
end Jvm.RoadKit
namespace Jvm.Pilot.@@N@@
open Jvm Jvm.ClassFile Sem Op Lib Jvm.Free Jvm.Stand Jvm.LawKit Jvm.RoadKit Bundle Jvm.Pilot.@@N@@.Jvm.D
/-- the road so far: whoever comes from T with the frame g comes from S -/
def Rch (p : Program) (e : Env) (below : List Frame) (S T : State) (g : JFrame) : Prop := ∀ t, Steps p.tables e below (T.setTop g) t → Steps p.tables e below S t
theorem own_sta_keep {Z : State} {h h' : Heap} {C n d : String} {v : Value} {ws : List Addr} (F : Sta Z h C n d v) (K : Keep h h' ws) (q : ∀ x ∈ ws, ∀ cell : Cell, h[x]? = some cell → cell.vm.isStatics = false) : Sta Z h' C n d v := by
  obtain ⟨cf, i, k, f, st, cell, h1, h2, h3, h4, h5, h6, h7⟩ := F
  exact ⟨cf, i, k, f, st, cell, h1, h2, h3, h4, K.2.1 _ _ h5 (fun hm => by rw [q st hm cell h5] at h6; cases h6), h6, h7⟩
theorem own_selp {Z s : State} {a0 args : Array Value} {y : MethodName} {n : Nat} (hZ : Z.Warmed39 s.vm) (wi : (Jvm.Cond.instantiable y.cls n).before a0 Z = true) (wp : (Jvm.Cond.privateMethod y).before a0 Z = true) (wm : (Jvm.Cond.instanceMethod y).before a0 Z = true) (hy : y.cls ≠ "java/lang/invoke/MethodHandle" ∧ y.cls ≠ "java/lang/invoke/VarHandle") : (Jvm.Cond.selects y.cls y y).before args s = true := by
  have wi' : (Jvm.Cond.instantiable y.cls n).before args s = true := mvT hZ wi
  obtain ⟨c, k, h1, h2, h3, h4, -⟩ := Cond.instantiable_spec wi'
  exact selects_self_of_private h1 h2 (Bool.or_eq_false_iff.mp h4).1 (Cond.privateMethod_at (mvP hZ wp (args := #[]))) (mvT hZ wm) hy
theorem own_nface {Z s : State} {a0 : Array Value} {y y2 : MethodName} {C : String} (hZ : Z.Warmed39 s.vm) (w : (Jvm.Cond.selects C y2 y2).before a0 Z = true) (wm : (Jvm.Cond.instanceMethod y2).before a0 Z = true) (hc : y.cls = y2.cls) : NotFace s y := fun r hr => by
  have w' : (Jvm.Cond.selects C y2 y2).before a0 s = true := mvT hZ w
  have wm' : (Jvm.Cond.instanceMethod y2).before a0 s = true := mvT hZ wm
  obtain ⟨m2, meth2, hn2, -⟩ := Cond.instanceMethod_spec wm'
  obtain ⟨kr, hk, hi⟩ := notFace_of_selects w' m2 hn2
  have e : r.cls = m2.cls := by
    have h1 := findClass_of_methodNamed hr
    have h2 := findClass_of_methodNamed hn2
    rw [hc] at h1
    exact Option.some.inj (h1.symm.trans h2)
  exact ⟨kr, by rw [e]; exact hk, hi⟩
theorem own_same {Z : State} {a0 : Array Value} {y y2 : MethodName} {C : String} (wy : (Jvm.Cond.instanceMethod y).before a0 Z = true) (w : (Jvm.Cond.selects C y2 y2).before a0 Z = true) (wm : (Jvm.Cond.instanceMethod y2).before a0 Z = true) (hc : y.cls = y2.cls) (hy : y.cls ≠ "java/lang/invoke/MethodHandle" ∧ y.cls ≠ "java/lang/invoke/VarHandle") : (Jvm.Cond.sameMethod y.cls y.cls y.name y.desc).before a0 Z = true := by
  obtain ⟨mk, meth, hn, -⟩ := Cond.instanceMethod_spec wy
  obtain ⟨kr, hk, hi⟩ := own_nface (State.Warmed39.refl Z) w wm hc mk hn
  have hf := State.methodFound?_of_named hn hy
  have hcl := findClass_of_methodNamed hn
  have hn' : Z.methodNamed? ⟨y.cls, y.name, y.desc⟩ = some mk := hn
  simp [Cond.before, Cond.holds, Cond.value, hcl, hf, hn', hk, hi]
theorem own_selp2 {Z s : State} {a0 args : Array Value} {y : MethodName} {C : String} (hZ : Z.Warmed39 s.vm) (w : (Jvm.Cond.selects C y y).before a0 Z = true) (wp : (Jvm.Cond.privateMethod y).before a0 Z = true) (wm : (Jvm.Cond.instanceMethod y).before a0 Z = true) (hy : y.cls ≠ "java/lang/invoke/MethodHandle" ∧ y.cls ≠ "java/lang/invoke/VarHandle") : (Jvm.Cond.selects y.cls y y).before args s = true := by
  have wm' : (Jvm.Cond.instanceMethod y).before args s = true := mvT hZ wm
  obtain ⟨mk, meth, hn, -⟩ := Cond.instanceMethod_spec wm'
  obtain ⟨kr, hk, hi⟩ := own_nface hZ w wm rfl mk hn
  exact selects_self_of_private (findClass_of_methodNamed hn) hk hi (Cond.privateMethod_at (mvP hZ wp (args := #[]))) wm' hy
theorem own_eq_int {args : Array Value} {s : State} {a : Term} {k : Int32} (h : (Jvm.Cond.eq a (Term.int k)).value args s none s [] = some true) : a.eval args s none [] s = some (.int k) := by
  simp only [Cond.value, Term.eval] at h
  cases ha : a.eval args s none [] s with
  | none => simp [ha] at h
  | some x => cases x <;> simp [ha] at h ⊢; exact h
theorem own_eq_ref {args : Array Value} {s : State} {a b : Term} {y : Addr} (h : (Jvm.Cond.eq a b).value args s none s [] = some true) (hb : b.eval args s none [] s = some (.ref y)) : a.eval args s none [] s = some (.ref y) := by
  simp only [Cond.value] at h
  cases ha : a.eval args s none [] s with
  | none => simp [ha] at h
  | some x => cases x <;> simp [ha, hb] at h ⊢; exact h
theorem own_i {a b : Int32} (h : a = b) : some (Value.int a) = some (Value.int b) := by rw [h]
theorem own_v {a b : Addr} (h : a = b) : some (Value.ref a) = some (Value.ref b) := by rw [h]
theorem own_lt {x y : Int32} : x < y ↔ x.toInt < y.toInt := Int32.lt_iff_toInt_lt
theorem own_eq {x y : Int32} : x = y ↔ x.toInt = y.toInt := Int32.toInt_inj.symm
theorem own_add {x k : Int32} (h0 : -2147483648 ≤ x.toInt + k.toInt) (h1 : x.toInt + k.toInt < 2147483648) : (x + k).toInt = x.toInt + k.toInt := by
  have h := c_iadd x k
  have r := rng32 (x + k)
  omega
theorem own_sub {x k : Int32} (h0 : -2147483648 ≤ x.toInt - k.toInt) (h1 : x.toInt - k.toInt < 2147483648) : (x - k).toInt = x.toInt - k.toInt := by
  have h := c_isub x k
  have r := rng32 (x - k)
  omega
theorem own_neg {x : Int32} (h0 : 0 ≤ x.toInt) : (-x).toInt = -x.toInt := by
  have h := c_ineg x
  have r := rng32 (-x)
  have r' := rng32 x
  omega
theorem own_nat {j : Int32} (h0 : 0 ≤ j.toInt) : (j.toNatClampNeg : Int) = j.toInt := by
  have hj : ¬ j < 0 := fun q => by
    rw [Int32.lt_iff_toInt_lt] at q
    have e : (0 : Int32).toInt = 0 := by decide
    omega
  exact (nat_of hj).symm
theorem own_ge0 {j : Int32} (h0 : 0 ≤ j.toInt) : ¬ j < 0 := fun q => by
  rw [own_lt] at q
  have e : (0 : Int32).toInt = 0 := by decide
  omega
theorem own_k0 : (0 : Int32).toInt = 0 := by decide
theorem own_k1 : (1 : Int32).toInt = 1 := by decide
theorem own_k2 : (2 : Int32).toInt = 2 := by decide
theorem own_k9 : (9 : Int32).toInt = 9 := by decide
theorem own_k10 : (10 : Int32).toInt = 10 := by decide
theorem own_k16 : (16 : Int32).toInt = 16 := by decide
theorem own_k48 : (48 : Int32).toInt = 48 := by decide
theorem own_k100 : (100 : Int32).toInt = 100 := by decide
def own_dg (n : Int32) : Int32 := if n < 10 then 1 else if n < 100 then 2 else if n < 1000 then 3 else if n < 10000 then 4 else if n < 100000 then 5 else if n < 1000000 then 6 else if n < 10000000 then 7 else if n < 100000000 then 8 else if n < 1000000000 then 9 else 10
def own_dn (n : Int32) : Nat := (own_dg n).toNatClampNeg
theorem own_cases (n : Int32) (hn : 0 ≤ n.toInt) : (own_dg n = 1 ∧ 0 ≤ n.toInt ∧ n.toInt < 10) ∨ (own_dg n = 2 ∧ 10 ≤ n.toInt ∧ n.toInt < 100) ∨ (own_dg n = 3 ∧ 100 ≤ n.toInt ∧ n.toInt < 1000) ∨ (own_dg n = 4 ∧ 1000 ≤ n.toInt ∧ n.toInt < 10000) ∨ (own_dg n = 5 ∧ 10000 ≤ n.toInt ∧ n.toInt < 100000) ∨ (own_dg n = 6 ∧ 100000 ≤ n.toInt ∧ n.toInt < 1000000) ∨ (own_dg n = 7 ∧ 1000000 ≤ n.toInt ∧ n.toInt < 10000000) ∨ (own_dg n = 8 ∧ 10000000 ≤ n.toInt ∧ n.toInt < 100000000) ∨ (own_dg n = 9 ∧ 100000000 ≤ n.toInt ∧ n.toInt < 1000000000) ∨ (own_dg n = 10 ∧ 1000000000 ≤ n.toInt ∧ n.toInt < 2147483648) := by
  have e1 : (10 : Int32).toInt = 10 := by decide
  have e2 : (100 : Int32).toInt = 100 := by decide
  have e3 : (1000 : Int32).toInt = 1000 := by decide
  have e4 : (10000 : Int32).toInt = 10000 := by decide
  have e5 : (100000 : Int32).toInt = 100000 := by decide
  have e6 : (1000000 : Int32).toInt = 1000000 := by decide
  have e7 : (10000000 : Int32).toInt = 10000000 := by decide
  have e8 : (100000000 : Int32).toInt = 100000000 := by decide
  have e9 : (1000000000 : Int32).toInt = 1000000000 := by decide
  have r := (rng32 n).2
  unfold own_dg
  simp only [own_lt, e1, e2, e3, e4, e5, e6, e7, e8, e9]
  by_cases h1 : n.toInt < 10
  · exact Or.inl ⟨by simp only [h1, ite_true, ite_false], by omega, by omega⟩
  by_cases h2 : n.toInt < 100
  · exact Or.inr (Or.inl ⟨by simp only [h1, h2, ite_true, ite_false], by omega, by omega⟩)
  by_cases h3 : n.toInt < 1000
  · exact Or.inr (Or.inr (Or.inl ⟨by simp only [h1, h2, h3, ite_true, ite_false], by omega, by omega⟩))
  by_cases h4 : n.toInt < 10000
  · exact Or.inr (Or.inr (Or.inr (Or.inl ⟨by simp only [h1, h2, h3, h4, ite_true, ite_false], by omega, by omega⟩)))
  by_cases h5 : n.toInt < 100000
  · exact Or.inr (Or.inr (Or.inr (Or.inr (Or.inl ⟨by simp only [h1, h2, h3, h4, h5, ite_true, ite_false], by omega, by omega⟩))))
  by_cases h6 : n.toInt < 1000000
  · exact Or.inr (Or.inr (Or.inr (Or.inr (Or.inr (Or.inl ⟨by simp only [h1, h2, h3, h4, h5, h6, ite_true, ite_false], by omega, by omega⟩)))))
  by_cases h7 : n.toInt < 10000000
  · exact Or.inr (Or.inr (Or.inr (Or.inr (Or.inr (Or.inr (Or.inl ⟨by simp only [h1, h2, h3, h4, h5, h6, h7, ite_true, ite_false], by omega, by omega⟩))))))
  by_cases h8 : n.toInt < 100000000
  · exact Or.inr (Or.inr (Or.inr (Or.inr (Or.inr (Or.inr (Or.inr (Or.inl ⟨by simp only [h1, h2, h3, h4, h5, h6, h7, h8, ite_true, ite_false], by omega, by omega⟩)))))))
  by_cases h9 : n.toInt < 1000000000
  · exact Or.inr (Or.inr (Or.inr (Or.inr (Or.inr (Or.inr (Or.inr (Or.inr (Or.inl ⟨by simp only [h1, h2, h3, h4, h5, h6, h7, h8, h9, ite_true, ite_false], by omega, by omega⟩))))))))
  exact Or.inr (Or.inr (Or.inr (Or.inr (Or.inr (Or.inr (Or.inr (Or.inr (Or.inr (⟨by simp only [h1, h2, h3, h4, h5, h6, h7, h8, h9, ite_false], by omega, by omega⟩)))))))))
theorem own_dg_rng (n : Int32) (hn : 0 ≤ n.toInt) : 1 ≤ (own_dg n).toInt ∧ (own_dg n).toInt ≤ 10 := by
  rcases own_cases n hn with h | h | h | h | h | h | h | h | h | h <;> rw [h.1] <;> decide
theorem own_dn_eq (n : Int32) (hn : 0 ≤ n.toInt) : (own_dn n : Int) = (own_dg n).toInt := own_nat (by have := own_dg_rng n hn; omega)
theorem own_neg_lt {n a b : Int32} (hn : 0 ≤ n.toInt) (e : a.toInt = -b.toInt) : a < -n ↔ n < b := by
  rw [own_lt, own_lt, own_neg hn]
  omega
theorem own_neg_gt {n a b : Int32} (hn : 0 ≤ n.toInt) (e : a.toInt = -b.toInt) : -n < a ↔ b < n := by
  rw [own_lt, own_lt, own_neg hn]
  omega
def own_dig (n : Int32) (j : Nat) : Int32 := Int32.ofInt (48 + n.toInt / 10 ^ j % 10)
theorem own_dig_toInt (n : Int32) (j : Nat) : (own_dig n j).toInt = 48 + n.toInt / 10 ^ j % 10 := by
  have h0 := Int.emod_nonneg (n.toInt / 10 ^ j) (b := 10) (by decide)
  have h1 := Int.emod_lt_of_pos (n.toInt / 10 ^ j) (b := 10) (by decide)
  unfold own_dig
  rw [Int32.toInt_ofInt]
  have hb := Int.bmod_emod (x := 48 + n.toInt / 10 ^ j % 10) (m := 2 ^ 32)
  have hl := Int.le_bmod (x := 48 + n.toInt / 10 ^ j % 10) (m := 2 ^ 32) (by decide)
  have hu := Int.bmod_lt (x := 48 + n.toInt / 10 ^ j % 10) (m := 2 ^ 32) (by decide)
  show (48 + n.toInt / 10 ^ j % 10).bmod (2 ^ 32) = _
  omega
theorem own_dig_rng (n : Int32) (j : Nat) : 0 ≤ (own_dig n j).toInt ∧ (own_dig n j).toInt < 128 := by
  have h0 := Int.emod_nonneg (n.toInt / 10 ^ j) (b := 10) (by decide)
  have h1 := Int.emod_lt_of_pos (n.toInt / 10 ^ j) (b := 10) (by decide)
  rw [own_dig_toInt]
  omega
def own_asc (z : Int32) : Prop := 0 ≤ z.toInt ∧ z.toInt < 128
theorem own_nar_b {z : Int32} (h : own_asc z) : nar .byte z = z := by
  have q := c_i2b z
  have h' := h.1
  have h'' := h.2
  exact Int32.toInt_inj.mp (by show z.toInt8.toInt32.toInt = _; omega)
theorem own_nar_c {z : Int32} (h : own_asc z) : nar .char z = z := by
  have q := c_i2c z
  have h' := h.1
  have h'' := h.2
  exact Int32.toInt_inj.mp (by show z.toUInt32.toUInt16.toUInt32.toInt32.toInt = _; omega)
theorem own_and255 {z : Int32} (h : own_asc z) : z &&& 255 = z := by
  have q := c_mask z 255 8 (by decide) (by decide)
  have h' := h.1
  have h'' := h.2
  exact Int32.toInt_inj.mp (by rw [q]; show z.toInt % (256 : Nat) = _; omega)
theorem own_i2c {z : Int32} (h : own_asc z) : (z &&& 255).toUInt32.toUInt16.toUInt32.toInt32 = z := by rw [i2c_mask, own_and255 h]
theorem own_fits_b {z : Int32} (h : own_asc z) : fits .byte (.int z) = true := by rw [← own_nar_b h]; exact fits_nar_byte _
theorem own_shr0 (x : Int32) : x >>> ((0 : Int32) &&& 31) = x := by
  have h := c_ishr x 0 0 (by decide)
  exact Int32.toInt_inj.mp (by rw [h]; simp)
theorem own_shl0 (x : Int32) : x <<< ((0 : Int32) &&& 31) = x := by
  have h : ((x <<< ((0 : Int32) &&& 31)).toInt - x.toInt * ((2 ^ 0 : Nat) : Int)) % 4294967296 = 0 := c_ishl x 0 0 (by decide)
  have r := rng32 x
  have r' := rng32 (x <<< ((0 : Int32) &&& 31))
  rw [show ((2 ^ 0 : Nat) : Int) = 1 from rfl] at h
  exact Int32.toInt_inj.mp (by omega)
theorem own_sub0 (x : Int32) : x - 0 = x := by
  have r := rng32 x
  exact Int32.toInt_inj.mp (by rw [own_sub] <;> rw [own_k0] <;> omega)
-- the tables of digits
def own_ones : List Value := (List.range 100).map fun i => .int (Int32.ofNat (48 + i % 10))
def own_tens : List Value := (List.range 100).map fun i => .int (Int32.ofNat (48 + i / 10))
theorem own_small (k : Nat) (h : k < 128) : (Int32.ofNat k).toInt = k := Int32.toInt_ofNat_of_lt (by omega)
theorem own_ones_at {r n : Int32} {j : Nat} (h0 : 0 ≤ r.toInt) (h1 : r.toInt < 100) (e : r.toInt % 10 = n.toInt / 10 ^ j % 10) : own_ones.getD r.toNatClampNeg (.int 0) = .int (own_dig n j) := by
  have hr := own_nat h0
  have hl : r.toNatClampNeg < 100 := by omega
  have hg : own_ones.getD r.toNatClampNeg (.int 0) = .int (Int32.ofNat (48 + r.toNatClampNeg % 10)) := by simp [own_ones, List.getD, hl]
  rw [hg]
  refine congrArg Value.int (Int32.toInt_inj.mp ?_)
  rw [own_dig_toInt, own_small _ (by omega), ← e]
  omega
theorem own_tens_at {r n : Int32} {j : Nat} (h0 : 0 ≤ r.toInt) (h1 : r.toInt < 100) (e : r.toInt / 10 = n.toInt / 10 ^ j % 10) : own_tens.getD r.toNatClampNeg (.int 0) = .int (own_dig n j) := by
  have hr := own_nat h0
  have hl : r.toNatClampNeg < 100 := by omega
  have hg : own_tens.getD r.toNatClampNeg (.int 0) = .int (Int32.ofNat (48 + r.toNatClampNeg / 10)) := by simp [own_tens, List.getD, hl]
  rw [hg]
  refine congrArg Value.int (Int32.toInt_inj.mp ?_)
  rw [own_dig_toInt, own_small _ (by omega), ← e]
  omega
-- getChars' numbers
theorem own_ndiv {M : Int32} (h : 0 ≤ M.toInt) : -M / 100 = -(M / 100) := by
  have h1 := (c_idiv M 100 100 own_k100 (by decide)).1 h
  have h2 := c_idiv (-M) 100 100 own_k100 (by decide)
  have h3 := own_neg h
  have h4 := own_neg (x := M / 100) (by omega)
  refine Int32.toInt_inj.mp ?_
  rw [h4, h1]
  by_cases hz : M.toInt = 0
  · rw [h2.1 (by omega)]; omega
  · rw [h2.2 (by omega)]; omega
theorem own_m100 {M : Int32} (h : 0 ≤ M.toInt) : (M % 100).toInt = M.toInt % 100 := (c_irem M 100 100 own_k100).1 h
theorem own_nrem {M : Int32} (h : 0 ≤ M.toInt) : -(M / 100) * 100 - -M = M % 100 := by
  have h1 := (c_idiv M 100 100 own_k100 (by decide)).1 h
  have h3 := own_neg h
  have h4 := own_neg (x := M / 100) (by omega)
  have h5 := c_imul (-(M / 100)) 100
  have h6 := c_isub (-(M / 100) * 100) (-M)
  have r1 := rng32 (-(M / 100) * 100)
  have r2 := rng32 (-(M / 100) * 100 - -M)
  refine Int32.toInt_inj.mp ?_
  rw [own_m100 h]
  rw [own_k100, h4, h1] at h5
  rw [h3] at h6
  omega
theorem own_d100 {M n : Int32} {c c' : Int} (h : M.toInt = n.toInt / c) (hn : 0 ≤ n.toInt) (hc : 0 < c) (e : c * 100 = c') : (M / 100).toInt = n.toInt / c' := by
  have hm : 0 ≤ M.toInt := by rw [h]; exact Int.ediv_nonneg hn (by omega)
  rw [(c_idiv M 100 100 own_k100 (by decide)).1 hm, h, ← e, Int.ediv_ediv_of_nonneg (by omega)]
theorem own_pow_pos (j : Nat) : 0 ≤ (10 : Int) ^ j := Int.le_of_lt (Int.pow_pos (by decide))
theorem own_next {M n : Int32} {j : Nat} (h : M.toInt = n.toInt / 10 ^ j) (hn : 0 ≤ n.toInt) : (M / 100).toInt = n.toInt / 10 ^ (j + 2) :=
  own_d100 h hn (Int.pow_pos (by decide)) (by rw [Int.pow_add]; rfl)
theorem own_p1 (x : Int) (j : Nat) : x / 10 ^ (j + 1) = x / 10 ^ j / 10 := by rw [Int.pow_succ, Int.ediv_ediv_of_nonneg (own_pow_pos j)]
theorem own_dz {M n : Int32} {j : Nat} (hM : M.toInt = n.toInt / 10 ^ j) (hp : 0 ≤ M.toInt) : own_ones.getD (M % 100).toNatClampNeg (.int 0) = .int (own_dig n j) ∧ own_tens.getD (M % 100).toNatClampNeg (.int 0) = .int (own_dig n (j + 1)) := by
  have h := own_m100 hp
  refine ⟨own_ones_at (by omega) (by omega) ?_, own_tens_at (by omega) (by omega) ?_⟩
  · rw [h, ← hM]; omega
  · rw [h, own_p1, ← hM]; omega
theorem own_dl {M n : Int32} {j : Nat} (hM : M.toInt = n.toInt / 10 ^ j) (hp : 0 ≤ M.toInt) (h1 : M < 100) : own_ones.getD M.toNatClampNeg (.int 0) = .int (own_dig n j) ∧ own_tens.getD M.toNatClampNeg (.int 0) = .int (own_dig n (j + 1)) := by
  rw [own_lt, own_k100] at h1
  refine ⟨own_ones_at hp h1 ?_, own_tens_at hp h1 ?_⟩
  · rw [← hM]
  · rw [own_p1, ← hM]; omega
theorem own_dzin {M : Int32} (hp : 0 ≤ M.toInt) : ¬ M % 100 < 0 ∧ M % 100 < 100 := by
  have h := own_m100 hp
  exact ⟨own_ge0 (by omega), own_lt.mpr (by rw [own_k100]; omega)⟩
theorem own_dlin {M : Int32} (hp : 0 ≤ M.toInt) (h1 : M < 100) : ¬ M < 0 ∧ M < 100 := ⟨own_ge0 hp, h1⟩
theorem own_big100 {M : Int32} (hp : 0 ≤ M.toInt) (h : ¬ M < 100) : ¬ (-100 : Int32) < -M := fun q => h ((own_neg_lt hp (by decide)).mp q)
theorem own_sml100 {M : Int32} (hp : 0 ≤ M.toInt) (h : M < 100) : (-100 : Int32) < -M := (own_neg_lt hp (by decide)).mpr h
theorem own_big9 {M : Int32} (hp : 0 ≤ M.toInt) (h : 9 < M) : -M < (-9 : Int32) := (own_neg_gt hp (by decide)).mpr h
theorem own_sml9 {M : Int32} (hp : 0 ≤ M.toInt) (h : ¬ 9 < M) : ¬ -M < (-9 : Int32) := fun q => h ((own_neg_gt hp (by decide)).mp q)
theorem own_m1 {x : Int32} (h : 1 ≤ x.toInt) : (x + (-1 : Int32)).toInt = x.toInt - 1 := by
  have e : (-1 : Int32).toInt = -1 := by decide
  have r := rng32 x
  rw [own_add] <;> rw [e] <;> omega
theorem own_po {x : Int32} {k : Int} (h : x.toInt = k) (h2 : 2 ≤ k) : ((x + (-1 : Int32)) + (-1 : Int32)).toInt = k - 2 := by
  have h1 := own_m1 (x := x) (by omega)
  rw [own_m1 (by omega), h1]
  omega
theorem own_dec1 {x : Int32} {k : Int} (h : k ≤ x.toInt) (hk : x.toInt ≤ 16) (h1 : 1 ≤ k := by decide) : ¬ x + (-1 : Int32) < 0 ∧ x + (-1 : Int32) < 16 := by
  have e := own_m1 (x := x) (by omega)
  exact ⟨own_ge0 (by omega), own_lt.mpr (by rw [own_k16]; omega)⟩
theorem own_dec2 {x : Int32} (h : 2 ≤ x.toInt) (hk : x.toInt ≤ 16) : ¬ x + (-1 : Int32) + (-1 : Int32) < 0 ∧ x + (-1 : Int32) + (-1 : Int32) < 16 := by
  have e := own_po rfl h
  exact ⟨own_ge0 (by omega), own_lt.mpr (by rw [own_k16]; omega)⟩
theorem own_ltlen {j : Int32} {vs : List Value} (h : ¬ j < 0 ∧ j < 16) (hl : vs.length = 16) : j.toNatClampNeg < vs.length := by
  have h0 : 0 ≤ j.toInt := by
    have q := h.1
    rw [own_lt, own_k0] at q
    omega
  have h1 := own_lt.mp h.2
  rw [own_k16] at h1
  have := own_nat h0
  omega
-- the lists
def own_digs (n : Int32) (d : Nat) : List Value := (List.range d).map fun i => .int (own_dig n (d - 1 - i))
theorem own_digs_len (n : Int32) (d : Nat) : (own_digs n d).length = d := by simp [own_digs]
def own_buf (n : Int32) (d : Nat) : List Value := own_digs n d ++ List.replicate (16 - d) (.int 0)
theorem own_cast {Z : State} {h : Heap} {a : Addr} {k : ClassId} {n : Int32} {d : Nat} {ls : List Value} (hd : own_dn n = d) (e : ls = own_buf n d) (V : Arv Z h a k .byte (16 : Int32) ls (.int (0 : Int32))) : Arv Z h a k .byte (16 : Int32) (own_buf n (own_dn n)) (.int (0 : Int32)) := by rw [hd, ← e]; exact V
def own_txt (n : Int32) (d : Nat) (t0 t1 : Int32) : List Value := own_digs n d ++ [.int t0, .int t1]
def own_buf2 (n : Int32) (d : Nat) (t0 t1 : Int32) : List Value := own_txt n d t0 t1 ++ List.replicate (14 - d) (.int 0)
theorem own_txt_len (n : Int32) (d : Nat) (t0 t1 : Int32) : (own_txt n d t0 t1).length = d + 2 := by simp [own_txt, own_digs_len]
theorem own_txt_dig (n : Int32) (d : Nat) (t0 t1 : Int32) (i : Nat) (h : i < d) : (own_txt n d t0 t1).getD i (.int 0) = .int (own_dig n (d - 1 - i)) := by
  have hl : i < (own_digs n d).length := by rw [own_digs_len]; exact h
  rw [own_txt, List.getD_eq_getElem?_getD, List.getElem?_append_left hl]
  simp [own_digs, h]
theorem own_txt_t0 (n : Int32) (d : Nat) (t0 t1 : Int32) : (own_txt n d t0 t1).getD d (.int 0) = .int t0 := by
  rw [own_txt, List.getD_eq_getElem?_getD, List.getElem?_append_right (by rw [own_digs_len]; exact Nat.le_refl _), own_digs_len, Nat.sub_self]
  rfl
theorem own_txt_t1 (n : Int32) (d : Nat) (t0 t1 : Int32) : (own_txt n d t0 t1).getD (d + 1) (.int 0) = .int t1 := by
  rw [own_txt, List.getD_eq_getElem?_getD, List.getElem?_append_right (by rw [own_digs_len]; omega), own_digs_len, show d + 1 - d = 1 by omega]
  rfl
theorem own_put (n : Int32) (d : Nat) (hd : d ≤ 10) (t0 t1 : Int32) : (own_buf n d).take d ++ [.int t0, .int t1] ++ (own_buf n d).drop (d + 2) = own_buf2 n d t0 t1 := by
  have h1 : (own_buf n d).take d = own_digs n d := by
    rw [own_buf, List.take_append_of_le_length (by rw [own_digs_len]; exact Nat.le_refl _), List.take_of_length_le (by rw [own_digs_len]; exact Nat.le_refl _)]
  have h2 : (own_buf n d).drop (d + 2) = List.replicate (14 - d) (.int 0) := by
    rw [own_buf, List.drop_append, List.drop_of_length_le (by rw [own_digs_len]; omega), own_digs_len, List.nil_append, List.drop_replicate]
    congr 1
    omega
  rw [h1, h2]
  rfl
theorem own_pick {l r : List Value} {dv : Value} {k : Nat} (hk : k = l.length) : (List.range k).map (fun i => (l ++ r).getD (0 + i) dv) = l := by
  subst hk
  refine List.ext_getElem (by simp) fun i h1 h2 => ?_
  rw [List.getElem_map, List.getElem_range, Nat.zero_add, List.getD_eq_getElem?_getD, List.getElem?_append_left h2, List.getElem?_eq_getElem h2]
  rfl
theorem own_whole {k : Nat} {us : List Value} {z : Value} : ([] ++ List.replicate k z : List Value).take 0 ++ us ++ ([] ++ List.replicate k z : List Value).drop (0 + k) = us := by simp
theorem own_dg0 {n : Int32} (hn : 0 ≤ n.toInt) : 0 ≤ (own_dg n).toInt := by have := own_dg_rng n hn; omega
theorem own_buf_len {n : Int32} {d : Nat} (h : d ≤ 16) : (own_buf n d).length = 16 := by simp [own_buf, own_digs_len]; omega
theorem own_dn_rng {n : Int32} (hn : 0 ≤ n.toInt) : 1 ≤ own_dn n ∧ own_dn n ≤ 10 := by
  have h1 := own_dg_rng n hn
  have h2 := own_dn_eq n hn
  omega
theorem own_cap {n : Int32} (hn : 0 ≤ n.toInt) : ¬ ((0 : Int32) < own_dg n - 16) := fun q => by
  have h1 := own_dg_rng n hn
  rw [own_lt, own_k0, own_sub (by rw [own_k16]; omega) (by rw [own_k16]; omega), own_k16] at q
  omega
theorem own_len_toInt {n : Int32} (hn : 0 ≤ n.toInt) : (own_dg n + 2).toInt = (own_dg n).toInt + 2 := by
  have h1 := own_dg_rng n hn
  rw [own_add (by rw [own_k2]; omega) (by rw [own_k2]; omega), own_k2]
theorem own_cap2 {n : Int32} (hn : 0 ≤ n.toInt) : ¬ ((0 : Int32) < own_dg n + 2 - 16) := fun q => by
  have h1 := own_dg_rng n hn
  have h2 := own_len_toInt hn
  rw [own_lt, own_k0, own_sub (by rw [own_k16]; omega) (by rw [own_k16]; omega), own_k16] at q
  omega
theorem own_h5 {n : Int32} (hn : 0 ≤ n.toInt) : (own_dg n).toNatClampNeg + (2 : Int32).toNatClampNeg ≤ (16 : Int32).toNatClampNeg := by
  have h := own_dn_rng hn
  have e : (own_dg n).toNatClampNeg = own_dn n := rfl
  have e2 : (2 : Int32).toNatClampNeg = 2 := by decide
  have e3 : (16 : Int32).toNatClampNeg = 16 := by decide
  omega
theorem own_hl {n : Int32} (hn : 0 ≤ n.toInt) : (own_dg n).toNatClampNeg + (2 : Int32).toNatClampNeg ≤ (own_buf n (own_dn n)).length := by
  have h := own_dn_rng hn
  have e : (own_dg n).toNatClampNeg = own_dn n := rfl
  have e2 : (2 : Int32).toNatClampNeg = 2 := by decide
  rw [own_buf_len (by omega)]
  omega
theorem own_put2 {n t0 t1 : Int32} (hn : 0 ≤ n.toInt) : (own_buf n (own_dn n)).take (own_dg n).toNatClampNeg ++ [.int t0, .int t1] ++ (own_buf n (own_dn n)).drop ((own_dg n).toNatClampNeg + (2 : Int32).toNatClampNeg) = own_buf2 n (own_dn n) t0 t1 := own_put n (own_dn n) (own_dn_rng hn).2 t0 t1
theorem own_ln {n q1 : Int32} (hn : 0 ≤ n.toInt) (pq : q1 = own_dg n + 2) : ¬ q1 < 0 ∧ (0 : Int32).toNatClampNeg + q1.toNatClampNeg ≤ (16 : Int32).toNatClampNeg ∧ (0 : Int32).toNatClampNeg + q1.toNatClampNeg ≤ q1.toNatClampNeg ∧ q1.toNatClampNeg ≤ 12 ∧ q1 < 16 := by
  have h1 := own_dg_rng n hn
  have h2 := own_len_toInt hn
  rw [← pq] at h2
  have h3 := own_nat (j := q1) (by omega)
  have e0 : (0 : Int32).toNatClampNeg = 0 := by decide
  have e3 : (16 : Int32).toNatClampNeg = 16 := by decide
  exact ⟨own_ge0 (by omega), by omega, by omega, by omega, own_lt.mpr (by rw [own_k16]; omega)⟩
theorem own_n16 {n q1 : Int32} (hn : 0 ≤ n.toInt) (pq : q1 = own_dg n + 2) : ¬ (q1 = (16 : Int32)) := fun q => by
  have h := own_lt.mp (own_ln hn pq).2.2.2.2
  rw [q] at h
  omega
theorem own_ln2 (q1 : Int32) : (0 : Int32).toNatClampNeg + q1.toNatClampNeg ≤ ([] ++ List.replicate q1.toNatClampNeg (.int (0 : Int32)) : List Value).length := by
  have e0 : (0 : Int32).toNatClampNeg = 0 := by decide
  rw [e0]
  simp
theorem own_whole2 {k : Nat} {us : List Value} {z : Value} : ([] ++ List.replicate k z : List Value).take (0 : Int32).toNatClampNeg ++ us ++ ([] ++ List.replicate k z : List Value).drop ((0 : Int32).toNatClampNeg + k) = us := own_whole
theorem own_hus {n q1 t0 t1 : Int32} (hn : 0 ≤ n.toInt) (pq : q1 = own_dg n + 2) : own_txt n (own_dn n) t0 t1 = (List.range q1.toNatClampNeg).map fun i => (own_buf2 n (own_dn n) t0 t1).getD ((0 : Int32).toNatClampNeg + i) (.int (0 : Int32)) := by
  have h2 := own_len_toInt hn
  rw [← pq] at h2
  have h1 := own_dg_rng n hn
  have h3 := own_nat (j := q1) (by omega)
  have h4 := own_dn_eq n hn
  exact (own_pick (by rw [own_txt_len]; omega)).symm
-- the suffix
def own_s0 (n : Int32) : Int32 := if ¬ (n % 100 < 11) ∧ ¬ (13 < n % 100) then 116 else if n % 10 = 1 then 115 else if n % 10 = 2 then 110 else if n % 10 = 3 then 114 else 116
def own_s1 (n : Int32) : Int32 := if ¬ (n % 100 < 11) ∧ ¬ (13 < n % 100) then 104 else if n % 10 = 1 then 116 else if n % 10 = 2 then 100 else if n % 10 = 3 then 100 else 104
theorem own_s_asc (n : Int32) : own_asc (own_s0 n) ∧ own_asc (own_s1 n) := by
  unfold own_s0 own_s1
  repeat' split
  all_goals exact ⟨⟨by decide, by decide⟩, ⟨by decide, by decide⟩⟩
theorem own_m10 {M : Int32} (h : 0 ≤ M.toInt) : (M % 10).toInt = M.toInt % 10 := (c_irem M 10 10 own_k10).1 h
theorem own_q10 {M : Int32} (h : 0 ≤ M.toInt) : (M / 10).toInt = M.toInt / 10 := (c_idiv M 10 10 own_k10 (by decide)).1 h
theorem own_u {M : Int32} (h : 0 ≤ M.toInt) : M - M / 10 * 10 = M % 10 := by
  have h1 := own_q10 h
  have h5 := c_imul (M / 10) 10
  have h6 := c_isub M (M / 10 * 10)
  have r1 := rng32 (M / 10 * 10)
  have r2 := rng32 (M - M / 10 * 10)
  refine Int32.toInt_inj.mp ?_
  rw [own_m10 h]
  rw [own_k10, h1] at h5
  omega
theorem own_sfx {n : Int32} (hn : 0 ≤ n.toInt) : (n / 10 % 10 = 1 → own_s0 n = 116 ∧ own_s1 n = 104) ∧ (¬ n / 10 % 10 = 1 → (n % 10 = 1 → own_s0 n = 115 ∧ own_s1 n = 116) ∧ (n % 10 = 2 → own_s0 n = 110 ∧ own_s1 n = 100) ∧ (n % 10 = 3 → own_s0 n = 114 ∧ own_s1 n = 100) ∧ (¬ n % 10 = 1 → ¬ n % 10 = 2 → ¬ n % 10 = 3 → own_s0 n = 116 ∧ own_s1 n = 104)) := by
  have e1 := own_m100 hn
  have e2 := own_m10 hn
  have e3 : (n / 10 % 10).toInt = n.toInt / 10 % 10 := by rw [own_m10 (by rw [own_q10 hn]; omega), own_q10 hn]
  have k3 : (3 : Int32).toInt = 3 := by decide
  have k11 : (11 : Int32).toInt = 11 := by decide
  have k13 : (13 : Int32).toInt = 13 := by decide
  simp only [own_s0, own_s1, own_lt, own_eq (x := n % 10), own_eq (x := n / 10 % 10), e1, e2, e3, own_k1, own_k2, k3, k11, k13]
  by_cases ht : ¬ n.toInt % 100 < 11 ∧ ¬ 13 < n.toInt % 100
  · simp only [ht, not_false_eq_true, and_self, ite_true]
    refine ⟨fun _ => trivial, fun q => absurd ?_ q⟩
    omega
  · simp only [ht, ite_false]
    refine ⟨fun q => ?_, fun q => ⟨fun h => by simp [h], fun h => by simp [h], fun h => by simp [h], fun h1 h2 h3 => by simp [h1, h2, h3]⟩⟩
    have h1 : ¬ n.toInt % 10 = 1 := by omega
    have h2 : ¬ n.toInt % 10 = 2 := by omega
    have h3 : ¬ n.toInt % 10 = 3 := by omega
    simp [h1, h2, h3]
-- the law's powers
def own_pw (j : Int32) : Int64 := Int64.ofInt (10 ^ j.toNatClampNeg)
def own_pows : List Value := [(.long (1 : Int64)), (.long (10 : Int64)), (.long (100 : Int64)), (.long (1000 : Int64)), (.long (10000 : Int64)), (.long (100000 : Int64)), (.long (1000000 : Int64)), (.long (10000000 : Int64)), (.long (100000000 : Int64)), (.long (1000000000 : Int64))]
theorem own_ten {j : Int32} (h0 : 0 ≤ j.toInt) (h1 : j.toInt ≤ 9) : j = 0 ∨ j = 1 ∨ j = 2 ∨ j = 3 ∨ j = 4 ∨ j = 5 ∨ j = 6 ∨ j = 7 ∨ j = 8 ∨ j = 9 := by
  have hr : j.toInt = 0 ∨ j.toInt = 1 ∨ j.toInt = 2 ∨ j.toInt = 3 ∨ j.toInt = 4 ∨ j.toInt = 5 ∨ j.toInt = 6 ∨ j.toInt = 7 ∨ j.toInt = 8 ∨ j.toInt = 9 := by omega
  rcases hr with h | h | h | h | h | h | h | h | h | h <;> simp [← Int32.toInt_inj, h]
theorem own_pow_at {j : Int32} (h0 : 0 ≤ j.toInt) (h1 : j.toInt ≤ 9) : own_pows.getD j.toNatClampNeg (.long (0 : Int64)) = .long (own_pw j) := by
  rcases own_ten h0 h1 with rfl | rfl | rfl | rfl | rfl | rfl | rfl | rfl | rfl | rfl <;> decide
theorem own_pw_toInt {j : Int32} (h0 : 0 ≤ j.toInt) (h1 : j.toInt ≤ 9) : (own_pw j).toInt = 10 ^ j.toNatClampNeg ∧ 0 < (own_pw j).toInt := by
  rcases own_ten h0 h1 with rfl | rfl | rfl | rfl | rfl | rfl | rfl | rfl | rfl | rfl <;> decide
theorem own_pw_nz {j : Int32} (h0 : 0 ≤ j.toInt) (h1 : j.toInt ≤ 9) : ¬ (own_pw j = 0) := fun q => by
  have h := (own_pw_toInt h0 h1).2
  rw [q] at h
  exact absurd h (by decide)
theorem own_atv {n j : Int32} (hn : 0 ≤ n.toInt) (h0 : 0 ≤ j.toInt) (h1 : j.toInt ≤ 9) : own_dig n j.toNatClampNeg = (48 + (n.toInt64 / own_pw j - n.toInt64 / own_pw j / 10 * 10).toInt32).toUInt32.toUInt16.toUInt32.toInt32 := by
  have hp := own_pw_toInt h0 h1
  have h2 : (n.toInt64 / own_pw j).toInt = n.toInt / 10 ^ j.toNatClampNeg := by
    have q := (c_ldiv n.toInt64 (own_pw j) _ hp.1 (fun q => by rw [q] at hp; exact absurd hp.2 (by decide))).1
    rw [c_i2l] at q
    exact q hn
  have hpos : 0 ≤ n.toInt / 10 ^ j.toNatClampNeg := Int.ediv_nonneg hn (by rw [← hp.1]; exact Int.le_of_lt hp.2)
  have h3 := (c_lrem (n.toInt64 / own_pw j) 10 10 (by decide)).1 (by rw [h2]; exact hpos)
  rw [h2] at h3
  have h4 := c_l2i (n.toInt64 / own_pw j - n.toInt64 / own_pw j / 10 * 10)
  have r4 := rng32 ((n.toInt64 / own_pw j - n.toInt64 / own_pw j / 10 * 10).toInt32)
  have g0 := Int.emod_nonneg (n.toInt / 10 ^ j.toNatClampNeg) (b := 10) (by decide)
  have g1 := Int.emod_lt_of_pos (n.toInt / 10 ^ j.toNatClampNeg) (b := 10) (by decide)
  have h5 : ((n.toInt64 / own_pw j - n.toInt64 / own_pw j / 10 * 10).toInt32).toInt = n.toInt / 10 ^ j.toNatClampNeg % 10 := by omega
  have h6 : (48 + (n.toInt64 / own_pw j - n.toInt64 / own_pw j / 10 * 10).toInt32).toInt = 48 + n.toInt / 10 ^ j.toNatClampNeg % 10 := by rw [own_add] <;> rw [own_k48, h5] <;> omega
  have h7 := c_i2c (48 + (n.toInt64 / own_pw j - n.toInt64 / own_pw j / 10 * 10).toInt32)
  refine Int32.toInt_inj.mp ?_
  rw [own_dig_toInt]
  omega
theorem own_idx {n i : Int32} (hn : 0 ≤ n.toInt) (pi : 0 ≤ i.toInt ∧ i.toInt ≤ 9) (h : i < own_dg n) : 0 ≤ (own_dg n - 1 - i).toInt ∧ (own_dg n - 1 - i).toInt ≤ 9 ∧ (own_dg n - 1 - i).toNatClampNeg = own_dn n - 1 - i.toNatClampNeg ∧ i.toNatClampNeg < own_dn n ∧ (¬ i < 0 ∧ i < own_dg n + 2) ∧ (¬ own_dg n - 1 - i < 0 ∧ own_dg n - 1 - i < 10) := by
  have h1 := own_dg_rng n hn
  have h2 := own_lt.mp h
  have h3 := own_len_toInt hn
  have e1 : (own_dg n - 1).toInt = (own_dg n).toInt - 1 := by rw [own_sub] <;> rw [own_k1] <;> omega
  have e2 : (own_dg n - 1 - i).toInt = (own_dg n).toInt - 1 - i.toInt := by rw [own_sub] <;> rw [e1] <;> omega
  have e3 := own_dn_eq n hn
  have e4 := own_nat pi.1
  have e5 := own_nat (j := own_dg n - 1 - i) (by omega)
  exact ⟨by omega, by omega, by omega, by omega, ⟨own_ge0 pi.1, own_lt.mpr (by omega)⟩, own_ge0 (by omega), own_lt.mpr (by rw [own_k10]; omega)⟩
theorem own_at0 {n : Int32} (hn : 0 ≤ n.toInt) : ¬ own_dg n < 0 ∧ own_dg n < own_dg n + 2 := by
  have h1 := own_dg_rng n hn
  have h3 := own_len_toInt hn
  exact ⟨own_ge0 (by omega), own_lt.mpr (by omega)⟩
theorem own_at1 {n : Int32} (hn : 0 ≤ n.toInt) : (¬ own_dg n + 1 < 0 ∧ own_dg n + 1 < own_dg n + 2) ∧ (own_dg n + 1).toNatClampNeg = own_dn n + 1 := by
  have h1 := own_dg_rng n hn
  have h3 := own_len_toInt hn
  have e1 : (own_dg n + 1).toInt = (own_dg n).toInt + 1 := by rw [own_add] <;> rw [own_k1] <;> omega
  have e3 := own_dn_eq n hn
  have e5 := own_nat (j := own_dg n + 1) (by omega)
  exact ⟨⟨own_ge0 (by omega), own_lt.mpr (by omega)⟩, by omega⟩
theorem own_arvs {Z : State} {h : Heap} {a : Addr} {k : ClassId} {x y x' y' : Int32} (V : Arv Z h a k .byte (2 : Int32) [.int x, .int y] (.int (0 : Int32))) (e : x = x' ∧ y = y') : Arv Z h a k .byte (2 : Int32) [.int x', .int y'] (.int (0 : Int32)) := by rw [← e.1, ← e.2]; exact V
theorem own_pA {n : Int32} (h1 : ¬ n % 100 < 11) (h2 : ¬ 13 < n % 100) : (116 : Int32) = own_s0 n ∧ (104 : Int32) = own_s1 n := by
  unfold own_s0 own_s1
  rw [if_pos ⟨h1, h2⟩, if_pos ⟨h1, h2⟩]
  exact ⟨rfl, rfl⟩
theorem own_p1s {n : Int32} (ht : ¬ (¬ n % 100 < 11 ∧ ¬ 13 < n % 100)) (h1 : n % 10 = 1) : (115 : Int32) = own_s0 n ∧ (116 : Int32) = own_s1 n := by
  unfold own_s0 own_s1
  rw [if_neg ht, if_neg ht, if_pos h1, if_pos h1]
  exact ⟨rfl, rfl⟩
theorem own_p2s {n : Int32} (ht : ¬ (¬ n % 100 < 11 ∧ ¬ 13 < n % 100)) (h1 : ¬ n % 10 = 1) (h2 : n % 10 = 2) : (110 : Int32) = own_s0 n ∧ (100 : Int32) = own_s1 n := by
  unfold own_s0 own_s1
  rw [if_neg ht, if_neg ht, if_neg h1, if_neg h1, if_pos h2, if_pos h2]
  exact ⟨rfl, rfl⟩
theorem own_p3s {n : Int32} (ht : ¬ (¬ n % 100 < 11 ∧ ¬ 13 < n % 100)) (h1 : ¬ n % 10 = 1) (h2 : ¬ n % 10 = 2) (h3 : n % 10 = 3) : (114 : Int32) = own_s0 n ∧ (100 : Int32) = own_s1 n := by
  unfold own_s0 own_s1
  rw [if_neg ht, if_neg ht, if_neg h1, if_neg h1, if_neg h2, if_neg h2, if_pos h3, if_pos h3]
  exact ⟨rfl, rfl⟩
theorem own_p4s {n : Int32} (ht : ¬ (¬ n % 100 < 11 ∧ ¬ 13 < n % 100)) (h1 : ¬ n % 10 = 1) (h2 : ¬ n % 10 = 2) (h3 : ¬ n % 10 = 3) : (116 : Int32) = own_s0 n ∧ (104 : Int32) = own_s1 n := by
  unfold own_s0 own_s1
  rw [if_neg ht, if_neg ht, if_neg h1, if_neg h1, if_neg h2, if_neg h2, if_neg h3, if_neg h3]
  exact ⟨rfl, rfl⟩
theorem own_sf0 {Z : State} {EL : List (String × Nat)} {vm : Vm} {h : Heap} : ∀ x ∈ ([] : List Addr), Safe Z EL vm h x := fun _ q => by cases q
theorem own_and (x : Int32) : 0 ≤ (x &&& 2147483647).toInt := by
  rw [c_mask x 2147483647 31 (by decide) (by decide)]
  exact Int.emod_nonneg _ (by decide)
theorem own_tab {Z : State} {a0 : Array Value} {C n d : String} {F : Term} {f : Nat → Int32} (wa : (Jvm.Cond.arrayClass .byte).before a0 Z = true) (w1 : (Jvm.Cond.exactly (Term.static C n d) "[B").before a0 Z = true) (w2 : (Jvm.Cond.eq (Term.length (Term.static C n d)) (Term.int (100 : Int32))).before a0 Z = true)
    (w3 : (Jvm.Cond.all (Term.static C n d) (Jvm.Cond.eq (Term.elem (Term.static C n d) (Term.index 0)) F)).before a0 Z = true) (hF : ∀ i, i < 100 → F.eval a0 Z none [i] Z = some (.int (f i))) (hb : ∀ i, i < 100 → fits .byte (.int (f i)) = true) :
    ∃ (t : Addr) (k : ClassId), (Term.static C n d).eval a0 Z none [] Z = some (.ref t) ∧ Arv Z Z.heap t k .byte (100 : Int32) ((List.range 100).map fun i => .int (f i)) (.int (0 : Int32)) := by
  obtain ⟨t, c, cell, k, ev, hc, hcell, hk, hst, hcls, -⟩ := Cond.exactly_spec w1
  obtain ⟨c', k', comp, hc', hk', hkind⟩ := Cond.arrayClass_spec wa
  have e : ("[" ++ FieldType.toString .byte) = "[B" := by decide
  rw [e, hc] at hc'
  obtain rfl := Option.some.inj hc'
  obtain rfl := Option.some.inj (hk.symm.trans hk')
  have hlen := own_eq_int (Cond.before_iff.mp w2)
  obtain ⟨t', cell', ev', hat, -⟩ := Term.length_spec hlen
  obtain rfl : t = t' := Value.ref.inj (Option.some.inj (ev.symm.trans ev'))
  obtain ⟨h1, h2, -, -⟩ := State.arrayAt?_spec hat
  obtain rfl : cell = cell' := Option.some.inj (hcell.symm.trans h1)
  have hsz : cell.slots.size = 100 := by
    by_cases hl : cell.slots.size < 2 ^ 31
    · have q := (len_f ev hat hl).symm.trans hlen
      have q' : cell.slots.size.toInt32 = (100 : Int32) := Value.int.inj (Option.some.inj q)
      have q2 := congrArg Int32.toInt q'
      rw [len_toInt hl, own_k100] at q2
      omega
    · have hl' : ¬ cell.slots.size < 2147483648 := hl
      simp [Term.eval, ev, hat, hl'] at hlen
      simp [Term.eval] at ev
      simp [ev, hat, hl'] at hlen
  have A : Arr Z Z.heap t cell .byte := ⟨hcell, ⟨fun q hq => (by rw [hq] at hst; cases hst), _, (by rw [hcls]; exact hk), comp, hkind⟩, h2⟩
  have hg : ∀ i, i < 100 → (((List.range 100).map fun i => Value.int (f i)) : List Value).getD i (.int (0 : Int32)) = .int (f i) := fun i hi => by simp [List.getD, hi]
  have hel : ∀ i, i < 100 → cell.slots[i]? = some (.int (f i)) := fun i hi => by
    have q := eqv_i (hF i hi) (Cond.all_elim ev hat (Cond.before_iff.mp w3) i (by omega))
    have hj : (Int32.ofNat i).toInt = i := own_small i (by omega)
    have hj0 : ¬ (Int32.ofNat i) < 0 := own_ge0 (by omega)
    have hj1 : (Int32.ofNat i).toNatClampNeg = i := by have := own_nat (j := Int32.ofNat i) (by omega); omega
    have q2 := elem_f (args := a0) (t := Term.static C n d) (a := Term.index 0) (idx := [i]) (j := Int32.ofNat i) (first := Z) (o := none) ev rfl hat hj0
    rw [hj1] at q2
    exact q2.symm.trans q
  exact ⟨t, cell.cls, ev, cell, A, rfl, (by rw [hsz]; decide), (by decide), fun i hi => (by rw [hsz] at hi; rw [hg i hi]; exact hel i hi), fun i hi => (by rw [hsz] at hi; rw [hg i hi]; exact hb i hi)⟩
theorem own_ones_n : ∀ r, r < 100 → (48 : Int32) + Int32.ofNat r % 10 = Int32.ofNat (48 + r % 10) := by decide +kernel
theorem own_tens_n : ∀ r, r < 100 → (48 : Int32) + Int32.ofNat r / 10 = Int32.ofNat (48 + r / 10) := by decide +kernel
theorem own_ones_f {Z : State} {a0 : Array Value} (i : Nat) (h : i < 100) : (Term.add (Term.int (48 : Int32)) (Term.rem (Term.index 0) (Term.int (10 : Int32)))).eval a0 Z none [i] Z = some (.int (Int32.ofNat (48 + i % 10))) := by rw [← own_ones_n i h]; rfl
theorem own_tens_f {Z : State} {a0 : Array Value} (i : Nat) (h : i < 100) : (Term.add (Term.int (48 : Int32)) (Term.div (Term.index 0) (Term.int (10 : Int32)))).eval a0 Z none [i] Z = some (.int (Int32.ofNat (48 + i / 10))) := by rw [← own_tens_n i h]; rfl
theorem own_fit_n (k : Nat) (h : k < 128) : fits .byte (.int (Int32.ofNat k)) = true := own_fits_b ⟨by rw [own_small k h]; omega, by rw [own_small k h]; omega⟩
theorem own_fold {p : Program} {l : Launch} {e : Env} {R : Room} {s : State} {m : MethodId} {args : Array Value} {below : List Frame} {meth : Method} {c : Code} {T : State} {L L' : List Loc} {k k' n n' : Nat} (X : Stand p l e R s m args below meth c T L k n) (h1 : L = L') (h2 : k = k') (h3 : n = n') : Stand p l e R s m args below meth c T L' k' n' := by
  subst h1 h2 h3
  exact X
theorem d14_0 : decode jdk_42_method_152_code 0 = .ok (.getstatic 38, 3) := by decide +kernel
theorem d14_3 : decode jdk_42_method_152_code 3 = .ok (.ifCond .eq 10, 3) := by decide +kernel
theorem d14_6 : decode jdk_42_method_152_code 6 = .ok (.aload_n 0, 1) := by decide +kernel
theorem d14_7 : decode jdk_42_method_152_code 7 = .ok (.getfield 15, 3) := by decide +kernel
theorem d14_10 : decode jdk_42_method_152_code 10 = .ok (.goto 4, 3) := by decide +kernel
theorem d14_14 : decode jdk_42_method_152_code 14 = .ok (.ireturn, 1) := by decide +kernel
theorem ef_rm_coder (m : MethodId) (x0 : Addr) : entryFrame m #[(.ref x0)] 1 = mkF m 0 #[.val (.ref x0)] [] := by first | (simp [entryFrame, mkF, argsToLocals, Value.category]; done) | rfl
theorem pn_0 : plainName "java/lang/String" = true := by first | (simp [plainName, overriddenIn]; done) | decide +kernel
def Q_rm_coder (Z : State) (o0 : Addr) (cs : Int32) (h0 : Heap) (n0 : Nat) (v : Option Value) (h : Heap) (L : List Loc) : Prop := (v = some (.int (0 : Int32))) ∧ (Fr n0 L) ∧ (h = h0)
set_option maxRecDepth 65536 in
set_option maxHeartbeats 40000000 in
theorem rm_coder (l : Launch) (Z : State) (a0 : Array Value) (hw : ∀ d ∈ tables_1, d.before a0 Z = true) (ws : List Jvm.Cond) (o0 : Addr) (cs : Int32) (h0 : Heap) (n0 : Nat) (Z0 : n0 ≤ h0.size) (pS : Sta Z h0 "java/lang/String" "COMPACT_STRINGS" "Z" (.int cs)) (pcs : ¬ (cs = (0 : Int32))) (pFc : Fld Z h0 o0 "java/lang/String" "coder" "B" (.int (0 : Int32))) :
    MetFree l (⟨"java/lang/String", "coder", "()B"⟩ : MethodName) (head1 (Jvm.Cond.code (⟨"java/lang/String", "coder", "()B"⟩ : MethodName) jdk_42_method_152_code 1 (some .byte) :: ws) ({ frames := 0, cells := 0, slots := 0, locals := 0 } : Room)) (fun a U => a = #[(.ref o0)] ∧ Z.Warmed39 U.vm ∧ U.heap = h0) (fun _ _ _ _ _ => True) (fun _ U o U' => ∃ v L, o = .returned v ∧ Q_rm_coder Z o0 cs h0 n0 v U'.heap L ∧ FrameEnd U o U' L ({ frames := 0, cells := 0, slots := 0, locals := 0 } : Room).cells ({ frames := 0, cells := 0, slots := 0, locals := 0 } : Room).slots) := by
  refine MetFree.of_bodySF (plainFor_of_name pn_0) hisR ?_
  intro p e s m args below meth c s₁ Bd hml0 hP hK
  obtain ⟨rfl, hZ, hh⟩ := hP
  have hx := Bd.exec
  have hby := Bd.bytes
  have hml : c.maxLocals = 1 := hml0
  have hown : s.vm.findClass "java/lang/String" = some m.cls := findClass_of_methodNamed Bd.named
  have hnm := (name_of_methodNamed Bd.named Bd.method).1
  have X0 : Stand p l e ({ frames := 0, cells := 0, slots := 0, locals := 0 } : Room) s m #[(.ref o0)] below meth c s₁ [] 0 0 := Stand.of_body Bd
  have e0 : s₁.heap = h0 := by rw [← hh, Bd.state]; rfl
  have N0 := Fr.nil n0
  have K0 : Keep h0 h0 [] := Keep.refl _ _
  have R0 : Rch p e below (s₁.setTop (entryFrame m #[(.ref o0)] 1)) s₁ (mkF m 0 #[.val (.ref o0)] []) := fun t k => castTop (ef_rm_coder m o0) k
  obtain ⟨T1, X1, e1, st1⟩ := getS2 X0 hx hZ hown (host := "") (Or.inl (hw _ (List.mem_of_getElem? (i := 83) rfl))) Via.refl e0 pS (g := (mkF m 0 #[.val (.ref o0)] [])) rfl (hb hby d14_0)
  have R3 : Rch p e below (s₁.setTop (entryFrame m #[(.ref o0)] 1)) T1 (mkF m 7 #[.val (.ref o0)] [(.ref o0)]) := fun t k => by
    refine R0 t ?_
    refine st1 _ ?_
    show Steps p.tables e below (T1.setTop (mkF m 3 #[.val (.ref o0)] [(.int cs)])) t
    refine XS.ifNo X1.here hx rfl (hb hby d14_3) rfl ((if0 _ _).trans (feq pcs).1) ?_
    show Steps p.tables e below (T1.setTop (mkF m 6 #[.val (.ref o0)] [])) t
    refine XS.aloadN X1.here hx rfl (hb hby d14_6) rfl rfl ?_
    exact k
  obtain ⟨T2, X2, e2, st2⟩ := getF X1 hx hZ hown (host := "") (Or.inl (hw _ (List.mem_of_getElem? (i := 84) rfl))) Via.refl e1 pFc (g := (mkF m 7 #[.val (.ref o0)] [(.ref o0)])) rfl rfl (hb hby d14_7)
  have R4 : Rch p e below (s₁.setTop (entryFrame m #[(.ref o0)] 1)) T2 (mkF m 14 #[.val (.ref o0)] [(.int (0 : Int32))]) := fun t k => by
    refine R3 t ?_
    refine st2 _ ?_
    show Steps p.tables e below (T2.setTop (mkF m 10 #[.val (.ref o0)] [(.int (0 : Int32))])) t
    refine XS.goto X2.here hx rfl (pc0 := 10) (pc' := 14) rfl (hb hby d14_10) (by decide) (by decide) ?_
    exact k
  obtain ⟨fs, hr, hrun, hended, hW, hsame⟩ := X2.leave (v := some (.int (0 : Int32))) (fun h => by rw [Bd.returns] at h; cases h) (BodyLoose.notSynchronized Bd)
  refine ⟨_, _, R4 _ ?_, hrun, hended, _, _, rfl, ?_, ⟨_, rfl⟩, hW, hsame.mono (by decide) (by decide)⟩
  · exact retN X2 hx (t := .byte) Bd.returns (by simp) (hb hby d14_14) hr
  · show Q_rm_coder Z o0 cs h0 n0 _ T2.heap _
    rw [e2]
    exact ⟨rfl, N0, rfl⟩
theorem d13_0 : decode jdk_42_method_54_code 0 = .ok (.aload_n 0, 1) := by decide +kernel
theorem d13_1 : decode jdk_42_method_54_code 1 = .ok (.getfield 9, 3) := by decide +kernel
theorem d13_4 : decode jdk_42_method_54_code 4 = .ok (.arraylength, 1) := by decide +kernel
theorem d13_5 : decode jdk_42_method_54_code 5 = .ok (.aload_n 0, 1) := by decide +kernel
theorem d13_6 : decode jdk_42_method_54_code 6 = .ok (.invokevirtual 335, 3) := by decide +kernel
theorem pd_0 : parseMethodDescriptor "()B" = some ⟨[], some .byte⟩ := by decide +kernel
theorem d13_9 : decode jdk_42_method_54_code 9 = .ok (.ishr, 1) := by decide +kernel
theorem d13_10 : decode jdk_42_method_54_code 10 = .ok (.ireturn, 1) := by decide +kernel
theorem ef_rm_length (m : MethodId) (x0 : Addr) : entryFrame m #[(.ref x0)] 1 = mkF m 0 #[.val (.ref x0)] [] := by first | (simp [entryFrame, mkF, argsToLocals, Value.category]; done) | rfl
def Q_rm_length (Z : State) (o0 : Addr) (cs : Int32) (sv : Addr) (ks : ClassId) (nn : Int32) (vs : List Value) (h0 : Heap) (n0 : Nat) (v : Option Value) (h : Heap) (L : List Loc) : Prop := (v = some (.int nn)) ∧ (Fr n0 L) ∧ (h = h0)
set_option maxRecDepth 65536 in
set_option maxHeartbeats 40000000 in
theorem rm_length (l : Launch) (Z : State) (a0 : Array Value) (hw : ∀ d ∈ tables_1, d.before a0 Z = true) (ws : List Jvm.Cond) (o0 : Addr) (cs : Int32) (sv : Addr) (ks : ClassId) (nn : Int32) (vs : List Value) (h0 : Heap) (n0 : Nat) (Z0 : n0 ≤ h0.size) (pE : Exa Z h0 o0 "java/lang/String") (pFv : Fld Z h0 o0 "java/lang/String" "value" "[B" (.ref sv)) (pFc : Fld Z h0 o0 "java/lang/String" "coder" "B" (.int (0 : Int32))) (pV : Arv Z h0 sv ks .byte nn vs (.int (0 : Int32))) (pS : Sta Z h0 "java/lang/String" "COMPACT_STRINGS" "Z" (.int cs)) (pcs : ¬ (cs = (0 : Int32))) :
    MetFree l (⟨"java/lang/String", "length", "()I"⟩ : MethodName) (head1 (Jvm.Cond.code (⟨"java/lang/String", "length", "()I"⟩ : MethodName) jdk_42_method_54_code 1 (some .int) :: ws) ({ frames := 1, cells := 0, slots := 0, locals := 13 } : Room)) (fun a U => a = #[(.ref o0)] ∧ Z.Warmed39 U.vm ∧ U.heap = h0) (fun _ _ _ _ _ => True) (fun _ U o U' => ∃ v L, o = .returned v ∧ Q_rm_length Z o0 cs sv ks nn vs h0 n0 v U'.heap L ∧ FrameEnd U o U' L ({ frames := 1, cells := 0, slots := 0, locals := 13 } : Room).cells ({ frames := 1, cells := 0, slots := 0, locals := 13 } : Room).slots) := by
  refine MetFree.of_bodySF (plainFor_of_name pn_0) hisR ?_
  intro p e s m args below meth c s₁ Bd hml0 hP hK
  obtain ⟨rfl, hZ, hh⟩ := hP
  have hx := Bd.exec
  have hby := Bd.bytes
  have hml : c.maxLocals = 1 := hml0
  have hown : s.vm.findClass "java/lang/String" = some m.cls := findClass_of_methodNamed Bd.named
  have hnm := (name_of_methodNamed Bd.named Bd.method).1
  have X0 : Stand p l e ({ frames := 1, cells := 0, slots := 0, locals := 13 } : Room) s m #[(.ref o0)] below meth c s₁ [] 0 0 := Stand.of_body Bd
  have e0 : s₁.heap = h0 := by rw [← hh, Bd.state]; rfl
  have N0 := Fr.nil n0
  have K0 : Keep h0 h0 [] := Keep.refl _ _
  have R0 : Rch p e below (s₁.setTop (entryFrame m #[(.ref o0)] 1)) s₁ (mkF m 0 #[.val (.ref o0)] []) := fun t k => castTop (ef_rm_length m o0) k
  have R2 : Rch p e below (s₁.setTop (entryFrame m #[(.ref o0)] 1)) s₁ (mkF m 1 #[.val (.ref o0)] [(.ref o0)]) := fun t k => by
    refine R0 t ?_
    refine XS.aloadN X0.here hx rfl (hb hby d13_0) rfl rfl ?_
    exact k
  obtain ⟨T1, X1, e1, st1⟩ := getF X0 hx hZ hown (host := "") (Or.inl (hw _ (List.mem_of_getElem? (i := 77) rfl))) Via.refl e0 pFv (g := (mkF m 1 #[.val (.ref o0)] [(.ref o0)])) rfl rfl (hb hby d13_1)
  have R4 : Rch p e below (s₁.setTop (entryFrame m #[(.ref o0)] 1)) T1 (mkF m 4 #[.val (.ref o0)] [(.ref sv)]) := fun t k => by
    refine R2 t ?_
    refine st1 _ ?_
    exact k
  obtain ⟨cl3, Ar3, -, Sz3, N3_, -, -⟩ := id pV
  have R6 : Rch p e below (s₁.setTop (entryFrame m #[(.ref o0)] 1)) T1 (mkF m 6 #[.val (.ref o0)] [(.ref o0), (.int nn)]) := fun t k => by
    refine R4 t ?_
    refine X1.arraylength hx (by rw [e1]; exact Ar3.1) (State.isArrayOf_alike hZ.alike Ar3.2.1) (g := (mkF m 4 #[.val (.ref o0)] [(.ref sv)])) rfl rfl (hb hby d13_4) _ ?_
    rw [len_of Sz3 N3_]
    show Steps p.tables e below (T1.setTop (mkF m 5 #[.val (.ref o0)] [(.int nn)])) t
    refine XS.aloadN X1.here hx rfl (hb hby d13_5) rfl rfl ?_
    exact k
  obtain ⟨cq5, kq5, q5a, q5b, q5c⟩ := isOf hZ e1 pE
  obtain ⟨_, _, ⟨T5, L5, k5, n5⟩, -, X5, ⟨Lc5, hQ5, l5, y5, z5⟩, st5⟩ := X1.virtualBack hx (y := (⟨"java/lang/String", "coder", "()B"⟩ : MethodName)) (z := (⟨"java/lang/String", "coder", "()B"⟩ : MethodName)) hown (mvT hZ (hw _ (List.mem_of_getElem? (i := 78) rfl))) (mvT hZ (hw _ (List.mem_of_getElem? (i := 79) rfl))) (notFace_of_selects (args := #[]) (mvT hZ (hw _ (List.mem_of_getElem? (i := 81) rfl)))) (mvT hZ (hw _ (List.mem_of_getElem? (i := 81) rfl))) (mvT hZ (hw _ (List.mem_of_getElem? (i := 80) rfl))) (by decide) (backOf (W := 1) (rm_coder l Z a0 hw [] o0 cs h0 n0 (Nat.le_trans Z0 K0.1) pS pcs pFc) hZ (hw _ (List.mem_of_getElem? (i := 82) rfl)) (hw _ (List.mem_of_getElem? (i := 6) rfl)) (by decide) (by decide)) q5a q5c (g := (mkF m 6 #[.val (.ref o0)] [(.ref o0), (.int nn)])) rfl (by rw [hml]; rfl) (Steps.refl _) (argsL := []) (rest := [(.int nn)]) (lenOf pd_0 rfl) rfl (by show 2 * 0 + _ ≤ _; exact Nat.le_of_eq rfl) (hb hby d13_6) (fun _ _ => ⟨rfl, e1, (by decide : 0 + 0 ≤ _), (by decide : 0 + 0 ≤ _)⟩)
  dsimp only [Pt.U, Pt.locs, Pt.cells, Pt.slots] at X5 l5 y5 z5 st5 hQ5
  subst l5 y5 z5
  obtain ⟨rfl, N5q, e5⟩ := hQ5
  have N5 := Fr.app N0 N5q
  have R7 : Rch p e below (s₁.setTop (entryFrame m #[(.ref o0)] 1)) T5 (mkF m 10 #[.val (.ref o0)] [(.int (nn >>> ((0 : Int32) &&& 31)))]) := fun t k => by
    refine R6 t ?_
    refine st5.trans ?_
    show Steps p.tables e below (T5.setTop (mkF m 9 #[.val (.ref o0)] [(.int (0 : Int32)), (.int nn)])) t
    refine XS.ishr X5.here hx rfl (hb hby d13_9) rfl ?_
    exact k
  rw [own_shr0] at R7
  obtain ⟨fs, hr, hrun, hended, hW, hsame⟩ := X5.leave (v := some (.int nn)) (fun h => by rw [Bd.returns] at h; cases h) (BodyLoose.notSynchronized Bd)
  refine ⟨_, _, R7 _ ?_, hrun, hended, _, _, rfl, ?_, ⟨_, rfl⟩, hW, hsame.mono (by decide) (by decide)⟩
  · exact retI X5 hx Bd.returns (hb hby d13_10) hr
  · show Q_rm_length Z o0 cs sv ks nn vs h0 n0 _ T5.heap _
    rw [e5]
    exact ⟨rfl, N5, rfl⟩
theorem d31_0 : decode jdk_42_method_154_code 0 = .ok (.getstatic 38, 3) := by decide +kernel
theorem d31_3 : decode jdk_42_method_154_code 3 = .ok (.ifCond .eq 14, 3) := by decide +kernel
theorem d31_6 : decode jdk_42_method_154_code 6 = .ok (.aload_n 0, 1) := by decide +kernel
theorem d31_7 : decode jdk_42_method_154_code 7 = .ok (.getfield 15, 3) := by decide +kernel
theorem d31_10 : decode jdk_42_method_154_code 10 = .ok (.ifCond .ne 7, 3) := by decide +kernel
theorem d31_13 : decode jdk_42_method_154_code 13 = .ok (.iconst 1, 1) := by decide +kernel
theorem d31_14 : decode jdk_42_method_154_code 14 = .ok (.goto 4, 3) := by decide +kernel
theorem d31_18 : decode jdk_42_method_154_code 18 = .ok (.ireturn, 1) := by decide +kernel
theorem ef_rm_islat (m : MethodId) (x0 : Addr) : entryFrame m #[(.ref x0)] 1 = mkF m 0 #[.val (.ref x0)] [] := by first | (simp [entryFrame, mkF, argsToLocals, Value.category]; done) | rfl
def Q_rm_islat (Z : State) (o0 : Addr) (cs : Int32) (h0 : Heap) (n0 : Nat) (v : Option Value) (h : Heap) (L : List Loc) : Prop := (v = some (.int (1 : Int32))) ∧ (Fr n0 L) ∧ (h = h0)
set_option maxRecDepth 65536 in
set_option maxHeartbeats 40000000 in
theorem rm_islat (l : Launch) (Z : State) (a0 : Array Value) (hw : ∀ d ∈ tables_1, d.before a0 Z = true) (ws : List Jvm.Cond) (o0 : Addr) (cs : Int32) (h0 : Heap) (n0 : Nat) (Z0 : n0 ≤ h0.size) (pS : Sta Z h0 "java/lang/String" "COMPACT_STRINGS" "Z" (.int cs)) (pcs : ¬ (cs = (0 : Int32))) (pFc : Fld Z h0 o0 "java/lang/String" "coder" "B" (.int (0 : Int32))) :
    MetFree l (⟨"java/lang/String", "isLatin1", "()Z"⟩ : MethodName) (head1 (Jvm.Cond.code (⟨"java/lang/String", "isLatin1", "()Z"⟩ : MethodName) jdk_42_method_154_code 1 (some .boolean) :: ws) ({ frames := 0, cells := 0, slots := 0, locals := 0 } : Room)) (fun a U => a = #[(.ref o0)] ∧ Z.Warmed39 U.vm ∧ U.heap = h0) (fun _ _ _ _ _ => True) (fun _ U o U' => ∃ v L, o = .returned v ∧ Q_rm_islat Z o0 cs h0 n0 v U'.heap L ∧ FrameEnd U o U' L ({ frames := 0, cells := 0, slots := 0, locals := 0 } : Room).cells ({ frames := 0, cells := 0, slots := 0, locals := 0 } : Room).slots) := by
  refine MetFree.of_bodySF (plainFor_of_name pn_0) hisR ?_
  intro p e s m args below meth c s₁ Bd hml0 hP hK
  obtain ⟨rfl, hZ, hh⟩ := hP
  have hx := Bd.exec
  have hby := Bd.bytes
  have hml : c.maxLocals = 1 := hml0
  have hown : s.vm.findClass "java/lang/String" = some m.cls := findClass_of_methodNamed Bd.named
  have hnm := (name_of_methodNamed Bd.named Bd.method).1
  have X0 : Stand p l e ({ frames := 0, cells := 0, slots := 0, locals := 0 } : Room) s m #[(.ref o0)] below meth c s₁ [] 0 0 := Stand.of_body Bd
  have e0 : s₁.heap = h0 := by rw [← hh, Bd.state]; rfl
  have N0 := Fr.nil n0
  have K0 : Keep h0 h0 [] := Keep.refl _ _
  have R0 : Rch p e below (s₁.setTop (entryFrame m #[(.ref o0)] 1)) s₁ (mkF m 0 #[.val (.ref o0)] []) := fun t k => castTop (ef_rm_islat m o0) k
  obtain ⟨T1, X1, e1, st1⟩ := getS2 X0 hx hZ hown (host := "") (Or.inl (hw _ (List.mem_of_getElem? (i := 83) rfl))) Via.refl e0 pS (g := (mkF m 0 #[.val (.ref o0)] [])) rfl (hb hby d31_0)
  have R3 : Rch p e below (s₁.setTop (entryFrame m #[(.ref o0)] 1)) T1 (mkF m 7 #[.val (.ref o0)] [(.ref o0)]) := fun t k => by
    refine R0 t ?_
    refine st1 _ ?_
    show Steps p.tables e below (T1.setTop (mkF m 3 #[.val (.ref o0)] [(.int cs)])) t
    refine XS.ifNo X1.here hx rfl (hb hby d31_3) rfl ((if0 _ _).trans (feq pcs).1) ?_
    show Steps p.tables e below (T1.setTop (mkF m 6 #[.val (.ref o0)] [])) t
    refine XS.aloadN X1.here hx rfl (hb hby d31_6) rfl rfl ?_
    exact k
  obtain ⟨T2, X2, e2, st2⟩ := getF X1 hx hZ hown (host := "") (Or.inl (hw _ (List.mem_of_getElem? (i := 84) rfl))) Via.refl e1 pFc (g := (mkF m 7 #[.val (.ref o0)] [(.ref o0)])) rfl rfl (hb hby d31_7)
  have R4 : Rch p e below (s₁.setTop (entryFrame m #[(.ref o0)] 1)) T2 (mkF m 18 #[.val (.ref o0)] [(.int (1 : Int32))]) := fun t k => by
    refine R3 t ?_
    refine st2 _ ?_
    show Steps p.tables e below (T2.setTop (mkF m 10 #[.val (.ref o0)] [(.int (0 : Int32))])) t
    refine XS.ifNo X2.here hx rfl (hb hby d31_10) rfl ((if0 _ _).trans (teq (by decide : (0 : Int32) = (0 : Int32))).2) ?_
    show Steps p.tables e below (T2.setTop (mkF m 13 #[.val (.ref o0)] [])) t
    refine XS.iconst X2.here hx rfl (hb hby d31_13) ?_
    show Steps p.tables e below (T2.setTop (mkF m 14 #[.val (.ref o0)] [(.int (1 : Int32))])) t
    refine XS.goto X2.here hx rfl (pc0 := 14) (pc' := 18) rfl (hb hby d31_14) (by decide) (by decide) ?_
    exact k
  obtain ⟨fs, hr, hrun, hended, hW, hsame⟩ := X2.leave (v := some (.int (1 : Int32))) (fun h => by rw [Bd.returns] at h; cases h) (BodyLoose.notSynchronized Bd)
  refine ⟨_, _, R4 _ ?_, hrun, hended, _, _, rfl, ?_, ⟨_, rfl⟩, hW, hsame.mono (by decide) (by decide)⟩
  · exact retN X2 hx (t := .boolean) Bd.returns (by simp) (hb hby d31_18) hr
  · show Q_rm_islat Z o0 cs h0 n0 _ T2.heap _
    rw [e2]
    exact ⟨rfl, N0, rfl⟩
theorem d34_0 : decode jdk_41_method_11_code 0 = .ok (.iload_n 0, 1) := by decide +kernel
theorem d34_1 : decode jdk_41_method_11_code 1 = .ok (.ifCond .lt 8, 3) := by decide +kernel
theorem d34_4 : decode jdk_41_method_11_code 4 = .ok (.iload_n 0, 1) := by decide +kernel
theorem d34_5 : decode jdk_41_method_11_code 5 = .ok (.iload_n 1, 1) := by decide +kernel
theorem d34_6 : decode jdk_41_method_11_code 6 = .ok (.if_icmp .lt 10, 3) := by decide +kernel
theorem d34_16 : decode jdk_41_method_11_code 16 = .ok (.iload_n 0, 1) := by decide +kernel
theorem d34_17 : decode jdk_41_method_11_code 17 = .ok (.ireturn, 1) := by decide +kernel
theorem ef_rm_pck (m : MethodId) (x0 : Int32) (x1 : Int32) (x2 : Value) (hx2 : x2.isRef = true) : entryFrame m #[(.int x0), (.int x1), x2] 3 = mkF m 0 #[.val (.int x0), .val (.int x1), .val x2] [] := by rcases ref_cases hx2 with rfl | ⟨_, rfl⟩ <;> first | (simp [entryFrame, mkF, argsToLocals, Value.category]; done) | rfl
theorem pn_1 : plainName "jdk/internal/util/Preconditions" = true := by first | (simp [plainName, overriddenIn]; done) | decide +kernel
def Q_rm_pck (Z : State) (q0 : Int32) (q1 : Int32) (vv : Value) (h0 : Heap) (n0 : Nat) (v : Option Value) (h : Heap) (L : List Loc) : Prop := (v = some (.int q0)) ∧ (Fr n0 L) ∧ (h = h0)
set_option maxRecDepth 65536 in
set_option maxHeartbeats 40000000 in
theorem rm_pck (l : Launch) (Z : State) (a0 : Array Value) (hw : ∀ d ∈ tables_1, d.before a0 Z = true) (ws : List Jvm.Cond) (q0 : Int32) (q1 : Int32) (vv : Value) (h0 : Heap) (n0 : Nat) (Z0 : n0 ≤ h0.size) (pvv : vv.isRef = true) (p1 : ¬ q0 < 0) (p2 : q0 < q1) :
    MetFree l (⟨"jdk/internal/util/Preconditions", "checkIndex", "(IILjava/util/function/BiFunction;)I"⟩ : MethodName) (head1 (Jvm.Cond.code (⟨"jdk/internal/util/Preconditions", "checkIndex", "(IILjava/util/function/BiFunction;)I"⟩ : MethodName) jdk_41_method_11_code 3 (some .int) :: ws) ({ frames := 0, cells := 0, slots := 0, locals := 0 } : Room)) (fun a U => a = #[(.int q0), (.int q1), vv] ∧ Z.Warmed39 U.vm ∧ U.heap = h0) (fun _ _ _ _ _ => True) (fun _ U o U' => ∃ v L, o = .returned v ∧ Q_rm_pck Z q0 q1 vv h0 n0 v U'.heap L ∧ FrameEnd U o U' L ({ frames := 0, cells := 0, slots := 0, locals := 0 } : Room).cells ({ frames := 0, cells := 0, slots := 0, locals := 0 } : Room).slots) := by
  refine MetFree.of_bodySF (plainFor_of_name pn_1) hisR ?_
  intro p e s m args below meth c s₁ Bd hml0 hP hK
  obtain ⟨rfl, hZ, hh⟩ := hP
  have hx := Bd.exec
  have hby := Bd.bytes
  have hml : c.maxLocals = 3 := hml0
  have hown : s.vm.findClass "jdk/internal/util/Preconditions" = some m.cls := findClass_of_methodNamed Bd.named
  have hnm := (name_of_methodNamed Bd.named Bd.method).1
  have X0 : Stand p l e ({ frames := 0, cells := 0, slots := 0, locals := 0 } : Room) s m #[(.int q0), (.int q1), vv] below meth c s₁ [] 0 0 := Stand.of_body Bd
  have e0 : s₁.heap = h0 := by rw [← hh, Bd.state]; rfl
  have N0 := Fr.nil n0
  have K0 : Keep h0 h0 [] := Keep.refl _ _
  have R0 : Rch p e below (s₁.setTop (entryFrame m #[(.int q0), (.int q1), vv] 3)) s₁ (mkF m 0 #[.val (.int q0), .val (.int q1), .val vv] []) := fun t k => castTop (ef_rm_pck m q0 q1 vv pvv) k
  have R1 : Rch p e below (s₁.setTop (entryFrame m #[(.int q0), (.int q1), vv] 3)) s₁ (mkF m 17 #[.val (.int q0), .val (.int q1), .val vv] [(.int q0)]) := fun t k => by
    refine R0 t ?_
    refine XS.iloadN X0.here hx rfl (hb hby d34_0) rfl ?_
    show Steps p.tables e below (s₁.setTop (mkF m 1 #[.val (.int q0), .val (.int q1), .val vv] [(.int q0)])) t
    refine XS.ifNo X0.here hx rfl (hb hby d34_1) rfl ((if0 _ _).trans (flt p1).1) ?_
    show Steps p.tables e below (s₁.setTop (mkF m 4 #[.val (.int q0), .val (.int q1), .val vv] [])) t
    refine XS.iloadN X0.here hx rfl (hb hby d34_4) rfl ?_
    show Steps p.tables e below (s₁.setTop (mkF m 5 #[.val (.int q0), .val (.int q1), .val vv] [(.int q0)])) t
    refine XS.iloadN X0.here hx rfl (hb hby d34_5) rfl ?_
    show Steps p.tables e below (s₁.setTop (mkF m 6 #[.val (.int q0), .val (.int q1), .val vv] [(.int q1), (.int q0)])) t
    refine XS.icmpYes X0.here hx rfl (pc0 := 6) (pc' := 16) rfl (hb hby d34_6) rfl (tlt p2).1 (by decide) (by decide) ?_
    show Steps p.tables e below (s₁.setTop (mkF m 16 #[.val (.int q0), .val (.int q1), .val vv] [])) t
    refine XS.iloadN X0.here hx rfl (hb hby d34_16) rfl ?_
    exact k
  obtain ⟨fs, hr, hrun, hended, hW, hsame⟩ := X0.leave (v := some (.int q0)) (fun h => by rw [Bd.returns] at h; cases h) (BodyLoose.notSynchronized Bd)
  refine ⟨_, _, R1 _ ?_, hrun, hended, _, _, rfl, ?_, ⟨_, rfl⟩, hW, hsame.mono (by decide) (by decide)⟩
  · exact retI X0 hx Bd.returns (hb hby d34_17) hr
  · show Q_rm_pck Z q0 q1 vv h0 n0 _ s₁.heap _
    rw [e0]
    exact ⟨rfl, N0, rfl⟩
theorem d33_0 : decode jdk_42_method_155_code 0 = .ok (.iload_n 0, 1) := by decide +kernel
theorem d33_1 : decode jdk_42_method_155_code 1 = .ok (.iload_n 1, 1) := by decide +kernel
theorem d33_2 : decode jdk_42_method_155_code 2 = .ok (.getstatic 1053, 3) := by decide +kernel
theorem d33_5 : decode jdk_42_method_155_code 5 = .ok (.invokestatic 1059, 3) := by decide +kernel
theorem pd_1 : parseMethodDescriptor "(IILjava/util/function/BiFunction;)I" = some ⟨[.int, .int, (.object "java/util/function/BiFunction")], some .int⟩ := by decide +kernel
theorem d33_8 : decode jdk_42_method_155_code 8 = .ok (.pop, 1) := by decide +kernel
theorem d33_9 : decode jdk_42_method_155_code 9 = .ok (.return_, 1) := by decide +kernel
theorem ef_rm_sck (m : MethodId) (x0 : Int32) (x1 : Int32) : entryFrame m #[(.int x0), (.int x1)] 2 = mkF m 0 #[.val (.int x0), .val (.int x1)] [] := by first | (simp [entryFrame, mkF, argsToLocals, Value.category]; done) | rfl
def Q_rm_sck (Z : State) (q0 : Int32) (q1 : Int32) (vv : Value) (h0 : Heap) (n0 : Nat) (v : Option Value) (h : Heap) (L : List Loc) : Prop := (v = none) ∧ (Fr n0 L) ∧ (h = h0)
set_option maxRecDepth 65536 in
set_option maxHeartbeats 40000000 in
theorem rm_sck (l : Launch) (Z : State) (a0 : Array Value) (hw : ∀ d ∈ tables_1, d.before a0 Z = true) (ws : List Jvm.Cond) (q0 : Int32) (q1 : Int32) (vv : Value) (h0 : Heap) (n0 : Nat) (Z0 : n0 ≤ h0.size) (pvv : vv.isRef = true) (p1 : ¬ q0 < 0) (p2 : q0 < q1) (pSF : Sta Z h0 "jdk/internal/util/Preconditions" "SIOOBE_FORMATTER" "Ljava/util/function/BiFunction;" vv) :
    MetFree l (⟨"java/lang/String", "checkIndex", "(II)V"⟩ : MethodName) (head1 (Jvm.Cond.code (⟨"java/lang/String", "checkIndex", "(II)V"⟩ : MethodName) jdk_42_method_155_code 2 none :: ws) ({ frames := 1, cells := 0, slots := 0, locals := 14 } : Room)) (fun a U => a = #[(.int q0), (.int q1)] ∧ Z.Warmed39 U.vm ∧ U.heap = h0) (fun _ _ _ _ _ => True) (fun _ U o U' => ∃ v L, o = .returned v ∧ Q_rm_sck Z q0 q1 vv h0 n0 v U'.heap L ∧ FrameEnd U o U' L ({ frames := 1, cells := 0, slots := 0, locals := 14 } : Room).cells ({ frames := 1, cells := 0, slots := 0, locals := 14 } : Room).slots) := by
  refine MetFree.of_bodySF (plainFor_of_name pn_0) hisR ?_
  intro p e s m args below meth c s₁ Bd hml0 hP hK
  obtain ⟨rfl, hZ, hh⟩ := hP
  have hx := Bd.exec
  have hby := Bd.bytes
  have hml : c.maxLocals = 2 := hml0
  have hown : s.vm.findClass "java/lang/String" = some m.cls := findClass_of_methodNamed Bd.named
  have hnm := (name_of_methodNamed Bd.named Bd.method).1
  have X0 : Stand p l e ({ frames := 1, cells := 0, slots := 0, locals := 14 } : Room) s m #[(.int q0), (.int q1)] below meth c s₁ [] 0 0 := Stand.of_body Bd
  have e0 : s₁.heap = h0 := by rw [← hh, Bd.state]; rfl
  have N0 := Fr.nil n0
  have K0 : Keep h0 h0 [] := Keep.refl _ _
  have R0 : Rch p e below (s₁.setTop (entryFrame m #[(.int q0), (.int q1)] 2)) s₁ (mkF m 0 #[.val (.int q0), .val (.int q1)] []) := fun t k => castTop (ef_rm_sck m q0 q1) k
  have R2 : Rch p e below (s₁.setTop (entryFrame m #[(.int q0), (.int q1)] 2)) s₁ (mkF m 2 #[.val (.int q0), .val (.int q1)] [(.int q1), (.int q0)]) := fun t k => by
    refine R0 t ?_
    refine XS.iloadN X0.here hx rfl (hb hby d33_0) rfl ?_
    show Steps p.tables e below (s₁.setTop (mkF m 1 #[.val (.int q0), .val (.int q1)] [(.int q0)])) t
    refine XS.iloadN X0.here hx rfl (hb hby d33_1) rfl ?_
    exact k
  obtain ⟨T1, X1, e1, st1⟩ := getS2 X0 hx hZ hown (host := "") (Or.inl (hw _ (List.mem_of_getElem? (i := 183) rfl))) Via.refl e0 pSF (g := (mkF m 2 #[.val (.int q0), .val (.int q1)] [(.int q1), (.int q0)])) rfl (hb hby d33_2)
  have R4 : Rch p e below (s₁.setTop (entryFrame m #[(.int q0), (.int q1)] 2)) T1 (mkF m 5 #[.val (.int q0), .val (.int q1)] [vv, (.int q1), (.int q0)]) := fun t k => by
    refine R2 t ?_
    refine st1 _ ?_
    exact k
  obtain ⟨_, _, ⟨T3, L3, k3, n3⟩, -, X3, ⟨Lc3, hQ3, l3, y3, z3⟩, st3⟩ := Jvm.LawKit.callS X1 hx (y := (⟨"jdk/internal/util/Preconditions", "checkIndex", "(IILjava/util/function/BiFunction;)I"⟩ : MethodName)) hown (mvT hZ (hw _ (List.mem_of_getElem? (i := 185) rfl))) (mvT hZ (hw _ (List.mem_of_getElem? (i := 186) rfl))) (mvT hZ (hw _ (List.mem_of_getElem? (i := 184) rfl))) (mvT hZ (hw _ (List.mem_of_getElem? (i := 187) rfl))) (by decide) (backOf (W := 0) (rm_pck l Z a0 hw [] q0 q1 vv h0 n0 (Nat.le_trans Z0 K0.1) pvv p1 p2) hZ (hw _ (List.mem_of_getElem? (i := 187) rfl)) (hw _ (List.mem_of_getElem? (i := 184) rfl)) (by decide) (by decide)) (g := (mkF m 5 #[.val (.int q0), .val (.int q1)] [vv, (.int q1), (.int q0)])) rfl (by rw [hml]; rfl) (argsL := [(.int q0), (.int q1), vv]) (rest := []) (lenOf pd_1 rfl) rfl (by show 2 * 0 + _ ≤ _; exact Nat.le_of_eq rfl) (hb hby d33_5) (fun _ _ => ⟨rfl, e1, (by decide : 0 + 0 ≤ _), (by decide : 0 + 0 ≤ _)⟩)
  dsimp only [Pt.U, Pt.locs, Pt.cells, Pt.slots] at X3 l3 y3 z3 st3 hQ3
  subst l3 y3 z3
  obtain ⟨rfl, N3q, e3⟩ := hQ3
  have N3 := Fr.app N0 N3q
  have R5 : Rch p e below (s₁.setTop (entryFrame m #[(.int q0), (.int q1)] 2)) T3 (mkF m 9 #[.val (.int q0), .val (.int q1)] []) := fun t k => by
    refine R4 t ?_
    refine st3 _ ?_
    show Steps p.tables e below (T3.setTop (mkF m 8 #[.val (.int q0), .val (.int q1)] [(.int q0)])) t
    refine XS.pop X3.here hx rfl (hb hby d33_8) rfl rfl ?_
    exact k
  obtain ⟨fs, hr, hrun, hended, hW, hsame⟩ := X3.leave (v := none) (fun _ => rfl) (BodyLoose.notSynchronized Bd)
  refine ⟨_, _, R5 _ ?_, hrun, hended, _, _, rfl, ?_, ⟨_, rfl⟩, hW, hsame.mono (by decide) (by decide)⟩
  · exact X3.returnOut hx Bd.returns (hb hby d33_9) hr
  · show Q_rm_sck Z q0 q1 vv h0 n0 _ T3.heap _
    rw [e3]
    exact ⟨rfl, N3, rfl⟩
theorem d32_0 : decode jdk_43_method_2_code 0 = .ok (.iload_n 1, 1) := by decide +kernel
theorem d32_1 : decode jdk_43_method_2_code 1 = .ok (.aload_n 0, 1) := by decide +kernel
theorem d32_2 : decode jdk_43_method_2_code 2 = .ok (.arraylength, 1) := by decide +kernel
theorem d32_3 : decode jdk_43_method_2_code 3 = .ok (.invokestatic 9, 3) := by decide +kernel
theorem pd_2 : parseMethodDescriptor "(II)V" = some ⟨[.int, .int], none⟩ := by decide +kernel
theorem d32_6 : decode jdk_43_method_2_code 6 = .ok (.aload_n 0, 1) := by decide +kernel
theorem d32_7 : decode jdk_43_method_2_code 7 = .ok (.iload_n 1, 1) := by decide +kernel
theorem d32_8 : decode jdk_43_method_2_code 8 = .ok (.baload, 1) := by decide +kernel
theorem d32_9 : decode jdk_43_method_2_code 9 = .ok (.sipush 255, 3) := by decide +kernel
theorem d32_12 : decode jdk_43_method_2_code 12 = .ok (.iand, 1) := by decide +kernel
theorem d32_13 : decode jdk_43_method_2_code 13 = .ok (.i2c, 1) := by decide +kernel
theorem d32_14 : decode jdk_43_method_2_code 14 = .ok (.ireturn, 1) := by decide +kernel
theorem ef_rm_lch (m : MethodId) (x0 : Addr) (x1 : Int32) : entryFrame m #[(.ref x0), (.int x1)] 2 = mkF m 0 #[.val (.ref x0), .val (.int x1)] [] := by first | (simp [entryFrame, mkF, argsToLocals, Value.category]; done) | rfl
theorem pn_2 : plainName "java/lang/StringLatin1" = true := by first | (simp [plainName, overriddenIn]; done) | decide +kernel
def Q_rm_lch (Z : State) (sv : Addr) (ks : ClassId) (nn : Int32) (vs : List Value) (q0 : Int32) (zz : Int32) (vv : Value) (h0 : Heap) (n0 : Nat) (v : Option Value) (h : Heap) (L : List Loc) : Prop := (v = some (.int zz)) ∧ (Fr n0 L) ∧ (h = h0)
set_option maxRecDepth 65536 in
set_option maxHeartbeats 40000000 in
theorem rm_lch (l : Launch) (Z : State) (a0 : Array Value) (hw : ∀ d ∈ tables_1, d.before a0 Z = true) (ws : List Jvm.Cond) (sv : Addr) (ks : ClassId) (nn : Int32) (vs : List Value) (q0 : Int32) (zz : Int32) (vv : Value) (h0 : Heap) (n0 : Nat) (Z0 : n0 ≤ h0.size) (pV : Arv Z h0 sv ks .byte nn vs (.int (0 : Int32))) (pin : ¬ q0 < 0 ∧ q0 < nn) (pat : vs.getD q0.toNatClampNeg (.int (0 : Int32)) = .int zz) (pz : own_asc zz) (pvv : vv.isRef = true) (pSF : Sta Z h0 "jdk/internal/util/Preconditions" "SIOOBE_FORMATTER" "Ljava/util/function/BiFunction;" vv) :
    MetFree l (⟨"java/lang/StringLatin1", "charAt", "([BI)C"⟩ : MethodName) (head1 (Jvm.Cond.code (⟨"java/lang/StringLatin1", "charAt", "([BI)C"⟩ : MethodName) jdk_43_method_2_code 2 (some .char) :: ws) ({ frames := 2, cells := 0, slots := 0, locals := 27 } : Room)) (fun a U => a = #[(.ref sv), (.int q0)] ∧ Z.Warmed39 U.vm ∧ U.heap = h0) (fun _ _ _ _ _ => True) (fun _ U o U' => ∃ v L, o = .returned v ∧ Q_rm_lch Z sv ks nn vs q0 zz vv h0 n0 v U'.heap L ∧ FrameEnd U o U' L ({ frames := 2, cells := 0, slots := 0, locals := 27 } : Room).cells ({ frames := 2, cells := 0, slots := 0, locals := 27 } : Room).slots) := by
  refine MetFree.of_bodySF (plainFor_of_name pn_2) hisR ?_
  intro p e s m args below meth c s₁ Bd hml0 hP hK
  obtain ⟨rfl, hZ, hh⟩ := hP
  have hx := Bd.exec
  have hby := Bd.bytes
  have hml : c.maxLocals = 2 := hml0
  have hown : s.vm.findClass "java/lang/StringLatin1" = some m.cls := findClass_of_methodNamed Bd.named
  have hnm := (name_of_methodNamed Bd.named Bd.method).1
  have X0 : Stand p l e ({ frames := 2, cells := 0, slots := 0, locals := 27 } : Room) s m #[(.ref sv), (.int q0)] below meth c s₁ [] 0 0 := Stand.of_body Bd
  have e0 : s₁.heap = h0 := by rw [← hh, Bd.state]; rfl
  have N0 := Fr.nil n0
  have K0 : Keep h0 h0 [] := Keep.refl _ _
  have R0 : Rch p e below (s₁.setTop (entryFrame m #[(.ref sv), (.int q0)] 2)) s₁ (mkF m 0 #[.val (.ref sv), .val (.int q0)] []) := fun t k => castTop (ef_rm_lch m sv q0) k
  have R2 : Rch p e below (s₁.setTop (entryFrame m #[(.ref sv), (.int q0)] 2)) s₁ (mkF m 2 #[.val (.ref sv), .val (.int q0)] [(.ref sv), (.int q0)]) := fun t k => by
    refine R0 t ?_
    refine XS.iloadN X0.here hx rfl (hb hby d32_0) rfl ?_
    show Steps p.tables e below (s₁.setTop (mkF m 1 #[.val (.ref sv), .val (.int q0)] [(.int q0)])) t
    refine XS.aloadN X0.here hx rfl (hb hby d32_1) rfl rfl ?_
    exact k
  obtain ⟨cl1, Ar1, -, Sz1, N1_, -, -⟩ := id pV
  have R4 : Rch p e below (s₁.setTop (entryFrame m #[(.ref sv), (.int q0)] 2)) s₁ (mkF m 3 #[.val (.ref sv), .val (.int q0)] [(.int nn), (.int q0)]) := fun t k => by
    refine R2 t ?_
    refine X0.arraylength hx (by rw [e0]; exact Ar1.1) (State.isArrayOf_alike hZ.alike Ar1.2.1) (g := (mkF m 2 #[.val (.ref sv), .val (.int q0)] [(.ref sv), (.int q0)])) rfl rfl (hb hby d32_2) _ ?_
    rw [len_of Sz1 N1_]
    exact k
  obtain ⟨_, _, ⟨T3, L3, k3, n3⟩, -, X3, ⟨Lc3, hQ3, l3, y3, z3⟩, st3⟩ := Jvm.LawKit.callS X0 hx (y := (⟨"java/lang/String", "checkIndex", "(II)V"⟩ : MethodName)) hown (mvT hZ (hw _ (List.mem_of_getElem? (i := 180) rfl))) (mvT hZ (hw _ (List.mem_of_getElem? (i := 181) rfl))) (mvT hZ (hw _ (List.mem_of_getElem? (i := 6) rfl))) (mvT hZ (hw _ (List.mem_of_getElem? (i := 182) rfl))) (by decide) (backOf (W := 0) (rm_sck l Z a0 hw [] q0 nn vv h0 n0 (Nat.le_trans Z0 K0.1) pvv pin.1 pin.2 pSF) hZ (hw _ (List.mem_of_getElem? (i := 182) rfl)) (hw _ (List.mem_of_getElem? (i := 6) rfl)) (by decide) (by decide)) (g := (mkF m 3 #[.val (.ref sv), .val (.int q0)] [(.int nn), (.int q0)])) rfl (by rw [hml]; rfl) (argsL := [(.int q0), (.int nn)]) (rest := []) (lenOf pd_2 rfl) rfl (by show 2 * 0 + _ ≤ _; exact Nat.le_of_eq rfl) (hb hby d32_3) (fun _ _ => ⟨rfl, e0, (by decide : 0 + 0 ≤ _), (by decide : 0 + 0 ≤ _)⟩)
  dsimp only [Pt.U, Pt.locs, Pt.cells, Pt.slots] at X3 l3 y3 z3 st3 hQ3
  subst l3 y3 z3
  obtain ⟨rfl, N3q, e3⟩ := hQ3
  have N3 := Fr.app N0 N3q
  have R6 : Rch p e below (s₁.setTop (entryFrame m #[(.ref sv), (.int q0)] 2)) T3 (mkF m 8 #[.val (.ref sv), .val (.int q0)] [(.int q0), (.ref sv)]) := fun t k => by
    refine R4 t ?_
    refine st3 _ ?_
    show Steps p.tables e below (T3.setTop (mkF m 6 #[.val (.ref sv), .val (.int q0)] [])) t
    refine XS.aloadN X3.here hx rfl (hb hby d32_6) rfl rfl ?_
    show Steps p.tables e below (T3.setTop (mkF m 7 #[.val (.ref sv), .val (.int q0)] [(.ref sv)])) t
    refine XS.iloadN X3.here hx rfl (hb hby d32_7) rfl ?_
    exact k
  obtain ⟨cl5, Ar5, q5, Sz5, N5_, Hs5, G5⟩ := id pV
  have hin5 : ¬ (q0 < 0 ∨ cl5.slots.size ≤ (q0).toNatClampNeg) := inb_of Sz5 pin
  have hat5 : cl5.slots[(q0).toNatClampNeg]? = some (.int zz) := Hs5.at hin5 pat
  have R7 : Rch p e below (s₁.setTop (entryFrame m #[(.ref sv), (.int q0)] 2)) T3 (mkF m 14 #[.val (.ref sv), .val (.int q0)] [(.int ((zz &&& (255 : Int32)).toUInt32.toUInt16.toUInt32.toInt32))]) := fun t k => by
    refine R6 t ?_
    refine X3.baloadBytes hx (j := q0) (v := (.int zz)) (by rw [e3]; exact Ar5.1) (State.isArrayOf_alike hZ.alike Ar5.2.1) Ar5.2.2 hin5 hat5 (g := (mkF m 8 #[.val (.ref sv), .val (.int q0)] [(.int q0), (.ref sv)])) rfl rfl (hb hby d32_8) _ ?_
    show Steps p.tables e below (T3.setTop (mkF m 9 #[.val (.ref sv), .val (.int q0)] [(.int zz)])) t
    refine XS.sipush X3.here hx rfl (hb hby d32_9) ?_
    show Steps p.tables e below (T3.setTop (mkF m 12 #[.val (.ref sv), .val (.int q0)] [(.int (255 : Int32)), (.int zz)])) t
    refine XS.iand X3.here hx rfl (hb hby d32_12) rfl ?_
    show Steps p.tables e below (T3.setTop (mkF m 13 #[.val (.ref sv), .val (.int q0)] [(.int (zz &&& (255 : Int32)))])) t
    refine XS.i2c X3.here hx rfl (hb hby d32_13) rfl ?_
    exact k
  rw [own_i2c pz] at R7
  obtain ⟨fs, hr, hrun, hended, hW, hsame⟩ := X3.leave (v := some (.int zz)) (fun h => by rw [Bd.returns] at h; cases h) (BodyLoose.notSynchronized Bd)
  refine ⟨_, _, R7 _ ?_, hrun, hended, _, _, rfl, ?_, ⟨_, rfl⟩, hW, hsame.mono (by decide) (by decide)⟩
  · exact retN X3 hx (t := .char) Bd.returns (by simp) (hb hby d32_14) (by rw [own_nar_c pz]; exact hr)
  · show Q_rm_lch Z sv ks nn vs q0 zz vv h0 n0 _ T3.heap _
    rw [e3]
    exact ⟨rfl, N3, rfl⟩
theorem d30_0 : decode jdk_42_method_56_code 0 = .ok (.aload_n 0, 1) := by decide +kernel
theorem d30_1 : decode jdk_42_method_56_code 1 = .ok (.invokevirtual 492, 3) := by decide +kernel
theorem pd_3 : parseMethodDescriptor "()Z" = some ⟨[], some .boolean⟩ := by decide +kernel
theorem d30_4 : decode jdk_42_method_56_code 4 = .ok (.ifCond .eq 12, 3) := by decide +kernel
theorem d30_7 : decode jdk_42_method_56_code 7 = .ok (.aload_n 0, 1) := by decide +kernel
theorem d30_8 : decode jdk_42_method_56_code 8 = .ok (.getfield 9, 3) := by decide +kernel
theorem d30_11 : decode jdk_42_method_56_code 11 = .ok (.iload_n 1, 1) := by decide +kernel
theorem d30_12 : decode jdk_42_method_56_code 12 = .ok (.invokestatic 495, 3) := by decide +kernel
theorem pd_4 : parseMethodDescriptor "([BI)C" = some ⟨[(.array .byte), .int], some .char⟩ := by decide +kernel
theorem d30_15 : decode jdk_42_method_56_code 15 = .ok (.ireturn, 1) := by decide +kernel
theorem ef_rm_cha (m : MethodId) (x0 : Addr) (x1 : Int32) : entryFrame m #[(.ref x0), (.int x1)] 2 = mkF m 0 #[.val (.ref x0), .val (.int x1)] [] := by first | (simp [entryFrame, mkF, argsToLocals, Value.category]; done) | rfl
def Q_rm_cha (Z : State) (o0 : Addr) (cs : Int32) (sv : Addr) (ks : ClassId) (nn : Int32) (vs : List Value) (q0 : Int32) (zz : Int32) (vv : Value) (h0 : Heap) (n0 : Nat) (v : Option Value) (h : Heap) (L : List Loc) : Prop := (v = some (.int zz)) ∧ (Fr n0 L) ∧ (h = h0)
set_option maxRecDepth 65536 in
set_option maxHeartbeats 40000000 in
theorem rm_cha (l : Launch) (Z : State) (a0 : Array Value) (hw : ∀ d ∈ tables_1, d.before a0 Z = true) (ws : List Jvm.Cond) (o0 : Addr) (cs : Int32) (sv : Addr) (ks : ClassId) (nn : Int32) (vs : List Value) (q0 : Int32) (zz : Int32) (vv : Value) (h0 : Heap) (n0 : Nat) (Z0 : n0 ≤ h0.size) (pE : Exa Z h0 o0 "java/lang/String") (pFv : Fld Z h0 o0 "java/lang/String" "value" "[B" (.ref sv)) (pFc : Fld Z h0 o0 "java/lang/String" "coder" "B" (.int (0 : Int32))) (pS : Sta Z h0 "java/lang/String" "COMPACT_STRINGS" "Z" (.int cs)) (pcs : ¬ (cs = (0 : Int32))) (pV : Arv Z h0 sv ks .byte nn vs (.int (0 : Int32))) (pin : ¬ q0 < 0 ∧ q0 < nn) (pat : vs.getD q0.toNatClampNeg (.int (0 : Int32)) = .int zz) (pz : own_asc zz) (pvv : vv.isRef = true) (pSF : Sta Z h0 "jdk/internal/util/Preconditions" "SIOOBE_FORMATTER" "Ljava/util/function/BiFunction;" vv) :
    MetFree l (⟨"java/lang/String", "charAt", "(I)C"⟩ : MethodName) (head1 (Jvm.Cond.code (⟨"java/lang/String", "charAt", "(I)C"⟩ : MethodName) jdk_42_method_56_code 2 (some .char) :: ws) ({ frames := 3, cells := 0, slots := 0, locals := 40 } : Room)) (fun a U => a = #[(.ref o0), (.int q0)] ∧ Z.Warmed39 U.vm ∧ U.heap = h0) (fun _ _ _ _ _ => True) (fun _ U o U' => ∃ v L, o = .returned v ∧ Q_rm_cha Z o0 cs sv ks nn vs q0 zz vv h0 n0 v U'.heap L ∧ FrameEnd U o U' L ({ frames := 3, cells := 0, slots := 0, locals := 40 } : Room).cells ({ frames := 3, cells := 0, slots := 0, locals := 40 } : Room).slots) := by
  refine MetFree.of_bodySF (plainFor_of_name pn_0) hisR ?_
  intro p e s m args below meth c s₁ Bd hml0 hP hK
  obtain ⟨rfl, hZ, hh⟩ := hP
  have hx := Bd.exec
  have hby := Bd.bytes
  have hml : c.maxLocals = 2 := hml0
  have hown : s.vm.findClass "java/lang/String" = some m.cls := findClass_of_methodNamed Bd.named
  have hnm := (name_of_methodNamed Bd.named Bd.method).1
  have X0 : Stand p l e ({ frames := 3, cells := 0, slots := 0, locals := 40 } : Room) s m #[(.ref o0), (.int q0)] below meth c s₁ [] 0 0 := Stand.of_body Bd
  have e0 : s₁.heap = h0 := by rw [← hh, Bd.state]; rfl
  have N0 := Fr.nil n0
  have K0 : Keep h0 h0 [] := Keep.refl _ _
  have R0 : Rch p e below (s₁.setTop (entryFrame m #[(.ref o0), (.int q0)] 2)) s₁ (mkF m 0 #[.val (.ref o0), .val (.int q0)] []) := fun t k => castTop (ef_rm_cha m o0 q0) k
  have R2 : Rch p e below (s₁.setTop (entryFrame m #[(.ref o0), (.int q0)] 2)) s₁ (mkF m 1 #[.val (.ref o0), .val (.int q0)] [(.ref o0)]) := fun t k => by
    refine R0 t ?_
    refine XS.aloadN X0.here hx rfl (hb hby d30_0) rfl rfl ?_
    exact k
  obtain ⟨cq1, kq1, q1a, q1b, q1c⟩ := isOf hZ e0 pE
  obtain ⟨_, _, ⟨T1, L1, k1, n1⟩, -, X1, ⟨Lc1, hQ1, l1, y1, z1⟩, st1⟩ := X0.virtualBack hx (y := (⟨"java/lang/String", "isLatin1", "()Z"⟩ : MethodName)) (z := (⟨"java/lang/String", "isLatin1", "()Z"⟩ : MethodName)) hown (mvT hZ (hw _ (List.mem_of_getElem? (i := 171) rfl))) (mvT hZ (hw _ (List.mem_of_getElem? (i := 172) rfl))) (notFace_of_selects (args := #[]) (mvT hZ (hw _ (List.mem_of_getElem? (i := 174) rfl)))) (mvT hZ (hw _ (List.mem_of_getElem? (i := 174) rfl))) (mvT hZ (hw _ (List.mem_of_getElem? (i := 173) rfl))) (by decide) (backOf (W := 0) (rm_islat l Z a0 hw [] o0 cs h0 n0 (Nat.le_trans Z0 K0.1) pS pcs pFc) hZ (hw _ (List.mem_of_getElem? (i := 175) rfl)) (hw _ (List.mem_of_getElem? (i := 6) rfl)) (by decide) (by decide)) q1a q1c (g := (mkF m 1 #[.val (.ref o0), .val (.int q0)] [(.ref o0)])) rfl (by rw [hml]; rfl) (Steps.refl _) (argsL := []) (rest := []) (lenOf pd_3 rfl) rfl (by show 2 * 0 + _ ≤ _; exact Nat.le_of_eq rfl) (hb hby d30_1) (fun _ _ => ⟨rfl, e0, (by decide : 0 + 0 ≤ _), (by decide : 0 + 0 ≤ _)⟩)
  dsimp only [Pt.U, Pt.locs, Pt.cells, Pt.slots] at X1 l1 y1 z1 st1 hQ1
  subst l1 y1 z1
  obtain ⟨rfl, N1q, e1⟩ := hQ1
  have N1 := Fr.app N0 N1q
  have R4 : Rch p e below (s₁.setTop (entryFrame m #[(.ref o0), (.int q0)] 2)) T1 (mkF m 8 #[.val (.ref o0), .val (.int q0)] [(.ref o0)]) := fun t k => by
    refine R2 t ?_
    refine st1.trans ?_
    show Steps p.tables e below (T1.setTop (mkF m 4 #[.val (.ref o0), .val (.int q0)] [(.int (1 : Int32))])) t
    refine XS.ifNo X1.here hx rfl (hb hby d30_4) rfl ((if0 _ _).trans (feq (by decide : ¬ ((1 : Int32) = (0 : Int32)))).1) ?_
    show Steps p.tables e below (T1.setTop (mkF m 7 #[.val (.ref o0), .val (.int q0)] [])) t
    refine XS.aloadN X1.here hx rfl (hb hby d30_7) rfl rfl ?_
    exact k
  obtain ⟨T3, X3, e3, st3⟩ := getF X1 hx hZ hown (host := "") (Or.inl (hw _ (List.mem_of_getElem? (i := 77) rfl))) Via.refl e1 pFv (g := (mkF m 8 #[.val (.ref o0), .val (.int q0)] [(.ref o0)])) rfl rfl (hb hby d30_8)
  have R6 : Rch p e below (s₁.setTop (entryFrame m #[(.ref o0), (.int q0)] 2)) T3 (mkF m 12 #[.val (.ref o0), .val (.int q0)] [(.int q0), (.ref sv)]) := fun t k => by
    refine R4 t ?_
    refine st3 _ ?_
    show Steps p.tables e below (T3.setTop (mkF m 11 #[.val (.ref o0), .val (.int q0)] [(.ref sv)])) t
    refine XS.iloadN X3.here hx rfl (hb hby d30_11) rfl ?_
    exact k
  obtain ⟨_, _, ⟨T5, L5, k5, n5⟩, -, X5, ⟨Lc5, hQ5, l5, y5, z5⟩, st5⟩ := Jvm.LawKit.callS X3 hx (y := (⟨"java/lang/StringLatin1", "charAt", "([BI)C"⟩ : MethodName)) hown (mvT hZ (hw _ (List.mem_of_getElem? (i := 176) rfl))) (mvT hZ (hw _ (List.mem_of_getElem? (i := 177) rfl))) (mvT hZ (hw _ (List.mem_of_getElem? (i := 178) rfl))) (mvT hZ (hw _ (List.mem_of_getElem? (i := 179) rfl))) (by decide) (backOf (W := 0) (rm_lch l Z a0 hw [] sv ks nn vs q0 zz vv h0 n0 (Nat.le_trans Z0 K0.1) pV pin pat pz pvv pSF) hZ (hw _ (List.mem_of_getElem? (i := 179) rfl)) (hw _ (List.mem_of_getElem? (i := 178) rfl)) (by decide) (by decide)) (g := (mkF m 12 #[.val (.ref o0), .val (.int q0)] [(.int q0), (.ref sv)])) rfl (by rw [hml]; rfl) (argsL := [(.ref sv), (.int q0)]) (rest := []) (lenOf pd_4 rfl) rfl (by show 2 * 0 + _ ≤ _; exact Nat.le_of_eq rfl) (hb hby d30_12) (fun _ _ => ⟨rfl, e3, (by decide : 0 + 0 ≤ _), (by decide : 0 + 0 ≤ _)⟩)
  dsimp only [Pt.U, Pt.locs, Pt.cells, Pt.slots] at X5 l5 y5 z5 st5 hQ5
  subst l5 y5 z5
  obtain ⟨rfl, N5q, e5⟩ := hQ5
  have N5 := Fr.app N1 N5q
  have R7 : Rch p e below (s₁.setTop (entryFrame m #[(.ref o0), (.int q0)] 2)) T5 (mkF m 15 #[.val (.ref o0), .val (.int q0)] [(.int zz)]) := fun t k => by
    refine R6 t ?_
    refine st5 _ ?_
    exact k
  obtain ⟨fs, hr, hrun, hended, hW, hsame⟩ := X5.leave (v := some (.int zz)) (fun h => by rw [Bd.returns] at h; cases h) (BodyLoose.notSynchronized Bd)
  refine ⟨_, _, R7 _ ?_, hrun, hended, _, _, rfl, ?_, ⟨_, rfl⟩, hW, hsame.mono (by decide) (by decide)⟩
  · exact retN X5 hx (t := .char) Bd.returns (by simp) (hb hby d30_15) (by rw [own_nar_c pz]; exact hr)
  · show Q_rm_cha Z o0 cs sv ks nn vs q0 zz vv h0 n0 _ T5.heap _
    rw [e5]
    exact ⟨rfl, N5, rfl⟩
theorem d28_0 : decode method_2_code 0 = .ok (.iload_n 0, 1) := by decide +kernel
theorem d28_1 : decode method_2_code 1 = .ok (.bipush 10, 2) := by decide +kernel
theorem d28_3 : decode method_2_code 3 = .ok (.if_icmp .ge 5, 3) := by decide +kernel
theorem d28_6 : decode method_2_code 6 = .ok (.iconst 1, 1) := by decide +kernel
theorem d28_7 : decode method_2_code 7 = .ok (.ireturn, 1) := by decide +kernel
theorem d28_8 : decode method_2_code 8 = .ok (.iload_n 0, 1) := by decide +kernel
theorem d28_9 : decode method_2_code 9 = .ok (.bipush 100, 2) := by decide +kernel
theorem d28_11 : decode method_2_code 11 = .ok (.if_icmp .ge 5, 3) := by decide +kernel
theorem d28_14 : decode method_2_code 14 = .ok (.iconst 2, 1) := by decide +kernel
theorem d28_15 : decode method_2_code 15 = .ok (.ireturn, 1) := by decide +kernel
theorem d28_16 : decode method_2_code 16 = .ok (.iload_n 0, 1) := by decide +kernel
theorem d28_17 : decode method_2_code 17 = .ok (.sipush 1000, 3) := by decide +kernel
theorem d28_20 : decode method_2_code 20 = .ok (.if_icmp .ge 5, 3) := by decide +kernel
theorem d28_23 : decode method_2_code 23 = .ok (.iconst 3, 1) := by decide +kernel
theorem d28_24 : decode method_2_code 24 = .ok (.ireturn, 1) := by decide +kernel
theorem d28_25 : decode method_2_code 25 = .ok (.iload_n 0, 1) := by decide +kernel
theorem d28_26 : decode method_2_code 26 = .ok (.sipush 10000, 3) := by decide +kernel
theorem d28_29 : decode method_2_code 29 = .ok (.if_icmp .ge 5, 3) := by decide +kernel
theorem d28_32 : decode method_2_code 32 = .ok (.iconst 4, 1) := by decide +kernel
theorem d28_33 : decode method_2_code 33 = .ok (.ireturn, 1) := by decide +kernel
theorem d28_34 : decode method_2_code 34 = .ok (.iload_n 0, 1) := by decide +kernel
theorem d28_35 : decode method_2_code 35 = .ok (.ldc 7, 2) := by decide +kernel
theorem d28_37 : decode method_2_code 37 = .ok (.if_icmp .ge 5, 3) := by decide +kernel
theorem d28_40 : decode method_2_code 40 = .ok (.iconst 5, 1) := by decide +kernel
theorem d28_41 : decode method_2_code 41 = .ok (.ireturn, 1) := by decide +kernel
theorem d28_42 : decode method_2_code 42 = .ok (.iload_n 0, 1) := by decide +kernel
theorem d28_43 : decode method_2_code 43 = .ok (.ldc 8, 2) := by decide +kernel
theorem d28_45 : decode method_2_code 45 = .ok (.if_icmp .ge 6, 3) := by decide +kernel
theorem d28_48 : decode method_2_code 48 = .ok (.bipush 6, 2) := by decide +kernel
theorem d28_50 : decode method_2_code 50 = .ok (.ireturn, 1) := by decide +kernel
theorem d28_51 : decode method_2_code 51 = .ok (.iload_n 0, 1) := by decide +kernel
theorem d28_52 : decode method_2_code 52 = .ok (.ldc 9, 2) := by decide +kernel
theorem d28_54 : decode method_2_code 54 = .ok (.if_icmp .ge 6, 3) := by decide +kernel
theorem d28_57 : decode method_2_code 57 = .ok (.bipush 7, 2) := by decide +kernel
theorem d28_59 : decode method_2_code 59 = .ok (.ireturn, 1) := by decide +kernel
theorem d28_60 : decode method_2_code 60 = .ok (.iload_n 0, 1) := by decide +kernel
theorem d28_61 : decode method_2_code 61 = .ok (.ldc 10, 2) := by decide +kernel
theorem d28_63 : decode method_2_code 63 = .ok (.if_icmp .ge 6, 3) := by decide +kernel
theorem d28_66 : decode method_2_code 66 = .ok (.bipush 8, 2) := by decide +kernel
theorem d28_68 : decode method_2_code 68 = .ok (.ireturn, 1) := by decide +kernel
theorem d28_69 : decode method_2_code 69 = .ok (.iload_n 0, 1) := by decide +kernel
theorem d28_70 : decode method_2_code 70 = .ok (.ldc 11, 2) := by decide +kernel
theorem d28_72 : decode method_2_code 72 = .ok (.if_icmp .ge 6, 3) := by decide +kernel
theorem d28_75 : decode method_2_code 75 = .ok (.bipush 9, 2) := by decide +kernel
theorem d28_77 : decode method_2_code 77 = .ok (.ireturn, 1) := by decide +kernel
theorem d28_78 : decode method_2_code 78 = .ok (.bipush 10, 2) := by decide +kernel
theorem d28_80 : decode method_2_code 80 = .ok (.ireturn, 1) := by decide +kernel
theorem ef_rm_digits (m : MethodId) (x0 : Int32) : entryFrame m #[(.int x0)] 1 = mkF m 0 #[.val (.int x0)] [] := by first | (simp [entryFrame, mkF, argsToLocals, Value.category]; done) | rfl
theorem pn_3 : plainName "com/example/clausewright/clausewright/OrdinalPrintPinLaw" = true := by first | (simp [plainName, overriddenIn]; done) | decide +kernel
def Q_rm_digits (Z : State) (q0 : Int32) (h0 : Heap) (n0 : Nat) (v : Option Value) (h : Heap) (L : List Loc) : Prop := (v = some (.int (own_dg q0))) ∧ (Fr n0 L) ∧ (h = h0)
set_option maxRecDepth 65536 in
set_option maxHeartbeats 40000000 in
theorem rm_digits (l : Launch) (Z : State) (a0 : Array Value) (hw : ∀ d ∈ tables_1, d.before a0 Z = true) (ws : List Jvm.Cond) (q0 : Int32) (h0 : Heap) (n0 : Nat) (Z0 : n0 ≤ h0.size)  :
    MetFree l (⟨"com/example/clausewright/clausewright/OrdinalPrintPinLaw", "digits", "(I)I"⟩ : MethodName) (head1 (Jvm.Cond.code (⟨"com/example/clausewright/clausewright/OrdinalPrintPinLaw", "digits", "(I)I"⟩ : MethodName) method_2_code 1 (some .int) :: ws) ({ frames := 0, cells := 0, slots := 0, locals := 0 } : Room)) (fun a U => a = #[(.int q0)] ∧ Z.Warmed39 U.vm ∧ U.heap = h0) (fun _ _ _ _ _ => True) (fun _ U o U' => ∃ v L, o = .returned v ∧ Q_rm_digits Z q0 h0 n0 v U'.heap L ∧ FrameEnd U o U' L ({ frames := 0, cells := 0, slots := 0, locals := 0 } : Room).cells ({ frames := 0, cells := 0, slots := 0, locals := 0 } : Room).slots) := by
  refine MetFree.of_bodySF (plainFor_of_name pn_3) hisR ?_
  intro p e s m args below meth c s₁ Bd hml0 hP hK
  obtain ⟨rfl, hZ, hh⟩ := hP
  have hx := Bd.exec
  have hby := Bd.bytes
  have hml : c.maxLocals = 1 := hml0
  have hown : s.vm.findClass "com/example/clausewright/clausewright/OrdinalPrintPinLaw" = some m.cls := findClass_of_methodNamed Bd.named
  have hnm := (name_of_methodNamed Bd.named Bd.method).1
  have X0 : Stand p l e ({ frames := 0, cells := 0, slots := 0, locals := 0 } : Room) s m #[(.int q0)] below meth c s₁ [] 0 0 := Stand.of_body Bd
  have e0 : s₁.heap = h0 := by rw [← hh, Bd.state]; rfl
  have N0 := Fr.nil n0
  have K0 : Keep h0 h0 [] := Keep.refl _ _
  have R0 : Rch p e below (s₁.setTop (entryFrame m #[(.int q0)] 1)) s₁ (mkF m 0 #[.val (.int q0)] []) := fun t k => castTop (ef_rm_digits m q0) k
  have R2 : Rch p e below (s₁.setTop (entryFrame m #[(.int q0)] 1)) s₁ (mkF m 3 #[.val (.int q0)] [(.int (10 : Int32)), (.int q0)]) := fun t k => by
    refine R0 t ?_
    refine XS.iloadN X0.here hx rfl (hb hby d28_0) rfl ?_
    show Steps p.tables e below (s₁.setTop (mkF m 1 #[.val (.int q0)] [(.int q0)])) t
    refine XS.bipush X0.here hx rfl (hb hby d28_1) ?_
    exact k
  by_cases hc3_1 : q0 < (10 : Int32)
  · have R3 : Rch p e below (s₁.setTop (entryFrame m #[(.int q0)] 1)) s₁ (mkF m 7 #[.val (.int q0)] [(.int (1 : Int32))]) := fun t k => by
      refine R2 t ?_
      refine XS.icmpNo X0.here hx rfl (hb hby d28_3) rfl (tlt hc3_1).2.1 ?_
      show Steps p.tables e below (s₁.setTop (mkF m 6 #[.val (.int q0)] [])) t
      refine XS.iconst X0.here hx rfl (hb hby d28_6) ?_
      exact k
    obtain ⟨fs, hr, hrun, hended, hW, hsame⟩ := X0.leave (v := some (.int (1 : Int32))) (fun h => by rw [Bd.returns] at h; cases h) (BodyLoose.notSynchronized Bd)
    refine ⟨_, _, R3 _ ?_, hrun, hended, _, _, rfl, ?_, ⟨_, rfl⟩, hW, hsame.mono (by decide) (by decide)⟩
    · exact retI X0 hx Bd.returns (hb hby d28_7) hr
    · show Q_rm_digits Z q0 h0 n0 _ s₁.heap _
      rw [e0]
      exact ⟨own_i (by simp only [own_dg, hc3_1, ↓reduceIte]), N0, rfl⟩
  · have R5 : Rch p e below (s₁.setTop (entryFrame m #[(.int q0)] 1)) s₁ (mkF m 11 #[.val (.int q0)] [(.int (100 : Int32)), (.int q0)]) := fun t k => by
      refine R2 t ?_
      refine XS.icmpYes X0.here hx rfl (pc0 := 3) (pc' := 8) rfl (hb hby d28_3) rfl (flt hc3_1).2.1 (by decide) (by decide) ?_
      show Steps p.tables e below (s₁.setTop (mkF m 8 #[.val (.int q0)] [])) t
      refine XS.iloadN X0.here hx rfl (hb hby d28_8) rfl ?_
      show Steps p.tables e below (s₁.setTop (mkF m 9 #[.val (.int q0)] [(.int q0)])) t
      refine XS.bipush X0.here hx rfl (hb hby d28_9) ?_
      exact k
    by_cases hc11_4 : q0 < (100 : Int32)
    · have R6 : Rch p e below (s₁.setTop (entryFrame m #[(.int q0)] 1)) s₁ (mkF m 15 #[.val (.int q0)] [(.int (2 : Int32))]) := fun t k => by
        refine R5 t ?_
        refine XS.icmpNo X0.here hx rfl (hb hby d28_11) rfl (tlt hc11_4).2.1 ?_
        show Steps p.tables e below (s₁.setTop (mkF m 14 #[.val (.int q0)] [])) t
        refine XS.iconst X0.here hx rfl (hb hby d28_14) ?_
        exact k
      obtain ⟨fs, hr, hrun, hended, hW, hsame⟩ := X0.leave (v := some (.int (2 : Int32))) (fun h => by rw [Bd.returns] at h; cases h) (BodyLoose.notSynchronized Bd)
      refine ⟨_, _, R6 _ ?_, hrun, hended, _, _, rfl, ?_, ⟨_, rfl⟩, hW, hsame.mono (by decide) (by decide)⟩
      · exact retI X0 hx Bd.returns (hb hby d28_15) hr
      · show Q_rm_digits Z q0 h0 n0 _ s₁.heap _
        rw [e0]
        exact ⟨own_i (by simp only [own_dg, hc3_1, hc11_4, ↓reduceIte]), N0, rfl⟩
    · have R8 : Rch p e below (s₁.setTop (entryFrame m #[(.int q0)] 1)) s₁ (mkF m 20 #[.val (.int q0)] [(.int (1000 : Int32)), (.int q0)]) := fun t k => by
        refine R5 t ?_
        refine XS.icmpYes X0.here hx rfl (pc0 := 11) (pc' := 16) rfl (hb hby d28_11) rfl (flt hc11_4).2.1 (by decide) (by decide) ?_
        show Steps p.tables e below (s₁.setTop (mkF m 16 #[.val (.int q0)] [])) t
        refine XS.iloadN X0.here hx rfl (hb hby d28_16) rfl ?_
        show Steps p.tables e below (s₁.setTop (mkF m 17 #[.val (.int q0)] [(.int q0)])) t
        refine XS.sipush X0.here hx rfl (hb hby d28_17) ?_
        exact k
      by_cases hc20_7 : q0 < (1000 : Int32)
      · have R9 : Rch p e below (s₁.setTop (entryFrame m #[(.int q0)] 1)) s₁ (mkF m 24 #[.val (.int q0)] [(.int (3 : Int32))]) := fun t k => by
          refine R8 t ?_
          refine XS.icmpNo X0.here hx rfl (hb hby d28_20) rfl (tlt hc20_7).2.1 ?_
          show Steps p.tables e below (s₁.setTop (mkF m 23 #[.val (.int q0)] [])) t
          refine XS.iconst X0.here hx rfl (hb hby d28_23) ?_
          exact k
        obtain ⟨fs, hr, hrun, hended, hW, hsame⟩ := X0.leave (v := some (.int (3 : Int32))) (fun h => by rw [Bd.returns] at h; cases h) (BodyLoose.notSynchronized Bd)
        refine ⟨_, _, R9 _ ?_, hrun, hended, _, _, rfl, ?_, ⟨_, rfl⟩, hW, hsame.mono (by decide) (by decide)⟩
        · exact retI X0 hx Bd.returns (hb hby d28_24) hr
        · show Q_rm_digits Z q0 h0 n0 _ s₁.heap _
          rw [e0]
          exact ⟨own_i (by simp only [own_dg, hc3_1, hc11_4, hc20_7, ↓reduceIte]), N0, rfl⟩
      · have R11 : Rch p e below (s₁.setTop (entryFrame m #[(.int q0)] 1)) s₁ (mkF m 29 #[.val (.int q0)] [(.int (10000 : Int32)), (.int q0)]) := fun t k => by
          refine R8 t ?_
          refine XS.icmpYes X0.here hx rfl (pc0 := 20) (pc' := 25) rfl (hb hby d28_20) rfl (flt hc20_7).2.1 (by decide) (by decide) ?_
          show Steps p.tables e below (s₁.setTop (mkF m 25 #[.val (.int q0)] [])) t
          refine XS.iloadN X0.here hx rfl (hb hby d28_25) rfl ?_
          show Steps p.tables e below (s₁.setTop (mkF m 26 #[.val (.int q0)] [(.int q0)])) t
          refine XS.sipush X0.here hx rfl (hb hby d28_26) ?_
          exact k
        by_cases hc29_10 : q0 < (10000 : Int32)
        · have R12 : Rch p e below (s₁.setTop (entryFrame m #[(.int q0)] 1)) s₁ (mkF m 33 #[.val (.int q0)] [(.int (4 : Int32))]) := fun t k => by
            refine R11 t ?_
            refine XS.icmpNo X0.here hx rfl (hb hby d28_29) rfl (tlt hc29_10).2.1 ?_
            show Steps p.tables e below (s₁.setTop (mkF m 32 #[.val (.int q0)] [])) t
            refine XS.iconst X0.here hx rfl (hb hby d28_32) ?_
            exact k
          obtain ⟨fs, hr, hrun, hended, hW, hsame⟩ := X0.leave (v := some (.int (4 : Int32))) (fun h => by rw [Bd.returns] at h; cases h) (BodyLoose.notSynchronized Bd)
          refine ⟨_, _, R12 _ ?_, hrun, hended, _, _, rfl, ?_, ⟨_, rfl⟩, hW, hsame.mono (by decide) (by decide)⟩
          · exact retI X0 hx Bd.returns (hb hby d28_33) hr
          · show Q_rm_digits Z q0 h0 n0 _ s₁.heap _
            rw [e0]
            exact ⟨own_i (by simp only [own_dg, hc3_1, hc11_4, hc20_7, hc29_10, ↓reduceIte]), N0, rfl⟩
        · have R14 : Rch p e below (s₁.setTop (entryFrame m #[(.int q0)] 1)) s₁ (mkF m 37 #[.val (.int q0)] [(.int (100000 : Int32)), (.int q0)]) := fun t k => by
            refine R11 t ?_
            refine XS.icmpYes X0.here hx rfl (pc0 := 29) (pc' := 34) rfl (hb hby d28_29) rfl (flt hc29_10).2.1 (by decide) (by decide) ?_
            show Steps p.tables e below (s₁.setTop (mkF m 34 #[.val (.int q0)] [])) t
            refine XS.iloadN X0.here hx rfl (hb hby d28_34) rfl ?_
            show Steps p.tables e below (s₁.setTop (mkF m 35 #[.val (.int q0)] [(.int q0)])) t
            refine X0.ldcInt hx hown (mvT hZ (hw _ (List.mem_of_getElem? (i := 190) rfl))) (g := (mkF m 35 #[.val (.int q0)] [(.int q0)])) rfl (hb hby d28_35) _ ?_
            exact k
          by_cases hc37_13 : q0 < (100000 : Int32)
          · have R15 : Rch p e below (s₁.setTop (entryFrame m #[(.int q0)] 1)) s₁ (mkF m 41 #[.val (.int q0)] [(.int (5 : Int32))]) := fun t k => by
              refine R14 t ?_
              refine XS.icmpNo X0.here hx rfl (hb hby d28_37) rfl (tlt hc37_13).2.1 ?_
              show Steps p.tables e below (s₁.setTop (mkF m 40 #[.val (.int q0)] [])) t
              refine XS.iconst X0.here hx rfl (hb hby d28_40) ?_
              exact k
            obtain ⟨fs, hr, hrun, hended, hW, hsame⟩ := X0.leave (v := some (.int (5 : Int32))) (fun h => by rw [Bd.returns] at h; cases h) (BodyLoose.notSynchronized Bd)
            refine ⟨_, _, R15 _ ?_, hrun, hended, _, _, rfl, ?_, ⟨_, rfl⟩, hW, hsame.mono (by decide) (by decide)⟩
            · exact retI X0 hx Bd.returns (hb hby d28_41) hr
            · show Q_rm_digits Z q0 h0 n0 _ s₁.heap _
              rw [e0]
              exact ⟨own_i (by simp only [own_dg, hc3_1, hc11_4, hc20_7, hc29_10, hc37_13, ↓reduceIte]), N0, rfl⟩
          · have R17 : Rch p e below (s₁.setTop (entryFrame m #[(.int q0)] 1)) s₁ (mkF m 45 #[.val (.int q0)] [(.int (1000000 : Int32)), (.int q0)]) := fun t k => by
              refine R14 t ?_
              refine XS.icmpYes X0.here hx rfl (pc0 := 37) (pc' := 42) rfl (hb hby d28_37) rfl (flt hc37_13).2.1 (by decide) (by decide) ?_
              show Steps p.tables e below (s₁.setTop (mkF m 42 #[.val (.int q0)] [])) t
              refine XS.iloadN X0.here hx rfl (hb hby d28_42) rfl ?_
              show Steps p.tables e below (s₁.setTop (mkF m 43 #[.val (.int q0)] [(.int q0)])) t
              refine X0.ldcInt hx hown (mvT hZ (hw _ (List.mem_of_getElem? (i := 191) rfl))) (g := (mkF m 43 #[.val (.int q0)] [(.int q0)])) rfl (hb hby d28_43) _ ?_
              exact k
            by_cases hc45_16 : q0 < (1000000 : Int32)
            · have R18 : Rch p e below (s₁.setTop (entryFrame m #[(.int q0)] 1)) s₁ (mkF m 50 #[.val (.int q0)] [(.int (6 : Int32))]) := fun t k => by
                refine R17 t ?_
                refine XS.icmpNo X0.here hx rfl (hb hby d28_45) rfl (tlt hc45_16).2.1 ?_
                show Steps p.tables e below (s₁.setTop (mkF m 48 #[.val (.int q0)] [])) t
                refine XS.bipush X0.here hx rfl (hb hby d28_48) ?_
                exact k
              obtain ⟨fs, hr, hrun, hended, hW, hsame⟩ := X0.leave (v := some (.int (6 : Int32))) (fun h => by rw [Bd.returns] at h; cases h) (BodyLoose.notSynchronized Bd)
              refine ⟨_, _, R18 _ ?_, hrun, hended, _, _, rfl, ?_, ⟨_, rfl⟩, hW, hsame.mono (by decide) (by decide)⟩
              · exact retI X0 hx Bd.returns (hb hby d28_50) hr
              · show Q_rm_digits Z q0 h0 n0 _ s₁.heap _
                rw [e0]
                exact ⟨own_i (by simp only [own_dg, hc3_1, hc11_4, hc20_7, hc29_10, hc37_13, hc45_16, ↓reduceIte]), N0, rfl⟩
            · have R20 : Rch p e below (s₁.setTop (entryFrame m #[(.int q0)] 1)) s₁ (mkF m 54 #[.val (.int q0)] [(.int (10000000 : Int32)), (.int q0)]) := fun t k => by
                refine R17 t ?_
                refine XS.icmpYes X0.here hx rfl (pc0 := 45) (pc' := 51) rfl (hb hby d28_45) rfl (flt hc45_16).2.1 (by decide) (by decide) ?_
                show Steps p.tables e below (s₁.setTop (mkF m 51 #[.val (.int q0)] [])) t
                refine XS.iloadN X0.here hx rfl (hb hby d28_51) rfl ?_
                show Steps p.tables e below (s₁.setTop (mkF m 52 #[.val (.int q0)] [(.int q0)])) t
                refine X0.ldcInt hx hown (mvT hZ (hw _ (List.mem_of_getElem? (i := 192) rfl))) (g := (mkF m 52 #[.val (.int q0)] [(.int q0)])) rfl (hb hby d28_52) _ ?_
                exact k
              by_cases hc54_19 : q0 < (10000000 : Int32)
              · have R21 : Rch p e below (s₁.setTop (entryFrame m #[(.int q0)] 1)) s₁ (mkF m 59 #[.val (.int q0)] [(.int (7 : Int32))]) := fun t k => by
                  refine R20 t ?_
                  refine XS.icmpNo X0.here hx rfl (hb hby d28_54) rfl (tlt hc54_19).2.1 ?_
                  show Steps p.tables e below (s₁.setTop (mkF m 57 #[.val (.int q0)] [])) t
                  refine XS.bipush X0.here hx rfl (hb hby d28_57) ?_
                  exact k
                obtain ⟨fs, hr, hrun, hended, hW, hsame⟩ := X0.leave (v := some (.int (7 : Int32))) (fun h => by rw [Bd.returns] at h; cases h) (BodyLoose.notSynchronized Bd)
                refine ⟨_, _, R21 _ ?_, hrun, hended, _, _, rfl, ?_, ⟨_, rfl⟩, hW, hsame.mono (by decide) (by decide)⟩
                · exact retI X0 hx Bd.returns (hb hby d28_59) hr
                · show Q_rm_digits Z q0 h0 n0 _ s₁.heap _
                  rw [e0]
                  exact ⟨own_i (by simp only [own_dg, hc3_1, hc11_4, hc20_7, hc29_10, hc37_13, hc45_16, hc54_19, ↓reduceIte]), N0, rfl⟩
              · have R23 : Rch p e below (s₁.setTop (entryFrame m #[(.int q0)] 1)) s₁ (mkF m 63 #[.val (.int q0)] [(.int (100000000 : Int32)), (.int q0)]) := fun t k => by
                  refine R20 t ?_
                  refine XS.icmpYes X0.here hx rfl (pc0 := 54) (pc' := 60) rfl (hb hby d28_54) rfl (flt hc54_19).2.1 (by decide) (by decide) ?_
                  show Steps p.tables e below (s₁.setTop (mkF m 60 #[.val (.int q0)] [])) t
                  refine XS.iloadN X0.here hx rfl (hb hby d28_60) rfl ?_
                  show Steps p.tables e below (s₁.setTop (mkF m 61 #[.val (.int q0)] [(.int q0)])) t
                  refine X0.ldcInt hx hown (mvT hZ (hw _ (List.mem_of_getElem? (i := 193) rfl))) (g := (mkF m 61 #[.val (.int q0)] [(.int q0)])) rfl (hb hby d28_61) _ ?_
                  exact k
                by_cases hc63_22 : q0 < (100000000 : Int32)
                · have R24 : Rch p e below (s₁.setTop (entryFrame m #[(.int q0)] 1)) s₁ (mkF m 68 #[.val (.int q0)] [(.int (8 : Int32))]) := fun t k => by
                    refine R23 t ?_
                    refine XS.icmpNo X0.here hx rfl (hb hby d28_63) rfl (tlt hc63_22).2.1 ?_
                    show Steps p.tables e below (s₁.setTop (mkF m 66 #[.val (.int q0)] [])) t
                    refine XS.bipush X0.here hx rfl (hb hby d28_66) ?_
                    exact k
                  obtain ⟨fs, hr, hrun, hended, hW, hsame⟩ := X0.leave (v := some (.int (8 : Int32))) (fun h => by rw [Bd.returns] at h; cases h) (BodyLoose.notSynchronized Bd)
                  refine ⟨_, _, R24 _ ?_, hrun, hended, _, _, rfl, ?_, ⟨_, rfl⟩, hW, hsame.mono (by decide) (by decide)⟩
                  · exact retI X0 hx Bd.returns (hb hby d28_68) hr
                  · show Q_rm_digits Z q0 h0 n0 _ s₁.heap _
                    rw [e0]
                    exact ⟨own_i (by simp only [own_dg, hc3_1, hc11_4, hc20_7, hc29_10, hc37_13, hc45_16, hc54_19, hc63_22, ↓reduceIte]), N0, rfl⟩
                · have R26 : Rch p e below (s₁.setTop (entryFrame m #[(.int q0)] 1)) s₁ (mkF m 72 #[.val (.int q0)] [(.int (1000000000 : Int32)), (.int q0)]) := fun t k => by
                    refine R23 t ?_
                    refine XS.icmpYes X0.here hx rfl (pc0 := 63) (pc' := 69) rfl (hb hby d28_63) rfl (flt hc63_22).2.1 (by decide) (by decide) ?_
                    show Steps p.tables e below (s₁.setTop (mkF m 69 #[.val (.int q0)] [])) t
                    refine XS.iloadN X0.here hx rfl (hb hby d28_69) rfl ?_
                    show Steps p.tables e below (s₁.setTop (mkF m 70 #[.val (.int q0)] [(.int q0)])) t
                    refine X0.ldcInt hx hown (mvT hZ (hw _ (List.mem_of_getElem? (i := 194) rfl))) (g := (mkF m 70 #[.val (.int q0)] [(.int q0)])) rfl (hb hby d28_70) _ ?_
                    exact k
                  by_cases hc72_25 : q0 < (1000000000 : Int32)
                  · have R27 : Rch p e below (s₁.setTop (entryFrame m #[(.int q0)] 1)) s₁ (mkF m 77 #[.val (.int q0)] [(.int (9 : Int32))]) := fun t k => by
                      refine R26 t ?_
                      refine XS.icmpNo X0.here hx rfl (hb hby d28_72) rfl (tlt hc72_25).2.1 ?_
                      show Steps p.tables e below (s₁.setTop (mkF m 75 #[.val (.int q0)] [])) t
                      refine XS.bipush X0.here hx rfl (hb hby d28_75) ?_
                      exact k
                    obtain ⟨fs, hr, hrun, hended, hW, hsame⟩ := X0.leave (v := some (.int (9 : Int32))) (fun h => by rw [Bd.returns] at h; cases h) (BodyLoose.notSynchronized Bd)
                    refine ⟨_, _, R27 _ ?_, hrun, hended, _, _, rfl, ?_, ⟨_, rfl⟩, hW, hsame.mono (by decide) (by decide)⟩
                    · exact retI X0 hx Bd.returns (hb hby d28_77) hr
                    · show Q_rm_digits Z q0 h0 n0 _ s₁.heap _
                      rw [e0]
                      exact ⟨own_i (by simp only [own_dg, hc3_1, hc11_4, hc20_7, hc29_10, hc37_13, hc45_16, hc54_19, hc63_22, hc72_25, ↓reduceIte]), N0, rfl⟩
                  · have R28 : Rch p e below (s₁.setTop (entryFrame m #[(.int q0)] 1)) s₁ (mkF m 80 #[.val (.int q0)] [(.int (10 : Int32))]) := fun t k => by
                      refine R26 t ?_
                      refine XS.icmpYes X0.here hx rfl (pc0 := 72) (pc' := 78) rfl (hb hby d28_72) rfl (flt hc72_25).2.1 (by decide) (by decide) ?_
                      show Steps p.tables e below (s₁.setTop (mkF m 78 #[.val (.int q0)] [])) t
                      refine XS.bipush X0.here hx rfl (hb hby d28_78) ?_
                      exact k
                    obtain ⟨fs, hr, hrun, hended, hW, hsame⟩ := X0.leave (v := some (.int (10 : Int32))) (fun h => by rw [Bd.returns] at h; cases h) (BodyLoose.notSynchronized Bd)
                    refine ⟨_, _, R28 _ ?_, hrun, hended, _, _, rfl, ?_, ⟨_, rfl⟩, hW, hsame.mono (by decide) (by decide)⟩
                    · exact retI X0 hx Bd.returns (hb hby d28_80) hr
                    · show Q_rm_digits Z q0 h0 n0 _ s₁.heap _
                      rw [e0]
                      exact ⟨own_i (by simp only [own_dg, hc3_1, hc11_4, hc20_7, hc29_10, hc37_13, hc45_16, hc54_19, hc63_22, hc72_25, ↓reduceIte]), N0, rfl⟩
theorem d7_0 : decode jdk_33_method_13_code 0 = .ok (.iconst 1, 1) := by decide +kernel
theorem d7_1 : decode jdk_33_method_13_code 1 = .ok (.istore_n 1, 1) := by decide +kernel
theorem d7_2 : decode jdk_33_method_13_code 2 = .ok (.iload_n 0, 1) := by decide +kernel
theorem d7_3 : decode jdk_33_method_13_code 3 = .ok (.ifCond .lt 8, 3) := by decide +kernel
theorem d7_6 : decode jdk_33_method_13_code 6 = .ok (.iconst 0, 1) := by decide +kernel
theorem d7_7 : decode jdk_33_method_13_code 7 = .ok (.istore_n 1, 1) := by decide +kernel
theorem d7_8 : decode jdk_33_method_13_code 8 = .ok (.iload_n 0, 1) := by decide +kernel
theorem d7_9 : decode jdk_33_method_13_code 9 = .ok (.ineg, 1) := by decide +kernel
theorem d7_10 : decode jdk_33_method_13_code 10 = .ok (.istore_n 0, 1) := by decide +kernel
theorem d7_11 : decode jdk_33_method_13_code 11 = .ok (.bipush (-10), 2) := by decide +kernel
theorem d7_13 : decode jdk_33_method_13_code 13 = .ok (.istore_n 2, 1) := by decide +kernel
theorem d7_14 : decode jdk_33_method_13_code 14 = .ok (.iconst 1, 1) := by decide +kernel
theorem d7_15 : decode jdk_33_method_13_code 15 = .ok (.istore_n 3, 1) := by decide +kernel
theorem d7_16 : decode jdk_33_method_13_code 16 = .ok (.iload_n 3, 1) := by decide +kernel
theorem d7_17 : decode jdk_33_method_13_code 17 = .ok (.bipush 10, 2) := by decide +kernel
theorem d7_19 : decode jdk_33_method_13_code 19 = .ok (.if_icmp .ge 23, 3) := by decide +kernel
theorem d7_22 : decode jdk_33_method_13_code 22 = .ok (.iload_n 0, 1) := by decide +kernel
theorem d7_23 : decode jdk_33_method_13_code 23 = .ok (.iload_n 2, 1) := by decide +kernel
theorem d7_24 : decode jdk_33_method_13_code 24 = .ok (.if_icmp .le 7, 3) := by decide +kernel
theorem d7_27 : decode jdk_33_method_13_code 27 = .ok (.iload_n 3, 1) := by decide +kernel
theorem d7_28 : decode jdk_33_method_13_code 28 = .ok (.iload_n 1, 1) := by decide +kernel
theorem d7_29 : decode jdk_33_method_13_code 29 = .ok (.iadd, 1) := by decide +kernel
theorem d7_30 : decode jdk_33_method_13_code 30 = .ok (.ireturn, 1) := by decide +kernel
theorem d7_31 : decode jdk_33_method_13_code 31 = .ok (.bipush 10, 2) := by decide +kernel
theorem d7_33 : decode jdk_33_method_13_code 33 = .ok (.iload_n 2, 1) := by decide +kernel
theorem d7_34 : decode jdk_33_method_13_code 34 = .ok (.imul, 1) := by decide +kernel
theorem d7_35 : decode jdk_33_method_13_code 35 = .ok (.istore_n 2, 1) := by decide +kernel
theorem d7_36 : decode jdk_33_method_13_code 36 = .ok (.iinc 3 1, 3) := by decide +kernel
theorem d7_39 : decode jdk_33_method_13_code 39 = .ok (.goto (-23), 3) := by decide +kernel
theorem d7_42 : decode jdk_33_method_13_code 42 = .ok (.bipush 10, 2) := by decide +kernel
theorem d7_44 : decode jdk_33_method_13_code 44 = .ok (.iload_n 1, 1) := by decide +kernel
theorem d7_45 : decode jdk_33_method_13_code 45 = .ok (.iadd, 1) := by decide +kernel
theorem d7_46 : decode jdk_33_method_13_code 46 = .ok (.ireturn, 1) := by decide +kernel
theorem ef_rm_ssize (m : MethodId) (x0 : Int32) : entryFrame m #[(.int x0)] 4 = mkF m 0 #[.val (.int x0), .unset, .unset, .unset] [] := by first | (simp [entryFrame, mkF, argsToLocals, Value.category]; done) | rfl
theorem pn_4 : plainName "java/lang/Integer" = true := by first | (simp [plainName, overriddenIn]; done) | decide +kernel
def Q_rm_ssize (Z : State) (q0 : Int32) (h0 : Heap) (n0 : Nat) (v : Option Value) (h : Heap) (L : List Loc) : Prop := (v = some (.int (own_dg q0))) ∧ (Fr n0 L) ∧ (h = h0)
set_option maxRecDepth 65536 in
set_option maxHeartbeats 40000000 in
theorem rm_ssize (l : Launch) (Z : State) (a0 : Array Value) (hw : ∀ d ∈ tables_1, d.before a0 Z = true) (ws : List Jvm.Cond) (q0 : Int32) (h0 : Heap) (n0 : Nat) (Z0 : n0 ≤ h0.size) (hn : 0 ≤ q0.toInt) :
    MetFree l (⟨"java/lang/Integer", "stringSize", "(I)I"⟩ : MethodName) (head1 (Jvm.Cond.code (⟨"java/lang/Integer", "stringSize", "(I)I"⟩ : MethodName) jdk_33_method_13_code 4 (some .int) :: ws) ({ frames := 0, cells := 0, slots := 0, locals := 0 } : Room)) (fun a U => a = #[(.int q0)] ∧ Z.Warmed39 U.vm ∧ U.heap = h0) (fun _ _ _ _ _ => True) (fun _ U o U' => ∃ v L, o = .returned v ∧ Q_rm_ssize Z q0 h0 n0 v U'.heap L ∧ FrameEnd U o U' L ({ frames := 0, cells := 0, slots := 0, locals := 0 } : Room).cells ({ frames := 0, cells := 0, slots := 0, locals := 0 } : Room).slots) := by
  refine MetFree.of_bodySF (plainFor_of_name pn_4) hisR ?_
  intro p e s m args below meth c s₁ Bd hml0 hP hK
  obtain ⟨rfl, hZ, hh⟩ := hP
  have hx := Bd.exec
  have hby := Bd.bytes
  have hml : c.maxLocals = 4 := hml0
  have hown : s.vm.findClass "java/lang/Integer" = some m.cls := findClass_of_methodNamed Bd.named
  have hnm := (name_of_methodNamed Bd.named Bd.method).1
  have X0 : Stand p l e ({ frames := 0, cells := 0, slots := 0, locals := 0 } : Room) s m #[(.int q0)] below meth c s₁ [] 0 0 := Stand.of_body Bd
  have e0 : s₁.heap = h0 := by rw [← hh, Bd.state]; rfl
  have N0 := Fr.nil n0
  have K0 : Keep h0 h0 [] := Keep.refl _ _
  have R0 : Rch p e below (s₁.setTop (entryFrame m #[(.int q0)] 4)) s₁ (mkF m 0 #[.val (.int q0), .unset, .unset, .unset] []) := fun t k => castTop (ef_rm_ssize m q0) k
  have R2 : Rch p e below (s₁.setTop (entryFrame m #[(.int q0)] 4)) s₁ (mkF m 24 #[.val (.int (-q0)), .val (.int (0 : Int32)), .val (.int (-10 : Int32)), .val (.int (1 : Int32))] [(.int (-10 : Int32)), (.int (-q0))]) := fun t k => by
    refine R0 t ?_
    refine XS.iconst X0.here hx rfl (hb hby d7_0) ?_
    show Steps p.tables e below (s₁.setTop (mkF m 1 #[.val (.int q0), .unset, .unset, .unset] [(.int (1 : Int32))])) t
    refine XS.istoreN X0.here hx rfl (hb hby d7_1) rfl (l' := #[.val (.int q0), .val (.int (1 : Int32)), .unset, .unset]) rfl ?_
    show Steps p.tables e below (s₁.setTop (mkF m 2 #[.val (.int q0), .val (.int (1 : Int32)), .unset, .unset] [])) t
    refine XS.iloadN X0.here hx rfl (hb hby d7_2) rfl ?_
    show Steps p.tables e below (s₁.setTop (mkF m 3 #[.val (.int q0), .val (.int (1 : Int32)), .unset, .unset] [(.int q0)])) t
    refine XS.ifNo X0.here hx rfl (hb hby d7_3) rfl ((if0 _ _).trans (flt (own_ge0 hn)).1) ?_
    show Steps p.tables e below (s₁.setTop (mkF m 6 #[.val (.int q0), .val (.int (1 : Int32)), .unset, .unset] [])) t
    refine XS.iconst X0.here hx rfl (hb hby d7_6) ?_
    show Steps p.tables e below (s₁.setTop (mkF m 7 #[.val (.int q0), .val (.int (1 : Int32)), .unset, .unset] [(.int (0 : Int32))])) t
    refine XS.istoreN X0.here hx rfl (hb hby d7_7) rfl (l' := #[.val (.int q0), .val (.int (0 : Int32)), .unset, .unset]) rfl ?_
    show Steps p.tables e below (s₁.setTop (mkF m 8 #[.val (.int q0), .val (.int (0 : Int32)), .unset, .unset] [])) t
    refine XS.iloadN X0.here hx rfl (hb hby d7_8) rfl ?_
    show Steps p.tables e below (s₁.setTop (mkF m 9 #[.val (.int q0), .val (.int (0 : Int32)), .unset, .unset] [(.int q0)])) t
    refine XS.ineg X0.here hx rfl (hb hby d7_9) rfl ?_
    show Steps p.tables e below (s₁.setTop (mkF m 10 #[.val (.int q0), .val (.int (0 : Int32)), .unset, .unset] [(.int (-q0))])) t
    refine XS.istoreN X0.here hx rfl (hb hby d7_10) rfl (l' := #[.val (.int (-q0)), .val (.int (0 : Int32)), .unset, .unset]) rfl ?_
    show Steps p.tables e below (s₁.setTop (mkF m 11 #[.val (.int (-q0)), .val (.int (0 : Int32)), .unset, .unset] [])) t
    refine XS.bipush X0.here hx rfl (hb hby d7_11) ?_
    show Steps p.tables e below (s₁.setTop (mkF m 13 #[.val (.int (-q0)), .val (.int (0 : Int32)), .unset, .unset] [(.int (-10 : Int32))])) t
    refine XS.istoreN X0.here hx rfl (hb hby d7_13) rfl (l' := #[.val (.int (-q0)), .val (.int (0 : Int32)), .val (.int (-10 : Int32)), .unset]) rfl ?_
    show Steps p.tables e below (s₁.setTop (mkF m 14 #[.val (.int (-q0)), .val (.int (0 : Int32)), .val (.int (-10 : Int32)), .unset] [])) t
    refine XS.iconst X0.here hx rfl (hb hby d7_14) ?_
    show Steps p.tables e below (s₁.setTop (mkF m 15 #[.val (.int (-q0)), .val (.int (0 : Int32)), .val (.int (-10 : Int32)), .unset] [(.int (1 : Int32))])) t
    refine XS.istoreN X0.here hx rfl (hb hby d7_15) rfl (l' := #[.val (.int (-q0)), .val (.int (0 : Int32)), .val (.int (-10 : Int32)), .val (.int (1 : Int32))]) rfl ?_
    show Steps p.tables e below (s₁.setTop (mkF m 16 #[.val (.int (-q0)), .val (.int (0 : Int32)), .val (.int (-10 : Int32)), .val (.int (1 : Int32))] [])) t
    refine XS.iloadN X0.here hx rfl (hb hby d7_16) rfl ?_
    show Steps p.tables e below (s₁.setTop (mkF m 17 #[.val (.int (-q0)), .val (.int (0 : Int32)), .val (.int (-10 : Int32)), .val (.int (1 : Int32))] [(.int (1 : Int32))])) t
    refine XS.bipush X0.here hx rfl (hb hby d7_17) ?_
    show Steps p.tables e below (s₁.setTop (mkF m 19 #[.val (.int (-q0)), .val (.int (0 : Int32)), .val (.int (-10 : Int32)), .val (.int (1 : Int32))] [(.int (10 : Int32)), (.int (1 : Int32))])) t
    refine XS.icmpNo X0.here hx rfl (hb hby d7_19) rfl (tlt (by decide : (1 : Int32) < (10 : Int32))).2.1 ?_
    show Steps p.tables e below (s₁.setTop (mkF m 22 #[.val (.int (-q0)), .val (.int (0 : Int32)), .val (.int (-10 : Int32)), .val (.int (1 : Int32))] [])) t
    refine XS.iloadN X0.here hx rfl (hb hby d7_22) rfl ?_
    show Steps p.tables e below (s₁.setTop (mkF m 23 #[.val (.int (-q0)), .val (.int (0 : Int32)), .val (.int (-10 : Int32)), .val (.int (1 : Int32))] [(.int (-q0))])) t
    refine XS.iloadN X0.here hx rfl (hb hby d7_23) rfl ?_
    exact k
  by_cases hc24_1 : (-10 : Int32) < (-q0)
  · have R3 : Rch p e below (s₁.setTop (entryFrame m #[(.int q0)] 4)) s₁ (mkF m 30 #[.val (.int (-q0)), .val (.int (0 : Int32)), .val (.int (-10 : Int32)), .val (.int (1 : Int32))] [(.int (1 : Int32))]) := fun t k => by
      refine R2 t ?_
      refine XS.icmpNo X0.here hx rfl (hb hby d7_24) rfl (tlt hc24_1).2.2.2 ?_
      show Steps p.tables e below (s₁.setTop (mkF m 27 #[.val (.int (-q0)), .val (.int (0 : Int32)), .val (.int (-10 : Int32)), .val (.int (1 : Int32))] [])) t
      refine XS.iloadN X0.here hx rfl (hb hby d7_27) rfl ?_
      show Steps p.tables e below (s₁.setTop (mkF m 28 #[.val (.int (-q0)), .val (.int (0 : Int32)), .val (.int (-10 : Int32)), .val (.int (1 : Int32))] [(.int (1 : Int32))])) t
      refine XS.iloadN X0.here hx rfl (hb hby d7_28) rfl ?_
      show Steps p.tables e below (s₁.setTop (mkF m 29 #[.val (.int (-q0)), .val (.int (0 : Int32)), .val (.int (-10 : Int32)), .val (.int (1 : Int32))] [(.int (0 : Int32)), (.int (1 : Int32))])) t
      refine XS.iadd X0.here hx rfl (hb hby d7_29) rfl ?_
      exact k
    obtain ⟨fs, hr, hrun, hended, hW, hsame⟩ := X0.leave (v := some (.int (1 : Int32))) (fun h => by rw [Bd.returns] at h; cases h) (BodyLoose.notSynchronized Bd)
    refine ⟨_, _, R3 _ ?_, hrun, hended, _, _, rfl, ?_, ⟨_, rfl⟩, hW, hsame.mono (by decide) (by decide)⟩
    · exact retI X0 hx Bd.returns (hb hby d7_30) hr
    · show Q_rm_ssize Z q0 h0 n0 _ s₁.heap _
      rw [e0]
      exact ⟨own_i (by simp only [own_dg, (show q0 < (10 : Int32) from (own_neg_lt (a := (-10 : Int32)) (b := (10 : Int32)) hn (by decide)).mp hc24_1), ↓reduceIte]), N0, rfl⟩
  · have R5 : Rch p e below (s₁.setTop (entryFrame m #[(.int q0)] 4)) s₁ (mkF m 24 #[.val (.int (-q0)), .val (.int (0 : Int32)), .val (.int (-100 : Int32)), .val (.int (2 : Int32))] [(.int (-100 : Int32)), (.int (-q0))]) := fun t k => by
      refine R2 t ?_
      refine XS.icmpYes X0.here hx rfl (pc0 := 24) (pc' := 31) rfl (hb hby d7_24) rfl (flt hc24_1).2.2.2 (by decide) (by decide) ?_
      show Steps p.tables e below (s₁.setTop (mkF m 31 #[.val (.int (-q0)), .val (.int (0 : Int32)), .val (.int (-10 : Int32)), .val (.int (1 : Int32))] [])) t
      refine XS.bipush X0.here hx rfl (hb hby d7_31) ?_
      show Steps p.tables e below (s₁.setTop (mkF m 33 #[.val (.int (-q0)), .val (.int (0 : Int32)), .val (.int (-10 : Int32)), .val (.int (1 : Int32))] [(.int (10 : Int32))])) t
      refine XS.iloadN X0.here hx rfl (hb hby d7_33) rfl ?_
      show Steps p.tables e below (s₁.setTop (mkF m 34 #[.val (.int (-q0)), .val (.int (0 : Int32)), .val (.int (-10 : Int32)), .val (.int (1 : Int32))] [(.int (-10 : Int32)), (.int (10 : Int32))])) t
      refine XS.imul X0.here hx rfl (hb hby d7_34) rfl ?_
      show Steps p.tables e below (s₁.setTop (mkF m 35 #[.val (.int (-q0)), .val (.int (0 : Int32)), .val (.int (-10 : Int32)), .val (.int (1 : Int32))] [(.int (-100 : Int32))])) t
      refine XS.istoreN X0.here hx rfl (hb hby d7_35) rfl (l' := #[.val (.int (-q0)), .val (.int (0 : Int32)), .val (.int (-100 : Int32)), .val (.int (1 : Int32))]) rfl ?_
      show Steps p.tables e below (s₁.setTop (mkF m 36 #[.val (.int (-q0)), .val (.int (0 : Int32)), .val (.int (-100 : Int32)), .val (.int (1 : Int32))] [])) t
      refine XS.iinc X0.here hx rfl (hb hby d7_36) rfl (l' := #[.val (.int (-q0)), .val (.int (0 : Int32)), .val (.int (-100 : Int32)), .val (.int (2 : Int32))]) rfl ?_
      show Steps p.tables e below (s₁.setTop (mkF m 39 #[.val (.int (-q0)), .val (.int (0 : Int32)), .val (.int (-100 : Int32)), .val (.int (2 : Int32))] [])) t
      refine XS.goto X0.here hx rfl (pc0 := 39) (pc' := 16) rfl (hb hby d7_39) (by decide) (by decide) ?_
      show Steps p.tables e below (s₁.setTop (mkF m 16 #[.val (.int (-q0)), .val (.int (0 : Int32)), .val (.int (-100 : Int32)), .val (.int (2 : Int32))] [])) t
      refine XS.iloadN X0.here hx rfl (hb hby d7_16) rfl ?_
      show Steps p.tables e below (s₁.setTop (mkF m 17 #[.val (.int (-q0)), .val (.int (0 : Int32)), .val (.int (-100 : Int32)), .val (.int (2 : Int32))] [(.int (2 : Int32))])) t
      refine XS.bipush X0.here hx rfl (hb hby d7_17) ?_
      show Steps p.tables e below (s₁.setTop (mkF m 19 #[.val (.int (-q0)), .val (.int (0 : Int32)), .val (.int (-100 : Int32)), .val (.int (2 : Int32))] [(.int (10 : Int32)), (.int (2 : Int32))])) t
      refine XS.icmpNo X0.here hx rfl (hb hby d7_19) rfl (tlt (by decide : (2 : Int32) < (10 : Int32))).2.1 ?_
      show Steps p.tables e below (s₁.setTop (mkF m 22 #[.val (.int (-q0)), .val (.int (0 : Int32)), .val (.int (-100 : Int32)), .val (.int (2 : Int32))] [])) t
      refine XS.iloadN X0.here hx rfl (hb hby d7_22) rfl ?_
      show Steps p.tables e below (s₁.setTop (mkF m 23 #[.val (.int (-q0)), .val (.int (0 : Int32)), .val (.int (-100 : Int32)), .val (.int (2 : Int32))] [(.int (-q0))])) t
      refine XS.iloadN X0.here hx rfl (hb hby d7_23) rfl ?_
      exact k
    by_cases hc24_4 : (-100 : Int32) < (-q0)
    · have R6 : Rch p e below (s₁.setTop (entryFrame m #[(.int q0)] 4)) s₁ (mkF m 30 #[.val (.int (-q0)), .val (.int (0 : Int32)), .val (.int (-100 : Int32)), .val (.int (2 : Int32))] [(.int (2 : Int32))]) := fun t k => by
        refine R5 t ?_
        refine XS.icmpNo X0.here hx rfl (hb hby d7_24) rfl (tlt hc24_4).2.2.2 ?_
        show Steps p.tables e below (s₁.setTop (mkF m 27 #[.val (.int (-q0)), .val (.int (0 : Int32)), .val (.int (-100 : Int32)), .val (.int (2 : Int32))] [])) t
        refine XS.iloadN X0.here hx rfl (hb hby d7_27) rfl ?_
        show Steps p.tables e below (s₁.setTop (mkF m 28 #[.val (.int (-q0)), .val (.int (0 : Int32)), .val (.int (-100 : Int32)), .val (.int (2 : Int32))] [(.int (2 : Int32))])) t
        refine XS.iloadN X0.here hx rfl (hb hby d7_28) rfl ?_
        show Steps p.tables e below (s₁.setTop (mkF m 29 #[.val (.int (-q0)), .val (.int (0 : Int32)), .val (.int (-100 : Int32)), .val (.int (2 : Int32))] [(.int (0 : Int32)), (.int (2 : Int32))])) t
        refine XS.iadd X0.here hx rfl (hb hby d7_29) rfl ?_
        exact k
      obtain ⟨fs, hr, hrun, hended, hW, hsame⟩ := X0.leave (v := some (.int (2 : Int32))) (fun h => by rw [Bd.returns] at h; cases h) (BodyLoose.notSynchronized Bd)
      refine ⟨_, _, R6 _ ?_, hrun, hended, _, _, rfl, ?_, ⟨_, rfl⟩, hW, hsame.mono (by decide) (by decide)⟩
      · exact retI X0 hx Bd.returns (hb hby d7_30) hr
      · show Q_rm_ssize Z q0 h0 n0 _ s₁.heap _
        rw [e0]
        exact ⟨own_i (by simp only [own_dg, (show ¬ q0 < (10 : Int32) from fun q => hc24_1 ((own_neg_lt (a := (-10 : Int32)) (b := (10 : Int32)) hn (by decide)).mpr q)), (show q0 < (100 : Int32) from (own_neg_lt (a := (-100 : Int32)) (b := (100 : Int32)) hn (by decide)).mp hc24_4), ↓reduceIte]), N0, rfl⟩
    · have R8 : Rch p e below (s₁.setTop (entryFrame m #[(.int q0)] 4)) s₁ (mkF m 24 #[.val (.int (-q0)), .val (.int (0 : Int32)), .val (.int (-1000 : Int32)), .val (.int (3 : Int32))] [(.int (-1000 : Int32)), (.int (-q0))]) := fun t k => by
        refine R5 t ?_
        refine XS.icmpYes X0.here hx rfl (pc0 := 24) (pc' := 31) rfl (hb hby d7_24) rfl (flt hc24_4).2.2.2 (by decide) (by decide) ?_
        show Steps p.tables e below (s₁.setTop (mkF m 31 #[.val (.int (-q0)), .val (.int (0 : Int32)), .val (.int (-100 : Int32)), .val (.int (2 : Int32))] [])) t
        refine XS.bipush X0.here hx rfl (hb hby d7_31) ?_
        show Steps p.tables e below (s₁.setTop (mkF m 33 #[.val (.int (-q0)), .val (.int (0 : Int32)), .val (.int (-100 : Int32)), .val (.int (2 : Int32))] [(.int (10 : Int32))])) t
        refine XS.iloadN X0.here hx rfl (hb hby d7_33) rfl ?_
        show Steps p.tables e below (s₁.setTop (mkF m 34 #[.val (.int (-q0)), .val (.int (0 : Int32)), .val (.int (-100 : Int32)), .val (.int (2 : Int32))] [(.int (-100 : Int32)), (.int (10 : Int32))])) t
        refine XS.imul X0.here hx rfl (hb hby d7_34) rfl ?_
        show Steps p.tables e below (s₁.setTop (mkF m 35 #[.val (.int (-q0)), .val (.int (0 : Int32)), .val (.int (-100 : Int32)), .val (.int (2 : Int32))] [(.int (-1000 : Int32))])) t
        refine XS.istoreN X0.here hx rfl (hb hby d7_35) rfl (l' := #[.val (.int (-q0)), .val (.int (0 : Int32)), .val (.int (-1000 : Int32)), .val (.int (2 : Int32))]) rfl ?_
        show Steps p.tables e below (s₁.setTop (mkF m 36 #[.val (.int (-q0)), .val (.int (0 : Int32)), .val (.int (-1000 : Int32)), .val (.int (2 : Int32))] [])) t
        refine XS.iinc X0.here hx rfl (hb hby d7_36) rfl (l' := #[.val (.int (-q0)), .val (.int (0 : Int32)), .val (.int (-1000 : Int32)), .val (.int (3 : Int32))]) rfl ?_
        show Steps p.tables e below (s₁.setTop (mkF m 39 #[.val (.int (-q0)), .val (.int (0 : Int32)), .val (.int (-1000 : Int32)), .val (.int (3 : Int32))] [])) t
        refine XS.goto X0.here hx rfl (pc0 := 39) (pc' := 16) rfl (hb hby d7_39) (by decide) (by decide) ?_
        show Steps p.tables e below (s₁.setTop (mkF m 16 #[.val (.int (-q0)), .val (.int (0 : Int32)), .val (.int (-1000 : Int32)), .val (.int (3 : Int32))] [])) t
        refine XS.iloadN X0.here hx rfl (hb hby d7_16) rfl ?_
        show Steps p.tables e below (s₁.setTop (mkF m 17 #[.val (.int (-q0)), .val (.int (0 : Int32)), .val (.int (-1000 : Int32)), .val (.int (3 : Int32))] [(.int (3 : Int32))])) t
        refine XS.bipush X0.here hx rfl (hb hby d7_17) ?_
        show Steps p.tables e below (s₁.setTop (mkF m 19 #[.val (.int (-q0)), .val (.int (0 : Int32)), .val (.int (-1000 : Int32)), .val (.int (3 : Int32))] [(.int (10 : Int32)), (.int (3 : Int32))])) t
        refine XS.icmpNo X0.here hx rfl (hb hby d7_19) rfl (tlt (by decide : (3 : Int32) < (10 : Int32))).2.1 ?_
        show Steps p.tables e below (s₁.setTop (mkF m 22 #[.val (.int (-q0)), .val (.int (0 : Int32)), .val (.int (-1000 : Int32)), .val (.int (3 : Int32))] [])) t
        refine XS.iloadN X0.here hx rfl (hb hby d7_22) rfl ?_
        show Steps p.tables e below (s₁.setTop (mkF m 23 #[.val (.int (-q0)), .val (.int (0 : Int32)), .val (.int (-1000 : Int32)), .val (.int (3 : Int32))] [(.int (-q0))])) t
        refine XS.iloadN X0.here hx rfl (hb hby d7_23) rfl ?_
        exact k
      by_cases hc24_7 : (-1000 : Int32) < (-q0)
      · have R9 : Rch p e below (s₁.setTop (entryFrame m #[(.int q0)] 4)) s₁ (mkF m 30 #[.val (.int (-q0)), .val (.int (0 : Int32)), .val (.int (-1000 : Int32)), .val (.int (3 : Int32))] [(.int (3 : Int32))]) := fun t k => by
          refine R8 t ?_
          refine XS.icmpNo X0.here hx rfl (hb hby d7_24) rfl (tlt hc24_7).2.2.2 ?_
          show Steps p.tables e below (s₁.setTop (mkF m 27 #[.val (.int (-q0)), .val (.int (0 : Int32)), .val (.int (-1000 : Int32)), .val (.int (3 : Int32))] [])) t
          refine XS.iloadN X0.here hx rfl (hb hby d7_27) rfl ?_
          show Steps p.tables e below (s₁.setTop (mkF m 28 #[.val (.int (-q0)), .val (.int (0 : Int32)), .val (.int (-1000 : Int32)), .val (.int (3 : Int32))] [(.int (3 : Int32))])) t
          refine XS.iloadN X0.here hx rfl (hb hby d7_28) rfl ?_
          show Steps p.tables e below (s₁.setTop (mkF m 29 #[.val (.int (-q0)), .val (.int (0 : Int32)), .val (.int (-1000 : Int32)), .val (.int (3 : Int32))] [(.int (0 : Int32)), (.int (3 : Int32))])) t
          refine XS.iadd X0.here hx rfl (hb hby d7_29) rfl ?_
          exact k
        obtain ⟨fs, hr, hrun, hended, hW, hsame⟩ := X0.leave (v := some (.int (3 : Int32))) (fun h => by rw [Bd.returns] at h; cases h) (BodyLoose.notSynchronized Bd)
        refine ⟨_, _, R9 _ ?_, hrun, hended, _, _, rfl, ?_, ⟨_, rfl⟩, hW, hsame.mono (by decide) (by decide)⟩
        · exact retI X0 hx Bd.returns (hb hby d7_30) hr
        · show Q_rm_ssize Z q0 h0 n0 _ s₁.heap _
          rw [e0]
          exact ⟨own_i (by simp only [own_dg, (show ¬ q0 < (10 : Int32) from fun q => hc24_1 ((own_neg_lt (a := (-10 : Int32)) (b := (10 : Int32)) hn (by decide)).mpr q)), (show ¬ q0 < (100 : Int32) from fun q => hc24_4 ((own_neg_lt (a := (-100 : Int32)) (b := (100 : Int32)) hn (by decide)).mpr q)), (show q0 < (1000 : Int32) from (own_neg_lt (a := (-1000 : Int32)) (b := (1000 : Int32)) hn (by decide)).mp hc24_7), ↓reduceIte]), N0, rfl⟩
      · have R11 : Rch p e below (s₁.setTop (entryFrame m #[(.int q0)] 4)) s₁ (mkF m 24 #[.val (.int (-q0)), .val (.int (0 : Int32)), .val (.int (-10000 : Int32)), .val (.int (4 : Int32))] [(.int (-10000 : Int32)), (.int (-q0))]) := fun t k => by
          refine R8 t ?_
          refine XS.icmpYes X0.here hx rfl (pc0 := 24) (pc' := 31) rfl (hb hby d7_24) rfl (flt hc24_7).2.2.2 (by decide) (by decide) ?_
          show Steps p.tables e below (s₁.setTop (mkF m 31 #[.val (.int (-q0)), .val (.int (0 : Int32)), .val (.int (-1000 : Int32)), .val (.int (3 : Int32))] [])) t
          refine XS.bipush X0.here hx rfl (hb hby d7_31) ?_
          show Steps p.tables e below (s₁.setTop (mkF m 33 #[.val (.int (-q0)), .val (.int (0 : Int32)), .val (.int (-1000 : Int32)), .val (.int (3 : Int32))] [(.int (10 : Int32))])) t
          refine XS.iloadN X0.here hx rfl (hb hby d7_33) rfl ?_
          show Steps p.tables e below (s₁.setTop (mkF m 34 #[.val (.int (-q0)), .val (.int (0 : Int32)), .val (.int (-1000 : Int32)), .val (.int (3 : Int32))] [(.int (-1000 : Int32)), (.int (10 : Int32))])) t
          refine XS.imul X0.here hx rfl (hb hby d7_34) rfl ?_
          show Steps p.tables e below (s₁.setTop (mkF m 35 #[.val (.int (-q0)), .val (.int (0 : Int32)), .val (.int (-1000 : Int32)), .val (.int (3 : Int32))] [(.int (-10000 : Int32))])) t
          refine XS.istoreN X0.here hx rfl (hb hby d7_35) rfl (l' := #[.val (.int (-q0)), .val (.int (0 : Int32)), .val (.int (-10000 : Int32)), .val (.int (3 : Int32))]) rfl ?_
          show Steps p.tables e below (s₁.setTop (mkF m 36 #[.val (.int (-q0)), .val (.int (0 : Int32)), .val (.int (-10000 : Int32)), .val (.int (3 : Int32))] [])) t
          refine XS.iinc X0.here hx rfl (hb hby d7_36) rfl (l' := #[.val (.int (-q0)), .val (.int (0 : Int32)), .val (.int (-10000 : Int32)), .val (.int (4 : Int32))]) rfl ?_
          show Steps p.tables e below (s₁.setTop (mkF m 39 #[.val (.int (-q0)), .val (.int (0 : Int32)), .val (.int (-10000 : Int32)), .val (.int (4 : Int32))] [])) t
          refine XS.goto X0.here hx rfl (pc0 := 39) (pc' := 16) rfl (hb hby d7_39) (by decide) (by decide) ?_
          show Steps p.tables e below (s₁.setTop (mkF m 16 #[.val (.int (-q0)), .val (.int (0 : Int32)), .val (.int (-10000 : Int32)), .val (.int (4 : Int32))] [])) t
          refine XS.iloadN X0.here hx rfl (hb hby d7_16) rfl ?_
          show Steps p.tables e below (s₁.setTop (mkF m 17 #[.val (.int (-q0)), .val (.int (0 : Int32)), .val (.int (-10000 : Int32)), .val (.int (4 : Int32))] [(.int (4 : Int32))])) t
          refine XS.bipush X0.here hx rfl (hb hby d7_17) ?_
          show Steps p.tables e below (s₁.setTop (mkF m 19 #[.val (.int (-q0)), .val (.int (0 : Int32)), .val (.int (-10000 : Int32)), .val (.int (4 : Int32))] [(.int (10 : Int32)), (.int (4 : Int32))])) t
          refine XS.icmpNo X0.here hx rfl (hb hby d7_19) rfl (tlt (by decide : (4 : Int32) < (10 : Int32))).2.1 ?_
          show Steps p.tables e below (s₁.setTop (mkF m 22 #[.val (.int (-q0)), .val (.int (0 : Int32)), .val (.int (-10000 : Int32)), .val (.int (4 : Int32))] [])) t
          refine XS.iloadN X0.here hx rfl (hb hby d7_22) rfl ?_
          show Steps p.tables e below (s₁.setTop (mkF m 23 #[.val (.int (-q0)), .val (.int (0 : Int32)), .val (.int (-10000 : Int32)), .val (.int (4 : Int32))] [(.int (-q0))])) t
          refine XS.iloadN X0.here hx rfl (hb hby d7_23) rfl ?_
          exact k
        by_cases hc24_10 : (-10000 : Int32) < (-q0)
        · have R12 : Rch p e below (s₁.setTop (entryFrame m #[(.int q0)] 4)) s₁ (mkF m 30 #[.val (.int (-q0)), .val (.int (0 : Int32)), .val (.int (-10000 : Int32)), .val (.int (4 : Int32))] [(.int (4 : Int32))]) := fun t k => by
            refine R11 t ?_
            refine XS.icmpNo X0.here hx rfl (hb hby d7_24) rfl (tlt hc24_10).2.2.2 ?_
            show Steps p.tables e below (s₁.setTop (mkF m 27 #[.val (.int (-q0)), .val (.int (0 : Int32)), .val (.int (-10000 : Int32)), .val (.int (4 : Int32))] [])) t
            refine XS.iloadN X0.here hx rfl (hb hby d7_27) rfl ?_
            show Steps p.tables e below (s₁.setTop (mkF m 28 #[.val (.int (-q0)), .val (.int (0 : Int32)), .val (.int (-10000 : Int32)), .val (.int (4 : Int32))] [(.int (4 : Int32))])) t
            refine XS.iloadN X0.here hx rfl (hb hby d7_28) rfl ?_
            show Steps p.tables e below (s₁.setTop (mkF m 29 #[.val (.int (-q0)), .val (.int (0 : Int32)), .val (.int (-10000 : Int32)), .val (.int (4 : Int32))] [(.int (0 : Int32)), (.int (4 : Int32))])) t
            refine XS.iadd X0.here hx rfl (hb hby d7_29) rfl ?_
            exact k
          obtain ⟨fs, hr, hrun, hended, hW, hsame⟩ := X0.leave (v := some (.int (4 : Int32))) (fun h => by rw [Bd.returns] at h; cases h) (BodyLoose.notSynchronized Bd)
          refine ⟨_, _, R12 _ ?_, hrun, hended, _, _, rfl, ?_, ⟨_, rfl⟩, hW, hsame.mono (by decide) (by decide)⟩
          · exact retI X0 hx Bd.returns (hb hby d7_30) hr
          · show Q_rm_ssize Z q0 h0 n0 _ s₁.heap _
            rw [e0]
            exact ⟨own_i (by simp only [own_dg, (show ¬ q0 < (10 : Int32) from fun q => hc24_1 ((own_neg_lt (a := (-10 : Int32)) (b := (10 : Int32)) hn (by decide)).mpr q)), (show ¬ q0 < (100 : Int32) from fun q => hc24_4 ((own_neg_lt (a := (-100 : Int32)) (b := (100 : Int32)) hn (by decide)).mpr q)), (show ¬ q0 < (1000 : Int32) from fun q => hc24_7 ((own_neg_lt (a := (-1000 : Int32)) (b := (1000 : Int32)) hn (by decide)).mpr q)), (show q0 < (10000 : Int32) from (own_neg_lt (a := (-10000 : Int32)) (b := (10000 : Int32)) hn (by decide)).mp hc24_10), ↓reduceIte]), N0, rfl⟩
        · have R14 : Rch p e below (s₁.setTop (entryFrame m #[(.int q0)] 4)) s₁ (mkF m 24 #[.val (.int (-q0)), .val (.int (0 : Int32)), .val (.int (-100000 : Int32)), .val (.int (5 : Int32))] [(.int (-100000 : Int32)), (.int (-q0))]) := fun t k => by
            refine R11 t ?_
            refine XS.icmpYes X0.here hx rfl (pc0 := 24) (pc' := 31) rfl (hb hby d7_24) rfl (flt hc24_10).2.2.2 (by decide) (by decide) ?_
            show Steps p.tables e below (s₁.setTop (mkF m 31 #[.val (.int (-q0)), .val (.int (0 : Int32)), .val (.int (-10000 : Int32)), .val (.int (4 : Int32))] [])) t
            refine XS.bipush X0.here hx rfl (hb hby d7_31) ?_
            show Steps p.tables e below (s₁.setTop (mkF m 33 #[.val (.int (-q0)), .val (.int (0 : Int32)), .val (.int (-10000 : Int32)), .val (.int (4 : Int32))] [(.int (10 : Int32))])) t
            refine XS.iloadN X0.here hx rfl (hb hby d7_33) rfl ?_
            show Steps p.tables e below (s₁.setTop (mkF m 34 #[.val (.int (-q0)), .val (.int (0 : Int32)), .val (.int (-10000 : Int32)), .val (.int (4 : Int32))] [(.int (-10000 : Int32)), (.int (10 : Int32))])) t
            refine XS.imul X0.here hx rfl (hb hby d7_34) rfl ?_
            show Steps p.tables e below (s₁.setTop (mkF m 35 #[.val (.int (-q0)), .val (.int (0 : Int32)), .val (.int (-10000 : Int32)), .val (.int (4 : Int32))] [(.int (-100000 : Int32))])) t
            refine XS.istoreN X0.here hx rfl (hb hby d7_35) rfl (l' := #[.val (.int (-q0)), .val (.int (0 : Int32)), .val (.int (-100000 : Int32)), .val (.int (4 : Int32))]) rfl ?_
            show Steps p.tables e below (s₁.setTop (mkF m 36 #[.val (.int (-q0)), .val (.int (0 : Int32)), .val (.int (-100000 : Int32)), .val (.int (4 : Int32))] [])) t
            refine XS.iinc X0.here hx rfl (hb hby d7_36) rfl (l' := #[.val (.int (-q0)), .val (.int (0 : Int32)), .val (.int (-100000 : Int32)), .val (.int (5 : Int32))]) rfl ?_
            show Steps p.tables e below (s₁.setTop (mkF m 39 #[.val (.int (-q0)), .val (.int (0 : Int32)), .val (.int (-100000 : Int32)), .val (.int (5 : Int32))] [])) t
            refine XS.goto X0.here hx rfl (pc0 := 39) (pc' := 16) rfl (hb hby d7_39) (by decide) (by decide) ?_
            show Steps p.tables e below (s₁.setTop (mkF m 16 #[.val (.int (-q0)), .val (.int (0 : Int32)), .val (.int (-100000 : Int32)), .val (.int (5 : Int32))] [])) t
            refine XS.iloadN X0.here hx rfl (hb hby d7_16) rfl ?_
            show Steps p.tables e below (s₁.setTop (mkF m 17 #[.val (.int (-q0)), .val (.int (0 : Int32)), .val (.int (-100000 : Int32)), .val (.int (5 : Int32))] [(.int (5 : Int32))])) t
            refine XS.bipush X0.here hx rfl (hb hby d7_17) ?_
            show Steps p.tables e below (s₁.setTop (mkF m 19 #[.val (.int (-q0)), .val (.int (0 : Int32)), .val (.int (-100000 : Int32)), .val (.int (5 : Int32))] [(.int (10 : Int32)), (.int (5 : Int32))])) t
            refine XS.icmpNo X0.here hx rfl (hb hby d7_19) rfl (tlt (by decide : (5 : Int32) < (10 : Int32))).2.1 ?_
            show Steps p.tables e below (s₁.setTop (mkF m 22 #[.val (.int (-q0)), .val (.int (0 : Int32)), .val (.int (-100000 : Int32)), .val (.int (5 : Int32))] [])) t
            refine XS.iloadN X0.here hx rfl (hb hby d7_22) rfl ?_
            show Steps p.tables e below (s₁.setTop (mkF m 23 #[.val (.int (-q0)), .val (.int (0 : Int32)), .val (.int (-100000 : Int32)), .val (.int (5 : Int32))] [(.int (-q0))])) t
            refine XS.iloadN X0.here hx rfl (hb hby d7_23) rfl ?_
            exact k
          by_cases hc24_13 : (-100000 : Int32) < (-q0)
          · have R15 : Rch p e below (s₁.setTop (entryFrame m #[(.int q0)] 4)) s₁ (mkF m 30 #[.val (.int (-q0)), .val (.int (0 : Int32)), .val (.int (-100000 : Int32)), .val (.int (5 : Int32))] [(.int (5 : Int32))]) := fun t k => by
              refine R14 t ?_
              refine XS.icmpNo X0.here hx rfl (hb hby d7_24) rfl (tlt hc24_13).2.2.2 ?_
              show Steps p.tables e below (s₁.setTop (mkF m 27 #[.val (.int (-q0)), .val (.int (0 : Int32)), .val (.int (-100000 : Int32)), .val (.int (5 : Int32))] [])) t
              refine XS.iloadN X0.here hx rfl (hb hby d7_27) rfl ?_
              show Steps p.tables e below (s₁.setTop (mkF m 28 #[.val (.int (-q0)), .val (.int (0 : Int32)), .val (.int (-100000 : Int32)), .val (.int (5 : Int32))] [(.int (5 : Int32))])) t
              refine XS.iloadN X0.here hx rfl (hb hby d7_28) rfl ?_
              show Steps p.tables e below (s₁.setTop (mkF m 29 #[.val (.int (-q0)), .val (.int (0 : Int32)), .val (.int (-100000 : Int32)), .val (.int (5 : Int32))] [(.int (0 : Int32)), (.int (5 : Int32))])) t
              refine XS.iadd X0.here hx rfl (hb hby d7_29) rfl ?_
              exact k
            obtain ⟨fs, hr, hrun, hended, hW, hsame⟩ := X0.leave (v := some (.int (5 : Int32))) (fun h => by rw [Bd.returns] at h; cases h) (BodyLoose.notSynchronized Bd)
            refine ⟨_, _, R15 _ ?_, hrun, hended, _, _, rfl, ?_, ⟨_, rfl⟩, hW, hsame.mono (by decide) (by decide)⟩
            · exact retI X0 hx Bd.returns (hb hby d7_30) hr
            · show Q_rm_ssize Z q0 h0 n0 _ s₁.heap _
              rw [e0]
              exact ⟨own_i (by simp only [own_dg, (show ¬ q0 < (10 : Int32) from fun q => hc24_1 ((own_neg_lt (a := (-10 : Int32)) (b := (10 : Int32)) hn (by decide)).mpr q)), (show ¬ q0 < (100 : Int32) from fun q => hc24_4 ((own_neg_lt (a := (-100 : Int32)) (b := (100 : Int32)) hn (by decide)).mpr q)), (show ¬ q0 < (1000 : Int32) from fun q => hc24_7 ((own_neg_lt (a := (-1000 : Int32)) (b := (1000 : Int32)) hn (by decide)).mpr q)), (show ¬ q0 < (10000 : Int32) from fun q => hc24_10 ((own_neg_lt (a := (-10000 : Int32)) (b := (10000 : Int32)) hn (by decide)).mpr q)), (show q0 < (100000 : Int32) from (own_neg_lt (a := (-100000 : Int32)) (b := (100000 : Int32)) hn (by decide)).mp hc24_13), ↓reduceIte]), N0, rfl⟩
          · have R17 : Rch p e below (s₁.setTop (entryFrame m #[(.int q0)] 4)) s₁ (mkF m 24 #[.val (.int (-q0)), .val (.int (0 : Int32)), .val (.int (-1000000 : Int32)), .val (.int (6 : Int32))] [(.int (-1000000 : Int32)), (.int (-q0))]) := fun t k => by
              refine R14 t ?_
              refine XS.icmpYes X0.here hx rfl (pc0 := 24) (pc' := 31) rfl (hb hby d7_24) rfl (flt hc24_13).2.2.2 (by decide) (by decide) ?_
              show Steps p.tables e below (s₁.setTop (mkF m 31 #[.val (.int (-q0)), .val (.int (0 : Int32)), .val (.int (-100000 : Int32)), .val (.int (5 : Int32))] [])) t
              refine XS.bipush X0.here hx rfl (hb hby d7_31) ?_
              show Steps p.tables e below (s₁.setTop (mkF m 33 #[.val (.int (-q0)), .val (.int (0 : Int32)), .val (.int (-100000 : Int32)), .val (.int (5 : Int32))] [(.int (10 : Int32))])) t
              refine XS.iloadN X0.here hx rfl (hb hby d7_33) rfl ?_
              show Steps p.tables e below (s₁.setTop (mkF m 34 #[.val (.int (-q0)), .val (.int (0 : Int32)), .val (.int (-100000 : Int32)), .val (.int (5 : Int32))] [(.int (-100000 : Int32)), (.int (10 : Int32))])) t
              refine XS.imul X0.here hx rfl (hb hby d7_34) rfl ?_
              show Steps p.tables e below (s₁.setTop (mkF m 35 #[.val (.int (-q0)), .val (.int (0 : Int32)), .val (.int (-100000 : Int32)), .val (.int (5 : Int32))] [(.int (-1000000 : Int32))])) t
              refine XS.istoreN X0.here hx rfl (hb hby d7_35) rfl (l' := #[.val (.int (-q0)), .val (.int (0 : Int32)), .val (.int (-1000000 : Int32)), .val (.int (5 : Int32))]) rfl ?_
              show Steps p.tables e below (s₁.setTop (mkF m 36 #[.val (.int (-q0)), .val (.int (0 : Int32)), .val (.int (-1000000 : Int32)), .val (.int (5 : Int32))] [])) t
              refine XS.iinc X0.here hx rfl (hb hby d7_36) rfl (l' := #[.val (.int (-q0)), .val (.int (0 : Int32)), .val (.int (-1000000 : Int32)), .val (.int (6 : Int32))]) rfl ?_
              show Steps p.tables e below (s₁.setTop (mkF m 39 #[.val (.int (-q0)), .val (.int (0 : Int32)), .val (.int (-1000000 : Int32)), .val (.int (6 : Int32))] [])) t
              refine XS.goto X0.here hx rfl (pc0 := 39) (pc' := 16) rfl (hb hby d7_39) (by decide) (by decide) ?_
              show Steps p.tables e below (s₁.setTop (mkF m 16 #[.val (.int (-q0)), .val (.int (0 : Int32)), .val (.int (-1000000 : Int32)), .val (.int (6 : Int32))] [])) t
              refine XS.iloadN X0.here hx rfl (hb hby d7_16) rfl ?_
              show Steps p.tables e below (s₁.setTop (mkF m 17 #[.val (.int (-q0)), .val (.int (0 : Int32)), .val (.int (-1000000 : Int32)), .val (.int (6 : Int32))] [(.int (6 : Int32))])) t
              refine XS.bipush X0.here hx rfl (hb hby d7_17) ?_
              show Steps p.tables e below (s₁.setTop (mkF m 19 #[.val (.int (-q0)), .val (.int (0 : Int32)), .val (.int (-1000000 : Int32)), .val (.int (6 : Int32))] [(.int (10 : Int32)), (.int (6 : Int32))])) t
              refine XS.icmpNo X0.here hx rfl (hb hby d7_19) rfl (tlt (by decide : (6 : Int32) < (10 : Int32))).2.1 ?_
              show Steps p.tables e below (s₁.setTop (mkF m 22 #[.val (.int (-q0)), .val (.int (0 : Int32)), .val (.int (-1000000 : Int32)), .val (.int (6 : Int32))] [])) t
              refine XS.iloadN X0.here hx rfl (hb hby d7_22) rfl ?_
              show Steps p.tables e below (s₁.setTop (mkF m 23 #[.val (.int (-q0)), .val (.int (0 : Int32)), .val (.int (-1000000 : Int32)), .val (.int (6 : Int32))] [(.int (-q0))])) t
              refine XS.iloadN X0.here hx rfl (hb hby d7_23) rfl ?_
              exact k
            by_cases hc24_16 : (-1000000 : Int32) < (-q0)
            · have R18 : Rch p e below (s₁.setTop (entryFrame m #[(.int q0)] 4)) s₁ (mkF m 30 #[.val (.int (-q0)), .val (.int (0 : Int32)), .val (.int (-1000000 : Int32)), .val (.int (6 : Int32))] [(.int (6 : Int32))]) := fun t k => by
                refine R17 t ?_
                refine XS.icmpNo X0.here hx rfl (hb hby d7_24) rfl (tlt hc24_16).2.2.2 ?_
                show Steps p.tables e below (s₁.setTop (mkF m 27 #[.val (.int (-q0)), .val (.int (0 : Int32)), .val (.int (-1000000 : Int32)), .val (.int (6 : Int32))] [])) t
                refine XS.iloadN X0.here hx rfl (hb hby d7_27) rfl ?_
                show Steps p.tables e below (s₁.setTop (mkF m 28 #[.val (.int (-q0)), .val (.int (0 : Int32)), .val (.int (-1000000 : Int32)), .val (.int (6 : Int32))] [(.int (6 : Int32))])) t
                refine XS.iloadN X0.here hx rfl (hb hby d7_28) rfl ?_
                show Steps p.tables e below (s₁.setTop (mkF m 29 #[.val (.int (-q0)), .val (.int (0 : Int32)), .val (.int (-1000000 : Int32)), .val (.int (6 : Int32))] [(.int (0 : Int32)), (.int (6 : Int32))])) t
                refine XS.iadd X0.here hx rfl (hb hby d7_29) rfl ?_
                exact k
              obtain ⟨fs, hr, hrun, hended, hW, hsame⟩ := X0.leave (v := some (.int (6 : Int32))) (fun h => by rw [Bd.returns] at h; cases h) (BodyLoose.notSynchronized Bd)
              refine ⟨_, _, R18 _ ?_, hrun, hended, _, _, rfl, ?_, ⟨_, rfl⟩, hW, hsame.mono (by decide) (by decide)⟩
              · exact retI X0 hx Bd.returns (hb hby d7_30) hr
              · show Q_rm_ssize Z q0 h0 n0 _ s₁.heap _
                rw [e0]
                exact ⟨own_i (by simp only [own_dg, (show ¬ q0 < (10 : Int32) from fun q => hc24_1 ((own_neg_lt (a := (-10 : Int32)) (b := (10 : Int32)) hn (by decide)).mpr q)), (show ¬ q0 < (100 : Int32) from fun q => hc24_4 ((own_neg_lt (a := (-100 : Int32)) (b := (100 : Int32)) hn (by decide)).mpr q)), (show ¬ q0 < (1000 : Int32) from fun q => hc24_7 ((own_neg_lt (a := (-1000 : Int32)) (b := (1000 : Int32)) hn (by decide)).mpr q)), (show ¬ q0 < (10000 : Int32) from fun q => hc24_10 ((own_neg_lt (a := (-10000 : Int32)) (b := (10000 : Int32)) hn (by decide)).mpr q)), (show ¬ q0 < (100000 : Int32) from fun q => hc24_13 ((own_neg_lt (a := (-100000 : Int32)) (b := (100000 : Int32)) hn (by decide)).mpr q)), (show q0 < (1000000 : Int32) from (own_neg_lt (a := (-1000000 : Int32)) (b := (1000000 : Int32)) hn (by decide)).mp hc24_16), ↓reduceIte]), N0, rfl⟩
            · have R20 : Rch p e below (s₁.setTop (entryFrame m #[(.int q0)] 4)) s₁ (mkF m 24 #[.val (.int (-q0)), .val (.int (0 : Int32)), .val (.int (-10000000 : Int32)), .val (.int (7 : Int32))] [(.int (-10000000 : Int32)), (.int (-q0))]) := fun t k => by
                refine R17 t ?_
                refine XS.icmpYes X0.here hx rfl (pc0 := 24) (pc' := 31) rfl (hb hby d7_24) rfl (flt hc24_16).2.2.2 (by decide) (by decide) ?_
                show Steps p.tables e below (s₁.setTop (mkF m 31 #[.val (.int (-q0)), .val (.int (0 : Int32)), .val (.int (-1000000 : Int32)), .val (.int (6 : Int32))] [])) t
                refine XS.bipush X0.here hx rfl (hb hby d7_31) ?_
                show Steps p.tables e below (s₁.setTop (mkF m 33 #[.val (.int (-q0)), .val (.int (0 : Int32)), .val (.int (-1000000 : Int32)), .val (.int (6 : Int32))] [(.int (10 : Int32))])) t
                refine XS.iloadN X0.here hx rfl (hb hby d7_33) rfl ?_
                show Steps p.tables e below (s₁.setTop (mkF m 34 #[.val (.int (-q0)), .val (.int (0 : Int32)), .val (.int (-1000000 : Int32)), .val (.int (6 : Int32))] [(.int (-1000000 : Int32)), (.int (10 : Int32))])) t
                refine XS.imul X0.here hx rfl (hb hby d7_34) rfl ?_
                show Steps p.tables e below (s₁.setTop (mkF m 35 #[.val (.int (-q0)), .val (.int (0 : Int32)), .val (.int (-1000000 : Int32)), .val (.int (6 : Int32))] [(.int (-10000000 : Int32))])) t
                refine XS.istoreN X0.here hx rfl (hb hby d7_35) rfl (l' := #[.val (.int (-q0)), .val (.int (0 : Int32)), .val (.int (-10000000 : Int32)), .val (.int (6 : Int32))]) rfl ?_
                show Steps p.tables e below (s₁.setTop (mkF m 36 #[.val (.int (-q0)), .val (.int (0 : Int32)), .val (.int (-10000000 : Int32)), .val (.int (6 : Int32))] [])) t
                refine XS.iinc X0.here hx rfl (hb hby d7_36) rfl (l' := #[.val (.int (-q0)), .val (.int (0 : Int32)), .val (.int (-10000000 : Int32)), .val (.int (7 : Int32))]) rfl ?_
                show Steps p.tables e below (s₁.setTop (mkF m 39 #[.val (.int (-q0)), .val (.int (0 : Int32)), .val (.int (-10000000 : Int32)), .val (.int (7 : Int32))] [])) t
                refine XS.goto X0.here hx rfl (pc0 := 39) (pc' := 16) rfl (hb hby d7_39) (by decide) (by decide) ?_
                show Steps p.tables e below (s₁.setTop (mkF m 16 #[.val (.int (-q0)), .val (.int (0 : Int32)), .val (.int (-10000000 : Int32)), .val (.int (7 : Int32))] [])) t
                refine XS.iloadN X0.here hx rfl (hb hby d7_16) rfl ?_
                show Steps p.tables e below (s₁.setTop (mkF m 17 #[.val (.int (-q0)), .val (.int (0 : Int32)), .val (.int (-10000000 : Int32)), .val (.int (7 : Int32))] [(.int (7 : Int32))])) t
                refine XS.bipush X0.here hx rfl (hb hby d7_17) ?_
                show Steps p.tables e below (s₁.setTop (mkF m 19 #[.val (.int (-q0)), .val (.int (0 : Int32)), .val (.int (-10000000 : Int32)), .val (.int (7 : Int32))] [(.int (10 : Int32)), (.int (7 : Int32))])) t
                refine XS.icmpNo X0.here hx rfl (hb hby d7_19) rfl (tlt (by decide : (7 : Int32) < (10 : Int32))).2.1 ?_
                show Steps p.tables e below (s₁.setTop (mkF m 22 #[.val (.int (-q0)), .val (.int (0 : Int32)), .val (.int (-10000000 : Int32)), .val (.int (7 : Int32))] [])) t
                refine XS.iloadN X0.here hx rfl (hb hby d7_22) rfl ?_
                show Steps p.tables e below (s₁.setTop (mkF m 23 #[.val (.int (-q0)), .val (.int (0 : Int32)), .val (.int (-10000000 : Int32)), .val (.int (7 : Int32))] [(.int (-q0))])) t
                refine XS.iloadN X0.here hx rfl (hb hby d7_23) rfl ?_
                exact k
              by_cases hc24_19 : (-10000000 : Int32) < (-q0)
              · have R21 : Rch p e below (s₁.setTop (entryFrame m #[(.int q0)] 4)) s₁ (mkF m 30 #[.val (.int (-q0)), .val (.int (0 : Int32)), .val (.int (-10000000 : Int32)), .val (.int (7 : Int32))] [(.int (7 : Int32))]) := fun t k => by
                  refine R20 t ?_
                  refine XS.icmpNo X0.here hx rfl (hb hby d7_24) rfl (tlt hc24_19).2.2.2 ?_
                  show Steps p.tables e below (s₁.setTop (mkF m 27 #[.val (.int (-q0)), .val (.int (0 : Int32)), .val (.int (-10000000 : Int32)), .val (.int (7 : Int32))] [])) t
                  refine XS.iloadN X0.here hx rfl (hb hby d7_27) rfl ?_
                  show Steps p.tables e below (s₁.setTop (mkF m 28 #[.val (.int (-q0)), .val (.int (0 : Int32)), .val (.int (-10000000 : Int32)), .val (.int (7 : Int32))] [(.int (7 : Int32))])) t
                  refine XS.iloadN X0.here hx rfl (hb hby d7_28) rfl ?_
                  show Steps p.tables e below (s₁.setTop (mkF m 29 #[.val (.int (-q0)), .val (.int (0 : Int32)), .val (.int (-10000000 : Int32)), .val (.int (7 : Int32))] [(.int (0 : Int32)), (.int (7 : Int32))])) t
                  refine XS.iadd X0.here hx rfl (hb hby d7_29) rfl ?_
                  exact k
                obtain ⟨fs, hr, hrun, hended, hW, hsame⟩ := X0.leave (v := some (.int (7 : Int32))) (fun h => by rw [Bd.returns] at h; cases h) (BodyLoose.notSynchronized Bd)
                refine ⟨_, _, R21 _ ?_, hrun, hended, _, _, rfl, ?_, ⟨_, rfl⟩, hW, hsame.mono (by decide) (by decide)⟩
                · exact retI X0 hx Bd.returns (hb hby d7_30) hr
                · show Q_rm_ssize Z q0 h0 n0 _ s₁.heap _
                  rw [e0]
                  exact ⟨own_i (by simp only [own_dg, (show ¬ q0 < (10 : Int32) from fun q => hc24_1 ((own_neg_lt (a := (-10 : Int32)) (b := (10 : Int32)) hn (by decide)).mpr q)), (show ¬ q0 < (100 : Int32) from fun q => hc24_4 ((own_neg_lt (a := (-100 : Int32)) (b := (100 : Int32)) hn (by decide)).mpr q)), (show ¬ q0 < (1000 : Int32) from fun q => hc24_7 ((own_neg_lt (a := (-1000 : Int32)) (b := (1000 : Int32)) hn (by decide)).mpr q)), (show ¬ q0 < (10000 : Int32) from fun q => hc24_10 ((own_neg_lt (a := (-10000 : Int32)) (b := (10000 : Int32)) hn (by decide)).mpr q)), (show ¬ q0 < (100000 : Int32) from fun q => hc24_13 ((own_neg_lt (a := (-100000 : Int32)) (b := (100000 : Int32)) hn (by decide)).mpr q)), (show ¬ q0 < (1000000 : Int32) from fun q => hc24_16 ((own_neg_lt (a := (-1000000 : Int32)) (b := (1000000 : Int32)) hn (by decide)).mpr q)), (show q0 < (10000000 : Int32) from (own_neg_lt (a := (-10000000 : Int32)) (b := (10000000 : Int32)) hn (by decide)).mp hc24_19), ↓reduceIte]), N0, rfl⟩
              · have R23 : Rch p e below (s₁.setTop (entryFrame m #[(.int q0)] 4)) s₁ (mkF m 24 #[.val (.int (-q0)), .val (.int (0 : Int32)), .val (.int (-100000000 : Int32)), .val (.int (8 : Int32))] [(.int (-100000000 : Int32)), (.int (-q0))]) := fun t k => by
                  refine R20 t ?_
                  refine XS.icmpYes X0.here hx rfl (pc0 := 24) (pc' := 31) rfl (hb hby d7_24) rfl (flt hc24_19).2.2.2 (by decide) (by decide) ?_
                  show Steps p.tables e below (s₁.setTop (mkF m 31 #[.val (.int (-q0)), .val (.int (0 : Int32)), .val (.int (-10000000 : Int32)), .val (.int (7 : Int32))] [])) t
                  refine XS.bipush X0.here hx rfl (hb hby d7_31) ?_
                  show Steps p.tables e below (s₁.setTop (mkF m 33 #[.val (.int (-q0)), .val (.int (0 : Int32)), .val (.int (-10000000 : Int32)), .val (.int (7 : Int32))] [(.int (10 : Int32))])) t
                  refine XS.iloadN X0.here hx rfl (hb hby d7_33) rfl ?_
                  show Steps p.tables e below (s₁.setTop (mkF m 34 #[.val (.int (-q0)), .val (.int (0 : Int32)), .val (.int (-10000000 : Int32)), .val (.int (7 : Int32))] [(.int (-10000000 : Int32)), (.int (10 : Int32))])) t
                  refine XS.imul X0.here hx rfl (hb hby d7_34) rfl ?_
                  show Steps p.tables e below (s₁.setTop (mkF m 35 #[.val (.int (-q0)), .val (.int (0 : Int32)), .val (.int (-10000000 : Int32)), .val (.int (7 : Int32))] [(.int (-100000000 : Int32))])) t
                  refine XS.istoreN X0.here hx rfl (hb hby d7_35) rfl (l' := #[.val (.int (-q0)), .val (.int (0 : Int32)), .val (.int (-100000000 : Int32)), .val (.int (7 : Int32))]) rfl ?_
                  show Steps p.tables e below (s₁.setTop (mkF m 36 #[.val (.int (-q0)), .val (.int (0 : Int32)), .val (.int (-100000000 : Int32)), .val (.int (7 : Int32))] [])) t
                  refine XS.iinc X0.here hx rfl (hb hby d7_36) rfl (l' := #[.val (.int (-q0)), .val (.int (0 : Int32)), .val (.int (-100000000 : Int32)), .val (.int (8 : Int32))]) rfl ?_
                  show Steps p.tables e below (s₁.setTop (mkF m 39 #[.val (.int (-q0)), .val (.int (0 : Int32)), .val (.int (-100000000 : Int32)), .val (.int (8 : Int32))] [])) t
                  refine XS.goto X0.here hx rfl (pc0 := 39) (pc' := 16) rfl (hb hby d7_39) (by decide) (by decide) ?_
                  show Steps p.tables e below (s₁.setTop (mkF m 16 #[.val (.int (-q0)), .val (.int (0 : Int32)), .val (.int (-100000000 : Int32)), .val (.int (8 : Int32))] [])) t
                  refine XS.iloadN X0.here hx rfl (hb hby d7_16) rfl ?_
                  show Steps p.tables e below (s₁.setTop (mkF m 17 #[.val (.int (-q0)), .val (.int (0 : Int32)), .val (.int (-100000000 : Int32)), .val (.int (8 : Int32))] [(.int (8 : Int32))])) t
                  refine XS.bipush X0.here hx rfl (hb hby d7_17) ?_
                  show Steps p.tables e below (s₁.setTop (mkF m 19 #[.val (.int (-q0)), .val (.int (0 : Int32)), .val (.int (-100000000 : Int32)), .val (.int (8 : Int32))] [(.int (10 : Int32)), (.int (8 : Int32))])) t
                  refine XS.icmpNo X0.here hx rfl (hb hby d7_19) rfl (tlt (by decide : (8 : Int32) < (10 : Int32))).2.1 ?_
                  show Steps p.tables e below (s₁.setTop (mkF m 22 #[.val (.int (-q0)), .val (.int (0 : Int32)), .val (.int (-100000000 : Int32)), .val (.int (8 : Int32))] [])) t
                  refine XS.iloadN X0.here hx rfl (hb hby d7_22) rfl ?_
                  show Steps p.tables e below (s₁.setTop (mkF m 23 #[.val (.int (-q0)), .val (.int (0 : Int32)), .val (.int (-100000000 : Int32)), .val (.int (8 : Int32))] [(.int (-q0))])) t
                  refine XS.iloadN X0.here hx rfl (hb hby d7_23) rfl ?_
                  exact k
                by_cases hc24_22 : (-100000000 : Int32) < (-q0)
                · have R24 : Rch p e below (s₁.setTop (entryFrame m #[(.int q0)] 4)) s₁ (mkF m 30 #[.val (.int (-q0)), .val (.int (0 : Int32)), .val (.int (-100000000 : Int32)), .val (.int (8 : Int32))] [(.int (8 : Int32))]) := fun t k => by
                    refine R23 t ?_
                    refine XS.icmpNo X0.here hx rfl (hb hby d7_24) rfl (tlt hc24_22).2.2.2 ?_
                    show Steps p.tables e below (s₁.setTop (mkF m 27 #[.val (.int (-q0)), .val (.int (0 : Int32)), .val (.int (-100000000 : Int32)), .val (.int (8 : Int32))] [])) t
                    refine XS.iloadN X0.here hx rfl (hb hby d7_27) rfl ?_
                    show Steps p.tables e below (s₁.setTop (mkF m 28 #[.val (.int (-q0)), .val (.int (0 : Int32)), .val (.int (-100000000 : Int32)), .val (.int (8 : Int32))] [(.int (8 : Int32))])) t
                    refine XS.iloadN X0.here hx rfl (hb hby d7_28) rfl ?_
                    show Steps p.tables e below (s₁.setTop (mkF m 29 #[.val (.int (-q0)), .val (.int (0 : Int32)), .val (.int (-100000000 : Int32)), .val (.int (8 : Int32))] [(.int (0 : Int32)), (.int (8 : Int32))])) t
                    refine XS.iadd X0.here hx rfl (hb hby d7_29) rfl ?_
                    exact k
                  obtain ⟨fs, hr, hrun, hended, hW, hsame⟩ := X0.leave (v := some (.int (8 : Int32))) (fun h => by rw [Bd.returns] at h; cases h) (BodyLoose.notSynchronized Bd)
                  refine ⟨_, _, R24 _ ?_, hrun, hended, _, _, rfl, ?_, ⟨_, rfl⟩, hW, hsame.mono (by decide) (by decide)⟩
                  · exact retI X0 hx Bd.returns (hb hby d7_30) hr
                  · show Q_rm_ssize Z q0 h0 n0 _ s₁.heap _
                    rw [e0]
                    exact ⟨own_i (by simp only [own_dg, (show ¬ q0 < (10 : Int32) from fun q => hc24_1 ((own_neg_lt (a := (-10 : Int32)) (b := (10 : Int32)) hn (by decide)).mpr q)), (show ¬ q0 < (100 : Int32) from fun q => hc24_4 ((own_neg_lt (a := (-100 : Int32)) (b := (100 : Int32)) hn (by decide)).mpr q)), (show ¬ q0 < (1000 : Int32) from fun q => hc24_7 ((own_neg_lt (a := (-1000 : Int32)) (b := (1000 : Int32)) hn (by decide)).mpr q)), (show ¬ q0 < (10000 : Int32) from fun q => hc24_10 ((own_neg_lt (a := (-10000 : Int32)) (b := (10000 : Int32)) hn (by decide)).mpr q)), (show ¬ q0 < (100000 : Int32) from fun q => hc24_13 ((own_neg_lt (a := (-100000 : Int32)) (b := (100000 : Int32)) hn (by decide)).mpr q)), (show ¬ q0 < (1000000 : Int32) from fun q => hc24_16 ((own_neg_lt (a := (-1000000 : Int32)) (b := (1000000 : Int32)) hn (by decide)).mpr q)), (show ¬ q0 < (10000000 : Int32) from fun q => hc24_19 ((own_neg_lt (a := (-10000000 : Int32)) (b := (10000000 : Int32)) hn (by decide)).mpr q)), (show q0 < (100000000 : Int32) from (own_neg_lt (a := (-100000000 : Int32)) (b := (100000000 : Int32)) hn (by decide)).mp hc24_22), ↓reduceIte]), N0, rfl⟩
                · have R26 : Rch p e below (s₁.setTop (entryFrame m #[(.int q0)] 4)) s₁ (mkF m 24 #[.val (.int (-q0)), .val (.int (0 : Int32)), .val (.int (-1000000000 : Int32)), .val (.int (9 : Int32))] [(.int (-1000000000 : Int32)), (.int (-q0))]) := fun t k => by
                    refine R23 t ?_
                    refine XS.icmpYes X0.here hx rfl (pc0 := 24) (pc' := 31) rfl (hb hby d7_24) rfl (flt hc24_22).2.2.2 (by decide) (by decide) ?_
                    show Steps p.tables e below (s₁.setTop (mkF m 31 #[.val (.int (-q0)), .val (.int (0 : Int32)), .val (.int (-100000000 : Int32)), .val (.int (8 : Int32))] [])) t
                    refine XS.bipush X0.here hx rfl (hb hby d7_31) ?_
                    show Steps p.tables e below (s₁.setTop (mkF m 33 #[.val (.int (-q0)), .val (.int (0 : Int32)), .val (.int (-100000000 : Int32)), .val (.int (8 : Int32))] [(.int (10 : Int32))])) t
                    refine XS.iloadN X0.here hx rfl (hb hby d7_33) rfl ?_
                    show Steps p.tables e below (s₁.setTop (mkF m 34 #[.val (.int (-q0)), .val (.int (0 : Int32)), .val (.int (-100000000 : Int32)), .val (.int (8 : Int32))] [(.int (-100000000 : Int32)), (.int (10 : Int32))])) t
                    refine XS.imul X0.here hx rfl (hb hby d7_34) rfl ?_
                    show Steps p.tables e below (s₁.setTop (mkF m 35 #[.val (.int (-q0)), .val (.int (0 : Int32)), .val (.int (-100000000 : Int32)), .val (.int (8 : Int32))] [(.int (-1000000000 : Int32))])) t
                    refine XS.istoreN X0.here hx rfl (hb hby d7_35) rfl (l' := #[.val (.int (-q0)), .val (.int (0 : Int32)), .val (.int (-1000000000 : Int32)), .val (.int (8 : Int32))]) rfl ?_
                    show Steps p.tables e below (s₁.setTop (mkF m 36 #[.val (.int (-q0)), .val (.int (0 : Int32)), .val (.int (-1000000000 : Int32)), .val (.int (8 : Int32))] [])) t
                    refine XS.iinc X0.here hx rfl (hb hby d7_36) rfl (l' := #[.val (.int (-q0)), .val (.int (0 : Int32)), .val (.int (-1000000000 : Int32)), .val (.int (9 : Int32))]) rfl ?_
                    show Steps p.tables e below (s₁.setTop (mkF m 39 #[.val (.int (-q0)), .val (.int (0 : Int32)), .val (.int (-1000000000 : Int32)), .val (.int (9 : Int32))] [])) t
                    refine XS.goto X0.here hx rfl (pc0 := 39) (pc' := 16) rfl (hb hby d7_39) (by decide) (by decide) ?_
                    show Steps p.tables e below (s₁.setTop (mkF m 16 #[.val (.int (-q0)), .val (.int (0 : Int32)), .val (.int (-1000000000 : Int32)), .val (.int (9 : Int32))] [])) t
                    refine XS.iloadN X0.here hx rfl (hb hby d7_16) rfl ?_
                    show Steps p.tables e below (s₁.setTop (mkF m 17 #[.val (.int (-q0)), .val (.int (0 : Int32)), .val (.int (-1000000000 : Int32)), .val (.int (9 : Int32))] [(.int (9 : Int32))])) t
                    refine XS.bipush X0.here hx rfl (hb hby d7_17) ?_
                    show Steps p.tables e below (s₁.setTop (mkF m 19 #[.val (.int (-q0)), .val (.int (0 : Int32)), .val (.int (-1000000000 : Int32)), .val (.int (9 : Int32))] [(.int (10 : Int32)), (.int (9 : Int32))])) t
                    refine XS.icmpNo X0.here hx rfl (hb hby d7_19) rfl (tlt (by decide : (9 : Int32) < (10 : Int32))).2.1 ?_
                    show Steps p.tables e below (s₁.setTop (mkF m 22 #[.val (.int (-q0)), .val (.int (0 : Int32)), .val (.int (-1000000000 : Int32)), .val (.int (9 : Int32))] [])) t
                    refine XS.iloadN X0.here hx rfl (hb hby d7_22) rfl ?_
                    show Steps p.tables e below (s₁.setTop (mkF m 23 #[.val (.int (-q0)), .val (.int (0 : Int32)), .val (.int (-1000000000 : Int32)), .val (.int (9 : Int32))] [(.int (-q0))])) t
                    refine XS.iloadN X0.here hx rfl (hb hby d7_23) rfl ?_
                    exact k
                  by_cases hc24_25 : (-1000000000 : Int32) < (-q0)
                  · have R27 : Rch p e below (s₁.setTop (entryFrame m #[(.int q0)] 4)) s₁ (mkF m 30 #[.val (.int (-q0)), .val (.int (0 : Int32)), .val (.int (-1000000000 : Int32)), .val (.int (9 : Int32))] [(.int (9 : Int32))]) := fun t k => by
                      refine R26 t ?_
                      refine XS.icmpNo X0.here hx rfl (hb hby d7_24) rfl (tlt hc24_25).2.2.2 ?_
                      show Steps p.tables e below (s₁.setTop (mkF m 27 #[.val (.int (-q0)), .val (.int (0 : Int32)), .val (.int (-1000000000 : Int32)), .val (.int (9 : Int32))] [])) t
                      refine XS.iloadN X0.here hx rfl (hb hby d7_27) rfl ?_
                      show Steps p.tables e below (s₁.setTop (mkF m 28 #[.val (.int (-q0)), .val (.int (0 : Int32)), .val (.int (-1000000000 : Int32)), .val (.int (9 : Int32))] [(.int (9 : Int32))])) t
                      refine XS.iloadN X0.here hx rfl (hb hby d7_28) rfl ?_
                      show Steps p.tables e below (s₁.setTop (mkF m 29 #[.val (.int (-q0)), .val (.int (0 : Int32)), .val (.int (-1000000000 : Int32)), .val (.int (9 : Int32))] [(.int (0 : Int32)), (.int (9 : Int32))])) t
                      refine XS.iadd X0.here hx rfl (hb hby d7_29) rfl ?_
                      exact k
                    obtain ⟨fs, hr, hrun, hended, hW, hsame⟩ := X0.leave (v := some (.int (9 : Int32))) (fun h => by rw [Bd.returns] at h; cases h) (BodyLoose.notSynchronized Bd)
                    refine ⟨_, _, R27 _ ?_, hrun, hended, _, _, rfl, ?_, ⟨_, rfl⟩, hW, hsame.mono (by decide) (by decide)⟩
                    · exact retI X0 hx Bd.returns (hb hby d7_30) hr
                    · show Q_rm_ssize Z q0 h0 n0 _ s₁.heap _
                      rw [e0]
                      exact ⟨own_i (by simp only [own_dg, (show ¬ q0 < (10 : Int32) from fun q => hc24_1 ((own_neg_lt (a := (-10 : Int32)) (b := (10 : Int32)) hn (by decide)).mpr q)), (show ¬ q0 < (100 : Int32) from fun q => hc24_4 ((own_neg_lt (a := (-100 : Int32)) (b := (100 : Int32)) hn (by decide)).mpr q)), (show ¬ q0 < (1000 : Int32) from fun q => hc24_7 ((own_neg_lt (a := (-1000 : Int32)) (b := (1000 : Int32)) hn (by decide)).mpr q)), (show ¬ q0 < (10000 : Int32) from fun q => hc24_10 ((own_neg_lt (a := (-10000 : Int32)) (b := (10000 : Int32)) hn (by decide)).mpr q)), (show ¬ q0 < (100000 : Int32) from fun q => hc24_13 ((own_neg_lt (a := (-100000 : Int32)) (b := (100000 : Int32)) hn (by decide)).mpr q)), (show ¬ q0 < (1000000 : Int32) from fun q => hc24_16 ((own_neg_lt (a := (-1000000 : Int32)) (b := (1000000 : Int32)) hn (by decide)).mpr q)), (show ¬ q0 < (10000000 : Int32) from fun q => hc24_19 ((own_neg_lt (a := (-10000000 : Int32)) (b := (10000000 : Int32)) hn (by decide)).mpr q)), (show ¬ q0 < (100000000 : Int32) from fun q => hc24_22 ((own_neg_lt (a := (-100000000 : Int32)) (b := (100000000 : Int32)) hn (by decide)).mpr q)), (show q0 < (1000000000 : Int32) from (own_neg_lt (a := (-1000000000 : Int32)) (b := (1000000000 : Int32)) hn (by decide)).mp hc24_25), ↓reduceIte]), N0, rfl⟩
                  · have R28 : Rch p e below (s₁.setTop (entryFrame m #[(.int q0)] 4)) s₁ (mkF m 46 #[.val (.int (-q0)), .val (.int (0 : Int32)), .val (.int (-1410065408 : Int32)), .val (.int (10 : Int32))] [(.int (10 : Int32))]) := fun t k => by
                      refine R26 t ?_
                      refine XS.icmpYes X0.here hx rfl (pc0 := 24) (pc' := 31) rfl (hb hby d7_24) rfl (flt hc24_25).2.2.2 (by decide) (by decide) ?_
                      show Steps p.tables e below (s₁.setTop (mkF m 31 #[.val (.int (-q0)), .val (.int (0 : Int32)), .val (.int (-1000000000 : Int32)), .val (.int (9 : Int32))] [])) t
                      refine XS.bipush X0.here hx rfl (hb hby d7_31) ?_
                      show Steps p.tables e below (s₁.setTop (mkF m 33 #[.val (.int (-q0)), .val (.int (0 : Int32)), .val (.int (-1000000000 : Int32)), .val (.int (9 : Int32))] [(.int (10 : Int32))])) t
                      refine XS.iloadN X0.here hx rfl (hb hby d7_33) rfl ?_
                      show Steps p.tables e below (s₁.setTop (mkF m 34 #[.val (.int (-q0)), .val (.int (0 : Int32)), .val (.int (-1000000000 : Int32)), .val (.int (9 : Int32))] [(.int (-1000000000 : Int32)), (.int (10 : Int32))])) t
                      refine XS.imul X0.here hx rfl (hb hby d7_34) rfl ?_
                      show Steps p.tables e below (s₁.setTop (mkF m 35 #[.val (.int (-q0)), .val (.int (0 : Int32)), .val (.int (-1000000000 : Int32)), .val (.int (9 : Int32))] [(.int (-1410065408 : Int32))])) t
                      refine XS.istoreN X0.here hx rfl (hb hby d7_35) rfl (l' := #[.val (.int (-q0)), .val (.int (0 : Int32)), .val (.int (-1410065408 : Int32)), .val (.int (9 : Int32))]) rfl ?_
                      show Steps p.tables e below (s₁.setTop (mkF m 36 #[.val (.int (-q0)), .val (.int (0 : Int32)), .val (.int (-1410065408 : Int32)), .val (.int (9 : Int32))] [])) t
                      refine XS.iinc X0.here hx rfl (hb hby d7_36) rfl (l' := #[.val (.int (-q0)), .val (.int (0 : Int32)), .val (.int (-1410065408 : Int32)), .val (.int (10 : Int32))]) rfl ?_
                      show Steps p.tables e below (s₁.setTop (mkF m 39 #[.val (.int (-q0)), .val (.int (0 : Int32)), .val (.int (-1410065408 : Int32)), .val (.int (10 : Int32))] [])) t
                      refine XS.goto X0.here hx rfl (pc0 := 39) (pc' := 16) rfl (hb hby d7_39) (by decide) (by decide) ?_
                      show Steps p.tables e below (s₁.setTop (mkF m 16 #[.val (.int (-q0)), .val (.int (0 : Int32)), .val (.int (-1410065408 : Int32)), .val (.int (10 : Int32))] [])) t
                      refine XS.iloadN X0.here hx rfl (hb hby d7_16) rfl ?_
                      show Steps p.tables e below (s₁.setTop (mkF m 17 #[.val (.int (-q0)), .val (.int (0 : Int32)), .val (.int (-1410065408 : Int32)), .val (.int (10 : Int32))] [(.int (10 : Int32))])) t
                      refine XS.bipush X0.here hx rfl (hb hby d7_17) ?_
                      show Steps p.tables e below (s₁.setTop (mkF m 19 #[.val (.int (-q0)), .val (.int (0 : Int32)), .val (.int (-1410065408 : Int32)), .val (.int (10 : Int32))] [(.int (10 : Int32)), (.int (10 : Int32))])) t
                      refine XS.icmpYes X0.here hx rfl (pc0 := 19) (pc' := 42) rfl (hb hby d7_19) rfl (flt (by decide : ¬ ((10 : Int32) < (10 : Int32)))).2.1 (by decide) (by decide) ?_
                      show Steps p.tables e below (s₁.setTop (mkF m 42 #[.val (.int (-q0)), .val (.int (0 : Int32)), .val (.int (-1410065408 : Int32)), .val (.int (10 : Int32))] [])) t
                      refine XS.bipush X0.here hx rfl (hb hby d7_42) ?_
                      show Steps p.tables e below (s₁.setTop (mkF m 44 #[.val (.int (-q0)), .val (.int (0 : Int32)), .val (.int (-1410065408 : Int32)), .val (.int (10 : Int32))] [(.int (10 : Int32))])) t
                      refine XS.iloadN X0.here hx rfl (hb hby d7_44) rfl ?_
                      show Steps p.tables e below (s₁.setTop (mkF m 45 #[.val (.int (-q0)), .val (.int (0 : Int32)), .val (.int (-1410065408 : Int32)), .val (.int (10 : Int32))] [(.int (0 : Int32)), (.int (10 : Int32))])) t
                      refine XS.iadd X0.here hx rfl (hb hby d7_45) rfl ?_
                      exact k
                    obtain ⟨fs, hr, hrun, hended, hW, hsame⟩ := X0.leave (v := some (.int (10 : Int32))) (fun h => by rw [Bd.returns] at h; cases h) (BodyLoose.notSynchronized Bd)
                    refine ⟨_, _, R28 _ ?_, hrun, hended, _, _, rfl, ?_, ⟨_, rfl⟩, hW, hsame.mono (by decide) (by decide)⟩
                    · exact retI X0 hx Bd.returns (hb hby d7_46) hr
                    · show Q_rm_ssize Z q0 h0 n0 _ s₁.heap _
                      rw [e0]
                      exact ⟨own_i (by simp only [own_dg, (show ¬ q0 < (10 : Int32) from fun q => hc24_1 ((own_neg_lt (a := (-10 : Int32)) (b := (10 : Int32)) hn (by decide)).mpr q)), (show ¬ q0 < (100 : Int32) from fun q => hc24_4 ((own_neg_lt (a := (-100 : Int32)) (b := (100 : Int32)) hn (by decide)).mpr q)), (show ¬ q0 < (1000 : Int32) from fun q => hc24_7 ((own_neg_lt (a := (-1000 : Int32)) (b := (1000 : Int32)) hn (by decide)).mpr q)), (show ¬ q0 < (10000 : Int32) from fun q => hc24_10 ((own_neg_lt (a := (-10000 : Int32)) (b := (10000 : Int32)) hn (by decide)).mpr q)), (show ¬ q0 < (100000 : Int32) from fun q => hc24_13 ((own_neg_lt (a := (-100000 : Int32)) (b := (100000 : Int32)) hn (by decide)).mpr q)), (show ¬ q0 < (1000000 : Int32) from fun q => hc24_16 ((own_neg_lt (a := (-1000000 : Int32)) (b := (1000000 : Int32)) hn (by decide)).mpr q)), (show ¬ q0 < (10000000 : Int32) from fun q => hc24_19 ((own_neg_lt (a := (-10000000 : Int32)) (b := (10000000 : Int32)) hn (by decide)).mpr q)), (show ¬ q0 < (100000000 : Int32) from fun q => hc24_22 ((own_neg_lt (a := (-100000000 : Int32)) (b := (100000000 : Int32)) hn (by decide)).mpr q)), (show ¬ q0 < (1000000000 : Int32) from fun q => hc24_25 ((own_neg_lt (a := (-1000000000 : Int32)) (b := (1000000000 : Int32)) hn (by decide)).mpr q)), ↓reduceIte]), N0, rfl⟩
theorem d9_0 : decode jdk_68_method_68_code 0 = .ok (.getstatic 18, 3) := by decide +kernel
theorem d9_3 : decode jdk_68_method_68_code 3 = .ok (.ifCond .eq 14, 3) := by decide +kernel
theorem d9_6 : decode jdk_68_method_68_code 6 = .ok (.aload_n 0, 1) := by decide +kernel
theorem d9_7 : decode jdk_68_method_68_code 7 = .ok (.getfield 22, 3) := by decide +kernel
theorem d9_10 : decode jdk_68_method_68_code 10 = .ok (.ifCond .ne 7, 3) := by decide +kernel
theorem d9_13 : decode jdk_68_method_68_code 13 = .ok (.iconst 1, 1) := by decide +kernel
theorem d9_14 : decode jdk_68_method_68_code 14 = .ok (.goto 4, 3) := by decide +kernel
theorem d9_18 : decode jdk_68_method_68_code 18 = .ok (.ireturn, 1) := by decide +kernel
theorem ef_rm_alat (m : MethodId) (x0 : Addr) : entryFrame m #[(.ref x0)] 1 = mkF m 0 #[.val (.ref x0)] [] := by first | (simp [entryFrame, mkF, argsToLocals, Value.category]; done) | rfl
theorem pn_5 : plainName "java/lang/AbstractStringBuilder" = true := by first | (simp [plainName, overriddenIn]; done) | decide +kernel
def Q_rm_alat (Z : State) (o0 : Addr) (cs : Int32) (h0 : Heap) (n0 : Nat) (v : Option Value) (h : Heap) (L : List Loc) : Prop := (v = some (.int (1 : Int32))) ∧ (Fr n0 L) ∧ (h = h0)
set_option maxRecDepth 65536 in
set_option maxHeartbeats 40000000 in
theorem rm_alat (l : Launch) (Z : State) (a0 : Array Value) (hw : ∀ d ∈ tables_1, d.before a0 Z = true) (ws : List Jvm.Cond) (o0 : Addr) (cs : Int32) (h0 : Heap) (n0 : Nat) (Z0 : n0 ≤ h0.size) (pS : Sta Z h0 "java/lang/String" "COMPACT_STRINGS" "Z" (.int cs)) (pcs : ¬ (cs = (0 : Int32))) (pFc : Fld Z h0 o0 "java/lang/AbstractStringBuilder" "coder" "B" (.int (0 : Int32))) :
    MetFree l (⟨"java/lang/AbstractStringBuilder", "isLatin1", "()Z"⟩ : MethodName) (head1 (Jvm.Cond.code (⟨"java/lang/AbstractStringBuilder", "isLatin1", "()Z"⟩ : MethodName) jdk_68_method_68_code 1 (some .boolean) :: ws) ({ frames := 0, cells := 0, slots := 0, locals := 0 } : Room)) (fun a U => a = #[(.ref o0)] ∧ Z.Warmed39 U.vm ∧ U.heap = h0) (fun _ _ _ _ _ => True) (fun _ U o U' => ∃ v L, o = .returned v ∧ Q_rm_alat Z o0 cs h0 n0 v U'.heap L ∧ FrameEnd U o U' L ({ frames := 0, cells := 0, slots := 0, locals := 0 } : Room).cells ({ frames := 0, cells := 0, slots := 0, locals := 0 } : Room).slots) := by
  refine MetFree.of_bodySF (plainFor_of_name pn_5) hisR ?_
  intro p e s m args below meth c s₁ Bd hml0 hP hK
  obtain ⟨rfl, hZ, hh⟩ := hP
  have hx := Bd.exec
  have hby := Bd.bytes
  have hml : c.maxLocals = 1 := hml0
  have hown : s.vm.findClass "java/lang/AbstractStringBuilder" = some m.cls := findClass_of_methodNamed Bd.named
  have hnm := (name_of_methodNamed Bd.named Bd.method).1
  have X0 : Stand p l e ({ frames := 0, cells := 0, slots := 0, locals := 0 } : Room) s m #[(.ref o0)] below meth c s₁ [] 0 0 := Stand.of_body Bd
  have e0 : s₁.heap = h0 := by rw [← hh, Bd.state]; rfl
  have N0 := Fr.nil n0
  have K0 : Keep h0 h0 [] := Keep.refl _ _
  have R0 : Rch p e below (s₁.setTop (entryFrame m #[(.ref o0)] 1)) s₁ (mkF m 0 #[.val (.ref o0)] []) := fun t k => castTop (ef_rm_alat m o0) k
  obtain ⟨T1, X1, e1, st1⟩ := getS2 X0 hx hZ hown (host := "") (Or.inl (hw _ (List.mem_of_getElem? (i := 28) rfl))) Via.refl e0 pS (g := (mkF m 0 #[.val (.ref o0)] [])) rfl (hb hby d9_0)
  have R3 : Rch p e below (s₁.setTop (entryFrame m #[(.ref o0)] 1)) T1 (mkF m 7 #[.val (.ref o0)] [(.ref o0)]) := fun t k => by
    refine R0 t ?_
    refine st1 _ ?_
    show Steps p.tables e below (T1.setTop (mkF m 3 #[.val (.ref o0)] [(.int cs)])) t
    refine XS.ifNo X1.here hx rfl (hb hby d9_3) rfl ((if0 _ _).trans (feq pcs).1) ?_
    show Steps p.tables e below (T1.setTop (mkF m 6 #[.val (.ref o0)] [])) t
    refine XS.aloadN X1.here hx rfl (hb hby d9_6) rfl rfl ?_
    exact k
  obtain ⟨T2, X2, e2, st2⟩ := getF X1 hx hZ hown (host := "") (Or.inl (hw _ (List.mem_of_getElem? (i := 31) rfl))) Via.refl e1 pFc (g := (mkF m 7 #[.val (.ref o0)] [(.ref o0)])) rfl rfl (hb hby d9_7)
  have R4 : Rch p e below (s₁.setTop (entryFrame m #[(.ref o0)] 1)) T2 (mkF m 18 #[.val (.ref o0)] [(.int (1 : Int32))]) := fun t k => by
    refine R3 t ?_
    refine st2 _ ?_
    show Steps p.tables e below (T2.setTop (mkF m 10 #[.val (.ref o0)] [(.int (0 : Int32))])) t
    refine XS.ifNo X2.here hx rfl (hb hby d9_10) rfl ((if0 _ _).trans (teq (by decide : (0 : Int32) = (0 : Int32))).2) ?_
    show Steps p.tables e below (T2.setTop (mkF m 13 #[.val (.ref o0)] [])) t
    refine XS.iconst X2.here hx rfl (hb hby d9_13) ?_
    show Steps p.tables e below (T2.setTop (mkF m 14 #[.val (.ref o0)] [(.int (1 : Int32))])) t
    refine XS.goto X2.here hx rfl (pc0 := 14) (pc' := 18) rfl (hb hby d9_14) (by decide) (by decide) ?_
    exact k
  obtain ⟨fs, hr, hrun, hended, hW, hsame⟩ := X2.leave (v := some (.int (1 : Int32))) (fun h => by rw [Bd.returns] at h; cases h) (BodyLoose.notSynchronized Bd)
  refine ⟨_, _, R4 _ ?_, hrun, hended, _, _, rfl, ?_, ⟨_, rfl⟩, hW, hsame.mono (by decide) (by decide)⟩
  · exact retN X2 hx (t := .boolean) Bd.returns (by simp) (hb hby d9_18) hr
  · show Q_rm_alat Z o0 cs h0 n0 _ T2.heap _
    rw [e2]
    exact ⟨rfl, N0, rfl⟩
theorem d8_0 : decode jdk_68_method_9_code 0 = .ok (.aload_n 0, 1) := by decide +kernel
theorem d8_1 : decode jdk_68_method_9_code 1 = .ok (.getfield 15, 3) := by decide +kernel
theorem d8_4 : decode jdk_68_method_9_code 4 = .ok (.arraylength, 1) := by decide +kernel
theorem d8_5 : decode jdk_68_method_9_code 5 = .ok (.aload_n 0, 1) := by decide +kernel
theorem d8_6 : decode jdk_68_method_9_code 6 = .ok (.getfield 22, 3) := by decide +kernel
theorem d8_9 : decode jdk_68_method_9_code 9 = .ok (.ishr, 1) := by decide +kernel
theorem d8_10 : decode jdk_68_method_9_code 10 = .ok (.istore_n 2, 1) := by decide +kernel
theorem d8_11 : decode jdk_68_method_9_code 11 = .ok (.iload_n 1, 1) := by decide +kernel
theorem d8_12 : decode jdk_68_method_9_code 12 = .ok (.iload_n 2, 1) := by decide +kernel
theorem d8_13 : decode jdk_68_method_9_code 13 = .ok (.isub, 1) := by decide +kernel
theorem d8_14 : decode jdk_68_method_9_code 14 = .ok (.ifCond .le 24, 3) := by decide +kernel
theorem d8_38 : decode jdk_68_method_9_code 38 = .ok (.return_, 1) := by decide +kernel
theorem ef_rm_ensure (m : MethodId) (x0 : Addr) (x1 : Int32) : entryFrame m #[(.ref x0), (.int x1)] 3 = mkF m 0 #[.val (.ref x0), .val (.int x1), .unset] [] := by first | (simp [entryFrame, mkF, argsToLocals, Value.category]; done) | rfl
def Q_rm_ensure (Z : State) (o0 : Addr) (ba : Addr) (kb : ClassId) (vs : List Value) (q1 : Int32) (h0 : Heap) (n0 : Nat) (v : Option Value) (h : Heap) (L : List Loc) : Prop := (v = none) ∧ (Fr n0 L) ∧ (h = h0)
set_option maxRecDepth 65536 in
set_option maxHeartbeats 40000000 in
theorem rm_ensure (l : Launch) (Z : State) (a0 : Array Value) (hw : ∀ d ∈ tables_1, d.before a0 Z = true) (ws : List Jvm.Cond) (o0 : Addr) (ba : Addr) (kb : ClassId) (vs : List Value) (q1 : Int32) (h0 : Heap) (n0 : Nat) (Z0 : n0 ≤ h0.size) (pFv : Fld Z h0 o0 "java/lang/AbstractStringBuilder" "value" "[B" (.ref ba)) (pFc : Fld Z h0 o0 "java/lang/AbstractStringBuilder" "coder" "B" (.int (0 : Int32))) (pV : Arv Z h0 ba kb .byte (16 : Int32) vs (.int (0 : Int32))) (pm : ¬ ((0 : Int32) < (q1 - (16 : Int32)))) :
    MetFree l (⟨"java/lang/AbstractStringBuilder", "ensureCapacityInternal", "(I)V"⟩ : MethodName) (head1 (Jvm.Cond.code (⟨"java/lang/AbstractStringBuilder", "ensureCapacityInternal", "(I)V"⟩ : MethodName) jdk_68_method_9_code 3 none :: ws) ({ frames := 0, cells := 0, slots := 0, locals := 0 } : Room)) (fun a U => a = #[(.ref o0), (.int q1)] ∧ Z.Warmed39 U.vm ∧ U.heap = h0) (fun _ _ _ _ _ => True) (fun _ U o U' => ∃ v L, o = .returned v ∧ Q_rm_ensure Z o0 ba kb vs q1 h0 n0 v U'.heap L ∧ FrameEnd U o U' L ({ frames := 0, cells := 0, slots := 0, locals := 0 } : Room).cells ({ frames := 0, cells := 0, slots := 0, locals := 0 } : Room).slots) := by
  refine MetFree.of_bodySF (plainFor_of_name pn_5) hisR ?_
  intro p e s m args below meth c s₁ Bd hml0 hP hK
  obtain ⟨rfl, hZ, hh⟩ := hP
  have hx := Bd.exec
  have hby := Bd.bytes
  have hml : c.maxLocals = 3 := hml0
  have hown : s.vm.findClass "java/lang/AbstractStringBuilder" = some m.cls := findClass_of_methodNamed Bd.named
  have hnm := (name_of_methodNamed Bd.named Bd.method).1
  have X0 : Stand p l e ({ frames := 0, cells := 0, slots := 0, locals := 0 } : Room) s m #[(.ref o0), (.int q1)] below meth c s₁ [] 0 0 := Stand.of_body Bd
  have e0 : s₁.heap = h0 := by rw [← hh, Bd.state]; rfl
  have N0 := Fr.nil n0
  have K0 : Keep h0 h0 [] := Keep.refl _ _
  have R0 : Rch p e below (s₁.setTop (entryFrame m #[(.ref o0), (.int q1)] 3)) s₁ (mkF m 0 #[.val (.ref o0), .val (.int q1), .unset] []) := fun t k => castTop (ef_rm_ensure m o0 q1) k
  have R2 : Rch p e below (s₁.setTop (entryFrame m #[(.ref o0), (.int q1)] 3)) s₁ (mkF m 1 #[.val (.ref o0), .val (.int q1), .unset] [(.ref o0)]) := fun t k => by
    refine R0 t ?_
    refine XS.aloadN X0.here hx rfl (hb hby d8_0) rfl rfl ?_
    exact k
  obtain ⟨T1, X1, e1, st1⟩ := getF X0 hx hZ hown (host := "") (Or.inl (hw _ (List.mem_of_getElem? (i := 29) rfl))) Via.refl e0 pFv (g := (mkF m 1 #[.val (.ref o0), .val (.int q1), .unset] [(.ref o0)])) rfl rfl (hb hby d8_1)
  have R4 : Rch p e below (s₁.setTop (entryFrame m #[(.ref o0), (.int q1)] 3)) T1 (mkF m 4 #[.val (.ref o0), .val (.int q1), .unset] [(.ref ba)]) := fun t k => by
    refine R2 t ?_
    refine st1 _ ?_
    exact k
  obtain ⟨cl3, Ar3, -, Sz3, N3_, -, -⟩ := id pV
  have R6 : Rch p e below (s₁.setTop (entryFrame m #[(.ref o0), (.int q1)] 3)) T1 (mkF m 6 #[.val (.ref o0), .val (.int q1), .unset] [(.ref o0), (.int (16 : Int32))]) := fun t k => by
    refine R4 t ?_
    refine X1.arraylength hx (by rw [e1]; exact Ar3.1) (State.isArrayOf_alike hZ.alike Ar3.2.1) (g := (mkF m 4 #[.val (.ref o0), .val (.int q1), .unset] [(.ref ba)])) rfl rfl (hb hby d8_4) _ ?_
    rw [len_of Sz3 N3_]
    show Steps p.tables e below (T1.setTop (mkF m 5 #[.val (.ref o0), .val (.int q1), .unset] [(.int (16 : Int32))])) t
    refine XS.aloadN X1.here hx rfl (hb hby d8_5) rfl rfl ?_
    exact k
  obtain ⟨T5, X5, e5, st5⟩ := getF X1 hx hZ hown (host := "") (Or.inl (hw _ (List.mem_of_getElem? (i := 31) rfl))) Via.refl e1 pFc (g := (mkF m 6 #[.val (.ref o0), .val (.int q1), .unset] [(.ref o0), (.int (16 : Int32))])) rfl rfl (hb hby d8_6)
  have R7 : Rch p e below (s₁.setTop (entryFrame m #[(.ref o0), (.int q1)] 3)) T5 (mkF m 10 #[.val (.ref o0), .val (.int q1), .unset] [(.int ((16 : Int32) >>> ((0 : Int32) &&& 31)))]) := fun t k => by
    refine R6 t ?_
    refine st5 _ ?_
    show Steps p.tables e below (T5.setTop (mkF m 9 #[.val (.ref o0), .val (.int q1), .unset] [(.int (0 : Int32)), (.int (16 : Int32))])) t
    refine XS.ishr X5.here hx rfl (hb hby d8_9) rfl ?_
    exact k
  rw [own_shr0] at R7
  have R8 : Rch p e below (s₁.setTop (entryFrame m #[(.ref o0), (.int q1)] 3)) T5 (mkF m 38 #[.val (.ref o0), .val (.int q1), .val (.int (16 : Int32))] []) := fun t k => by
    refine R7 t ?_
    refine XS.istoreN X5.here hx rfl (hb hby d8_10) rfl (l' := #[.val (.ref o0), .val (.int q1), .val (.int (16 : Int32))]) rfl ?_
    show Steps p.tables e below (T5.setTop (mkF m 11 #[.val (.ref o0), .val (.int q1), .val (.int (16 : Int32))] [])) t
    refine XS.iloadN X5.here hx rfl (hb hby d8_11) rfl ?_
    show Steps p.tables e below (T5.setTop (mkF m 12 #[.val (.ref o0), .val (.int q1), .val (.int (16 : Int32))] [(.int q1)])) t
    refine XS.iloadN X5.here hx rfl (hb hby d8_12) rfl ?_
    show Steps p.tables e below (T5.setTop (mkF m 13 #[.val (.ref o0), .val (.int q1), .val (.int (16 : Int32))] [(.int (16 : Int32)), (.int q1)])) t
    refine XS.isub X5.here hx rfl (hb hby d8_13) rfl ?_
    show Steps p.tables e below (T5.setTop (mkF m 14 #[.val (.ref o0), .val (.int q1), .val (.int (16 : Int32))] [(.int (q1 - (16 : Int32)))])) t
    refine XS.ifYes X5.here hx rfl (pc0 := 14) (pc' := 38) rfl (hb hby d8_14) rfl ((if0 _ _).trans (flt pm).2.2.2) (by decide) (by decide) ?_
    exact k
  obtain ⟨fs, hr, hrun, hended, hW, hsame⟩ := X5.leave (v := none) (fun _ => rfl) (BodyLoose.notSynchronized Bd)
  refine ⟨_, _, R8 _ ?_, hrun, hended, _, _, rfl, ?_, ⟨_, rfl⟩, hW, hsame.mono (by decide) (by decide)⟩
  · exact X5.returnOut hx Bd.returns (hb hby d8_38) hr
  · show Q_rm_ensure Z o0 ba kb vs q1 h0 n0 _ T5.heap _
    rw [e5]
    exact ⟨rfl, N0, rfl⟩
theorem d10_0 : decode jdk_33_method_12_code 0 = .ok (.iload_n 1, 1) := by decide +kernel
theorem d10_1 : decode jdk_33_method_12_code 1 = .ok (.istore 5, 2) := by decide +kernel
theorem d10_3 : decode jdk_33_method_12_code 3 = .ok (.iload_n 0, 1) := by decide +kernel
theorem d10_4 : decode jdk_33_method_12_code 4 = .ok (.ifCond .ge 7, 3) := by decide +kernel
theorem d10_11 : decode jdk_33_method_12_code 11 = .ok (.iconst 0, 1) := by decide +kernel
theorem d10_12 : decode jdk_33_method_12_code 12 = .ok (.istore 6, 2) := by decide +kernel
theorem d10_14 : decode jdk_33_method_12_code 14 = .ok (.iload 6, 2) := by decide +kernel
theorem d10_16 : decode jdk_33_method_12_code 16 = .ok (.ifCond .ne 6, 3) := by decide +kernel
theorem d10_19 : decode jdk_33_method_12_code 19 = .ok (.iload_n 0, 1) := by decide +kernel
theorem d10_20 : decode jdk_33_method_12_code 20 = .ok (.ineg, 1) := by decide +kernel
theorem d10_21 : decode jdk_33_method_12_code 21 = .ok (.istore_n 0, 1) := by decide +kernel
theorem d10_22 : decode jdk_33_method_12_code 22 = .ok (.iload_n 0, 1) := by decide +kernel
theorem d10_23 : decode jdk_33_method_12_code 23 = .ok (.bipush (-100), 2) := by decide +kernel
theorem d10_25 : decode jdk_33_method_12_code 25 = .ok (.if_icmp .gt 47, 3) := by decide +kernel
theorem d10_28 : decode jdk_33_method_12_code 28 = .ok (.iload_n 0, 1) := by decide +kernel
theorem d10_29 : decode jdk_33_method_12_code 29 = .ok (.bipush 100, 2) := by decide +kernel
theorem d10_31 : decode jdk_33_method_12_code 31 = .ok (.idiv, 1) := by decide +kernel
theorem d10_32 : decode jdk_33_method_12_code 32 = .ok (.istore_n 3, 1) := by decide +kernel
theorem d10_33 : decode jdk_33_method_12_code 33 = .ok (.iload_n 3, 1) := by decide +kernel
theorem d10_34 : decode jdk_33_method_12_code 34 = .ok (.bipush 100, 2) := by decide +kernel
theorem d10_36 : decode jdk_33_method_12_code 36 = .ok (.imul, 1) := by decide +kernel
theorem d10_37 : decode jdk_33_method_12_code 37 = .ok (.iload_n 0, 1) := by decide +kernel
theorem d10_38 : decode jdk_33_method_12_code 38 = .ok (.isub, 1) := by decide +kernel
theorem d10_39 : decode jdk_33_method_12_code 39 = .ok (.istore 4, 2) := by decide +kernel
theorem d10_41 : decode jdk_33_method_12_code 41 = .ok (.iload_n 3, 1) := by decide +kernel
theorem d10_42 : decode jdk_33_method_12_code 42 = .ok (.istore_n 0, 1) := by decide +kernel
theorem d10_43 : decode jdk_33_method_12_code 43 = .ok (.aload_n 2, 1) := by decide +kernel
theorem d10_44 : decode jdk_33_method_12_code 44 = .ok (.iinc 5 (-1), 3) := by decide +kernel
theorem d10_47 : decode jdk_33_method_12_code 47 = .ok (.iload 5, 2) := by decide +kernel
theorem d10_49 : decode jdk_33_method_12_code 49 = .ok (.getstatic 83, 3) := by decide +kernel
theorem d10_52 : decode jdk_33_method_12_code 52 = .ok (.iload 4, 2) := by decide +kernel
theorem d10_54 : decode jdk_33_method_12_code 54 = .ok (.baload, 1) := by decide +kernel
theorem d10_55 : decode jdk_33_method_12_code 55 = .ok (.bastore, 1) := by decide +kernel
theorem d10_56 : decode jdk_33_method_12_code 56 = .ok (.aload_n 2, 1) := by decide +kernel
theorem d10_57 : decode jdk_33_method_12_code 57 = .ok (.iinc 5 (-1), 3) := by decide +kernel
theorem d10_60 : decode jdk_33_method_12_code 60 = .ok (.iload 5, 2) := by decide +kernel
theorem d10_62 : decode jdk_33_method_12_code 62 = .ok (.getstatic 87, 3) := by decide +kernel
theorem d10_65 : decode jdk_33_method_12_code 65 = .ok (.iload 4, 2) := by decide +kernel
theorem d10_67 : decode jdk_33_method_12_code 67 = .ok (.baload, 1) := by decide +kernel
theorem d10_68 : decode jdk_33_method_12_code 68 = .ok (.bastore, 1) := by decide +kernel
theorem d10_69 : decode jdk_33_method_12_code 69 = .ok (.goto (-47), 3) := by decide +kernel
theorem d10_72 : decode jdk_33_method_12_code 72 = .ok (.aload_n 2, 1) := by decide +kernel
theorem d10_73 : decode jdk_33_method_12_code 73 = .ok (.iinc 5 (-1), 3) := by decide +kernel
theorem d10_76 : decode jdk_33_method_12_code 76 = .ok (.iload 5, 2) := by decide +kernel
theorem d10_78 : decode jdk_33_method_12_code 78 = .ok (.getstatic 83, 3) := by decide +kernel
theorem d10_81 : decode jdk_33_method_12_code 81 = .ok (.iload_n 0, 1) := by decide +kernel
theorem d10_82 : decode jdk_33_method_12_code 82 = .ok (.ineg, 1) := by decide +kernel
theorem d10_83 : decode jdk_33_method_12_code 83 = .ok (.baload, 1) := by decide +kernel
theorem d10_84 : decode jdk_33_method_12_code 84 = .ok (.bastore, 1) := by decide +kernel
theorem d10_85 : decode jdk_33_method_12_code 85 = .ok (.iload_n 0, 1) := by decide +kernel
theorem d10_86 : decode jdk_33_method_12_code 86 = .ok (.bipush (-9), 2) := by decide +kernel
theorem d10_88 : decode jdk_33_method_12_code 88 = .ok (.if_icmp .ge 16, 3) := by decide +kernel
theorem d10_91 : decode jdk_33_method_12_code 91 = .ok (.aload_n 2, 1) := by decide +kernel
theorem d10_92 : decode jdk_33_method_12_code 92 = .ok (.iinc 5 (-1), 3) := by decide +kernel
theorem d10_95 : decode jdk_33_method_12_code 95 = .ok (.iload 5, 2) := by decide +kernel
theorem d10_97 : decode jdk_33_method_12_code 97 = .ok (.getstatic 87, 3) := by decide +kernel
theorem d10_100 : decode jdk_33_method_12_code 100 = .ok (.iload_n 0, 1) := by decide +kernel
theorem d10_101 : decode jdk_33_method_12_code 101 = .ok (.ineg, 1) := by decide +kernel
theorem d10_102 : decode jdk_33_method_12_code 102 = .ok (.baload, 1) := by decide +kernel
theorem d10_103 : decode jdk_33_method_12_code 103 = .ok (.bastore, 1) := by decide +kernel
theorem d10_104 : decode jdk_33_method_12_code 104 = .ok (.iload 6, 2) := by decide +kernel
theorem d10_106 : decode jdk_33_method_12_code 106 = .ok (.ifCond .eq 12, 3) := by decide +kernel
theorem d10_118 : decode jdk_33_method_12_code 118 = .ok (.iload 5, 2) := by decide +kernel
theorem d10_120 : decode jdk_33_method_12_code 120 = .ok (.ireturn, 1) := by decide +kernel
theorem ef_rm_getc (m : MethodId) (x0 : Int32) (x1 : Int32) (x2 : Addr) : entryFrame m #[(.int x0), (.int x1), (.ref x2)] 7 = mkF m 0 #[.val (.int x0), .val (.int x1), .val (.ref x2), .unset, .unset, .unset, .unset] [] := by first | (simp [entryFrame, mkF, argsToLocals, Value.category]; done) | rfl
def Q_rm_getc (Z : State) (q0 : Int32) (q1 : Int32) (ba : Addr) (kb : ClassId) (t1 : Addr) (t2 : Addr) (k1 : ClassId) (k2 : ClassId) (h0 : Heap) (n0 : Nat) (v : Option Value) (h : Heap) (L : List Loc) : Prop := (v = some (.int (0 : Int32))) ∧ (Fr n0 L) ∧ (Keep h0 h [ba]) ∧ (Arv Z h ba kb .byte (16 : Int32) (own_buf q0 (own_dn q0)) (.int (0 : Int32)))
set_option maxRecDepth 65536 in
set_option maxHeartbeats 40000000 in
theorem rm_getc (l : Launch) (Z : State) (a0 : Array Value) (hw : ∀ d ∈ tables_1, d.before a0 Z = true) (ws : List Jvm.Cond) (q0 : Int32) (q1 : Int32) (ba : Addr) (kb : ClassId) (t1 : Addr) (t2 : Addr) (k1 : ClassId) (k2 : ClassId) (h0 : Heap) (n0 : Nat) (Z0 : n0 ≤ h0.size) (hn : 0 ≤ q0.toInt) (pq : q1 = own_dg q0) (pV : Arv Z h0 ba kb .byte (16 : Int32) [(.int (0 : Int32)), (.int (0 : Int32)), (.int (0 : Int32)), (.int (0 : Int32)), (.int (0 : Int32)), (.int (0 : Int32)), (.int (0 : Int32)), (.int (0 : Int32)), (.int (0 : Int32)), (.int (0 : Int32)), (.int (0 : Int32)), (.int (0 : Int32)), (.int (0 : Int32)), (.int (0 : Int32)), (.int (0 : Int32)), (.int (0 : Int32))] (.int (0 : Int32))) (pgb : n0 ≤ ba) (pn1 : t1 ≠ ba) (pn2 : t2 ≠ ba) (pS1 : Sta Z h0 "java/lang/Integer" "DigitOnes" "[B" (.ref t1)) (pS2 : Sta Z h0 "java/lang/Integer" "DigitTens" "[B" (.ref t2)) (pT1 : Arv Z h0 t1 k1 .byte (100 : Int32) own_ones (.int (0 : Int32))) (pT2 : Arv Z h0 t2 k2 .byte (100 : Int32) own_tens (.int (0 : Int32))) :
    MetFree l (⟨"java/lang/Integer", "getChars", "(II[B)I"⟩ : MethodName) (head1 (Jvm.Cond.code (⟨"java/lang/Integer", "getChars", "(II[B)I"⟩ : MethodName) jdk_33_method_12_code 7 (some .int) :: ws) ({ frames := 0, cells := 0, slots := 0, locals := 0 } : Room)) (fun a U => a = #[(.int q0), (.int q1), (.ref ba)] ∧ Z.Warmed39 U.vm ∧ U.heap = h0) (fun _ _ _ _ _ => True) (fun _ U o U' => ∃ v L, o = .returned v ∧ Q_rm_getc Z q0 q1 ba kb t1 t2 k1 k2 h0 n0 v U'.heap L ∧ FrameEnd U o U' L ({ frames := 0, cells := 0, slots := 0, locals := 0 } : Room).cells ({ frames := 0, cells := 0, slots := 0, locals := 0 } : Room).slots) := by
  refine MetFree.of_bodySF (plainFor_of_name pn_4) hisR ?_
  intro p e s m args below meth c s₁ Bd hml0 hP hK
  obtain ⟨rfl, hZ, hh⟩ := hP
  have hx := Bd.exec
  have hby := Bd.bytes
  have hml : c.maxLocals = 7 := hml0
  have hown : s.vm.findClass "java/lang/Integer" = some m.cls := findClass_of_methodNamed Bd.named
  have hnm := (name_of_methodNamed Bd.named Bd.method).1
  have X0 : Stand p l e ({ frames := 0, cells := 0, slots := 0, locals := 0 } : Room) s m #[(.int q0), (.int q1), (.ref ba)] below meth c s₁ [] 0 0 := Stand.of_body Bd
  have e0 : s₁.heap = h0 := by rw [← hh, Bd.state]; rfl
  have N0 := Fr.nil n0
  have K0 : Keep h0 h0 [ba] := Keep.refl _ _
  have R0 : Rch p e below (s₁.setTop (entryFrame m #[(.int q0), (.int q1), (.ref ba)] 7)) s₁ (mkF m 0 #[.val (.int q0), .val (.int q1), .val (.ref ba), .unset, .unset, .unset, .unset] []) := fun t k => castTop (ef_rm_getc m q0 q1 ba) k
  have R1 : Rch p e below (s₁.setTop (entryFrame m #[(.int q0), (.int q1), (.ref ba)] 7)) s₁ (mkF m 22 #[.val (.int (-q0)), .val (.int q1), .val (.ref ba), .unset, .unset, .val (.int q1), .val (.int (0 : Int32))] []) := fun t k => by
    refine R0 t ?_
    refine XS.iloadN X0.here hx rfl (hb hby d10_0) rfl ?_
    show Steps p.tables e below (s₁.setTop (mkF m 1 #[.val (.int q0), .val (.int q1), .val (.ref ba), .unset, .unset, .unset, .unset] [(.int q1)])) t
    refine XS.istore X0.here hx rfl (hb hby d10_1) rfl (l' := #[.val (.int q0), .val (.int q1), .val (.ref ba), .unset, .unset, .val (.int q1), .unset]) rfl ?_
    show Steps p.tables e below (s₁.setTop (mkF m 3 #[.val (.int q0), .val (.int q1), .val (.ref ba), .unset, .unset, .val (.int q1), .unset] [])) t
    refine XS.iloadN X0.here hx rfl (hb hby d10_3) rfl ?_
    show Steps p.tables e below (s₁.setTop (mkF m 4 #[.val (.int q0), .val (.int q1), .val (.ref ba), .unset, .unset, .val (.int q1), .unset] [(.int q0)])) t
    refine XS.ifYes X0.here hx rfl (pc0 := 4) (pc' := 11) rfl (hb hby d10_4) rfl ((if0 _ _).trans (flt (own_ge0 hn)).2.1) (by decide) (by decide) ?_
    show Steps p.tables e below (s₁.setTop (mkF m 11 #[.val (.int q0), .val (.int q1), .val (.ref ba), .unset, .unset, .val (.int q1), .unset] [])) t
    refine XS.iconst X0.here hx rfl (hb hby d10_11) ?_
    show Steps p.tables e below (s₁.setTop (mkF m 12 #[.val (.int q0), .val (.int q1), .val (.ref ba), .unset, .unset, .val (.int q1), .unset] [(.int (0 : Int32))])) t
    refine XS.istore X0.here hx rfl (hb hby d10_12) rfl (l' := #[.val (.int q0), .val (.int q1), .val (.ref ba), .unset, .unset, .val (.int q1), .val (.int (0 : Int32))]) rfl ?_
    show Steps p.tables e below (s₁.setTop (mkF m 14 #[.val (.int q0), .val (.int q1), .val (.ref ba), .unset, .unset, .val (.int q1), .val (.int (0 : Int32))] [])) t
    refine XS.iload X0.here hx rfl (hb hby d10_14) rfl ?_
    show Steps p.tables e below (s₁.setTop (mkF m 16 #[.val (.int q0), .val (.int q1), .val (.ref ba), .unset, .unset, .val (.int q1), .val (.int (0 : Int32))] [(.int (0 : Int32))])) t
    refine XS.ifNo X0.here hx rfl (hb hby d10_16) rfl ((if0 _ _).trans (teq (by decide : (0 : Int32) = (0 : Int32))).2) ?_
    show Steps p.tables e below (s₁.setTop (mkF m 19 #[.val (.int q0), .val (.int q1), .val (.ref ba), .unset, .unset, .val (.int q1), .val (.int (0 : Int32))] [])) t
    refine XS.iloadN X0.here hx rfl (hb hby d10_19) rfl ?_
    show Steps p.tables e below (s₁.setTop (mkF m 20 #[.val (.int q0), .val (.int q1), .val (.ref ba), .unset, .unset, .val (.int q1), .val (.int (0 : Int32))] [(.int q0)])) t
    refine XS.ineg X0.here hx rfl (hb hby d10_20) rfl ?_
    show Steps p.tables e below (s₁.setTop (mkF m 21 #[.val (.int q0), .val (.int q1), .val (.ref ba), .unset, .unset, .val (.int q1), .val (.int (0 : Int32))] [(.int (-q0))])) t
    refine XS.istoreN X0.here hx rfl (hb hby d10_21) rfl (l' := #[.val (.int (-q0)), .val (.int q1), .val (.ref ba), .unset, .unset, .val (.int q1), .val (.int (0 : Int32))]) rfl ?_
    exact k
  have turnU : ∀ (T_ : State) (h_ : Heap) (L_ : List Loc) (M pos : Int32) (j : Nat) (vs : List Value), Stand p l e ({ frames := 0, cells := 0, slots := 0, locals := 0 } : Room) s m #[(.int q0), (.int q1), (.ref ba)] below meth c T_ L_ 0 0 → T_.heap = h_ → Fr n0 L_ → Keep h0 h_ [ba] → Arv Z h_ ba kb .byte (16 : Int32) vs (.int (0 : Int32)) → vs.length = 16 → M.toInt = q0.toInt / 10 ^ j → pos.toInt ≤ 16 → ¬ M < 100 → 2 ≤ pos.toInt → Rch p e below (s₁.setTop (entryFrame m #[(.int q0), (.int q1), (.ref ba)] 7)) T_ (mkF m 22 #[.val (.int (-M)), .val (.int q1), .val (.ref ba), .unset, .unset, .val (.int pos), .val (.int (0 : Int32))] []) → ∃ (T' : State) (h' : Heap) (L' : List Loc), Stand p l e ({ frames := 0, cells := 0, slots := 0, locals := 0 } : Room) s m #[(.int q0), (.int q1), (.ref ba)] below meth c T' L' 0 0 ∧ T'.heap = h' ∧ Fr n0 L' ∧ Keep h0 h' [ba] ∧ Arv Z h' ba kb .byte (16 : Int32) ((vs.set (pos + (-1 : Int32)).toNatClampNeg (.int (own_dig q0 j))).set ((pos + (-1 : Int32)) + (-1 : Int32)).toNatClampNeg (.int (own_dig q0 (j + 1)))) (.int (0 : Int32)) ∧ Rch p e below (s₁.setTop (entryFrame m #[(.int q0), (.int q1), (.ref ba)] 7)) T' (mkF m 22 #[.val (.int (-(M / (100 : Int32)))), .val (.int q1), .val (.ref ba), .val (.int (-(M / (100 : Int32)))), .val (.int (M % (100 : Int32))), .val (.int ((pos + (-1 : Int32)) + (-1 : Int32))), .val (.int (0 : Int32))] []) := by
    intro T_ h_ L_ M pos j vs X_ e_ N_ K_ V_ hlen hM hle hbig hpos R_
    have hMp : 0 ≤ M.toInt := by rw [hM]; exact Int.ediv_nonneg hn (own_pow_pos j)
    have hb1 : ¬ (pos + (-1 : Int32)) < 0 ∧ (pos + (-1 : Int32)) < (16 : Int32) := own_dec1 hpos hle
    have hb2 : ¬ ((pos + (-1 : Int32)) + (-1 : Int32)) < 0 ∧ ((pos + (-1 : Int32)) + (-1 : Int32)) < (16 : Int32) := own_dec2 hpos hle
    have R2 : Rch p e below (s₁.setTop (entryFrame m #[(.int q0), (.int q1), (.ref ba)] 7)) T_ (mkF m 33 #[.val (.int (-M)), .val (.int q1), .val (.ref ba), .val (.int ((-M) / (100 : Int32))), .unset, .val (.int pos), .val (.int (0 : Int32))] []) := fun t k => by
      refine R_ t ?_
      refine XS.iloadN X_.here hx rfl (hb hby d10_22) rfl ?_
      show Steps p.tables e below (T_.setTop (mkF m 23 #[.val (.int (-M)), .val (.int q1), .val (.ref ba), .unset, .unset, .val (.int pos), .val (.int (0 : Int32))] [(.int (-M))])) t
      refine XS.bipush X_.here hx rfl (hb hby d10_23) ?_
      show Steps p.tables e below (T_.setTop (mkF m 25 #[.val (.int (-M)), .val (.int q1), .val (.ref ba), .unset, .unset, .val (.int pos), .val (.int (0 : Int32))] [(.int (-100 : Int32)), (.int (-M))])) t
      refine XS.icmpNo X_.here hx rfl (hb hby d10_25) rfl (flt (own_big100 hMp hbig)).2.2.1 ?_
      show Steps p.tables e below (T_.setTop (mkF m 28 #[.val (.int (-M)), .val (.int q1), .val (.ref ba), .unset, .unset, .val (.int pos), .val (.int (0 : Int32))] [])) t
      refine XS.iloadN X_.here hx rfl (hb hby d10_28) rfl ?_
      show Steps p.tables e below (T_.setTop (mkF m 29 #[.val (.int (-M)), .val (.int q1), .val (.ref ba), .unset, .unset, .val (.int pos), .val (.int (0 : Int32))] [(.int (-M))])) t
      refine XS.bipush X_.here hx rfl (hb hby d10_29) ?_
      show Steps p.tables e below (T_.setTop (mkF m 31 #[.val (.int (-M)), .val (.int q1), .val (.ref ba), .unset, .unset, .val (.int pos), .val (.int (0 : Int32))] [(.int (100 : Int32)), (.int (-M))])) t
      refine XS.idiv X_.here hx rfl (hb hby d10_31) rfl (by decide) ?_
      show Steps p.tables e below (T_.setTop (mkF m 32 #[.val (.int (-M)), .val (.int q1), .val (.ref ba), .unset, .unset, .val (.int pos), .val (.int (0 : Int32))] [(.int ((-M) / (100 : Int32)))])) t
      refine XS.istoreN X_.here hx rfl (hb hby d10_32) rfl (l' := #[.val (.int (-M)), .val (.int q1), .val (.ref ba), .val (.int ((-M) / (100 : Int32))), .unset, .val (.int pos), .val (.int (0 : Int32))]) rfl ?_
      exact k
    rw [own_ndiv hMp] at R2
    have R3 : Rch p e below (s₁.setTop (entryFrame m #[(.int q0), (.int q1), (.ref ba)] 7)) T_ (mkF m 41 #[.val (.int (-M)), .val (.int q1), .val (.ref ba), .val (.int (-(M / (100 : Int32)))), .val (.int (((-(M / (100 : Int32))) * (100 : Int32)) - (-M))), .val (.int pos), .val (.int (0 : Int32))] []) := fun t k => by
      refine R2 t ?_
      refine XS.iloadN X_.here hx rfl (hb hby d10_33) rfl ?_
      show Steps p.tables e below (T_.setTop (mkF m 34 #[.val (.int (-M)), .val (.int q1), .val (.ref ba), .val (.int (-(M / (100 : Int32)))), .unset, .val (.int pos), .val (.int (0 : Int32))] [(.int (-(M / (100 : Int32))))])) t
      refine XS.bipush X_.here hx rfl (hb hby d10_34) ?_
      show Steps p.tables e below (T_.setTop (mkF m 36 #[.val (.int (-M)), .val (.int q1), .val (.ref ba), .val (.int (-(M / (100 : Int32)))), .unset, .val (.int pos), .val (.int (0 : Int32))] [(.int (100 : Int32)), (.int (-(M / (100 : Int32))))])) t
      refine XS.imul X_.here hx rfl (hb hby d10_36) rfl ?_
      show Steps p.tables e below (T_.setTop (mkF m 37 #[.val (.int (-M)), .val (.int q1), .val (.ref ba), .val (.int (-(M / (100 : Int32)))), .unset, .val (.int pos), .val (.int (0 : Int32))] [(.int ((-(M / (100 : Int32))) * (100 : Int32)))])) t
      refine XS.iloadN X_.here hx rfl (hb hby d10_37) rfl ?_
      show Steps p.tables e below (T_.setTop (mkF m 38 #[.val (.int (-M)), .val (.int q1), .val (.ref ba), .val (.int (-(M / (100 : Int32)))), .unset, .val (.int pos), .val (.int (0 : Int32))] [(.int (-M)), (.int ((-(M / (100 : Int32))) * (100 : Int32)))])) t
      refine XS.isub X_.here hx rfl (hb hby d10_38) rfl ?_
      show Steps p.tables e below (T_.setTop (mkF m 39 #[.val (.int (-M)), .val (.int q1), .val (.ref ba), .val (.int (-(M / (100 : Int32)))), .unset, .val (.int pos), .val (.int (0 : Int32))] [(.int (((-(M / (100 : Int32))) * (100 : Int32)) - (-M)))])) t
      refine XS.istore X_.here hx rfl (hb hby d10_39) rfl (l' := #[.val (.int (-M)), .val (.int q1), .val (.ref ba), .val (.int (-(M / (100 : Int32)))), .val (.int (((-(M / (100 : Int32))) * (100 : Int32)) - (-M))), .val (.int pos), .val (.int (0 : Int32))]) rfl ?_
      exact k
    rw [own_nrem hMp] at R3
    have R5 : Rch p e below (s₁.setTop (entryFrame m #[(.int q0), (.int q1), (.ref ba)] 7)) T_ (mkF m 49 #[.val (.int (-(M / (100 : Int32)))), .val (.int q1), .val (.ref ba), .val (.int (-(M / (100 : Int32)))), .val (.int (M % (100 : Int32))), .val (.int (pos + (-1 : Int32))), .val (.int (0 : Int32))] [(.int (pos + (-1 : Int32))), (.ref ba)]) := fun t k => by
      refine R3 t ?_
      refine XS.iloadN X_.here hx rfl (hb hby d10_41) rfl ?_
      show Steps p.tables e below (T_.setTop (mkF m 42 #[.val (.int (-M)), .val (.int q1), .val (.ref ba), .val (.int (-(M / (100 : Int32)))), .val (.int (M % (100 : Int32))), .val (.int pos), .val (.int (0 : Int32))] [(.int (-(M / (100 : Int32))))])) t
      refine XS.istoreN X_.here hx rfl (hb hby d10_42) rfl (l' := #[.val (.int (-(M / (100 : Int32)))), .val (.int q1), .val (.ref ba), .val (.int (-(M / (100 : Int32)))), .val (.int (M % (100 : Int32))), .val (.int pos), .val (.int (0 : Int32))]) rfl ?_
      show Steps p.tables e below (T_.setTop (mkF m 43 #[.val (.int (-(M / (100 : Int32)))), .val (.int q1), .val (.ref ba), .val (.int (-(M / (100 : Int32)))), .val (.int (M % (100 : Int32))), .val (.int pos), .val (.int (0 : Int32))] [])) t
      refine XS.aloadN X_.here hx rfl (hb hby d10_43) rfl rfl ?_
      show Steps p.tables e below (T_.setTop (mkF m 44 #[.val (.int (-(M / (100 : Int32)))), .val (.int q1), .val (.ref ba), .val (.int (-(M / (100 : Int32)))), .val (.int (M % (100 : Int32))), .val (.int pos), .val (.int (0 : Int32))] [(.ref ba)])) t
      refine XS.iinc X_.here hx rfl (hb hby d10_44) rfl (l' := #[.val (.int (-(M / (100 : Int32)))), .val (.int q1), .val (.ref ba), .val (.int (-(M / (100 : Int32)))), .val (.int (M % (100 : Int32))), .val (.int (pos + (-1 : Int32))), .val (.int (0 : Int32))]) rfl ?_
      show Steps p.tables e below (T_.setTop (mkF m 47 #[.val (.int (-(M / (100 : Int32)))), .val (.int q1), .val (.ref ba), .val (.int (-(M / (100 : Int32)))), .val (.int (M % (100 : Int32))), .val (.int (pos + (-1 : Int32))), .val (.int (0 : Int32))] [(.ref ba)])) t
      refine XS.iload X_.here hx rfl (hb hby d10_47) rfl ?_
      exact k
    obtain ⟨T4, X4, e4, st4⟩ := getS2 X_ hx hZ hown (host := "") (Or.inl (hw _ (List.mem_of_getElem? (i := 62) rfl))) Via.refl e_ (own_sta_keep pS1 K_ (allS pV.nostat all0)) (g := (mkF m 49 #[.val (.int (-(M / (100 : Int32)))), .val (.int q1), .val (.ref ba), .val (.int (-(M / (100 : Int32)))), .val (.int (M % (100 : Int32))), .val (.int (pos + (-1 : Int32))), .val (.int (0 : Int32))] [(.int (pos + (-1 : Int32))), (.ref ba)])) rfl (hb hby d10_49)
    have R7 : Rch p e below (s₁.setTop (entryFrame m #[(.int q0), (.int q1), (.ref ba)] 7)) T4 (mkF m 54 #[.val (.int (-(M / (100 : Int32)))), .val (.int q1), .val (.ref ba), .val (.int (-(M / (100 : Int32)))), .val (.int (M % (100 : Int32))), .val (.int (pos + (-1 : Int32))), .val (.int (0 : Int32))] [(.int (M % (100 : Int32))), (.ref t1), (.int (pos + (-1 : Int32))), (.ref ba)]) := fun t k => by
      refine R5 t ?_
      refine st4 _ ?_
      show Steps p.tables e below (T4.setTop (mkF m 52 #[.val (.int (-(M / (100 : Int32)))), .val (.int q1), .val (.ref ba), .val (.int (-(M / (100 : Int32)))), .val (.int (M % (100 : Int32))), .val (.int (pos + (-1 : Int32))), .val (.int (0 : Int32))] [(.ref t1), (.int (pos + (-1 : Int32))), (.ref ba)])) t
      refine XS.iload X4.here hx rfl (hb hby d10_52) rfl ?_
      exact k
    obtain ⟨cl6, Ar6, q6, Sz6, N6_, Hs6, G6⟩ := id (pT1.keep K_ (ninS pn1 nin0))
    have hin6 : ¬ ((M % (100 : Int32)) < 0 ∨ cl6.slots.size ≤ ((M % (100 : Int32))).toNatClampNeg) := inb_of Sz6 (own_dzin hMp)
    have hat6 : cl6.slots[((M % (100 : Int32))).toNatClampNeg]? = some (.int (own_dig q0 j)) := Hs6.at hin6 (own_dz hM hMp).1
    have R9 : Rch p e below (s₁.setTop (entryFrame m #[(.int q0), (.int q1), (.ref ba)] 7)) T4 (mkF m 55 #[.val (.int (-(M / (100 : Int32)))), .val (.int q1), .val (.ref ba), .val (.int (-(M / (100 : Int32)))), .val (.int (M % (100 : Int32))), .val (.int (pos + (-1 : Int32))), .val (.int (0 : Int32))] [(.int (own_dig q0 j)), (.int (pos + (-1 : Int32))), (.ref ba)]) := fun t k => by
      refine R7 t ?_
      refine X4.baloadBytes hx (j := (M % (100 : Int32))) (v := (.int (own_dig q0 j))) (by rw [e4]; exact Ar6.1) (State.isArrayOf_alike hZ.alike Ar6.2.1) Ar6.2.2 hin6 hat6 (g := (mkF m 54 #[.val (.int (-(M / (100 : Int32)))), .val (.int q1), .val (.ref ba), .val (.int (-(M / (100 : Int32)))), .val (.int (M % (100 : Int32))), .val (.int (pos + (-1 : Int32))), .val (.int (0 : Int32))] [(.int (M % (100 : Int32))), (.ref t1), (.int (pos + (-1 : Int32))), (.ref ba)])) rfl rfl (hb hby d10_54) _ ?_
      exact k
    obtain ⟨cl8, Ar8, q8, Sz8, N8_, Hs8, G8⟩ := id V_
    have hin8 : ¬ ((pos + (-1 : Int32)) < 0 ∨ cl8.slots.size ≤ ((pos + (-1 : Int32))).toNatClampNeg) := inb_of Sz8 hb1
    obtain ⟨T10, h10, X10, e10, W10, st10⟩ := stB X4 hx hZ e4 Ar8 (j := (pos + (-1 : Int32))) hin8 (g := (mkF m 55 #[.val (.int (-(M / (100 : Int32)))), .val (.int q1), .val (.ref ba), .val (.int (-(M / (100 : Int32)))), .val (.int (M % (100 : Int32))), .val (.int (pos + (-1 : Int32))), .val (.int (0 : Int32))] [(.int (own_dig q0 j)), (.int (pos + (-1 : Int32))), (.ref ba)])) rfl rfl (hb hby d10_55)
    rw [own_nar_b (own_dig_rng _ _)] at W10
    have V10 : Arv Z h10 ba kb .byte (16 : Int32) (vs.set ((pos + (-1 : Int32))).toNatClampNeg (.int (own_dig q0 j))) (.int (0 : Int32)) := Arv.set Ar8 q8 Sz8 N8_ Hs8 G8 (own_fits_b (own_dig_rng _ _)) W10 ((pos + (-1 : Int32))).toNatClampNeg rfl (own_ltlen hb1 hlen)
    have K10 : Keep h0 h10 [ba] := K_.wr W10 (Or.inl (List.mem_of_getElem? (i := 0) rfl))
    have N10 := Fr.snoc X10 N_ pgb
    have R12 : Rch p e below (s₁.setTop (entryFrame m #[(.int q0), (.int q1), (.ref ba)] 7)) T10 (mkF m 62 #[.val (.int (-(M / (100 : Int32)))), .val (.int q1), .val (.ref ba), .val (.int (-(M / (100 : Int32)))), .val (.int (M % (100 : Int32))), .val (.int ((pos + (-1 : Int32)) + (-1 : Int32))), .val (.int (0 : Int32))] [(.int ((pos + (-1 : Int32)) + (-1 : Int32))), (.ref ba)]) := fun t k => by
      refine R9 t ?_
      refine st10 _ ?_
      show Steps p.tables e below (T10.setTop (mkF m 56 #[.val (.int (-(M / (100 : Int32)))), .val (.int q1), .val (.ref ba), .val (.int (-(M / (100 : Int32)))), .val (.int (M % (100 : Int32))), .val (.int (pos + (-1 : Int32))), .val (.int (0 : Int32))] [])) t
      refine XS.aloadN X10.here hx rfl (hb hby d10_56) rfl rfl ?_
      show Steps p.tables e below (T10.setTop (mkF m 57 #[.val (.int (-(M / (100 : Int32)))), .val (.int q1), .val (.ref ba), .val (.int (-(M / (100 : Int32)))), .val (.int (M % (100 : Int32))), .val (.int (pos + (-1 : Int32))), .val (.int (0 : Int32))] [(.ref ba)])) t
      refine XS.iinc X10.here hx rfl (hb hby d10_57) rfl (l' := #[.val (.int (-(M / (100 : Int32)))), .val (.int q1), .val (.ref ba), .val (.int (-(M / (100 : Int32)))), .val (.int (M % (100 : Int32))), .val (.int ((pos + (-1 : Int32)) + (-1 : Int32))), .val (.int (0 : Int32))]) rfl ?_
      show Steps p.tables e below (T10.setTop (mkF m 60 #[.val (.int (-(M / (100 : Int32)))), .val (.int q1), .val (.ref ba), .val (.int (-(M / (100 : Int32)))), .val (.int (M % (100 : Int32))), .val (.int ((pos + (-1 : Int32)) + (-1 : Int32))), .val (.int (0 : Int32))] [(.ref ba)])) t
      refine XS.iload X10.here hx rfl (hb hby d10_60) rfl ?_
      exact k
    obtain ⟨T11, X11, e11, st11⟩ := getS2 X10 hx hZ hown (host := "") (Or.inl (hw _ (List.mem_of_getElem? (i := 189) rfl))) Via.refl e10 ((own_sta_keep pS2 K_ (allS pV.nostat all0)).wr W10) (g := (mkF m 62 #[.val (.int (-(M / (100 : Int32)))), .val (.int q1), .val (.ref ba), .val (.int (-(M / (100 : Int32)))), .val (.int (M % (100 : Int32))), .val (.int ((pos + (-1 : Int32)) + (-1 : Int32))), .val (.int (0 : Int32))] [(.int ((pos + (-1 : Int32)) + (-1 : Int32))), (.ref ba)])) rfl (hb hby d10_62)
    have R14 : Rch p e below (s₁.setTop (entryFrame m #[(.int q0), (.int q1), (.ref ba)] 7)) T11 (mkF m 67 #[.val (.int (-(M / (100 : Int32)))), .val (.int q1), .val (.ref ba), .val (.int (-(M / (100 : Int32)))), .val (.int (M % (100 : Int32))), .val (.int ((pos + (-1 : Int32)) + (-1 : Int32))), .val (.int (0 : Int32))] [(.int (M % (100 : Int32))), (.ref t2), (.int ((pos + (-1 : Int32)) + (-1 : Int32))), (.ref ba)]) := fun t k => by
      refine R12 t ?_
      refine st11 _ ?_
      show Steps p.tables e below (T11.setTop (mkF m 65 #[.val (.int (-(M / (100 : Int32)))), .val (.int q1), .val (.ref ba), .val (.int (-(M / (100 : Int32)))), .val (.int (M % (100 : Int32))), .val (.int ((pos + (-1 : Int32)) + (-1 : Int32))), .val (.int (0 : Int32))] [(.ref t2), (.int ((pos + (-1 : Int32)) + (-1 : Int32))), (.ref ba)])) t
      refine XS.iload X11.here hx rfl (hb hby d10_65) rfl ?_
      exact k
    obtain ⟨cl13, Ar13, q13, Sz13, N13_, Hs13, G13⟩ := id ((pT2.keep K_ (ninS pn2 nin0)).other W10 pn2)
    have hin13 : ¬ ((M % (100 : Int32)) < 0 ∨ cl13.slots.size ≤ ((M % (100 : Int32))).toNatClampNeg) := inb_of Sz13 (own_dzin hMp)
    have hat13 : cl13.slots[((M % (100 : Int32))).toNatClampNeg]? = some (.int (own_dig q0 (j + 1))) := Hs13.at hin13 (own_dz hM hMp).2
    have R16 : Rch p e below (s₁.setTop (entryFrame m #[(.int q0), (.int q1), (.ref ba)] 7)) T11 (mkF m 68 #[.val (.int (-(M / (100 : Int32)))), .val (.int q1), .val (.ref ba), .val (.int (-(M / (100 : Int32)))), .val (.int (M % (100 : Int32))), .val (.int ((pos + (-1 : Int32)) + (-1 : Int32))), .val (.int (0 : Int32))] [(.int (own_dig q0 (j + 1))), (.int ((pos + (-1 : Int32)) + (-1 : Int32))), (.ref ba)]) := fun t k => by
      refine R14 t ?_
      refine X11.baloadBytes hx (j := (M % (100 : Int32))) (v := (.int (own_dig q0 (j + 1)))) (by rw [e11]; exact Ar13.1) (State.isArrayOf_alike hZ.alike Ar13.2.1) Ar13.2.2 hin13 hat13 (g := (mkF m 67 #[.val (.int (-(M / (100 : Int32)))), .val (.int q1), .val (.ref ba), .val (.int (-(M / (100 : Int32)))), .val (.int (M % (100 : Int32))), .val (.int ((pos + (-1 : Int32)) + (-1 : Int32))), .val (.int (0 : Int32))] [(.int (M % (100 : Int32))), (.ref t2), (.int ((pos + (-1 : Int32)) + (-1 : Int32))), (.ref ba)])) rfl rfl (hb hby d10_67) _ ?_
      exact k
    obtain ⟨cl15, Ar15, q15, Sz15, N15_, Hs15, G15⟩ := id V10
    have hin15 : ¬ (((pos + (-1 : Int32)) + (-1 : Int32)) < 0 ∨ cl15.slots.size ≤ (((pos + (-1 : Int32)) + (-1 : Int32))).toNatClampNeg) := inb_of Sz15 hb2
    obtain ⟨T17, h17, X17, e17, W17, st17⟩ := stB X11 hx hZ e11 Ar15 (j := ((pos + (-1 : Int32)) + (-1 : Int32))) hin15 (g := (mkF m 68 #[.val (.int (-(M / (100 : Int32)))), .val (.int q1), .val (.ref ba), .val (.int (-(M / (100 : Int32)))), .val (.int (M % (100 : Int32))), .val (.int ((pos + (-1 : Int32)) + (-1 : Int32))), .val (.int (0 : Int32))] [(.int (own_dig q0 (j + 1))), (.int ((pos + (-1 : Int32)) + (-1 : Int32))), (.ref ba)])) rfl rfl (hb hby d10_68)
    rw [own_nar_b (own_dig_rng _ _)] at W17
    have V17 : Arv Z h17 ba kb .byte (16 : Int32) ((vs.set ((pos + (-1 : Int32))).toNatClampNeg (.int (own_dig q0 j))).set (((pos + (-1 : Int32)) + (-1 : Int32))).toNatClampNeg (.int (own_dig q0 (j + 1)))) (.int (0 : Int32)) := Arv.set Ar15 q15 Sz15 N15_ Hs15 G15 (own_fits_b (own_dig_rng _ _)) W17 (((pos + (-1 : Int32)) + (-1 : Int32))).toNatClampNeg rfl (own_ltlen hb2 (by rw [List.length_set]; exact hlen))
    have K17 : Keep h0 h17 [ba] := K10.wr W17 (Or.inl (List.mem_of_getElem? (i := 0) rfl))
    have N17 := Fr.snoc X17 N10 pgb
    have R18 : Rch p e below (s₁.setTop (entryFrame m #[(.int q0), (.int q1), (.ref ba)] 7)) T17 (mkF m 22 #[.val (.int (-(M / (100 : Int32)))), .val (.int q1), .val (.ref ba), .val (.int (-(M / (100 : Int32)))), .val (.int (M % (100 : Int32))), .val (.int ((pos + (-1 : Int32)) + (-1 : Int32))), .val (.int (0 : Int32))] []) := fun t k => by
      refine R16 t ?_
      refine st17 _ ?_
      show Steps p.tables e below (T17.setTop (mkF m 69 #[.val (.int (-(M / (100 : Int32)))), .val (.int q1), .val (.ref ba), .val (.int (-(M / (100 : Int32)))), .val (.int (M % (100 : Int32))), .val (.int ((pos + (-1 : Int32)) + (-1 : Int32))), .val (.int (0 : Int32))] [])) t
      refine XS.goto X17.here hx rfl (pc0 := 69) (pc' := 22) rfl (hb hby d10_69) (by decide) (by decide) ?_
      exact k
    exact ⟨T17, h17, _, X17, e17, N17, K17, V17, R18⟩
  have turnI : ∀ (T_ : State) (h_ : Heap) (L_ : List Loc) (M pos : Int32) (j : Nat) (vs : List Value) (a3 a4 : Int32), Stand p l e ({ frames := 0, cells := 0, slots := 0, locals := 0 } : Room) s m #[(.int q0), (.int q1), (.ref ba)] below meth c T_ L_ 0 0 → T_.heap = h_ → Fr n0 L_ → Keep h0 h_ [ba] → Arv Z h_ ba kb .byte (16 : Int32) vs (.int (0 : Int32)) → vs.length = 16 → M.toInt = q0.toInt / 10 ^ j → pos.toInt ≤ 16 → ¬ M < 100 → 2 ≤ pos.toInt → Rch p e below (s₁.setTop (entryFrame m #[(.int q0), (.int q1), (.ref ba)] 7)) T_ (mkF m 22 #[.val (.int (-M)), .val (.int q1), .val (.ref ba), .val (.int a3), .val (.int a4), .val (.int pos), .val (.int (0 : Int32))] []) → ∃ (T' : State) (h' : Heap) (L' : List Loc), Stand p l e ({ frames := 0, cells := 0, slots := 0, locals := 0 } : Room) s m #[(.int q0), (.int q1), (.ref ba)] below meth c T' L' 0 0 ∧ T'.heap = h' ∧ Fr n0 L' ∧ Keep h0 h' [ba] ∧ Arv Z h' ba kb .byte (16 : Int32) ((vs.set (pos + (-1 : Int32)).toNatClampNeg (.int (own_dig q0 j))).set ((pos + (-1 : Int32)) + (-1 : Int32)).toNatClampNeg (.int (own_dig q0 (j + 1)))) (.int (0 : Int32)) ∧ Rch p e below (s₁.setTop (entryFrame m #[(.int q0), (.int q1), (.ref ba)] 7)) T' (mkF m 22 #[.val (.int (-(M / (100 : Int32)))), .val (.int q1), .val (.ref ba), .val (.int (-(M / (100 : Int32)))), .val (.int (M % (100 : Int32))), .val (.int ((pos + (-1 : Int32)) + (-1 : Int32))), .val (.int (0 : Int32))] []) := by
    intro T_ h_ L_ M pos j vs a3 a4 X_ e_ N_ K_ V_ hlen hM hle hbig hpos R_
    have hMp : 0 ≤ M.toInt := by rw [hM]; exact Int.ediv_nonneg hn (own_pow_pos j)
    have hb1 : ¬ (pos + (-1 : Int32)) < 0 ∧ (pos + (-1 : Int32)) < (16 : Int32) := own_dec1 hpos hle
    have hb2 : ¬ ((pos + (-1 : Int32)) + (-1 : Int32)) < 0 ∧ ((pos + (-1 : Int32)) + (-1 : Int32)) < (16 : Int32) := own_dec2 hpos hle
    have R19 : Rch p e below (s₁.setTop (entryFrame m #[(.int q0), (.int q1), (.ref ba)] 7)) T_ (mkF m 33 #[.val (.int (-M)), .val (.int q1), .val (.ref ba), .val (.int ((-M) / (100 : Int32))), .val (.int a4), .val (.int pos), .val (.int (0 : Int32))] []) := fun t k => by
      refine R_ t ?_
      refine XS.iloadN X_.here hx rfl (hb hby d10_22) rfl ?_
      show Steps p.tables e below (T_.setTop (mkF m 23 #[.val (.int (-M)), .val (.int q1), .val (.ref ba), .val (.int a3), .val (.int a4), .val (.int pos), .val (.int (0 : Int32))] [(.int (-M))])) t
      refine XS.bipush X_.here hx rfl (hb hby d10_23) ?_
      show Steps p.tables e below (T_.setTop (mkF m 25 #[.val (.int (-M)), .val (.int q1), .val (.ref ba), .val (.int a3), .val (.int a4), .val (.int pos), .val (.int (0 : Int32))] [(.int (-100 : Int32)), (.int (-M))])) t
      refine XS.icmpNo X_.here hx rfl (hb hby d10_25) rfl (flt (own_big100 hMp hbig)).2.2.1 ?_
      show Steps p.tables e below (T_.setTop (mkF m 28 #[.val (.int (-M)), .val (.int q1), .val (.ref ba), .val (.int a3), .val (.int a4), .val (.int pos), .val (.int (0 : Int32))] [])) t
      refine XS.iloadN X_.here hx rfl (hb hby d10_28) rfl ?_
      show Steps p.tables e below (T_.setTop (mkF m 29 #[.val (.int (-M)), .val (.int q1), .val (.ref ba), .val (.int a3), .val (.int a4), .val (.int pos), .val (.int (0 : Int32))] [(.int (-M))])) t
      refine XS.bipush X_.here hx rfl (hb hby d10_29) ?_
      show Steps p.tables e below (T_.setTop (mkF m 31 #[.val (.int (-M)), .val (.int q1), .val (.ref ba), .val (.int a3), .val (.int a4), .val (.int pos), .val (.int (0 : Int32))] [(.int (100 : Int32)), (.int (-M))])) t
      refine XS.idiv X_.here hx rfl (hb hby d10_31) rfl (by decide) ?_
      show Steps p.tables e below (T_.setTop (mkF m 32 #[.val (.int (-M)), .val (.int q1), .val (.ref ba), .val (.int a3), .val (.int a4), .val (.int pos), .val (.int (0 : Int32))] [(.int ((-M) / (100 : Int32)))])) t
      refine XS.istoreN X_.here hx rfl (hb hby d10_32) rfl (l' := #[.val (.int (-M)), .val (.int q1), .val (.ref ba), .val (.int ((-M) / (100 : Int32))), .val (.int a4), .val (.int pos), .val (.int (0 : Int32))]) rfl ?_
      exact k
    rw [own_ndiv hMp] at R19
    have R20 : Rch p e below (s₁.setTop (entryFrame m #[(.int q0), (.int q1), (.ref ba)] 7)) T_ (mkF m 41 #[.val (.int (-M)), .val (.int q1), .val (.ref ba), .val (.int (-(M / (100 : Int32)))), .val (.int (((-(M / (100 : Int32))) * (100 : Int32)) - (-M))), .val (.int pos), .val (.int (0 : Int32))] []) := fun t k => by
      refine R19 t ?_
      refine XS.iloadN X_.here hx rfl (hb hby d10_33) rfl ?_
      show Steps p.tables e below (T_.setTop (mkF m 34 #[.val (.int (-M)), .val (.int q1), .val (.ref ba), .val (.int (-(M / (100 : Int32)))), .val (.int a4), .val (.int pos), .val (.int (0 : Int32))] [(.int (-(M / (100 : Int32))))])) t
      refine XS.bipush X_.here hx rfl (hb hby d10_34) ?_
      show Steps p.tables e below (T_.setTop (mkF m 36 #[.val (.int (-M)), .val (.int q1), .val (.ref ba), .val (.int (-(M / (100 : Int32)))), .val (.int a4), .val (.int pos), .val (.int (0 : Int32))] [(.int (100 : Int32)), (.int (-(M / (100 : Int32))))])) t
      refine XS.imul X_.here hx rfl (hb hby d10_36) rfl ?_
      show Steps p.tables e below (T_.setTop (mkF m 37 #[.val (.int (-M)), .val (.int q1), .val (.ref ba), .val (.int (-(M / (100 : Int32)))), .val (.int a4), .val (.int pos), .val (.int (0 : Int32))] [(.int ((-(M / (100 : Int32))) * (100 : Int32)))])) t
      refine XS.iloadN X_.here hx rfl (hb hby d10_37) rfl ?_
      show Steps p.tables e below (T_.setTop (mkF m 38 #[.val (.int (-M)), .val (.int q1), .val (.ref ba), .val (.int (-(M / (100 : Int32)))), .val (.int a4), .val (.int pos), .val (.int (0 : Int32))] [(.int (-M)), (.int ((-(M / (100 : Int32))) * (100 : Int32)))])) t
      refine XS.isub X_.here hx rfl (hb hby d10_38) rfl ?_
      show Steps p.tables e below (T_.setTop (mkF m 39 #[.val (.int (-M)), .val (.int q1), .val (.ref ba), .val (.int (-(M / (100 : Int32)))), .val (.int a4), .val (.int pos), .val (.int (0 : Int32))] [(.int (((-(M / (100 : Int32))) * (100 : Int32)) - (-M)))])) t
      refine XS.istore X_.here hx rfl (hb hby d10_39) rfl (l' := #[.val (.int (-M)), .val (.int q1), .val (.ref ba), .val (.int (-(M / (100 : Int32)))), .val (.int (((-(M / (100 : Int32))) * (100 : Int32)) - (-M))), .val (.int pos), .val (.int (0 : Int32))]) rfl ?_
      exact k
    rw [own_nrem hMp] at R20
    have R22 : Rch p e below (s₁.setTop (entryFrame m #[(.int q0), (.int q1), (.ref ba)] 7)) T_ (mkF m 49 #[.val (.int (-(M / (100 : Int32)))), .val (.int q1), .val (.ref ba), .val (.int (-(M / (100 : Int32)))), .val (.int (M % (100 : Int32))), .val (.int (pos + (-1 : Int32))), .val (.int (0 : Int32))] [(.int (pos + (-1 : Int32))), (.ref ba)]) := fun t k => by
      refine R20 t ?_
      refine XS.iloadN X_.here hx rfl (hb hby d10_41) rfl ?_
      show Steps p.tables e below (T_.setTop (mkF m 42 #[.val (.int (-M)), .val (.int q1), .val (.ref ba), .val (.int (-(M / (100 : Int32)))), .val (.int (M % (100 : Int32))), .val (.int pos), .val (.int (0 : Int32))] [(.int (-(M / (100 : Int32))))])) t
      refine XS.istoreN X_.here hx rfl (hb hby d10_42) rfl (l' := #[.val (.int (-(M / (100 : Int32)))), .val (.int q1), .val (.ref ba), .val (.int (-(M / (100 : Int32)))), .val (.int (M % (100 : Int32))), .val (.int pos), .val (.int (0 : Int32))]) rfl ?_
      show Steps p.tables e below (T_.setTop (mkF m 43 #[.val (.int (-(M / (100 : Int32)))), .val (.int q1), .val (.ref ba), .val (.int (-(M / (100 : Int32)))), .val (.int (M % (100 : Int32))), .val (.int pos), .val (.int (0 : Int32))] [])) t
      refine XS.aloadN X_.here hx rfl (hb hby d10_43) rfl rfl ?_
      show Steps p.tables e below (T_.setTop (mkF m 44 #[.val (.int (-(M / (100 : Int32)))), .val (.int q1), .val (.ref ba), .val (.int (-(M / (100 : Int32)))), .val (.int (M % (100 : Int32))), .val (.int pos), .val (.int (0 : Int32))] [(.ref ba)])) t
      refine XS.iinc X_.here hx rfl (hb hby d10_44) rfl (l' := #[.val (.int (-(M / (100 : Int32)))), .val (.int q1), .val (.ref ba), .val (.int (-(M / (100 : Int32)))), .val (.int (M % (100 : Int32))), .val (.int (pos + (-1 : Int32))), .val (.int (0 : Int32))]) rfl ?_
      show Steps p.tables e below (T_.setTop (mkF m 47 #[.val (.int (-(M / (100 : Int32)))), .val (.int q1), .val (.ref ba), .val (.int (-(M / (100 : Int32)))), .val (.int (M % (100 : Int32))), .val (.int (pos + (-1 : Int32))), .val (.int (0 : Int32))] [(.ref ba)])) t
      refine XS.iload X_.here hx rfl (hb hby d10_47) rfl ?_
      exact k
    obtain ⟨T21, X21, e21, st21⟩ := getS2 X_ hx hZ hown (host := "") (Or.inl (hw _ (List.mem_of_getElem? (i := 62) rfl))) Via.refl e_ (own_sta_keep pS1 K_ (allS pV.nostat all0)) (g := (mkF m 49 #[.val (.int (-(M / (100 : Int32)))), .val (.int q1), .val (.ref ba), .val (.int (-(M / (100 : Int32)))), .val (.int (M % (100 : Int32))), .val (.int (pos + (-1 : Int32))), .val (.int (0 : Int32))] [(.int (pos + (-1 : Int32))), (.ref ba)])) rfl (hb hby d10_49)
    have R24 : Rch p e below (s₁.setTop (entryFrame m #[(.int q0), (.int q1), (.ref ba)] 7)) T21 (mkF m 54 #[.val (.int (-(M / (100 : Int32)))), .val (.int q1), .val (.ref ba), .val (.int (-(M / (100 : Int32)))), .val (.int (M % (100 : Int32))), .val (.int (pos + (-1 : Int32))), .val (.int (0 : Int32))] [(.int (M % (100 : Int32))), (.ref t1), (.int (pos + (-1 : Int32))), (.ref ba)]) := fun t k => by
      refine R22 t ?_
      refine st21 _ ?_
      show Steps p.tables e below (T21.setTop (mkF m 52 #[.val (.int (-(M / (100 : Int32)))), .val (.int q1), .val (.ref ba), .val (.int (-(M / (100 : Int32)))), .val (.int (M % (100 : Int32))), .val (.int (pos + (-1 : Int32))), .val (.int (0 : Int32))] [(.ref t1), (.int (pos + (-1 : Int32))), (.ref ba)])) t
      refine XS.iload X21.here hx rfl (hb hby d10_52) rfl ?_
      exact k
    obtain ⟨cl23, Ar23, q23, Sz23, N23_, Hs23, G23⟩ := id (pT1.keep K_ (ninS pn1 nin0))
    have hin23 : ¬ ((M % (100 : Int32)) < 0 ∨ cl23.slots.size ≤ ((M % (100 : Int32))).toNatClampNeg) := inb_of Sz23 (own_dzin hMp)
    have hat23 : cl23.slots[((M % (100 : Int32))).toNatClampNeg]? = some (.int (own_dig q0 j)) := Hs23.at hin23 (own_dz hM hMp).1
    have R26 : Rch p e below (s₁.setTop (entryFrame m #[(.int q0), (.int q1), (.ref ba)] 7)) T21 (mkF m 55 #[.val (.int (-(M / (100 : Int32)))), .val (.int q1), .val (.ref ba), .val (.int (-(M / (100 : Int32)))), .val (.int (M % (100 : Int32))), .val (.int (pos + (-1 : Int32))), .val (.int (0 : Int32))] [(.int (own_dig q0 j)), (.int (pos + (-1 : Int32))), (.ref ba)]) := fun t k => by
      refine R24 t ?_
      refine X21.baloadBytes hx (j := (M % (100 : Int32))) (v := (.int (own_dig q0 j))) (by rw [e21]; exact Ar23.1) (State.isArrayOf_alike hZ.alike Ar23.2.1) Ar23.2.2 hin23 hat23 (g := (mkF m 54 #[.val (.int (-(M / (100 : Int32)))), .val (.int q1), .val (.ref ba), .val (.int (-(M / (100 : Int32)))), .val (.int (M % (100 : Int32))), .val (.int (pos + (-1 : Int32))), .val (.int (0 : Int32))] [(.int (M % (100 : Int32))), (.ref t1), (.int (pos + (-1 : Int32))), (.ref ba)])) rfl rfl (hb hby d10_54) _ ?_
      exact k
    obtain ⟨cl25, Ar25, q25, Sz25, N25_, Hs25, G25⟩ := id V_
    have hin25 : ¬ ((pos + (-1 : Int32)) < 0 ∨ cl25.slots.size ≤ ((pos + (-1 : Int32))).toNatClampNeg) := inb_of Sz25 hb1
    obtain ⟨T27, h27, X27, e27, W27, st27⟩ := stB X21 hx hZ e21 Ar25 (j := (pos + (-1 : Int32))) hin25 (g := (mkF m 55 #[.val (.int (-(M / (100 : Int32)))), .val (.int q1), .val (.ref ba), .val (.int (-(M / (100 : Int32)))), .val (.int (M % (100 : Int32))), .val (.int (pos + (-1 : Int32))), .val (.int (0 : Int32))] [(.int (own_dig q0 j)), (.int (pos + (-1 : Int32))), (.ref ba)])) rfl rfl (hb hby d10_55)
    rw [own_nar_b (own_dig_rng _ _)] at W27
    have V27 : Arv Z h27 ba kb .byte (16 : Int32) (vs.set ((pos + (-1 : Int32))).toNatClampNeg (.int (own_dig q0 j))) (.int (0 : Int32)) := Arv.set Ar25 q25 Sz25 N25_ Hs25 G25 (own_fits_b (own_dig_rng _ _)) W27 ((pos + (-1 : Int32))).toNatClampNeg rfl (own_ltlen hb1 hlen)
    have K27 : Keep h0 h27 [ba] := K_.wr W27 (Or.inl (List.mem_of_getElem? (i := 0) rfl))
    have N27 := Fr.snoc X27 N_ pgb
    have R29 : Rch p e below (s₁.setTop (entryFrame m #[(.int q0), (.int q1), (.ref ba)] 7)) T27 (mkF m 62 #[.val (.int (-(M / (100 : Int32)))), .val (.int q1), .val (.ref ba), .val (.int (-(M / (100 : Int32)))), .val (.int (M % (100 : Int32))), .val (.int ((pos + (-1 : Int32)) + (-1 : Int32))), .val (.int (0 : Int32))] [(.int ((pos + (-1 : Int32)) + (-1 : Int32))), (.ref ba)]) := fun t k => by
      refine R26 t ?_
      refine st27 _ ?_
      show Steps p.tables e below (T27.setTop (mkF m 56 #[.val (.int (-(M / (100 : Int32)))), .val (.int q1), .val (.ref ba), .val (.int (-(M / (100 : Int32)))), .val (.int (M % (100 : Int32))), .val (.int (pos + (-1 : Int32))), .val (.int (0 : Int32))] [])) t
      refine XS.aloadN X27.here hx rfl (hb hby d10_56) rfl rfl ?_
      show Steps p.tables e below (T27.setTop (mkF m 57 #[.val (.int (-(M / (100 : Int32)))), .val (.int q1), .val (.ref ba), .val (.int (-(M / (100 : Int32)))), .val (.int (M % (100 : Int32))), .val (.int (pos + (-1 : Int32))), .val (.int (0 : Int32))] [(.ref ba)])) t
      refine XS.iinc X27.here hx rfl (hb hby d10_57) rfl (l' := #[.val (.int (-(M / (100 : Int32)))), .val (.int q1), .val (.ref ba), .val (.int (-(M / (100 : Int32)))), .val (.int (M % (100 : Int32))), .val (.int ((pos + (-1 : Int32)) + (-1 : Int32))), .val (.int (0 : Int32))]) rfl ?_
      show Steps p.tables e below (T27.setTop (mkF m 60 #[.val (.int (-(M / (100 : Int32)))), .val (.int q1), .val (.ref ba), .val (.int (-(M / (100 : Int32)))), .val (.int (M % (100 : Int32))), .val (.int ((pos + (-1 : Int32)) + (-1 : Int32))), .val (.int (0 : Int32))] [(.ref ba)])) t
      refine XS.iload X27.here hx rfl (hb hby d10_60) rfl ?_
      exact k
    obtain ⟨T28, X28, e28, st28⟩ := getS2 X27 hx hZ hown (host := "") (Or.inl (hw _ (List.mem_of_getElem? (i := 189) rfl))) Via.refl e27 ((own_sta_keep pS2 K_ (allS pV.nostat all0)).wr W27) (g := (mkF m 62 #[.val (.int (-(M / (100 : Int32)))), .val (.int q1), .val (.ref ba), .val (.int (-(M / (100 : Int32)))), .val (.int (M % (100 : Int32))), .val (.int ((pos + (-1 : Int32)) + (-1 : Int32))), .val (.int (0 : Int32))] [(.int ((pos + (-1 : Int32)) + (-1 : Int32))), (.ref ba)])) rfl (hb hby d10_62)
    have R31 : Rch p e below (s₁.setTop (entryFrame m #[(.int q0), (.int q1), (.ref ba)] 7)) T28 (mkF m 67 #[.val (.int (-(M / (100 : Int32)))), .val (.int q1), .val (.ref ba), .val (.int (-(M / (100 : Int32)))), .val (.int (M % (100 : Int32))), .val (.int ((pos + (-1 : Int32)) + (-1 : Int32))), .val (.int (0 : Int32))] [(.int (M % (100 : Int32))), (.ref t2), (.int ((pos + (-1 : Int32)) + (-1 : Int32))), (.ref ba)]) := fun t k => by
      refine R29 t ?_
      refine st28 _ ?_
      show Steps p.tables e below (T28.setTop (mkF m 65 #[.val (.int (-(M / (100 : Int32)))), .val (.int q1), .val (.ref ba), .val (.int (-(M / (100 : Int32)))), .val (.int (M % (100 : Int32))), .val (.int ((pos + (-1 : Int32)) + (-1 : Int32))), .val (.int (0 : Int32))] [(.ref t2), (.int ((pos + (-1 : Int32)) + (-1 : Int32))), (.ref ba)])) t
      refine XS.iload X28.here hx rfl (hb hby d10_65) rfl ?_
      exact k
    obtain ⟨cl30, Ar30, q30, Sz30, N30_, Hs30, G30⟩ := id ((pT2.keep K_ (ninS pn2 nin0)).other W27 pn2)
    have hin30 : ¬ ((M % (100 : Int32)) < 0 ∨ cl30.slots.size ≤ ((M % (100 : Int32))).toNatClampNeg) := inb_of Sz30 (own_dzin hMp)
    have hat30 : cl30.slots[((M % (100 : Int32))).toNatClampNeg]? = some (.int (own_dig q0 (j + 1))) := Hs30.at hin30 (own_dz hM hMp).2
    have R33 : Rch p e below (s₁.setTop (entryFrame m #[(.int q0), (.int q1), (.ref ba)] 7)) T28 (mkF m 68 #[.val (.int (-(M / (100 : Int32)))), .val (.int q1), .val (.ref ba), .val (.int (-(M / (100 : Int32)))), .val (.int (M % (100 : Int32))), .val (.int ((pos + (-1 : Int32)) + (-1 : Int32))), .val (.int (0 : Int32))] [(.int (own_dig q0 (j + 1))), (.int ((pos + (-1 : Int32)) + (-1 : Int32))), (.ref ba)]) := fun t k => by
      refine R31 t ?_
      refine X28.baloadBytes hx (j := (M % (100 : Int32))) (v := (.int (own_dig q0 (j + 1)))) (by rw [e28]; exact Ar30.1) (State.isArrayOf_alike hZ.alike Ar30.2.1) Ar30.2.2 hin30 hat30 (g := (mkF m 67 #[.val (.int (-(M / (100 : Int32)))), .val (.int q1), .val (.ref ba), .val (.int (-(M / (100 : Int32)))), .val (.int (M % (100 : Int32))), .val (.int ((pos + (-1 : Int32)) + (-1 : Int32))), .val (.int (0 : Int32))] [(.int (M % (100 : Int32))), (.ref t2), (.int ((pos + (-1 : Int32)) + (-1 : Int32))), (.ref ba)])) rfl rfl (hb hby d10_67) _ ?_
      exact k
    obtain ⟨cl32, Ar32, q32, Sz32, N32_, Hs32, G32⟩ := id V27
    have hin32 : ¬ (((pos + (-1 : Int32)) + (-1 : Int32)) < 0 ∨ cl32.slots.size ≤ (((pos + (-1 : Int32)) + (-1 : Int32))).toNatClampNeg) := inb_of Sz32 hb2
    obtain ⟨T34, h34, X34, e34, W34, st34⟩ := stB X28 hx hZ e28 Ar32 (j := ((pos + (-1 : Int32)) + (-1 : Int32))) hin32 (g := (mkF m 68 #[.val (.int (-(M / (100 : Int32)))), .val (.int q1), .val (.ref ba), .val (.int (-(M / (100 : Int32)))), .val (.int (M % (100 : Int32))), .val (.int ((pos + (-1 : Int32)) + (-1 : Int32))), .val (.int (0 : Int32))] [(.int (own_dig q0 (j + 1))), (.int ((pos + (-1 : Int32)) + (-1 : Int32))), (.ref ba)])) rfl rfl (hb hby d10_68)
    rw [own_nar_b (own_dig_rng _ _)] at W34
    have V34 : Arv Z h34 ba kb .byte (16 : Int32) ((vs.set ((pos + (-1 : Int32))).toNatClampNeg (.int (own_dig q0 j))).set (((pos + (-1 : Int32)) + (-1 : Int32))).toNatClampNeg (.int (own_dig q0 (j + 1)))) (.int (0 : Int32)) := Arv.set Ar32 q32 Sz32 N32_ Hs32 G32 (own_fits_b (own_dig_rng _ _)) W34 (((pos + (-1 : Int32)) + (-1 : Int32))).toNatClampNeg rfl (own_ltlen hb2 (by rw [List.length_set]; exact hlen))
    have K34 : Keep h0 h34 [ba] := K27.wr W34 (Or.inl (List.mem_of_getElem? (i := 0) rfl))
    have N34 := Fr.snoc X34 N27 pgb
    have R35 : Rch p e below (s₁.setTop (entryFrame m #[(.int q0), (.int q1), (.ref ba)] 7)) T34 (mkF m 22 #[.val (.int (-(M / (100 : Int32)))), .val (.int q1), .val (.ref ba), .val (.int (-(M / (100 : Int32)))), .val (.int (M % (100 : Int32))), .val (.int ((pos + (-1 : Int32)) + (-1 : Int32))), .val (.int (0 : Int32))] []) := fun t k => by
      refine R33 t ?_
      refine st34 _ ?_
      show Steps p.tables e below (T34.setTop (mkF m 69 #[.val (.int (-(M / (100 : Int32)))), .val (.int q1), .val (.ref ba), .val (.int (-(M / (100 : Int32)))), .val (.int (M % (100 : Int32))), .val (.int ((pos + (-1 : Int32)) + (-1 : Int32))), .val (.int (0 : Int32))] [])) t
      refine XS.goto X34.here hx rfl (pc0 := 69) (pc' := 22) rfl (hb hby d10_69) (by decide) (by decide) ?_
      exact k
    exact ⟨T34, h34, _, X34, e34, N34, K34, V34, R35⟩
  have finA : ∀ (T_ : State) (h_ : Heap) (L_ : List Loc) (M pos : Int32) (j : Nat) (vs : List Value) (s3 s4 : Slot), Stand p l e ({ frames := 0, cells := 0, slots := 0, locals := 0 } : Room) s m #[(.int q0), (.int q1), (.ref ba)] below meth c T_ L_ 0 0 → T_.heap = h_ → Fr n0 L_ → Keep h0 h_ [ba] → Arv Z h_ ba kb .byte (16 : Int32) vs (.int (0 : Int32)) → vs.length = 16 → M.toInt = q0.toInt / 10 ^ j → pos.toInt ≤ 16 → M < 100 → ¬ 9 < M → 1 ≤ pos.toInt → Rch p e below (s₁.setTop (entryFrame m #[(.int q0), (.int q1), (.ref ba)] 7)) T_ (mkF m 22 #[.val (.int (-M)), .val (.int q1), .val (.ref ba), s3, s4, .val (.int pos), .val (.int (0 : Int32))] []) → ∃ (T' : State) (h' : Heap) (L' : List Loc), Stand p l e ({ frames := 0, cells := 0, slots := 0, locals := 0 } : Room) s m #[(.int q0), (.int q1), (.ref ba)] below meth c T' L' 0 0 ∧ T'.heap = h' ∧ Fr n0 L' ∧ Keep h0 h' [ba] ∧ Arv Z h' ba kb .byte (16 : Int32) (vs.set (pos + (-1 : Int32)).toNatClampNeg (.int (own_dig q0 j))) (.int (0 : Int32)) ∧ Rch p e below (s₁.setTop (entryFrame m #[(.int q0), (.int q1), (.ref ba)] 7)) T' (mkF m 104 #[.val (.int (-M)), .val (.int q1), .val (.ref ba), s3, s4, .val (.int (pos + (-1 : Int32))), .val (.int (0 : Int32))] []) := by
    intro T_ h_ L_ M pos j vs s3 s4 X_ e_ N_ K_ V_ hlen hM hle hbig hnin hpos R_
    have hMp : 0 ≤ M.toInt := by rw [hM]; exact Int.ediv_nonneg hn (own_pow_pos j)
    have hb1 : ¬ (pos + (-1 : Int32)) < 0 ∧ (pos + (-1 : Int32)) < (16 : Int32) := own_dec1 hpos hle
    have R37 : Rch p e below (s₁.setTop (entryFrame m #[(.int q0), (.int q1), (.ref ba)] 7)) T_ (mkF m 78 #[.val (.int (-M)), .val (.int q1), .val (.ref ba), s3, s4, .val (.int (pos + (-1 : Int32))), .val (.int (0 : Int32))] [(.int (pos + (-1 : Int32))), (.ref ba)]) := fun t k => by
      refine R_ t ?_
      refine XS.iloadN X_.here hx rfl (hb hby d10_22) rfl ?_
      show Steps p.tables e below (T_.setTop (mkF m 23 #[.val (.int (-M)), .val (.int q1), .val (.ref ba), s3, s4, .val (.int pos), .val (.int (0 : Int32))] [(.int (-M))])) t
      refine XS.bipush X_.here hx rfl (hb hby d10_23) ?_
      show Steps p.tables e below (T_.setTop (mkF m 25 #[.val (.int (-M)), .val (.int q1), .val (.ref ba), s3, s4, .val (.int pos), .val (.int (0 : Int32))] [(.int (-100 : Int32)), (.int (-M))])) t
      refine XS.icmpYes X_.here hx rfl (pc0 := 25) (pc' := 72) rfl (hb hby d10_25) rfl (tlt (own_sml100 hMp hbig)).2.2.1 (by decide) (by decide) ?_
      show Steps p.tables e below (T_.setTop (mkF m 72 #[.val (.int (-M)), .val (.int q1), .val (.ref ba), s3, s4, .val (.int pos), .val (.int (0 : Int32))] [])) t
      refine XS.aloadN X_.here hx rfl (hb hby d10_72) rfl rfl ?_
      show Steps p.tables e below (T_.setTop (mkF m 73 #[.val (.int (-M)), .val (.int q1), .val (.ref ba), s3, s4, .val (.int pos), .val (.int (0 : Int32))] [(.ref ba)])) t
      refine XS.iinc X_.here hx rfl (hb hby d10_73) rfl (l' := #[.val (.int (-M)), .val (.int q1), .val (.ref ba), s3, s4, .val (.int (pos + (-1 : Int32))), .val (.int (0 : Int32))]) rfl ?_
      show Steps p.tables e below (T_.setTop (mkF m 76 #[.val (.int (-M)), .val (.int q1), .val (.ref ba), s3, s4, .val (.int (pos + (-1 : Int32))), .val (.int (0 : Int32))] [(.ref ba)])) t
      refine XS.iload X_.here hx rfl (hb hby d10_76) rfl ?_
      exact k
    obtain ⟨T36, X36, e36, st36⟩ := getS2 X_ hx hZ hown (host := "") (Or.inl (hw _ (List.mem_of_getElem? (i := 62) rfl))) Via.refl e_ (own_sta_keep pS1 K_ (allS pV.nostat all0)) (g := (mkF m 78 #[.val (.int (-M)), .val (.int q1), .val (.ref ba), s3, s4, .val (.int (pos + (-1 : Int32))), .val (.int (0 : Int32))] [(.int (pos + (-1 : Int32))), (.ref ba)])) rfl (hb hby d10_78)
    have R38 : Rch p e below (s₁.setTop (entryFrame m #[(.int q0), (.int q1), (.ref ba)] 7)) T36 (mkF m 83 #[.val (.int (-M)), .val (.int q1), .val (.ref ba), s3, s4, .val (.int (pos + (-1 : Int32))), .val (.int (0 : Int32))] [(.int (-(-M))), (.ref t1), (.int (pos + (-1 : Int32))), (.ref ba)]) := fun t k => by
      refine R37 t ?_
      refine st36 _ ?_
      show Steps p.tables e below (T36.setTop (mkF m 81 #[.val (.int (-M)), .val (.int q1), .val (.ref ba), s3, s4, .val (.int (pos + (-1 : Int32))), .val (.int (0 : Int32))] [(.ref t1), (.int (pos + (-1 : Int32))), (.ref ba)])) t
      refine XS.iloadN X36.here hx rfl (hb hby d10_81) rfl ?_
      show Steps p.tables e below (T36.setTop (mkF m 82 #[.val (.int (-M)), .val (.int q1), .val (.ref ba), s3, s4, .val (.int (pos + (-1 : Int32))), .val (.int (0 : Int32))] [(.int (-M)), (.ref t1), (.int (pos + (-1 : Int32))), (.ref ba)])) t
      refine XS.ineg X36.here hx rfl (hb hby d10_82) rfl ?_
      exact k
    rw [Int32.neg_neg] at R38
    obtain ⟨cl39, Ar39, q39, Sz39, N39_, Hs39, G39⟩ := id (pT1.keep K_ (ninS pn1 nin0))
    have hin39 : ¬ (M < 0 ∨ cl39.slots.size ≤ (M).toNatClampNeg) := inb_of Sz39 (own_dlin hMp hbig)
    have hat39 : cl39.slots[(M).toNatClampNeg]? = some (.int (own_dig q0 j)) := Hs39.at hin39 (own_dl hM hMp hbig).1
    have R41 : Rch p e below (s₁.setTop (entryFrame m #[(.int q0), (.int q1), (.ref ba)] 7)) T36 (mkF m 84 #[.val (.int (-M)), .val (.int q1), .val (.ref ba), s3, s4, .val (.int (pos + (-1 : Int32))), .val (.int (0 : Int32))] [(.int (own_dig q0 j)), (.int (pos + (-1 : Int32))), (.ref ba)]) := fun t k => by
      refine R38 t ?_
      refine X36.baloadBytes hx (j := M) (v := (.int (own_dig q0 j))) (by rw [e36]; exact Ar39.1) (State.isArrayOf_alike hZ.alike Ar39.2.1) Ar39.2.2 hin39 hat39 (g := (mkF m 83 #[.val (.int (-M)), .val (.int q1), .val (.ref ba), s3, s4, .val (.int (pos + (-1 : Int32))), .val (.int (0 : Int32))] [(.int M), (.ref t1), (.int (pos + (-1 : Int32))), (.ref ba)])) rfl rfl (hb hby d10_83) _ ?_
      exact k
    obtain ⟨cl40, Ar40, q40, Sz40, N40_, Hs40, G40⟩ := id V_
    have hin40 : ¬ ((pos + (-1 : Int32)) < 0 ∨ cl40.slots.size ≤ ((pos + (-1 : Int32))).toNatClampNeg) := inb_of Sz40 hb1
    obtain ⟨T42, h42, X42, e42, W42, st42⟩ := stB X36 hx hZ e36 Ar40 (j := (pos + (-1 : Int32))) hin40 (g := (mkF m 84 #[.val (.int (-M)), .val (.int q1), .val (.ref ba), s3, s4, .val (.int (pos + (-1 : Int32))), .val (.int (0 : Int32))] [(.int (own_dig q0 j)), (.int (pos + (-1 : Int32))), (.ref ba)])) rfl rfl (hb hby d10_84)
    rw [own_nar_b (own_dig_rng _ _)] at W42
    have V42 : Arv Z h42 ba kb .byte (16 : Int32) (vs.set ((pos + (-1 : Int32))).toNatClampNeg (.int (own_dig q0 j))) (.int (0 : Int32)) := Arv.set Ar40 q40 Sz40 N40_ Hs40 G40 (own_fits_b (own_dig_rng _ _)) W42 ((pos + (-1 : Int32))).toNatClampNeg rfl (own_ltlen hb1 hlen)
    have K42 : Keep h0 h42 [ba] := K_.wr W42 (Or.inl (List.mem_of_getElem? (i := 0) rfl))
    have N42 := Fr.snoc X42 N_ pgb
    have R43 : Rch p e below (s₁.setTop (entryFrame m #[(.int q0), (.int q1), (.ref ba)] 7)) T42 (mkF m 104 #[.val (.int (-M)), .val (.int q1), .val (.ref ba), s3, s4, .val (.int (pos + (-1 : Int32))), .val (.int (0 : Int32))] []) := fun t k => by
      refine R41 t ?_
      refine st42 _ ?_
      show Steps p.tables e below (T42.setTop (mkF m 85 #[.val (.int (-M)), .val (.int q1), .val (.ref ba), s3, s4, .val (.int (pos + (-1 : Int32))), .val (.int (0 : Int32))] [])) t
      refine XS.iloadN X42.here hx rfl (hb hby d10_85) rfl ?_
      show Steps p.tables e below (T42.setTop (mkF m 86 #[.val (.int (-M)), .val (.int q1), .val (.ref ba), s3, s4, .val (.int (pos + (-1 : Int32))), .val (.int (0 : Int32))] [(.int (-M))])) t
      refine XS.bipush X42.here hx rfl (hb hby d10_86) ?_
      show Steps p.tables e below (T42.setTop (mkF m 88 #[.val (.int (-M)), .val (.int q1), .val (.ref ba), s3, s4, .val (.int (pos + (-1 : Int32))), .val (.int (0 : Int32))] [(.int (-9 : Int32)), (.int (-M))])) t
      refine XS.icmpYes X42.here hx rfl (pc0 := 88) (pc' := 104) rfl (hb hby d10_88) rfl (flt (own_sml9 hMp hnin)).2.1 (by decide) (by decide) ?_
      exact k
    exact ⟨T42, h42, _, X42, e42, N42, K42, V42, R43⟩
  have finB : ∀ (T_ : State) (h_ : Heap) (L_ : List Loc) (M pos : Int32) (j : Nat) (vs : List Value) (s3 s4 : Slot), Stand p l e ({ frames := 0, cells := 0, slots := 0, locals := 0 } : Room) s m #[(.int q0), (.int q1), (.ref ba)] below meth c T_ L_ 0 0 → T_.heap = h_ → Fr n0 L_ → Keep h0 h_ [ba] → Arv Z h_ ba kb .byte (16 : Int32) vs (.int (0 : Int32)) → vs.length = 16 → M.toInt = q0.toInt / 10 ^ j → pos.toInt ≤ 16 → M < 100 → 9 < M → 2 ≤ pos.toInt → Rch p e below (s₁.setTop (entryFrame m #[(.int q0), (.int q1), (.ref ba)] 7)) T_ (mkF m 22 #[.val (.int (-M)), .val (.int q1), .val (.ref ba), s3, s4, .val (.int pos), .val (.int (0 : Int32))] []) → ∃ (T' : State) (h' : Heap) (L' : List Loc), Stand p l e ({ frames := 0, cells := 0, slots := 0, locals := 0 } : Room) s m #[(.int q0), (.int q1), (.ref ba)] below meth c T' L' 0 0 ∧ T'.heap = h' ∧ Fr n0 L' ∧ Keep h0 h' [ba] ∧ Arv Z h' ba kb .byte (16 : Int32) ((vs.set (pos + (-1 : Int32)).toNatClampNeg (.int (own_dig q0 j))).set ((pos + (-1 : Int32)) + (-1 : Int32)).toNatClampNeg (.int (own_dig q0 (j + 1)))) (.int (0 : Int32)) ∧ Rch p e below (s₁.setTop (entryFrame m #[(.int q0), (.int q1), (.ref ba)] 7)) T' (mkF m 104 #[.val (.int (-M)), .val (.int q1), .val (.ref ba), s3, s4, .val (.int ((pos + (-1 : Int32)) + (-1 : Int32))), .val (.int (0 : Int32))] []) := by
    intro T_ h_ L_ M pos j vs s3 s4 X_ e_ N_ K_ V_ hlen hM hle hbig hnin hpos R_
    have hMp : 0 ≤ M.toInt := by rw [hM]; exact Int.ediv_nonneg hn (own_pow_pos j)
    have hb1 : ¬ (pos + (-1 : Int32)) < 0 ∧ (pos + (-1 : Int32)) < (16 : Int32) := own_dec1 hpos hle
    have hb2 : ¬ ((pos + (-1 : Int32)) + (-1 : Int32)) < 0 ∧ ((pos + (-1 : Int32)) + (-1 : Int32)) < (16 : Int32) := own_dec2 hpos hle
    have R45 : Rch p e below (s₁.setTop (entryFrame m #[(.int q0), (.int q1), (.ref ba)] 7)) T_ (mkF m 78 #[.val (.int (-M)), .val (.int q1), .val (.ref ba), s3, s4, .val (.int (pos + (-1 : Int32))), .val (.int (0 : Int32))] [(.int (pos + (-1 : Int32))), (.ref ba)]) := fun t k => by
      refine R_ t ?_
      refine XS.iloadN X_.here hx rfl (hb hby d10_22) rfl ?_
      show Steps p.tables e below (T_.setTop (mkF m 23 #[.val (.int (-M)), .val (.int q1), .val (.ref ba), s3, s4, .val (.int pos), .val (.int (0 : Int32))] [(.int (-M))])) t
      refine XS.bipush X_.here hx rfl (hb hby d10_23) ?_
      show Steps p.tables e below (T_.setTop (mkF m 25 #[.val (.int (-M)), .val (.int q1), .val (.ref ba), s3, s4, .val (.int pos), .val (.int (0 : Int32))] [(.int (-100 : Int32)), (.int (-M))])) t
      refine XS.icmpYes X_.here hx rfl (pc0 := 25) (pc' := 72) rfl (hb hby d10_25) rfl (tlt (own_sml100 hMp hbig)).2.2.1 (by decide) (by decide) ?_
      show Steps p.tables e below (T_.setTop (mkF m 72 #[.val (.int (-M)), .val (.int q1), .val (.ref ba), s3, s4, .val (.int pos), .val (.int (0 : Int32))] [])) t
      refine XS.aloadN X_.here hx rfl (hb hby d10_72) rfl rfl ?_
      show Steps p.tables e below (T_.setTop (mkF m 73 #[.val (.int (-M)), .val (.int q1), .val (.ref ba), s3, s4, .val (.int pos), .val (.int (0 : Int32))] [(.ref ba)])) t
      refine XS.iinc X_.here hx rfl (hb hby d10_73) rfl (l' := #[.val (.int (-M)), .val (.int q1), .val (.ref ba), s3, s4, .val (.int (pos + (-1 : Int32))), .val (.int (0 : Int32))]) rfl ?_
      show Steps p.tables e below (T_.setTop (mkF m 76 #[.val (.int (-M)), .val (.int q1), .val (.ref ba), s3, s4, .val (.int (pos + (-1 : Int32))), .val (.int (0 : Int32))] [(.ref ba)])) t
      refine XS.iload X_.here hx rfl (hb hby d10_76) rfl ?_
      exact k
    obtain ⟨T44, X44, e44, st44⟩ := getS2 X_ hx hZ hown (host := "") (Or.inl (hw _ (List.mem_of_getElem? (i := 62) rfl))) Via.refl e_ (own_sta_keep pS1 K_ (allS pV.nostat all0)) (g := (mkF m 78 #[.val (.int (-M)), .val (.int q1), .val (.ref ba), s3, s4, .val (.int (pos + (-1 : Int32))), .val (.int (0 : Int32))] [(.int (pos + (-1 : Int32))), (.ref ba)])) rfl (hb hby d10_78)
    have R46 : Rch p e below (s₁.setTop (entryFrame m #[(.int q0), (.int q1), (.ref ba)] 7)) T44 (mkF m 83 #[.val (.int (-M)), .val (.int q1), .val (.ref ba), s3, s4, .val (.int (pos + (-1 : Int32))), .val (.int (0 : Int32))] [(.int (-(-M))), (.ref t1), (.int (pos + (-1 : Int32))), (.ref ba)]) := fun t k => by
      refine R45 t ?_
      refine st44 _ ?_
      show Steps p.tables e below (T44.setTop (mkF m 81 #[.val (.int (-M)), .val (.int q1), .val (.ref ba), s3, s4, .val (.int (pos + (-1 : Int32))), .val (.int (0 : Int32))] [(.ref t1), (.int (pos + (-1 : Int32))), (.ref ba)])) t
      refine XS.iloadN X44.here hx rfl (hb hby d10_81) rfl ?_
      show Steps p.tables e below (T44.setTop (mkF m 82 #[.val (.int (-M)), .val (.int q1), .val (.ref ba), s3, s4, .val (.int (pos + (-1 : Int32))), .val (.int (0 : Int32))] [(.int (-M)), (.ref t1), (.int (pos + (-1 : Int32))), (.ref ba)])) t
      refine XS.ineg X44.here hx rfl (hb hby d10_82) rfl ?_
      exact k
    rw [Int32.neg_neg] at R46
    obtain ⟨cl47, Ar47, q47, Sz47, N47_, Hs47, G47⟩ := id (pT1.keep K_ (ninS pn1 nin0))
    have hin47 : ¬ (M < 0 ∨ cl47.slots.size ≤ (M).toNatClampNeg) := inb_of Sz47 (own_dlin hMp hbig)
    have hat47 : cl47.slots[(M).toNatClampNeg]? = some (.int (own_dig q0 j)) := Hs47.at hin47 (own_dl hM hMp hbig).1
    have R49 : Rch p e below (s₁.setTop (entryFrame m #[(.int q0), (.int q1), (.ref ba)] 7)) T44 (mkF m 84 #[.val (.int (-M)), .val (.int q1), .val (.ref ba), s3, s4, .val (.int (pos + (-1 : Int32))), .val (.int (0 : Int32))] [(.int (own_dig q0 j)), (.int (pos + (-1 : Int32))), (.ref ba)]) := fun t k => by
      refine R46 t ?_
      refine X44.baloadBytes hx (j := M) (v := (.int (own_dig q0 j))) (by rw [e44]; exact Ar47.1) (State.isArrayOf_alike hZ.alike Ar47.2.1) Ar47.2.2 hin47 hat47 (g := (mkF m 83 #[.val (.int (-M)), .val (.int q1), .val (.ref ba), s3, s4, .val (.int (pos + (-1 : Int32))), .val (.int (0 : Int32))] [(.int M), (.ref t1), (.int (pos + (-1 : Int32))), (.ref ba)])) rfl rfl (hb hby d10_83) _ ?_
      exact k
    obtain ⟨cl48, Ar48, q48, Sz48, N48_, Hs48, G48⟩ := id V_
    have hin48 : ¬ ((pos + (-1 : Int32)) < 0 ∨ cl48.slots.size ≤ ((pos + (-1 : Int32))).toNatClampNeg) := inb_of Sz48 hb1
    obtain ⟨T50, h50, X50, e50, W50, st50⟩ := stB X44 hx hZ e44 Ar48 (j := (pos + (-1 : Int32))) hin48 (g := (mkF m 84 #[.val (.int (-M)), .val (.int q1), .val (.ref ba), s3, s4, .val (.int (pos + (-1 : Int32))), .val (.int (0 : Int32))] [(.int (own_dig q0 j)), (.int (pos + (-1 : Int32))), (.ref ba)])) rfl rfl (hb hby d10_84)
    rw [own_nar_b (own_dig_rng _ _)] at W50
    have V50 : Arv Z h50 ba kb .byte (16 : Int32) (vs.set ((pos + (-1 : Int32))).toNatClampNeg (.int (own_dig q0 j))) (.int (0 : Int32)) := Arv.set Ar48 q48 Sz48 N48_ Hs48 G48 (own_fits_b (own_dig_rng _ _)) W50 ((pos + (-1 : Int32))).toNatClampNeg rfl (own_ltlen hb1 hlen)
    have K50 : Keep h0 h50 [ba] := K_.wr W50 (Or.inl (List.mem_of_getElem? (i := 0) rfl))
    have N50 := Fr.snoc X50 N_ pgb
    have R52 : Rch p e below (s₁.setTop (entryFrame m #[(.int q0), (.int q1), (.ref ba)] 7)) T50 (mkF m 97 #[.val (.int (-M)), .val (.int q1), .val (.ref ba), s3, s4, .val (.int ((pos + (-1 : Int32)) + (-1 : Int32))), .val (.int (0 : Int32))] [(.int ((pos + (-1 : Int32)) + (-1 : Int32))), (.ref ba)]) := fun t k => by
      refine R49 t ?_
      refine st50 _ ?_
      show Steps p.tables e below (T50.setTop (mkF m 85 #[.val (.int (-M)), .val (.int q1), .val (.ref ba), s3, s4, .val (.int (pos + (-1 : Int32))), .val (.int (0 : Int32))] [])) t
      refine XS.iloadN X50.here hx rfl (hb hby d10_85) rfl ?_
      show Steps p.tables e below (T50.setTop (mkF m 86 #[.val (.int (-M)), .val (.int q1), .val (.ref ba), s3, s4, .val (.int (pos + (-1 : Int32))), .val (.int (0 : Int32))] [(.int (-M))])) t
      refine XS.bipush X50.here hx rfl (hb hby d10_86) ?_
      show Steps p.tables e below (T50.setTop (mkF m 88 #[.val (.int (-M)), .val (.int q1), .val (.ref ba), s3, s4, .val (.int (pos + (-1 : Int32))), .val (.int (0 : Int32))] [(.int (-9 : Int32)), (.int (-M))])) t
      refine XS.icmpNo X50.here hx rfl (hb hby d10_88) rfl (tlt (own_big9 hMp hnin)).2.1 ?_
      show Steps p.tables e below (T50.setTop (mkF m 91 #[.val (.int (-M)), .val (.int q1), .val (.ref ba), s3, s4, .val (.int (pos + (-1 : Int32))), .val (.int (0 : Int32))] [])) t
      refine XS.aloadN X50.here hx rfl (hb hby d10_91) rfl rfl ?_
      show Steps p.tables e below (T50.setTop (mkF m 92 #[.val (.int (-M)), .val (.int q1), .val (.ref ba), s3, s4, .val (.int (pos + (-1 : Int32))), .val (.int (0 : Int32))] [(.ref ba)])) t
      refine XS.iinc X50.here hx rfl (hb hby d10_92) rfl (l' := #[.val (.int (-M)), .val (.int q1), .val (.ref ba), s3, s4, .val (.int ((pos + (-1 : Int32)) + (-1 : Int32))), .val (.int (0 : Int32))]) rfl ?_
      show Steps p.tables e below (T50.setTop (mkF m 95 #[.val (.int (-M)), .val (.int q1), .val (.ref ba), s3, s4, .val (.int ((pos + (-1 : Int32)) + (-1 : Int32))), .val (.int (0 : Int32))] [(.ref ba)])) t
      refine XS.iload X50.here hx rfl (hb hby d10_95) rfl ?_
      exact k
    obtain ⟨T51, X51, e51, st51⟩ := getS2 X50 hx hZ hown (host := "") (Or.inl (hw _ (List.mem_of_getElem? (i := 189) rfl))) Via.refl e50 ((own_sta_keep pS2 K_ (allS pV.nostat all0)).wr W50) (g := (mkF m 97 #[.val (.int (-M)), .val (.int q1), .val (.ref ba), s3, s4, .val (.int ((pos + (-1 : Int32)) + (-1 : Int32))), .val (.int (0 : Int32))] [(.int ((pos + (-1 : Int32)) + (-1 : Int32))), (.ref ba)])) rfl (hb hby d10_97)
    have R53 : Rch p e below (s₁.setTop (entryFrame m #[(.int q0), (.int q1), (.ref ba)] 7)) T51 (mkF m 102 #[.val (.int (-M)), .val (.int q1), .val (.ref ba), s3, s4, .val (.int ((pos + (-1 : Int32)) + (-1 : Int32))), .val (.int (0 : Int32))] [(.int (-(-M))), (.ref t2), (.int ((pos + (-1 : Int32)) + (-1 : Int32))), (.ref ba)]) := fun t k => by
      refine R52 t ?_
      refine st51 _ ?_
      show Steps p.tables e below (T51.setTop (mkF m 100 #[.val (.int (-M)), .val (.int q1), .val (.ref ba), s3, s4, .val (.int ((pos + (-1 : Int32)) + (-1 : Int32))), .val (.int (0 : Int32))] [(.ref t2), (.int ((pos + (-1 : Int32)) + (-1 : Int32))), (.ref ba)])) t
      refine XS.iloadN X51.here hx rfl (hb hby d10_100) rfl ?_
      show Steps p.tables e below (T51.setTop (mkF m 101 #[.val (.int (-M)), .val (.int q1), .val (.ref ba), s3, s4, .val (.int ((pos + (-1 : Int32)) + (-1 : Int32))), .val (.int (0 : Int32))] [(.int (-M)), (.ref t2), (.int ((pos + (-1 : Int32)) + (-1 : Int32))), (.ref ba)])) t
      refine XS.ineg X51.here hx rfl (hb hby d10_101) rfl ?_
      exact k
    rw [Int32.neg_neg] at R53
    obtain ⟨cl54, Ar54, q54, Sz54, N54_, Hs54, G54⟩ := id ((pT2.keep K_ (ninS pn2 nin0)).other W50 pn2)
    have hin54 : ¬ (M < 0 ∨ cl54.slots.size ≤ (M).toNatClampNeg) := inb_of Sz54 (own_dlin hMp hbig)
    have hat54 : cl54.slots[(M).toNatClampNeg]? = some (.int (own_dig q0 (j + 1))) := Hs54.at hin54 (own_dl hM hMp hbig).2
    have R56 : Rch p e below (s₁.setTop (entryFrame m #[(.int q0), (.int q1), (.ref ba)] 7)) T51 (mkF m 103 #[.val (.int (-M)), .val (.int q1), .val (.ref ba), s3, s4, .val (.int ((pos + (-1 : Int32)) + (-1 : Int32))), .val (.int (0 : Int32))] [(.int (own_dig q0 (j + 1))), (.int ((pos + (-1 : Int32)) + (-1 : Int32))), (.ref ba)]) := fun t k => by
      refine R53 t ?_
      refine X51.baloadBytes hx (j := M) (v := (.int (own_dig q0 (j + 1)))) (by rw [e51]; exact Ar54.1) (State.isArrayOf_alike hZ.alike Ar54.2.1) Ar54.2.2 hin54 hat54 (g := (mkF m 102 #[.val (.int (-M)), .val (.int q1), .val (.ref ba), s3, s4, .val (.int ((pos + (-1 : Int32)) + (-1 : Int32))), .val (.int (0 : Int32))] [(.int M), (.ref t2), (.int ((pos + (-1 : Int32)) + (-1 : Int32))), (.ref ba)])) rfl rfl (hb hby d10_102) _ ?_
      exact k
    obtain ⟨cl55, Ar55, q55, Sz55, N55_, Hs55, G55⟩ := id V50
    have hin55 : ¬ (((pos + (-1 : Int32)) + (-1 : Int32)) < 0 ∨ cl55.slots.size ≤ (((pos + (-1 : Int32)) + (-1 : Int32))).toNatClampNeg) := inb_of Sz55 hb2
    obtain ⟨T57, h57, X57, e57, W57, st57⟩ := stB X51 hx hZ e51 Ar55 (j := ((pos + (-1 : Int32)) + (-1 : Int32))) hin55 (g := (mkF m 103 #[.val (.int (-M)), .val (.int q1), .val (.ref ba), s3, s4, .val (.int ((pos + (-1 : Int32)) + (-1 : Int32))), .val (.int (0 : Int32))] [(.int (own_dig q0 (j + 1))), (.int ((pos + (-1 : Int32)) + (-1 : Int32))), (.ref ba)])) rfl rfl (hb hby d10_103)
    rw [own_nar_b (own_dig_rng _ _)] at W57
    have V57 : Arv Z h57 ba kb .byte (16 : Int32) ((vs.set ((pos + (-1 : Int32))).toNatClampNeg (.int (own_dig q0 j))).set (((pos + (-1 : Int32)) + (-1 : Int32))).toNatClampNeg (.int (own_dig q0 (j + 1)))) (.int (0 : Int32)) := Arv.set Ar55 q55 Sz55 N55_ Hs55 G55 (own_fits_b (own_dig_rng _ _)) W57 (((pos + (-1 : Int32)) + (-1 : Int32))).toNatClampNeg rfl (own_ltlen hb2 (by rw [List.length_set]; exact hlen))
    have K57 : Keep h0 h57 [ba] := K50.wr W57 (Or.inl (List.mem_of_getElem? (i := 0) rfl))
    have N57 := Fr.snoc X57 N50 pgb
    have R58 : Rch p e below (s₁.setTop (entryFrame m #[(.int q0), (.int q1), (.ref ba)] 7)) T57 (mkF m 104 #[.val (.int (-M)), .val (.int q1), .val (.ref ba), s3, s4, .val (.int ((pos + (-1 : Int32)) + (-1 : Int32))), .val (.int (0 : Int32))] []) := fun t k => by
      refine R56 t ?_
      refine st57 _ ?_
      exact k
    exact ⟨T57, h57, _, X57, e57, N57, K57, V57, R58⟩
  rcases own_cases q0 hn with hk | hk | hk | hk | hk | hk | hk | hk | hk | hk
  · obtain ⟨hd, hlo, hhi⟩ := hk
    have hq : q1.toInt = 1 := by rw [pq, hd]; decide
    have hM0 : q0.toInt = q0.toInt / 10 ^ 0 := by rw [Int.pow_zero]; omega
    have own_at0 := hM0.trans (by rw [show (10 : Int) ^ 0 = 1 from by decide] : q0.toInt / 10 ^ 0 = q0.toInt / 1)
    obtain ⟨TF, hF, LF, XF, eF, NF_, KF, VF, RF⟩ := finA s₁ h0 _ q0 q1 0 _ _ _ X0 e0 N0 K0 pV rfl hM0 (by omega) (own_lt.mpr (by rw [own_k100, own_at0]; omega)) (fun z => absurd (own_lt.mp z) (by rw [own_k9, own_at0]; omega)) (by omega) R1
    have R59 : Rch p e below (s₁.setTop (entryFrame m #[(.int q0), (.int q1), (.ref ba)] 7)) TF (mkF m 120 #[.val (.int (-q0)), .val (.int q1), .val (.ref ba), .unset, .unset, .val (.int (q1 + (-1 : Int32))), .val (.int (0 : Int32))] [(.int (q1 + (-1 : Int32)))]) := fun t k => by
      refine RF t ?_
      refine XS.iload XF.here hx rfl (hb hby d10_104) rfl ?_
      show Steps p.tables e below (TF.setTop (mkF m 106 #[.val (.int (-q0)), .val (.int q1), .val (.ref ba), .unset, .unset, .val (.int (q1 + (-1 : Int32))), .val (.int (0 : Int32))] [(.int (0 : Int32))])) t
      refine XS.ifYes XF.here hx rfl (pc0 := 106) (pc' := 118) rfl (hb hby d10_106) rfl ((if0 _ _).trans (teq (by decide : (0 : Int32) = (0 : Int32))).1) (by decide) (by decide) ?_
      show Steps p.tables e below (TF.setTop (mkF m 118 #[.val (.int (-q0)), .val (.int q1), .val (.ref ba), .unset, .unset, .val (.int (q1 + (-1 : Int32))), .val (.int (0 : Int32))] [])) t
      refine XS.iload XF.here hx rfl (hb hby d10_118) rfl ?_
      exact k
    obtain ⟨fs, hr, hrun, hended, hW, hsame⟩ := XF.leave (v := some (.int (q1 + (-1 : Int32)))) (fun h => by rw [Bd.returns] at h; cases h) (BodyLoose.notSynchronized Bd)
    refine ⟨_, _, R59 _ ?_, hrun, hended, _, _, rfl, ?_, ⟨_, rfl⟩, hW, hsame.mono (by decide) (by decide)⟩
    · exact retI XF hx Bd.returns (hb hby d10_120) hr
    · show Q_rm_getc Z q0 q1 ba kb t1 t2 k1 k2 h0 n0 _ TF.heap _
      rw [eF]
      exact ⟨own_i (by rw [pq, hd]; decide), NF_, KF, (own_cast (by rw [own_dn, hd]; try decide) (by rw [pq, hd]; rfl) VF)⟩
  · obtain ⟨hd, hlo, hhi⟩ := hk
    have hq : q1.toInt = 2 := by rw [pq, hd]; decide
    have hM0 : q0.toInt = q0.toInt / 10 ^ 0 := by rw [Int.pow_zero]; omega
    have own_at0 := hM0.trans (by rw [show (10 : Int) ^ 0 = 1 from by decide] : q0.toInt / 10 ^ 0 = q0.toInt / 1)
    obtain ⟨TF, hF, LF, XF, eF, NF_, KF, VF, RF⟩ := finB s₁ h0 _ q0 q1 0 _ _ _ X0 e0 N0 K0 pV rfl hM0 (by omega) (own_lt.mpr (by rw [own_k100, own_at0]; omega)) (own_lt.mpr (by rw [own_k9, own_at0]; omega)) (by omega) R1
    have R60 : Rch p e below (s₁.setTop (entryFrame m #[(.int q0), (.int q1), (.ref ba)] 7)) TF (mkF m 120 #[.val (.int (-q0)), .val (.int q1), .val (.ref ba), .unset, .unset, .val (.int ((q1 + (-1 : Int32)) + (-1 : Int32))), .val (.int (0 : Int32))] [(.int ((q1 + (-1 : Int32)) + (-1 : Int32)))]) := fun t k => by
      refine RF t ?_
      refine XS.iload XF.here hx rfl (hb hby d10_104) rfl ?_
      show Steps p.tables e below (TF.setTop (mkF m 106 #[.val (.int (-q0)), .val (.int q1), .val (.ref ba), .unset, .unset, .val (.int ((q1 + (-1 : Int32)) + (-1 : Int32))), .val (.int (0 : Int32))] [(.int (0 : Int32))])) t
      refine XS.ifYes XF.here hx rfl (pc0 := 106) (pc' := 118) rfl (hb hby d10_106) rfl ((if0 _ _).trans (teq (by decide : (0 : Int32) = (0 : Int32))).1) (by decide) (by decide) ?_
      show Steps p.tables e below (TF.setTop (mkF m 118 #[.val (.int (-q0)), .val (.int q1), .val (.ref ba), .unset, .unset, .val (.int ((q1 + (-1 : Int32)) + (-1 : Int32))), .val (.int (0 : Int32))] [])) t
      refine XS.iload XF.here hx rfl (hb hby d10_118) rfl ?_
      exact k
    obtain ⟨fs, hr, hrun, hended, hW, hsame⟩ := XF.leave (v := some (.int ((q1 + (-1 : Int32)) + (-1 : Int32)))) (fun h => by rw [Bd.returns] at h; cases h) (BodyLoose.notSynchronized Bd)
    refine ⟨_, _, R60 _ ?_, hrun, hended, _, _, rfl, ?_, ⟨_, rfl⟩, hW, hsame.mono (by decide) (by decide)⟩
    · exact retI XF hx Bd.returns (hb hby d10_120) hr
    · show Q_rm_getc Z q0 q1 ba kb t1 t2 k1 k2 h0 n0 _ TF.heap _
      rw [eF]
      exact ⟨own_i (by rw [pq, hd]; decide), NF_, KF, (own_cast (by rw [own_dn, hd]; try decide) (by rw [pq, hd]; rfl) VF)⟩
  · obtain ⟨hd, hlo, hhi⟩ := hk
    have hq : q1.toInt = 3 := by rw [pq, hd]; decide
    have hM0 : q0.toInt = q0.toInt / 10 ^ 0 := by rw [Int.pow_zero]; omega
    have own_at0 := hM0.trans (by rw [show (10 : Int) ^ 0 = 1 from by decide] : q0.toInt / 10 ^ 0 = q0.toInt / 1)
    obtain ⟨T0', h0', L0', X0', e0', N0', K0', V0', R0'⟩ := turnU s₁ h0 _ q0 q1 0 _ X0 e0 N0 K0 pV rfl hM0 (by omega) (fun z => absurd (own_lt.mp z) (by rw [own_k100, own_at0]; omega)) (by omega) R1
    have hM1 : ((q0 / (100 : Int32))).toInt = q0.toInt / 10 ^ 2 := own_next hM0 hn
    have own_po1 : (((q1 + (-1 : Int32)) + (-1 : Int32))).toInt = 1 := own_po hq (by omega)
    have own_at2 := hM1.trans (by rw [show (10 : Int) ^ 2 = 100 from by decide] : q0.toInt / 10 ^ 2 = q0.toInt / 100)
    obtain ⟨TF, hF, LF, XF, eF, NF_, KF, VF, RF⟩ := finA T0' h0' _ (q0 / (100 : Int32)) ((q1 + (-1 : Int32)) + (-1 : Int32)) 2 _ _ _ X0' e0' N0' K0' V0' (by simp only [List.length_set]; rfl) hM1 (by rw [own_po1]; omega) (own_lt.mpr (by rw [own_k100, own_at2]; omega)) (fun z => absurd (own_lt.mp z) (by rw [own_k9, own_at2]; omega)) (by rw [own_po1]; omega) R0'
    have R61 : Rch p e below (s₁.setTop (entryFrame m #[(.int q0), (.int q1), (.ref ba)] 7)) TF (mkF m 120 #[.val (.int (-(q0 / (100 : Int32)))), .val (.int q1), .val (.ref ba), .val (.int (-(q0 / (100 : Int32)))), .val (.int (q0 % (100 : Int32))), .val (.int (((q1 + (-1 : Int32)) + (-1 : Int32)) + (-1 : Int32))), .val (.int (0 : Int32))] [(.int (((q1 + (-1 : Int32)) + (-1 : Int32)) + (-1 : Int32)))]) := fun t k => by
      refine RF t ?_
      refine XS.iload XF.here hx rfl (hb hby d10_104) rfl ?_
      show Steps p.tables e below (TF.setTop (mkF m 106 #[.val (.int (-(q0 / (100 : Int32)))), .val (.int q1), .val (.ref ba), .val (.int (-(q0 / (100 : Int32)))), .val (.int (q0 % (100 : Int32))), .val (.int (((q1 + (-1 : Int32)) + (-1 : Int32)) + (-1 : Int32))), .val (.int (0 : Int32))] [(.int (0 : Int32))])) t
      refine XS.ifYes XF.here hx rfl (pc0 := 106) (pc' := 118) rfl (hb hby d10_106) rfl ((if0 _ _).trans (teq (by decide : (0 : Int32) = (0 : Int32))).1) (by decide) (by decide) ?_
      show Steps p.tables e below (TF.setTop (mkF m 118 #[.val (.int (-(q0 / (100 : Int32)))), .val (.int q1), .val (.ref ba), .val (.int (-(q0 / (100 : Int32)))), .val (.int (q0 % (100 : Int32))), .val (.int (((q1 + (-1 : Int32)) + (-1 : Int32)) + (-1 : Int32))), .val (.int (0 : Int32))] [])) t
      refine XS.iload XF.here hx rfl (hb hby d10_118) rfl ?_
      exact k
    obtain ⟨fs, hr, hrun, hended, hW, hsame⟩ := XF.leave (v := some (.int (((q1 + (-1 : Int32)) + (-1 : Int32)) + (-1 : Int32)))) (fun h => by rw [Bd.returns] at h; cases h) (BodyLoose.notSynchronized Bd)
    refine ⟨_, _, R61 _ ?_, hrun, hended, _, _, rfl, ?_, ⟨_, rfl⟩, hW, hsame.mono (by decide) (by decide)⟩
    · exact retI XF hx Bd.returns (hb hby d10_120) hr
    · show Q_rm_getc Z q0 q1 ba kb t1 t2 k1 k2 h0 n0 _ TF.heap _
      rw [eF]
      exact ⟨own_i (by rw [pq, hd]; decide), NF_, KF, (own_cast (by rw [own_dn, hd]; try decide) (by rw [pq, hd]; rfl) VF)⟩
  · obtain ⟨hd, hlo, hhi⟩ := hk
    have hq : q1.toInt = 4 := by rw [pq, hd]; decide
    have hM0 : q0.toInt = q0.toInt / 10 ^ 0 := by rw [Int.pow_zero]; omega
    have own_at0 := hM0.trans (by rw [show (10 : Int) ^ 0 = 1 from by decide] : q0.toInt / 10 ^ 0 = q0.toInt / 1)
    obtain ⟨T0', h0', L0', X0', e0', N0', K0', V0', R0'⟩ := turnU s₁ h0 _ q0 q1 0 _ X0 e0 N0 K0 pV rfl hM0 (by omega) (fun z => absurd (own_lt.mp z) (by rw [own_k100, own_at0]; omega)) (by omega) R1
    have hM1 : ((q0 / (100 : Int32))).toInt = q0.toInt / 10 ^ 2 := own_next hM0 hn
    have own_po1 : (((q1 + (-1 : Int32)) + (-1 : Int32))).toInt = 2 := own_po hq (by omega)
    have own_at2 := hM1.trans (by rw [show (10 : Int) ^ 2 = 100 from by decide] : q0.toInt / 10 ^ 2 = q0.toInt / 100)
    obtain ⟨TF, hF, LF, XF, eF, NF_, KF, VF, RF⟩ := finB T0' h0' _ (q0 / (100 : Int32)) ((q1 + (-1 : Int32)) + (-1 : Int32)) 2 _ _ _ X0' e0' N0' K0' V0' (by simp only [List.length_set]; rfl) hM1 (by rw [own_po1]; omega) (own_lt.mpr (by rw [own_k100, own_at2]; omega)) (own_lt.mpr (by rw [own_k9, own_at2]; omega)) (by rw [own_po1]; omega) R0'
    have R62 : Rch p e below (s₁.setTop (entryFrame m #[(.int q0), (.int q1), (.ref ba)] 7)) TF (mkF m 120 #[.val (.int (-(q0 / (100 : Int32)))), .val (.int q1), .val (.ref ba), .val (.int (-(q0 / (100 : Int32)))), .val (.int (q0 % (100 : Int32))), .val (.int ((((q1 + (-1 : Int32)) + (-1 : Int32)) + (-1 : Int32)) + (-1 : Int32))), .val (.int (0 : Int32))] [(.int ((((q1 + (-1 : Int32)) + (-1 : Int32)) + (-1 : Int32)) + (-1 : Int32)))]) := fun t k => by
      refine RF t ?_
      refine XS.iload XF.here hx rfl (hb hby d10_104) rfl ?_
      show Steps p.tables e below (TF.setTop (mkF m 106 #[.val (.int (-(q0 / (100 : Int32)))), .val (.int q1), .val (.ref ba), .val (.int (-(q0 / (100 : Int32)))), .val (.int (q0 % (100 : Int32))), .val (.int ((((q1 + (-1 : Int32)) + (-1 : Int32)) + (-1 : Int32)) + (-1 : Int32))), .val (.int (0 : Int32))] [(.int (0 : Int32))])) t
      refine XS.ifYes XF.here hx rfl (pc0 := 106) (pc' := 118) rfl (hb hby d10_106) rfl ((if0 _ _).trans (teq (by decide : (0 : Int32) = (0 : Int32))).1) (by decide) (by decide) ?_
      show Steps p.tables e below (TF.setTop (mkF m 118 #[.val (.int (-(q0 / (100 : Int32)))), .val (.int q1), .val (.ref ba), .val (.int (-(q0 / (100 : Int32)))), .val (.int (q0 % (100 : Int32))), .val (.int ((((q1 + (-1 : Int32)) + (-1 : Int32)) + (-1 : Int32)) + (-1 : Int32))), .val (.int (0 : Int32))] [])) t
      refine XS.iload XF.here hx rfl (hb hby d10_118) rfl ?_
      exact k
    obtain ⟨fs, hr, hrun, hended, hW, hsame⟩ := XF.leave (v := some (.int ((((q1 + (-1 : Int32)) + (-1 : Int32)) + (-1 : Int32)) + (-1 : Int32)))) (fun h => by rw [Bd.returns] at h; cases h) (BodyLoose.notSynchronized Bd)
    refine ⟨_, _, R62 _ ?_, hrun, hended, _, _, rfl, ?_, ⟨_, rfl⟩, hW, hsame.mono (by decide) (by decide)⟩
    · exact retI XF hx Bd.returns (hb hby d10_120) hr
    · show Q_rm_getc Z q0 q1 ba kb t1 t2 k1 k2 h0 n0 _ TF.heap _
      rw [eF]
      exact ⟨own_i (by rw [pq, hd]; decide), NF_, KF, (own_cast (by rw [own_dn, hd]; try decide) (by rw [pq, hd]; rfl) VF)⟩
  · obtain ⟨hd, hlo, hhi⟩ := hk
    have hq : q1.toInt = 5 := by rw [pq, hd]; decide
    have hM0 : q0.toInt = q0.toInt / 10 ^ 0 := by rw [Int.pow_zero]; omega
    have own_at0 := hM0.trans (by rw [show (10 : Int) ^ 0 = 1 from by decide] : q0.toInt / 10 ^ 0 = q0.toInt / 1)
    obtain ⟨T0', h0', L0', X0', e0', N0', K0', V0', R0'⟩ := turnU s₁ h0 _ q0 q1 0 _ X0 e0 N0 K0 pV rfl hM0 (by omega) (fun z => absurd (own_lt.mp z) (by rw [own_k100, own_at0]; omega)) (by omega) R1
    have hM1 : ((q0 / (100 : Int32))).toInt = q0.toInt / 10 ^ 2 := own_next hM0 hn
    have own_po1 : (((q1 + (-1 : Int32)) + (-1 : Int32))).toInt = 3 := own_po hq (by omega)
    have own_at2 := hM1.trans (by rw [show (10 : Int) ^ 2 = 100 from by decide] : q0.toInt / 10 ^ 2 = q0.toInt / 100)
    obtain ⟨T1', h1', L1', X1', e1', N1', K1', V1', R1'⟩ := turnI T0' h0' _ (q0 / (100 : Int32)) ((q1 + (-1 : Int32)) + (-1 : Int32)) 2 _ _ _ X0' e0' N0' K0' V0' (by simp only [List.length_set]; rfl) hM1 (by rw [own_po1]; omega) (fun z => absurd (own_lt.mp z) (by rw [own_k100, own_at2]; omega)) (by rw [own_po1]; omega) R0'
    have hM2 : (((q0 / (100 : Int32)) / (100 : Int32))).toInt = q0.toInt / 10 ^ 4 := own_next hM1 hn
    have own_po2 : (((((q1 + (-1 : Int32)) + (-1 : Int32)) + (-1 : Int32)) + (-1 : Int32))).toInt = 1 := own_po own_po1 (by omega)
    have own_at4 := hM2.trans (by rw [show (10 : Int) ^ 4 = 10000 from by decide] : q0.toInt / 10 ^ 4 = q0.toInt / 10000)
    obtain ⟨TF, hF, LF, XF, eF, NF_, KF, VF, RF⟩ := finA T1' h1' _ ((q0 / (100 : Int32)) / (100 : Int32)) ((((q1 + (-1 : Int32)) + (-1 : Int32)) + (-1 : Int32)) + (-1 : Int32)) 4 _ _ _ X1' e1' N1' K1' V1' (by simp only [List.length_set]; rfl) hM2 (by rw [own_po2]; omega) (own_lt.mpr (by rw [own_k100, own_at4]; omega)) (fun z => absurd (own_lt.mp z) (by rw [own_k9, own_at4]; omega)) (by rw [own_po2]; omega) R1'
    have R63 : Rch p e below (s₁.setTop (entryFrame m #[(.int q0), (.int q1), (.ref ba)] 7)) TF (mkF m 120 #[.val (.int (-((q0 / (100 : Int32)) / (100 : Int32)))), .val (.int q1), .val (.ref ba), .val (.int (-((q0 / (100 : Int32)) / (100 : Int32)))), .val (.int ((q0 / (100 : Int32)) % (100 : Int32))), .val (.int (((((q1 + (-1 : Int32)) + (-1 : Int32)) + (-1 : Int32)) + (-1 : Int32)) + (-1 : Int32))), .val (.int (0 : Int32))] [(.int (((((q1 + (-1 : Int32)) + (-1 : Int32)) + (-1 : Int32)) + (-1 : Int32)) + (-1 : Int32)))]) := fun t k => by
      refine RF t ?_
      refine XS.iload XF.here hx rfl (hb hby d10_104) rfl ?_
      show Steps p.tables e below (TF.setTop (mkF m 106 #[.val (.int (-((q0 / (100 : Int32)) / (100 : Int32)))), .val (.int q1), .val (.ref ba), .val (.int (-((q0 / (100 : Int32)) / (100 : Int32)))), .val (.int ((q0 / (100 : Int32)) % (100 : Int32))), .val (.int (((((q1 + (-1 : Int32)) + (-1 : Int32)) + (-1 : Int32)) + (-1 : Int32)) + (-1 : Int32))), .val (.int (0 : Int32))] [(.int (0 : Int32))])) t
      refine XS.ifYes XF.here hx rfl (pc0 := 106) (pc' := 118) rfl (hb hby d10_106) rfl ((if0 _ _).trans (teq (by decide : (0 : Int32) = (0 : Int32))).1) (by decide) (by decide) ?_
      show Steps p.tables e below (TF.setTop (mkF m 118 #[.val (.int (-((q0 / (100 : Int32)) / (100 : Int32)))), .val (.int q1), .val (.ref ba), .val (.int (-((q0 / (100 : Int32)) / (100 : Int32)))), .val (.int ((q0 / (100 : Int32)) % (100 : Int32))), .val (.int (((((q1 + (-1 : Int32)) + (-1 : Int32)) + (-1 : Int32)) + (-1 : Int32)) + (-1 : Int32))), .val (.int (0 : Int32))] [])) t
      refine XS.iload XF.here hx rfl (hb hby d10_118) rfl ?_
      exact k
    obtain ⟨fs, hr, hrun, hended, hW, hsame⟩ := XF.leave (v := some (.int (((((q1 + (-1 : Int32)) + (-1 : Int32)) + (-1 : Int32)) + (-1 : Int32)) + (-1 : Int32)))) (fun h => by rw [Bd.returns] at h; cases h) (BodyLoose.notSynchronized Bd)
    refine ⟨_, _, R63 _ ?_, hrun, hended, _, _, rfl, ?_, ⟨_, rfl⟩, hW, hsame.mono (by decide) (by decide)⟩
    · exact retI XF hx Bd.returns (hb hby d10_120) hr
    · show Q_rm_getc Z q0 q1 ba kb t1 t2 k1 k2 h0 n0 _ TF.heap _
      rw [eF]
      exact ⟨own_i (by rw [pq, hd]; decide), NF_, KF, (own_cast (by rw [own_dn, hd]; try decide) (by rw [pq, hd]; rfl) VF)⟩
  · obtain ⟨hd, hlo, hhi⟩ := hk
    have hq : q1.toInt = 6 := by rw [pq, hd]; decide
    have hM0 : q0.toInt = q0.toInt / 10 ^ 0 := by rw [Int.pow_zero]; omega
    have own_at0 := hM0.trans (by rw [show (10 : Int) ^ 0 = 1 from by decide] : q0.toInt / 10 ^ 0 = q0.toInt / 1)
    obtain ⟨T0', h0', L0', X0', e0', N0', K0', V0', R0'⟩ := turnU s₁ h0 _ q0 q1 0 _ X0 e0 N0 K0 pV rfl hM0 (by omega) (fun z => absurd (own_lt.mp z) (by rw [own_k100, own_at0]; omega)) (by omega) R1
    have hM1 : ((q0 / (100 : Int32))).toInt = q0.toInt / 10 ^ 2 := own_next hM0 hn
    have own_po1 : (((q1 + (-1 : Int32)) + (-1 : Int32))).toInt = 4 := own_po hq (by omega)
    have own_at2 := hM1.trans (by rw [show (10 : Int) ^ 2 = 100 from by decide] : q0.toInt / 10 ^ 2 = q0.toInt / 100)
    obtain ⟨T1', h1', L1', X1', e1', N1', K1', V1', R1'⟩ := turnI T0' h0' _ (q0 / (100 : Int32)) ((q1 + (-1 : Int32)) + (-1 : Int32)) 2 _ _ _ X0' e0' N0' K0' V0' (by simp only [List.length_set]; rfl) hM1 (by rw [own_po1]; omega) (fun z => absurd (own_lt.mp z) (by rw [own_k100, own_at2]; omega)) (by rw [own_po1]; omega) R0'
    have hM2 : (((q0 / (100 : Int32)) / (100 : Int32))).toInt = q0.toInt / 10 ^ 4 := own_next hM1 hn
    have own_po2 : (((((q1 + (-1 : Int32)) + (-1 : Int32)) + (-1 : Int32)) + (-1 : Int32))).toInt = 2 := own_po own_po1 (by omega)
    have own_at4 := hM2.trans (by rw [show (10 : Int) ^ 4 = 10000 from by decide] : q0.toInt / 10 ^ 4 = q0.toInt / 10000)
    obtain ⟨TF, hF, LF, XF, eF, NF_, KF, VF, RF⟩ := finB T1' h1' _ ((q0 / (100 : Int32)) / (100 : Int32)) ((((q1 + (-1 : Int32)) + (-1 : Int32)) + (-1 : Int32)) + (-1 : Int32)) 4 _ _ _ X1' e1' N1' K1' V1' (by simp only [List.length_set]; rfl) hM2 (by rw [own_po2]; omega) (own_lt.mpr (by rw [own_k100, own_at4]; omega)) (own_lt.mpr (by rw [own_k9, own_at4]; omega)) (by rw [own_po2]; omega) R1'
    have R64 : Rch p e below (s₁.setTop (entryFrame m #[(.int q0), (.int q1), (.ref ba)] 7)) TF (mkF m 120 #[.val (.int (-((q0 / (100 : Int32)) / (100 : Int32)))), .val (.int q1), .val (.ref ba), .val (.int (-((q0 / (100 : Int32)) / (100 : Int32)))), .val (.int ((q0 / (100 : Int32)) % (100 : Int32))), .val (.int ((((((q1 + (-1 : Int32)) + (-1 : Int32)) + (-1 : Int32)) + (-1 : Int32)) + (-1 : Int32)) + (-1 : Int32))), .val (.int (0 : Int32))] [(.int ((((((q1 + (-1 : Int32)) + (-1 : Int32)) + (-1 : Int32)) + (-1 : Int32)) + (-1 : Int32)) + (-1 : Int32)))]) := fun t k => by
      refine RF t ?_
      refine XS.iload XF.here hx rfl (hb hby d10_104) rfl ?_
      show Steps p.tables e below (TF.setTop (mkF m 106 #[.val (.int (-((q0 / (100 : Int32)) / (100 : Int32)))), .val (.int q1), .val (.ref ba), .val (.int (-((q0 / (100 : Int32)) / (100 : Int32)))), .val (.int ((q0 / (100 : Int32)) % (100 : Int32))), .val (.int ((((((q1 + (-1 : Int32)) + (-1 : Int32)) + (-1 : Int32)) + (-1 : Int32)) + (-1 : Int32)) + (-1 : Int32))), .val (.int (0 : Int32))] [(.int (0 : Int32))])) t
      refine XS.ifYes XF.here hx rfl (pc0 := 106) (pc' := 118) rfl (hb hby d10_106) rfl ((if0 _ _).trans (teq (by decide : (0 : Int32) = (0 : Int32))).1) (by decide) (by decide) ?_
      show Steps p.tables e below (TF.setTop (mkF m 118 #[.val (.int (-((q0 / (100 : Int32)) / (100 : Int32)))), .val (.int q1), .val (.ref ba), .val (.int (-((q0 / (100 : Int32)) / (100 : Int32)))), .val (.int ((q0 / (100 : Int32)) % (100 : Int32))), .val (.int ((((((q1 + (-1 : Int32)) + (-1 : Int32)) + (-1 : Int32)) + (-1 : Int32)) + (-1 : Int32)) + (-1 : Int32))), .val (.int (0 : Int32))] [])) t
      refine XS.iload XF.here hx rfl (hb hby d10_118) rfl ?_
      exact k
    obtain ⟨fs, hr, hrun, hended, hW, hsame⟩ := XF.leave (v := some (.int ((((((q1 + (-1 : Int32)) + (-1 : Int32)) + (-1 : Int32)) + (-1 : Int32)) + (-1 : Int32)) + (-1 : Int32)))) (fun h => by rw [Bd.returns] at h; cases h) (BodyLoose.notSynchronized Bd)
    refine ⟨_, _, R64 _ ?_, hrun, hended, _, _, rfl, ?_, ⟨_, rfl⟩, hW, hsame.mono (by decide) (by decide)⟩
    · exact retI XF hx Bd.returns (hb hby d10_120) hr
    · show Q_rm_getc Z q0 q1 ba kb t1 t2 k1 k2 h0 n0 _ TF.heap _
      rw [eF]
      exact ⟨own_i (by rw [pq, hd]; decide), NF_, KF, (own_cast (by rw [own_dn, hd]; try decide) (by rw [pq, hd]; rfl) VF)⟩
  · obtain ⟨hd, hlo, hhi⟩ := hk
    have hq : q1.toInt = 7 := by rw [pq, hd]; decide
    have hM0 : q0.toInt = q0.toInt / 10 ^ 0 := by rw [Int.pow_zero]; omega
    have own_at0 := hM0.trans (by rw [show (10 : Int) ^ 0 = 1 from by decide] : q0.toInt / 10 ^ 0 = q0.toInt / 1)
    obtain ⟨T0', h0', L0', X0', e0', N0', K0', V0', R0'⟩ := turnU s₁ h0 _ q0 q1 0 _ X0 e0 N0 K0 pV rfl hM0 (by omega) (fun z => absurd (own_lt.mp z) (by rw [own_k100, own_at0]; omega)) (by omega) R1
    have hM1 : ((q0 / (100 : Int32))).toInt = q0.toInt / 10 ^ 2 := own_next hM0 hn
    have own_po1 : (((q1 + (-1 : Int32)) + (-1 : Int32))).toInt = 5 := own_po hq (by omega)
    have own_at2 := hM1.trans (by rw [show (10 : Int) ^ 2 = 100 from by decide] : q0.toInt / 10 ^ 2 = q0.toInt / 100)
    obtain ⟨T1', h1', L1', X1', e1', N1', K1', V1', R1'⟩ := turnI T0' h0' _ (q0 / (100 : Int32)) ((q1 + (-1 : Int32)) + (-1 : Int32)) 2 _ _ _ X0' e0' N0' K0' V0' (by simp only [List.length_set]; rfl) hM1 (by rw [own_po1]; omega) (fun z => absurd (own_lt.mp z) (by rw [own_k100, own_at2]; omega)) (by rw [own_po1]; omega) R0'
    have hM2 : (((q0 / (100 : Int32)) / (100 : Int32))).toInt = q0.toInt / 10 ^ 4 := own_next hM1 hn
    have own_po2 : (((((q1 + (-1 : Int32)) + (-1 : Int32)) + (-1 : Int32)) + (-1 : Int32))).toInt = 3 := own_po own_po1 (by omega)
    have own_at4 := hM2.trans (by rw [show (10 : Int) ^ 4 = 10000 from by decide] : q0.toInt / 10 ^ 4 = q0.toInt / 10000)
    obtain ⟨T2', h2', L2', X2', e2', N2', K2', V2', R2'⟩ := turnI T1' h1' _ ((q0 / (100 : Int32)) / (100 : Int32)) ((((q1 + (-1 : Int32)) + (-1 : Int32)) + (-1 : Int32)) + (-1 : Int32)) 4 _ _ _ X1' e1' N1' K1' V1' (by simp only [List.length_set]; rfl) hM2 (by rw [own_po2]; omega) (fun z => absurd (own_lt.mp z) (by rw [own_k100, own_at4]; omega)) (by rw [own_po2]; omega) R1'
    have hM3 : ((((q0 / (100 : Int32)) / (100 : Int32)) / (100 : Int32))).toInt = q0.toInt / 10 ^ 6 := own_next hM2 hn
    have own_po3 : (((((((q1 + (-1 : Int32)) + (-1 : Int32)) + (-1 : Int32)) + (-1 : Int32)) + (-1 : Int32)) + (-1 : Int32))).toInt = 1 := own_po own_po2 (by omega)
    have own_at6 := hM3.trans (by rw [show (10 : Int) ^ 6 = 1000000 from by decide] : q0.toInt / 10 ^ 6 = q0.toInt / 1000000)
    obtain ⟨TF, hF, LF, XF, eF, NF_, KF, VF, RF⟩ := finA T2' h2' _ (((q0 / (100 : Int32)) / (100 : Int32)) / (100 : Int32)) ((((((q1 + (-1 : Int32)) + (-1 : Int32)) + (-1 : Int32)) + (-1 : Int32)) + (-1 : Int32)) + (-1 : Int32)) 6 _ _ _ X2' e2' N2' K2' V2' (by simp only [List.length_set]; rfl) hM3 (by rw [own_po3]; omega) (own_lt.mpr (by rw [own_k100, own_at6]; omega)) (fun z => absurd (own_lt.mp z) (by rw [own_k9, own_at6]; omega)) (by rw [own_po3]; omega) R2'
    have R65 : Rch p e below (s₁.setTop (entryFrame m #[(.int q0), (.int q1), (.ref ba)] 7)) TF (mkF m 120 #[.val (.int (-(((q0 / (100 : Int32)) / (100 : Int32)) / (100 : Int32)))), .val (.int q1), .val (.ref ba), .val (.int (-(((q0 / (100 : Int32)) / (100 : Int32)) / (100 : Int32)))), .val (.int (((q0 / (100 : Int32)) / (100 : Int32)) % (100 : Int32))), .val (.int (((((((q1 + (-1 : Int32)) + (-1 : Int32)) + (-1 : Int32)) + (-1 : Int32)) + (-1 : Int32)) + (-1 : Int32)) + (-1 : Int32))), .val (.int (0 : Int32))] [(.int (((((((q1 + (-1 : Int32)) + (-1 : Int32)) + (-1 : Int32)) + (-1 : Int32)) + (-1 : Int32)) + (-1 : Int32)) + (-1 : Int32)))]) := fun t k => by
      refine RF t ?_
      refine XS.iload XF.here hx rfl (hb hby d10_104) rfl ?_
      show Steps p.tables e below (TF.setTop (mkF m 106 #[.val (.int (-(((q0 / (100 : Int32)) / (100 : Int32)) / (100 : Int32)))), .val (.int q1), .val (.ref ba), .val (.int (-(((q0 / (100 : Int32)) / (100 : Int32)) / (100 : Int32)))), .val (.int (((q0 / (100 : Int32)) / (100 : Int32)) % (100 : Int32))), .val (.int (((((((q1 + (-1 : Int32)) + (-1 : Int32)) + (-1 : Int32)) + (-1 : Int32)) + (-1 : Int32)) + (-1 : Int32)) + (-1 : Int32))), .val (.int (0 : Int32))] [(.int (0 : Int32))])) t
      refine XS.ifYes XF.here hx rfl (pc0 := 106) (pc' := 118) rfl (hb hby d10_106) rfl ((if0 _ _).trans (teq (by decide : (0 : Int32) = (0 : Int32))).1) (by decide) (by decide) ?_
      show Steps p.tables e below (TF.setTop (mkF m 118 #[.val (.int (-(((q0 / (100 : Int32)) / (100 : Int32)) / (100 : Int32)))), .val (.int q1), .val (.ref ba), .val (.int (-(((q0 / (100 : Int32)) / (100 : Int32)) / (100 : Int32)))), .val (.int (((q0 / (100 : Int32)) / (100 : Int32)) % (100 : Int32))), .val (.int (((((((q1 + (-1 : Int32)) + (-1 : Int32)) + (-1 : Int32)) + (-1 : Int32)) + (-1 : Int32)) + (-1 : Int32)) + (-1 : Int32))), .val (.int (0 : Int32))] [])) t
      refine XS.iload XF.here hx rfl (hb hby d10_118) rfl ?_
      exact k
    obtain ⟨fs, hr, hrun, hended, hW, hsame⟩ := XF.leave (v := some (.int (((((((q1 + (-1 : Int32)) + (-1 : Int32)) + (-1 : Int32)) + (-1 : Int32)) + (-1 : Int32)) + (-1 : Int32)) + (-1 : Int32)))) (fun h => by rw [Bd.returns] at h; cases h) (BodyLoose.notSynchronized Bd)
    refine ⟨_, _, R65 _ ?_, hrun, hended, _, _, rfl, ?_, ⟨_, rfl⟩, hW, hsame.mono (by decide) (by decide)⟩
    · exact retI XF hx Bd.returns (hb hby d10_120) hr
    · show Q_rm_getc Z q0 q1 ba kb t1 t2 k1 k2 h0 n0 _ TF.heap _
      rw [eF]
      exact ⟨own_i (by rw [pq, hd]; decide), NF_, KF, (own_cast (by rw [own_dn, hd]; try decide) (by rw [pq, hd]; rfl) VF)⟩
  · obtain ⟨hd, hlo, hhi⟩ := hk
    have hq : q1.toInt = 8 := by rw [pq, hd]; decide
    have hM0 : q0.toInt = q0.toInt / 10 ^ 0 := by rw [Int.pow_zero]; omega
    have own_at0 := hM0.trans (by rw [show (10 : Int) ^ 0 = 1 from by decide] : q0.toInt / 10 ^ 0 = q0.toInt / 1)
    obtain ⟨T0', h0', L0', X0', e0', N0', K0', V0', R0'⟩ := turnU s₁ h0 _ q0 q1 0 _ X0 e0 N0 K0 pV rfl hM0 (by omega) (fun z => absurd (own_lt.mp z) (by rw [own_k100, own_at0]; omega)) (by omega) R1
    have hM1 : ((q0 / (100 : Int32))).toInt = q0.toInt / 10 ^ 2 := own_next hM0 hn
    have own_po1 : (((q1 + (-1 : Int32)) + (-1 : Int32))).toInt = 6 := own_po hq (by omega)
    have own_at2 := hM1.trans (by rw [show (10 : Int) ^ 2 = 100 from by decide] : q0.toInt / 10 ^ 2 = q0.toInt / 100)
    obtain ⟨T1', h1', L1', X1', e1', N1', K1', V1', R1'⟩ := turnI T0' h0' _ (q0 / (100 : Int32)) ((q1 + (-1 : Int32)) + (-1 : Int32)) 2 _ _ _ X0' e0' N0' K0' V0' (by simp only [List.length_set]; rfl) hM1 (by rw [own_po1]; omega) (fun z => absurd (own_lt.mp z) (by rw [own_k100, own_at2]; omega)) (by rw [own_po1]; omega) R0'
    have hM2 : (((q0 / (100 : Int32)) / (100 : Int32))).toInt = q0.toInt / 10 ^ 4 := own_next hM1 hn
    have own_po2 : (((((q1 + (-1 : Int32)) + (-1 : Int32)) + (-1 : Int32)) + (-1 : Int32))).toInt = 4 := own_po own_po1 (by omega)
    have own_at4 := hM2.trans (by rw [show (10 : Int) ^ 4 = 10000 from by decide] : q0.toInt / 10 ^ 4 = q0.toInt / 10000)
    obtain ⟨T2', h2', L2', X2', e2', N2', K2', V2', R2'⟩ := turnI T1' h1' _ ((q0 / (100 : Int32)) / (100 : Int32)) ((((q1 + (-1 : Int32)) + (-1 : Int32)) + (-1 : Int32)) + (-1 : Int32)) 4 _ _ _ X1' e1' N1' K1' V1' (by simp only [List.length_set]; rfl) hM2 (by rw [own_po2]; omega) (fun z => absurd (own_lt.mp z) (by rw [own_k100, own_at4]; omega)) (by rw [own_po2]; omega) R1'
    have hM3 : ((((q0 / (100 : Int32)) / (100 : Int32)) / (100 : Int32))).toInt = q0.toInt / 10 ^ 6 := own_next hM2 hn
    have own_po3 : (((((((q1 + (-1 : Int32)) + (-1 : Int32)) + (-1 : Int32)) + (-1 : Int32)) + (-1 : Int32)) + (-1 : Int32))).toInt = 2 := own_po own_po2 (by omega)
    have own_at6 := hM3.trans (by rw [show (10 : Int) ^ 6 = 1000000 from by decide] : q0.toInt / 10 ^ 6 = q0.toInt / 1000000)
    obtain ⟨TF, hF, LF, XF, eF, NF_, KF, VF, RF⟩ := finB T2' h2' _ (((q0 / (100 : Int32)) / (100 : Int32)) / (100 : Int32)) ((((((q1 + (-1 : Int32)) + (-1 : Int32)) + (-1 : Int32)) + (-1 : Int32)) + (-1 : Int32)) + (-1 : Int32)) 6 _ _ _ X2' e2' N2' K2' V2' (by simp only [List.length_set]; rfl) hM3 (by rw [own_po3]; omega) (own_lt.mpr (by rw [own_k100, own_at6]; omega)) (own_lt.mpr (by rw [own_k9, own_at6]; omega)) (by rw [own_po3]; omega) R2'
    have R66 : Rch p e below (s₁.setTop (entryFrame m #[(.int q0), (.int q1), (.ref ba)] 7)) TF (mkF m 120 #[.val (.int (-(((q0 / (100 : Int32)) / (100 : Int32)) / (100 : Int32)))), .val (.int q1), .val (.ref ba), .val (.int (-(((q0 / (100 : Int32)) / (100 : Int32)) / (100 : Int32)))), .val (.int (((q0 / (100 : Int32)) / (100 : Int32)) % (100 : Int32))), .val (.int ((((((((q1 + (-1 : Int32)) + (-1 : Int32)) + (-1 : Int32)) + (-1 : Int32)) + (-1 : Int32)) + (-1 : Int32)) + (-1 : Int32)) + (-1 : Int32))), .val (.int (0 : Int32))] [(.int ((((((((q1 + (-1 : Int32)) + (-1 : Int32)) + (-1 : Int32)) + (-1 : Int32)) + (-1 : Int32)) + (-1 : Int32)) + (-1 : Int32)) + (-1 : Int32)))]) := fun t k => by
      refine RF t ?_
      refine XS.iload XF.here hx rfl (hb hby d10_104) rfl ?_
      show Steps p.tables e below (TF.setTop (mkF m 106 #[.val (.int (-(((q0 / (100 : Int32)) / (100 : Int32)) / (100 : Int32)))), .val (.int q1), .val (.ref ba), .val (.int (-(((q0 / (100 : Int32)) / (100 : Int32)) / (100 : Int32)))), .val (.int (((q0 / (100 : Int32)) / (100 : Int32)) % (100 : Int32))), .val (.int ((((((((q1 + (-1 : Int32)) + (-1 : Int32)) + (-1 : Int32)) + (-1 : Int32)) + (-1 : Int32)) + (-1 : Int32)) + (-1 : Int32)) + (-1 : Int32))), .val (.int (0 : Int32))] [(.int (0 : Int32))])) t
      refine XS.ifYes XF.here hx rfl (pc0 := 106) (pc' := 118) rfl (hb hby d10_106) rfl ((if0 _ _).trans (teq (by decide : (0 : Int32) = (0 : Int32))).1) (by decide) (by decide) ?_
      show Steps p.tables e below (TF.setTop (mkF m 118 #[.val (.int (-(((q0 / (100 : Int32)) / (100 : Int32)) / (100 : Int32)))), .val (.int q1), .val (.ref ba), .val (.int (-(((q0 / (100 : Int32)) / (100 : Int32)) / (100 : Int32)))), .val (.int (((q0 / (100 : Int32)) / (100 : Int32)) % (100 : Int32))), .val (.int ((((((((q1 + (-1 : Int32)) + (-1 : Int32)) + (-1 : Int32)) + (-1 : Int32)) + (-1 : Int32)) + (-1 : Int32)) + (-1 : Int32)) + (-1 : Int32))), .val (.int (0 : Int32))] [])) t
      refine XS.iload XF.here hx rfl (hb hby d10_118) rfl ?_
      exact k
    obtain ⟨fs, hr, hrun, hended, hW, hsame⟩ := XF.leave (v := some (.int ((((((((q1 + (-1 : Int32)) + (-1 : Int32)) + (-1 : Int32)) + (-1 : Int32)) + (-1 : Int32)) + (-1 : Int32)) + (-1 : Int32)) + (-1 : Int32)))) (fun h => by rw [Bd.returns] at h; cases h) (BodyLoose.notSynchronized Bd)
    refine ⟨_, _, R66 _ ?_, hrun, hended, _, _, rfl, ?_, ⟨_, rfl⟩, hW, hsame.mono (by decide) (by decide)⟩
    · exact retI XF hx Bd.returns (hb hby d10_120) hr
    · show Q_rm_getc Z q0 q1 ba kb t1 t2 k1 k2 h0 n0 _ TF.heap _
      rw [eF]
      exact ⟨own_i (by rw [pq, hd]; decide), NF_, KF, (own_cast (by rw [own_dn, hd]; try decide) (by rw [pq, hd]; rfl) VF)⟩
  · obtain ⟨hd, hlo, hhi⟩ := hk
    have hq : q1.toInt = 9 := by rw [pq, hd]; decide
    have hM0 : q0.toInt = q0.toInt / 10 ^ 0 := by rw [Int.pow_zero]; omega
    have own_at0 := hM0.trans (by rw [show (10 : Int) ^ 0 = 1 from by decide] : q0.toInt / 10 ^ 0 = q0.toInt / 1)
    obtain ⟨T0', h0', L0', X0', e0', N0', K0', V0', R0'⟩ := turnU s₁ h0 _ q0 q1 0 _ X0 e0 N0 K0 pV rfl hM0 (by omega) (fun z => absurd (own_lt.mp z) (by rw [own_k100, own_at0]; omega)) (by omega) R1
    have hM1 : ((q0 / (100 : Int32))).toInt = q0.toInt / 10 ^ 2 := own_next hM0 hn
    have own_po1 : (((q1 + (-1 : Int32)) + (-1 : Int32))).toInt = 7 := own_po hq (by omega)
    have own_at2 := hM1.trans (by rw [show (10 : Int) ^ 2 = 100 from by decide] : q0.toInt / 10 ^ 2 = q0.toInt / 100)
    obtain ⟨T1', h1', L1', X1', e1', N1', K1', V1', R1'⟩ := turnI T0' h0' _ (q0 / (100 : Int32)) ((q1 + (-1 : Int32)) + (-1 : Int32)) 2 _ _ _ X0' e0' N0' K0' V0' (by simp only [List.length_set]; rfl) hM1 (by rw [own_po1]; omega) (fun z => absurd (own_lt.mp z) (by rw [own_k100, own_at2]; omega)) (by rw [own_po1]; omega) R0'
    have hM2 : (((q0 / (100 : Int32)) / (100 : Int32))).toInt = q0.toInt / 10 ^ 4 := own_next hM1 hn
    have own_po2 : (((((q1 + (-1 : Int32)) + (-1 : Int32)) + (-1 : Int32)) + (-1 : Int32))).toInt = 5 := own_po own_po1 (by omega)
    have own_at4 := hM2.trans (by rw [show (10 : Int) ^ 4 = 10000 from by decide] : q0.toInt / 10 ^ 4 = q0.toInt / 10000)
    obtain ⟨T2', h2', L2', X2', e2', N2', K2', V2', R2'⟩ := turnI T1' h1' _ ((q0 / (100 : Int32)) / (100 : Int32)) ((((q1 + (-1 : Int32)) + (-1 : Int32)) + (-1 : Int32)) + (-1 : Int32)) 4 _ _ _ X1' e1' N1' K1' V1' (by simp only [List.length_set]; rfl) hM2 (by rw [own_po2]; omega) (fun z => absurd (own_lt.mp z) (by rw [own_k100, own_at4]; omega)) (by rw [own_po2]; omega) R1'
    have hM3 : ((((q0 / (100 : Int32)) / (100 : Int32)) / (100 : Int32))).toInt = q0.toInt / 10 ^ 6 := own_next hM2 hn
    have own_po3 : (((((((q1 + (-1 : Int32)) + (-1 : Int32)) + (-1 : Int32)) + (-1 : Int32)) + (-1 : Int32)) + (-1 : Int32))).toInt = 3 := own_po own_po2 (by omega)
    have own_at6 := hM3.trans (by rw [show (10 : Int) ^ 6 = 1000000 from by decide] : q0.toInt / 10 ^ 6 = q0.toInt / 1000000)
    obtain ⟨T3', h3', L3', X3', e3', N3', K3', V3', R3'⟩ := turnI T2' h2' _ (((q0 / (100 : Int32)) / (100 : Int32)) / (100 : Int32)) ((((((q1 + (-1 : Int32)) + (-1 : Int32)) + (-1 : Int32)) + (-1 : Int32)) + (-1 : Int32)) + (-1 : Int32)) 6 _ _ _ X2' e2' N2' K2' V2' (by simp only [List.length_set]; rfl) hM3 (by rw [own_po3]; omega) (fun z => absurd (own_lt.mp z) (by rw [own_k100, own_at6]; omega)) (by rw [own_po3]; omega) R2'
    have hM4 : (((((q0 / (100 : Int32)) / (100 : Int32)) / (100 : Int32)) / (100 : Int32))).toInt = q0.toInt / 10 ^ 8 := own_next hM3 hn
    have own_po4 : (((((((((q1 + (-1 : Int32)) + (-1 : Int32)) + (-1 : Int32)) + (-1 : Int32)) + (-1 : Int32)) + (-1 : Int32)) + (-1 : Int32)) + (-1 : Int32))).toInt = 1 := own_po own_po3 (by omega)
    have own_at8 := hM4.trans (by rw [show (10 : Int) ^ 8 = 100000000 from by decide] : q0.toInt / 10 ^ 8 = q0.toInt / 100000000)
    obtain ⟨TF, hF, LF, XF, eF, NF_, KF, VF, RF⟩ := finA T3' h3' _ ((((q0 / (100 : Int32)) / (100 : Int32)) / (100 : Int32)) / (100 : Int32)) ((((((((q1 + (-1 : Int32)) + (-1 : Int32)) + (-1 : Int32)) + (-1 : Int32)) + (-1 : Int32)) + (-1 : Int32)) + (-1 : Int32)) + (-1 : Int32)) 8 _ _ _ X3' e3' N3' K3' V3' (by simp only [List.length_set]; rfl) hM4 (by rw [own_po4]; omega) (own_lt.mpr (by rw [own_k100, own_at8]; omega)) (fun z => absurd (own_lt.mp z) (by rw [own_k9, own_at8]; omega)) (by rw [own_po4]; omega) R3'
    have R67 : Rch p e below (s₁.setTop (entryFrame m #[(.int q0), (.int q1), (.ref ba)] 7)) TF (mkF m 120 #[.val (.int (-((((q0 / (100 : Int32)) / (100 : Int32)) / (100 : Int32)) / (100 : Int32)))), .val (.int q1), .val (.ref ba), .val (.int (-((((q0 / (100 : Int32)) / (100 : Int32)) / (100 : Int32)) / (100 : Int32)))), .val (.int ((((q0 / (100 : Int32)) / (100 : Int32)) / (100 : Int32)) % (100 : Int32))), .val (.int (((((((((q1 + (-1 : Int32)) + (-1 : Int32)) + (-1 : Int32)) + (-1 : Int32)) + (-1 : Int32)) + (-1 : Int32)) + (-1 : Int32)) + (-1 : Int32)) + (-1 : Int32))), .val (.int (0 : Int32))] [(.int (((((((((q1 + (-1 : Int32)) + (-1 : Int32)) + (-1 : Int32)) + (-1 : Int32)) + (-1 : Int32)) + (-1 : Int32)) + (-1 : Int32)) + (-1 : Int32)) + (-1 : Int32)))]) := fun t k => by
      refine RF t ?_
      refine XS.iload XF.here hx rfl (hb hby d10_104) rfl ?_
      show Steps p.tables e below (TF.setTop (mkF m 106 #[.val (.int (-((((q0 / (100 : Int32)) / (100 : Int32)) / (100 : Int32)) / (100 : Int32)))), .val (.int q1), .val (.ref ba), .val (.int (-((((q0 / (100 : Int32)) / (100 : Int32)) / (100 : Int32)) / (100 : Int32)))), .val (.int ((((q0 / (100 : Int32)) / (100 : Int32)) / (100 : Int32)) % (100 : Int32))), .val (.int (((((((((q1 + (-1 : Int32)) + (-1 : Int32)) + (-1 : Int32)) + (-1 : Int32)) + (-1 : Int32)) + (-1 : Int32)) + (-1 : Int32)) + (-1 : Int32)) + (-1 : Int32))), .val (.int (0 : Int32))] [(.int (0 : Int32))])) t
      refine XS.ifYes XF.here hx rfl (pc0 := 106) (pc' := 118) rfl (hb hby d10_106) rfl ((if0 _ _).trans (teq (by decide : (0 : Int32) = (0 : Int32))).1) (by decide) (by decide) ?_
      show Steps p.tables e below (TF.setTop (mkF m 118 #[.val (.int (-((((q0 / (100 : Int32)) / (100 : Int32)) / (100 : Int32)) / (100 : Int32)))), .val (.int q1), .val (.ref ba), .val (.int (-((((q0 / (100 : Int32)) / (100 : Int32)) / (100 : Int32)) / (100 : Int32)))), .val (.int ((((q0 / (100 : Int32)) / (100 : Int32)) / (100 : Int32)) % (100 : Int32))), .val (.int (((((((((q1 + (-1 : Int32)) + (-1 : Int32)) + (-1 : Int32)) + (-1 : Int32)) + (-1 : Int32)) + (-1 : Int32)) + (-1 : Int32)) + (-1 : Int32)) + (-1 : Int32))), .val (.int (0 : Int32))] [])) t
      refine XS.iload XF.here hx rfl (hb hby d10_118) rfl ?_
      exact k
    obtain ⟨fs, hr, hrun, hended, hW, hsame⟩ := XF.leave (v := some (.int (((((((((q1 + (-1 : Int32)) + (-1 : Int32)) + (-1 : Int32)) + (-1 : Int32)) + (-1 : Int32)) + (-1 : Int32)) + (-1 : Int32)) + (-1 : Int32)) + (-1 : Int32)))) (fun h => by rw [Bd.returns] at h; cases h) (BodyLoose.notSynchronized Bd)
    refine ⟨_, _, R67 _ ?_, hrun, hended, _, _, rfl, ?_, ⟨_, rfl⟩, hW, hsame.mono (by decide) (by decide)⟩
    · exact retI XF hx Bd.returns (hb hby d10_120) hr
    · show Q_rm_getc Z q0 q1 ba kb t1 t2 k1 k2 h0 n0 _ TF.heap _
      rw [eF]
      exact ⟨own_i (by rw [pq, hd]; decide), NF_, KF, (own_cast (by rw [own_dn, hd]; try decide) (by rw [pq, hd]; rfl) VF)⟩
  · obtain ⟨hd, hlo, hhi⟩ := hk
    have hq : q1.toInt = 10 := by rw [pq, hd]; decide
    have hM0 : q0.toInt = q0.toInt / 10 ^ 0 := by rw [Int.pow_zero]; omega
    have own_at0 := hM0.trans (by rw [show (10 : Int) ^ 0 = 1 from by decide] : q0.toInt / 10 ^ 0 = q0.toInt / 1)
    obtain ⟨T0', h0', L0', X0', e0', N0', K0', V0', R0'⟩ := turnU s₁ h0 _ q0 q1 0 _ X0 e0 N0 K0 pV rfl hM0 (by omega) (fun z => absurd (own_lt.mp z) (by rw [own_k100, own_at0]; omega)) (by omega) R1
    have hM1 : ((q0 / (100 : Int32))).toInt = q0.toInt / 10 ^ 2 := own_next hM0 hn
    have own_po1 : (((q1 + (-1 : Int32)) + (-1 : Int32))).toInt = 8 := own_po hq (by omega)
    have own_at2 := hM1.trans (by rw [show (10 : Int) ^ 2 = 100 from by decide] : q0.toInt / 10 ^ 2 = q0.toInt / 100)
    obtain ⟨T1', h1', L1', X1', e1', N1', K1', V1', R1'⟩ := turnI T0' h0' _ (q0 / (100 : Int32)) ((q1 + (-1 : Int32)) + (-1 : Int32)) 2 _ _ _ X0' e0' N0' K0' V0' (by simp only [List.length_set]; rfl) hM1 (by rw [own_po1]; omega) (fun z => absurd (own_lt.mp z) (by rw [own_k100, own_at2]; omega)) (by rw [own_po1]; omega) R0'
    have hM2 : (((q0 / (100 : Int32)) / (100 : Int32))).toInt = q0.toInt / 10 ^ 4 := own_next hM1 hn
    have own_po2 : (((((q1 + (-1 : Int32)) + (-1 : Int32)) + (-1 : Int32)) + (-1 : Int32))).toInt = 6 := own_po own_po1 (by omega)
    have own_at4 := hM2.trans (by rw [show (10 : Int) ^ 4 = 10000 from by decide] : q0.toInt / 10 ^ 4 = q0.toInt / 10000)
    obtain ⟨T2', h2', L2', X2', e2', N2', K2', V2', R2'⟩ := turnI T1' h1' _ ((q0 / (100 : Int32)) / (100 : Int32)) ((((q1 + (-1 : Int32)) + (-1 : Int32)) + (-1 : Int32)) + (-1 : Int32)) 4 _ _ _ X1' e1' N1' K1' V1' (by simp only [List.length_set]; rfl) hM2 (by rw [own_po2]; omega) (fun z => absurd (own_lt.mp z) (by rw [own_k100, own_at4]; omega)) (by rw [own_po2]; omega) R1'
    have hM3 : ((((q0 / (100 : Int32)) / (100 : Int32)) / (100 : Int32))).toInt = q0.toInt / 10 ^ 6 := own_next hM2 hn
    have own_po3 : (((((((q1 + (-1 : Int32)) + (-1 : Int32)) + (-1 : Int32)) + (-1 : Int32)) + (-1 : Int32)) + (-1 : Int32))).toInt = 4 := own_po own_po2 (by omega)
    have own_at6 := hM3.trans (by rw [show (10 : Int) ^ 6 = 1000000 from by decide] : q0.toInt / 10 ^ 6 = q0.toInt / 1000000)
    obtain ⟨T3', h3', L3', X3', e3', N3', K3', V3', R3'⟩ := turnI T2' h2' _ (((q0 / (100 : Int32)) / (100 : Int32)) / (100 : Int32)) ((((((q1 + (-1 : Int32)) + (-1 : Int32)) + (-1 : Int32)) + (-1 : Int32)) + (-1 : Int32)) + (-1 : Int32)) 6 _ _ _ X2' e2' N2' K2' V2' (by simp only [List.length_set]; rfl) hM3 (by rw [own_po3]; omega) (fun z => absurd (own_lt.mp z) (by rw [own_k100, own_at6]; omega)) (by rw [own_po3]; omega) R2'
    have hM4 : (((((q0 / (100 : Int32)) / (100 : Int32)) / (100 : Int32)) / (100 : Int32))).toInt = q0.toInt / 10 ^ 8 := own_next hM3 hn
    have own_po4 : (((((((((q1 + (-1 : Int32)) + (-1 : Int32)) + (-1 : Int32)) + (-1 : Int32)) + (-1 : Int32)) + (-1 : Int32)) + (-1 : Int32)) + (-1 : Int32))).toInt = 2 := own_po own_po3 (by omega)
    have own_at8 := hM4.trans (by rw [show (10 : Int) ^ 8 = 100000000 from by decide] : q0.toInt / 10 ^ 8 = q0.toInt / 100000000)
    obtain ⟨TF, hF, LF, XF, eF, NF_, KF, VF, RF⟩ := finB T3' h3' _ ((((q0 / (100 : Int32)) / (100 : Int32)) / (100 : Int32)) / (100 : Int32)) ((((((((q1 + (-1 : Int32)) + (-1 : Int32)) + (-1 : Int32)) + (-1 : Int32)) + (-1 : Int32)) + (-1 : Int32)) + (-1 : Int32)) + (-1 : Int32)) 8 _ _ _ X3' e3' N3' K3' V3' (by simp only [List.length_set]; rfl) hM4 (by rw [own_po4]; omega) (own_lt.mpr (by rw [own_k100, own_at8]; omega)) (own_lt.mpr (by rw [own_k9, own_at8]; omega)) (by rw [own_po4]; omega) R3'
    have R68 : Rch p e below (s₁.setTop (entryFrame m #[(.int q0), (.int q1), (.ref ba)] 7)) TF (mkF m 120 #[.val (.int (-((((q0 / (100 : Int32)) / (100 : Int32)) / (100 : Int32)) / (100 : Int32)))), .val (.int q1), .val (.ref ba), .val (.int (-((((q0 / (100 : Int32)) / (100 : Int32)) / (100 : Int32)) / (100 : Int32)))), .val (.int ((((q0 / (100 : Int32)) / (100 : Int32)) / (100 : Int32)) % (100 : Int32))), .val (.int ((((((((((q1 + (-1 : Int32)) + (-1 : Int32)) + (-1 : Int32)) + (-1 : Int32)) + (-1 : Int32)) + (-1 : Int32)) + (-1 : Int32)) + (-1 : Int32)) + (-1 : Int32)) + (-1 : Int32))), .val (.int (0 : Int32))] [(.int ((((((((((q1 + (-1 : Int32)) + (-1 : Int32)) + (-1 : Int32)) + (-1 : Int32)) + (-1 : Int32)) + (-1 : Int32)) + (-1 : Int32)) + (-1 : Int32)) + (-1 : Int32)) + (-1 : Int32)))]) := fun t k => by
      refine RF t ?_
      refine XS.iload XF.here hx rfl (hb hby d10_104) rfl ?_
      show Steps p.tables e below (TF.setTop (mkF m 106 #[.val (.int (-((((q0 / (100 : Int32)) / (100 : Int32)) / (100 : Int32)) / (100 : Int32)))), .val (.int q1), .val (.ref ba), .val (.int (-((((q0 / (100 : Int32)) / (100 : Int32)) / (100 : Int32)) / (100 : Int32)))), .val (.int ((((q0 / (100 : Int32)) / (100 : Int32)) / (100 : Int32)) % (100 : Int32))), .val (.int ((((((((((q1 + (-1 : Int32)) + (-1 : Int32)) + (-1 : Int32)) + (-1 : Int32)) + (-1 : Int32)) + (-1 : Int32)) + (-1 : Int32)) + (-1 : Int32)) + (-1 : Int32)) + (-1 : Int32))), .val (.int (0 : Int32))] [(.int (0 : Int32))])) t
      refine XS.ifYes XF.here hx rfl (pc0 := 106) (pc' := 118) rfl (hb hby d10_106) rfl ((if0 _ _).trans (teq (by decide : (0 : Int32) = (0 : Int32))).1) (by decide) (by decide) ?_
      show Steps p.tables e below (TF.setTop (mkF m 118 #[.val (.int (-((((q0 / (100 : Int32)) / (100 : Int32)) / (100 : Int32)) / (100 : Int32)))), .val (.int q1), .val (.ref ba), .val (.int (-((((q0 / (100 : Int32)) / (100 : Int32)) / (100 : Int32)) / (100 : Int32)))), .val (.int ((((q0 / (100 : Int32)) / (100 : Int32)) / (100 : Int32)) % (100 : Int32))), .val (.int ((((((((((q1 + (-1 : Int32)) + (-1 : Int32)) + (-1 : Int32)) + (-1 : Int32)) + (-1 : Int32)) + (-1 : Int32)) + (-1 : Int32)) + (-1 : Int32)) + (-1 : Int32)) + (-1 : Int32))), .val (.int (0 : Int32))] [])) t
      refine XS.iload XF.here hx rfl (hb hby d10_118) rfl ?_
      exact k
    obtain ⟨fs, hr, hrun, hended, hW, hsame⟩ := XF.leave (v := some (.int ((((((((((q1 + (-1 : Int32)) + (-1 : Int32)) + (-1 : Int32)) + (-1 : Int32)) + (-1 : Int32)) + (-1 : Int32)) + (-1 : Int32)) + (-1 : Int32)) + (-1 : Int32)) + (-1 : Int32)))) (fun h => by rw [Bd.returns] at h; cases h) (BodyLoose.notSynchronized Bd)
    refine ⟨_, _, R68 _ ?_, hrun, hended, _, _, rfl, ?_, ⟨_, rfl⟩, hW, hsame.mono (by decide) (by decide)⟩
    · exact retI XF hx Bd.returns (hb hby d10_120) hr
    · show Q_rm_getc Z q0 q1 ba kb t1 t2 k1 k2 h0 n0 _ TF.heap _
      rw [eF]
      exact ⟨own_i (by rw [pq, hd]; decide), NF_, KF, (own_cast (by rw [own_dn, hd]; try decide) (by rw [pq, hd]; rfl) VF)⟩
theorem d6_0 : decode jdk_68_method_32_code 0 = .ok (.aload_n 0, 1) := by decide +kernel
theorem d6_1 : decode jdk_68_method_32_code 1 = .ok (.getfield 79, 3) := by decide +kernel
theorem d6_4 : decode jdk_68_method_32_code 4 = .ok (.istore_n 2, 1) := by decide +kernel
theorem d6_5 : decode jdk_68_method_32_code 5 = .ok (.iload_n 2, 1) := by decide +kernel
theorem d6_6 : decode jdk_68_method_32_code 6 = .ok (.iload_n 1, 1) := by decide +kernel
theorem d6_7 : decode jdk_68_method_32_code 7 = .ok (.invokestatic 245, 3) := by decide +kernel
theorem pd_5 : parseMethodDescriptor "(I)I" = some ⟨[.int], some .int⟩ := by decide +kernel
theorem d6_10 : decode jdk_68_method_32_code 10 = .ok (.iadd, 1) := by decide +kernel
theorem d6_11 : decode jdk_68_method_32_code 11 = .ok (.istore_n 3, 1) := by decide +kernel
theorem d6_12 : decode jdk_68_method_32_code 12 = .ok (.aload_n 0, 1) := by decide +kernel
theorem d6_13 : decode jdk_68_method_32_code 13 = .ok (.iload_n 3, 1) := by decide +kernel
theorem d6_14 : decode jdk_68_method_32_code 14 = .ok (.invokevirtual 100, 3) := by decide +kernel
theorem pd_6 : parseMethodDescriptor "(I)V" = some ⟨[.int], none⟩ := by decide +kernel
theorem d6_17 : decode jdk_68_method_32_code 17 = .ok (.aload_n 0, 1) := by decide +kernel
theorem d6_18 : decode jdk_68_method_32_code 18 = .ok (.invokevirtual 83, 3) := by decide +kernel
theorem d6_21 : decode jdk_68_method_32_code 21 = .ok (.ifCond .eq 16, 3) := by decide +kernel
theorem d6_24 : decode jdk_68_method_32_code 24 = .ok (.iload_n 1, 1) := by decide +kernel
theorem d6_25 : decode jdk_68_method_32_code 25 = .ok (.iload_n 3, 1) := by decide +kernel
theorem d6_26 : decode jdk_68_method_32_code 26 = .ok (.aload_n 0, 1) := by decide +kernel
theorem d6_27 : decode jdk_68_method_32_code 27 = .ok (.getfield 15, 3) := by decide +kernel
theorem d6_30 : decode jdk_68_method_32_code 30 = .ok (.invokestatic 248, 3) := by decide +kernel
theorem pd_7 : parseMethodDescriptor "(II[B)I" = some ⟨[.int, .int, (.array .byte)], some .int⟩ := by decide +kernel
theorem d6_33 : decode jdk_68_method_32_code 33 = .ok (.pop, 1) := by decide +kernel
theorem d6_34 : decode jdk_68_method_32_code 34 = .ok (.goto 14, 3) := by decide +kernel
theorem d6_48 : decode jdk_68_method_32_code 48 = .ok (.aload_n 0, 1) := by decide +kernel
theorem d6_49 : decode jdk_68_method_32_code 49 = .ok (.iload_n 3, 1) := by decide +kernel
theorem d6_50 : decode jdk_68_method_32_code 50 = .ok (.putfield 79, 3) := by decide +kernel
theorem d6_53 : decode jdk_68_method_32_code 53 = .ok (.aload_n 0, 1) := by decide +kernel
theorem d6_54 : decode jdk_68_method_32_code 54 = .ok (.areturn, 1) := by decide +kernel
theorem ef_rm_aappi (m : MethodId) (x0 : Addr) (x1 : Int32) : entryFrame m #[(.ref x0), (.int x1)] 4 = mkF m 0 #[.val (.ref x0), .val (.int x1), .unset, .unset] [] := by first | (simp [entryFrame, mkF, argsToLocals, Value.category]; done) | rfl
def Q_rm_aappi (Z : State) (o0 : Addr) (ba : Addr) (kb : ClassId) (q0 : Int32) (cs : Int32) (t1 : Addr) (t2 : Addr) (k1 : ClassId) (k2 : ClassId) (h0 : Heap) (n0 : Nat) (v : Option Value) (h : Heap) (L : List Loc) : Prop := (v = some (.ref o0)) ∧ (Fr n0 L) ∧ (Keep h0 h [o0, ba]) ∧ (Exa Z h o0 "java/lang/StringBuilder") ∧ (Fld Z h o0 "java/lang/AbstractStringBuilder" "value" "[B" (.ref ba)) ∧ (Fld Z h o0 "java/lang/AbstractStringBuilder" "coder" "B" (.int (0 : Int32))) ∧ (Fld Z h o0 "java/lang/AbstractStringBuilder" "count" "I" (.int (own_dg q0))) ∧ (Arv Z h ba kb .byte (16 : Int32) (own_buf q0 (own_dn q0)) (.int (0 : Int32)))
set_option maxRecDepth 65536 in
set_option maxHeartbeats 40000000 in
theorem rm_aappi (l : Launch) (Z : State) (a0 : Array Value) (hw : ∀ d ∈ tables_1, d.before a0 Z = true) (ws : List Jvm.Cond) (o0 : Addr) (ba : Addr) (kb : ClassId) (q0 : Int32) (cs : Int32) (t1 : Addr) (t2 : Addr) (k1 : ClassId) (k2 : ClassId) (h0 : Heap) (n0 : Nat) (Z0 : n0 ≤ h0.size) (pE : Exa Z h0 o0 "java/lang/StringBuilder") (pg : n0 ≤ o0) (pgb : n0 ≤ ba) (pnb : ba ≠ o0) (pFv : Fld Z h0 o0 "java/lang/AbstractStringBuilder" "value" "[B" (.ref ba)) (pFc : Fld Z h0 o0 "java/lang/AbstractStringBuilder" "coder" "B" (.int (0 : Int32))) (hn : 0 ≤ q0.toInt) (pS : Sta Z h0 "java/lang/String" "COMPACT_STRINGS" "Z" (.int cs)) (pcs : ¬ (cs = (0 : Int32))) (pFn : Fld Z h0 o0 "java/lang/AbstractStringBuilder" "count" "I" (.int (0 : Int32))) (pV : Arv Z h0 ba kb .byte (16 : Int32) [(.int (0 : Int32)), (.int (0 : Int32)), (.int (0 : Int32)), (.int (0 : Int32)), (.int (0 : Int32)), (.int (0 : Int32)), (.int (0 : Int32)), (.int (0 : Int32)), (.int (0 : Int32)), (.int (0 : Int32)), (.int (0 : Int32)), (.int (0 : Int32)), (.int (0 : Int32)), (.int (0 : Int32)), (.int (0 : Int32)), (.int (0 : Int32))] (.int (0 : Int32))) (pn1 : t1 ≠ ba) (pn2 : t2 ≠ ba) (pS1 : Sta Z h0 "java/lang/Integer" "DigitOnes" "[B" (.ref t1)) (pS2 : Sta Z h0 "java/lang/Integer" "DigitTens" "[B" (.ref t2)) (pT1 : Arv Z h0 t1 k1 .byte (100 : Int32) own_ones (.int (0 : Int32))) (pT2 : Arv Z h0 t2 k2 .byte (100 : Int32) own_tens (.int (0 : Int32))) :
    MetFree l (⟨"java/lang/AbstractStringBuilder", "append", "(I)Ljava/lang/AbstractStringBuilder;"⟩ : MethodName) (head1 (Jvm.Cond.code (⟨"java/lang/AbstractStringBuilder", "append", "(I)Ljava/lang/AbstractStringBuilder;"⟩ : MethodName) jdk_68_method_32_code 4 (some (.object "java/lang/AbstractStringBuilder")) :: ws) ({ frames := 1, cells := 0, slots := 0, locals := 18 } : Room)) (fun a U => a = #[(.ref o0), (.int q0)] ∧ Z.Warmed39 U.vm ∧ U.heap = h0) (fun _ _ _ _ _ => True) (fun _ U o U' => ∃ v L, o = .returned v ∧ Q_rm_aappi Z o0 ba kb q0 cs t1 t2 k1 k2 h0 n0 v U'.heap L ∧ FrameEnd U o U' L ({ frames := 1, cells := 0, slots := 0, locals := 18 } : Room).cells ({ frames := 1, cells := 0, slots := 0, locals := 18 } : Room).slots) := by
  refine MetFree.of_bodySF (plainFor_of_name pn_5) hisR ?_
  intro p e s m args below meth c s₁ Bd hml0 hP hK
  obtain ⟨rfl, hZ, hh⟩ := hP
  have hx := Bd.exec
  have hby := Bd.bytes
  have hml : c.maxLocals = 4 := hml0
  have hown : s.vm.findClass "java/lang/AbstractStringBuilder" = some m.cls := findClass_of_methodNamed Bd.named
  have hnm := (name_of_methodNamed Bd.named Bd.method).1
  have X0 : Stand p l e ({ frames := 1, cells := 0, slots := 0, locals := 18 } : Room) s m #[(.ref o0), (.int q0)] below meth c s₁ [] 0 0 := Stand.of_body Bd
  have e0 : s₁.heap = h0 := by rw [← hh, Bd.state]; rfl
  have N0 := Fr.nil n0
  have K0 : Keep h0 h0 [o0, ba] := Keep.refl _ _
  have R0 : Rch p e below (s₁.setTop (entryFrame m #[(.ref o0), (.int q0)] 4)) s₁ (mkF m 0 #[.val (.ref o0), .val (.int q0), .unset, .unset] []) := fun t k => castTop (ef_rm_aappi m o0 q0) k
  have R2 : Rch p e below (s₁.setTop (entryFrame m #[(.ref o0), (.int q0)] 4)) s₁ (mkF m 1 #[.val (.ref o0), .val (.int q0), .unset, .unset] [(.ref o0)]) := fun t k => by
    refine R0 t ?_
    refine XS.aloadN X0.here hx rfl (hb hby d6_0) rfl rfl ?_
    exact k
  obtain ⟨T1, X1, e1, st1⟩ := getF X0 hx hZ hown (host := "") (Or.inl (hw _ (List.mem_of_getElem? (i := 43) rfl))) Via.refl e0 pFn (g := (mkF m 1 #[.val (.ref o0), .val (.int q0), .unset, .unset] [(.ref o0)])) rfl rfl (hb hby d6_1)
  have R4 : Rch p e below (s₁.setTop (entryFrame m #[(.ref o0), (.int q0)] 4)) T1 (mkF m 7 #[.val (.ref o0), .val (.int q0), .val (.int (0 : Int32)), .unset] [(.int q0), (.int (0 : Int32))]) := fun t k => by
    refine R2 t ?_
    refine st1 _ ?_
    show Steps p.tables e below (T1.setTop (mkF m 4 #[.val (.ref o0), .val (.int q0), .unset, .unset] [(.int (0 : Int32))])) t
    refine XS.istoreN X1.here hx rfl (hb hby d6_4) rfl (l' := #[.val (.ref o0), .val (.int q0), .val (.int (0 : Int32)), .unset]) rfl ?_
    show Steps p.tables e below (T1.setTop (mkF m 5 #[.val (.ref o0), .val (.int q0), .val (.int (0 : Int32)), .unset] [])) t
    refine XS.iloadN X1.here hx rfl (hb hby d6_5) rfl ?_
    show Steps p.tables e below (T1.setTop (mkF m 6 #[.val (.ref o0), .val (.int q0), .val (.int (0 : Int32)), .unset] [(.int (0 : Int32))])) t
    refine XS.iloadN X1.here hx rfl (hb hby d6_6) rfl ?_
    exact k
  obtain ⟨_, _, ⟨T3, L3, k3, n3⟩, -, X3, ⟨Lc3, hQ3, l3, y3, z3⟩, st3⟩ := Jvm.LawKit.callS X1 hx (y := (⟨"java/lang/Integer", "stringSize", "(I)I"⟩ : MethodName)) hown (mvT hZ (hw _ (List.mem_of_getElem? (i := 45) rfl))) (mvT hZ (hw _ (List.mem_of_getElem? (i := 46) rfl))) (mvT hZ (hw _ (List.mem_of_getElem? (i := 47) rfl))) (mvT hZ (hw _ (List.mem_of_getElem? (i := 48) rfl))) (by decide) (backOf (W := 1) (rm_ssize l Z a0 hw [] q0 h0 n0 (Nat.le_trans Z0 K0.1) hn) hZ (hw _ (List.mem_of_getElem? (i := 48) rfl)) (hw _ (List.mem_of_getElem? (i := 47) rfl)) (by decide) (by decide)) (g := (mkF m 7 #[.val (.ref o0), .val (.int q0), .val (.int (0 : Int32)), .unset] [(.int q0), (.int (0 : Int32))])) rfl (by rw [hml]; rfl) (argsL := [(.int q0)]) (rest := [(.int (0 : Int32))]) (lenOf pd_5 rfl) rfl (by show 2 * 0 + _ ≤ _; exact Nat.le_of_eq rfl) (hb hby d6_7) (fun _ _ => ⟨rfl, e1, (by decide : 0 + 0 ≤ _), (by decide : 0 + 0 ≤ _)⟩)
  dsimp only [Pt.U, Pt.locs, Pt.cells, Pt.slots] at X3 l3 y3 z3 st3 hQ3
  subst l3 y3 z3
  obtain ⟨rfl, N3q, e3⟩ := hQ3
  have N3 := Fr.app N0 N3q
  have R5 : Rch p e below (s₁.setTop (entryFrame m #[(.ref o0), (.int q0)] 4)) T3 (mkF m 11 #[.val (.ref o0), .val (.int q0), .val (.int (0 : Int32)), .unset] [(.int ((0 : Int32) + (own_dg q0)))]) := fun t k => by
    refine R4 t ?_
    refine st3 _ ?_
    show Steps p.tables e below (T3.setTop (mkF m 10 #[.val (.ref o0), .val (.int q0), .val (.int (0 : Int32)), .unset] [(.int (own_dg q0)), (.int (0 : Int32))])) t
    refine XS.iadd X3.here hx rfl (hb hby d6_10) rfl ?_
    exact k
  rw [Int32.zero_add] at R5
  have R7 : Rch p e below (s₁.setTop (entryFrame m #[(.ref o0), (.int q0)] 4)) T3 (mkF m 14 #[.val (.ref o0), .val (.int q0), .val (.int (0 : Int32)), .val (.int (own_dg q0))] [(.int (own_dg q0)), (.ref o0)]) := fun t k => by
    refine R5 t ?_
    refine XS.istoreN X3.here hx rfl (hb hby d6_11) rfl (l' := #[.val (.ref o0), .val (.int q0), .val (.int (0 : Int32)), .val (.int (own_dg q0))]) rfl ?_
    show Steps p.tables e below (T3.setTop (mkF m 12 #[.val (.ref o0), .val (.int q0), .val (.int (0 : Int32)), .val (.int (own_dg q0))] [])) t
    refine XS.aloadN X3.here hx rfl (hb hby d6_12) rfl rfl ?_
    show Steps p.tables e below (T3.setTop (mkF m 13 #[.val (.ref o0), .val (.int q0), .val (.int (0 : Int32)), .val (.int (own_dg q0))] [(.ref o0)])) t
    refine XS.iloadN X3.here hx rfl (hb hby d6_13) rfl ?_
    exact k
  obtain ⟨cq6, q6, q6'⟩ := pE.cell
  obtain ⟨_, _, ⟨T6, L6, k6, n6⟩, -, X6, ⟨Lc6, hQ6, l6, y6, z6⟩, st6⟩ := X3.privateBack hx (y := (⟨"java/lang/AbstractStringBuilder", "ensureCapacityInternal", "(I)V"⟩ : MethodName)) hown (mvT hZ (hw _ (List.mem_of_getElem? (i := 49) rfl))) (mvT hZ (hw _ (List.mem_of_getElem? (i := 50) rfl))) (own_selp2 hZ (hw _ (List.mem_of_getElem? (i := 52) rfl)) (hw _ (List.mem_of_getElem? (i := 51) rfl)) (hw _ (List.mem_of_getElem? (i := 50) rfl)) (by decide)) (Cond.privateMethod_at (mvP hZ (hw _ (List.mem_of_getElem? (i := 51) rfl)) (args := #[]))) (mvT hZ (hw _ (List.mem_of_getElem? (i := 53) rfl))) (by decide) (backOf (W := 0) (rm_ensure l Z a0 hw [] o0 ba kb [(.int (0 : Int32)), (.int (0 : Int32)), (.int (0 : Int32)), (.int (0 : Int32)), (.int (0 : Int32)), (.int (0 : Int32)), (.int (0 : Int32)), (.int (0 : Int32)), (.int (0 : Int32)), (.int (0 : Int32)), (.int (0 : Int32)), (.int (0 : Int32)), (.int (0 : Int32)), (.int (0 : Int32)), (.int (0 : Int32)), (.int (0 : Int32))] (own_dg q0) h0 n0 (Nat.le_trans Z0 K0.1) pFv pFc pV (own_cap hn)) hZ (hw _ (List.mem_of_getElem? (i := 53) rfl)) (hw _ (List.mem_of_getElem? (i := 23) rfl)) (by decide) (by decide)) (g := (mkF m 14 #[.val (.ref o0), .val (.int q0), .val (.int (0 : Int32)), .val (.int (own_dg q0))] [(.int (own_dg q0)), (.ref o0)])) rfl (by rw [hml]; rfl) (Steps.refl _) (a := o0) (by rw [e3]; exact q6) q6' (argsL := [(.int (own_dg q0))]) (rest := []) (lenOf pd_6 rfl) rfl (by show 2 * 0 + _ ≤ _; exact Nat.le_of_eq rfl) (hb hby d6_14) (fun _ _ => ⟨rfl, e3, (by decide : 0 + 0 ≤ _), (by decide : 0 + 0 ≤ _)⟩)
  dsimp only [Pt.U, Pt.locs, Pt.cells, Pt.slots] at X6 l6 y6 z6 st6 hQ6
  subst l6 y6 z6
  obtain ⟨rfl, N6q, e6⟩ := hQ6
  have N6 := Fr.app N3 N6q
  have R9 : Rch p e below (s₁.setTop (entryFrame m #[(.ref o0), (.int q0)] 4)) T6 (mkF m 18 #[.val (.ref o0), .val (.int q0), .val (.int (0 : Int32)), .val (.int (own_dg q0))] [(.ref o0)]) := fun t k => by
    refine R7 t ?_
    refine st6.trans ?_
    show Steps p.tables e below (T6.setTop (mkF m 17 #[.val (.ref o0), .val (.int q0), .val (.int (0 : Int32)), .val (.int (own_dg q0))] [])) t
    refine XS.aloadN X6.here hx rfl (hb hby d6_17) rfl rfl ?_
    exact k
  obtain ⟨cq8, kq8, q8a, q8b, q8c⟩ := isOf hZ e6 pE
  obtain ⟨_, _, ⟨T8, L8, k8, n8⟩, -, X8, ⟨Lc8, hQ8, l8, y8, z8⟩, st8⟩ := X6.virtualBack hx (y := (⟨"java/lang/AbstractStringBuilder", "isLatin1", "()Z"⟩ : MethodName)) (z := (⟨"java/lang/AbstractStringBuilder", "isLatin1", "()Z"⟩ : MethodName)) hown (mvT hZ (hw _ (List.mem_of_getElem? (i := 54) rfl))) (mvT hZ (hw _ (List.mem_of_getElem? (i := 55) rfl))) (notFace_of_selects (args := #[]) (mvT hZ (hw _ (List.mem_of_getElem? (i := 57) rfl)))) (mvT hZ (hw _ (List.mem_of_getElem? (i := 57) rfl))) (mvT hZ (hw _ (List.mem_of_getElem? (i := 56) rfl))) (by decide) (backOf (W := 0) (rm_alat l Z a0 hw [] o0 cs h0 n0 (Nat.le_trans Z0 K0.1) pS pcs pFc) hZ (hw _ (List.mem_of_getElem? (i := 58) rfl)) (hw _ (List.mem_of_getElem? (i := 23) rfl)) (by decide) (by decide)) q8a q8c (g := (mkF m 18 #[.val (.ref o0), .val (.int q0), .val (.int (0 : Int32)), .val (.int (own_dg q0))] [(.ref o0)])) rfl (by rw [hml]; rfl) (Steps.refl _) (argsL := []) (rest := []) (lenOf pd_3 rfl) rfl (by show 2 * 0 + _ ≤ _; exact Nat.le_of_eq rfl) (hb hby d6_18) (fun _ _ => ⟨rfl, e6, (by decide : 0 + 0 ≤ _), (by decide : 0 + 0 ≤ _)⟩)
  dsimp only [Pt.U, Pt.locs, Pt.cells, Pt.slots] at X8 l8 y8 z8 st8 hQ8
  subst l8 y8 z8
  obtain ⟨rfl, N8q, e8⟩ := hQ8
  have N8 := Fr.app N6 N8q
  have R11 : Rch p e below (s₁.setTop (entryFrame m #[(.ref o0), (.int q0)] 4)) T8 (mkF m 27 #[.val (.ref o0), .val (.int q0), .val (.int (0 : Int32)), .val (.int (own_dg q0))] [(.ref o0), (.int (own_dg q0)), (.int q0)]) := fun t k => by
    refine R9 t ?_
    refine st8.trans ?_
    show Steps p.tables e below (T8.setTop (mkF m 21 #[.val (.ref o0), .val (.int q0), .val (.int (0 : Int32)), .val (.int (own_dg q0))] [(.int (1 : Int32))])) t
    refine XS.ifNo X8.here hx rfl (hb hby d6_21) rfl ((if0 _ _).trans (feq (by decide : ¬ ((1 : Int32) = (0 : Int32)))).1) ?_
    show Steps p.tables e below (T8.setTop (mkF m 24 #[.val (.ref o0), .val (.int q0), .val (.int (0 : Int32)), .val (.int (own_dg q0))] [])) t
    refine XS.iloadN X8.here hx rfl (hb hby d6_24) rfl ?_
    show Steps p.tables e below (T8.setTop (mkF m 25 #[.val (.ref o0), .val (.int q0), .val (.int (0 : Int32)), .val (.int (own_dg q0))] [(.int q0)])) t
    refine XS.iloadN X8.here hx rfl (hb hby d6_25) rfl ?_
    show Steps p.tables e below (T8.setTop (mkF m 26 #[.val (.ref o0), .val (.int q0), .val (.int (0 : Int32)), .val (.int (own_dg q0))] [(.int (own_dg q0)), (.int q0)])) t
    refine XS.aloadN X8.here hx rfl (hb hby d6_26) rfl rfl ?_
    exact k
  obtain ⟨T10, X10, e10, st10⟩ := getF X8 hx hZ hown (host := "") (Or.inl (hw _ (List.mem_of_getElem? (i := 29) rfl))) Via.refl e8 pFv (g := (mkF m 27 #[.val (.ref o0), .val (.int q0), .val (.int (0 : Int32)), .val (.int (own_dg q0))] [(.ref o0), (.int (own_dg q0)), (.int q0)])) rfl rfl (hb hby d6_27)
  have R13 : Rch p e below (s₁.setTop (entryFrame m #[(.ref o0), (.int q0)] 4)) T10 (mkF m 30 #[.val (.ref o0), .val (.int q0), .val (.int (0 : Int32)), .val (.int (own_dg q0))] [(.ref ba), (.int (own_dg q0)), (.int q0)]) := fun t k => by
    refine R11 t ?_
    refine st10 _ ?_
    exact k
  obtain ⟨_, _, ⟨T12, L12, k12, n12⟩, -, X12, ⟨Lc12, hQ12, l12, y12, z12⟩, st12⟩ := Jvm.LawKit.callS X10 hx (y := (⟨"java/lang/Integer", "getChars", "(II[B)I"⟩ : MethodName)) hown (mvT hZ (hw _ (List.mem_of_getElem? (i := 59) rfl))) (mvT hZ (hw _ (List.mem_of_getElem? (i := 60) rfl))) (mvT hZ (hw _ (List.mem_of_getElem? (i := 47) rfl))) (mvT hZ (hw _ (List.mem_of_getElem? (i := 61) rfl))) (by decide) (backOf (W := 0) (rm_getc l Z a0 hw [] q0 (own_dg q0) ba kb t1 t2 k1 k2 h0 n0 (Nat.le_trans Z0 K0.1) hn rfl pV pgb pn1 pn2 pS1 pS2 pT1 pT2) hZ (hw _ (List.mem_of_getElem? (i := 61) rfl)) (hw _ (List.mem_of_getElem? (i := 47) rfl)) (by decide) (by decide)) (g := (mkF m 30 #[.val (.ref o0), .val (.int q0), .val (.int (0 : Int32)), .val (.int (own_dg q0))] [(.ref ba), (.int (own_dg q0)), (.int q0)])) rfl (by rw [hml]; rfl) (argsL := [(.int q0), (.int (own_dg q0)), (.ref ba)]) (rest := []) (lenOf pd_7 rfl) rfl (by show 2 * 0 + _ ≤ _; exact Nat.le_of_eq rfl) (hb hby d6_30) (fun _ _ => ⟨rfl, e10, (by decide : 0 + 0 ≤ _), (by decide : 0 + 0 ≤ _)⟩)
  dsimp only [Pt.U, Pt.locs, Pt.cells, Pt.slots] at X12 l12 y12 z12 st12 hQ12
  subst l12 y12 z12
  obtain ⟨rfl, N12q, Kc12, c12_arr⟩ := hQ12
  have N12 := Fr.app N8 N12q
  have K12 : Keep h0 T12.heap [o0, ba] := K0.trans Kc12 (allS (Or.inl (List.mem_of_getElem? (i := 1) rfl)) all0)
  have R15 : Rch p e below (s₁.setTop (entryFrame m #[(.ref o0), (.int q0)] 4)) T12 (mkF m 50 #[.val (.ref o0), .val (.int q0), .val (.int (0 : Int32)), .val (.int (own_dg q0))] [(.int (own_dg q0)), (.ref o0)]) := fun t k => by
    refine R13 t ?_
    refine st12 _ ?_
    show Steps p.tables e below (T12.setTop (mkF m 33 #[.val (.ref o0), .val (.int q0), .val (.int (0 : Int32)), .val (.int (own_dg q0))] [(.int (0 : Int32))])) t
    refine XS.pop X12.here hx rfl (hb hby d6_33) rfl rfl ?_
    show Steps p.tables e below (T12.setTop (mkF m 34 #[.val (.ref o0), .val (.int q0), .val (.int (0 : Int32)), .val (.int (own_dg q0))] [])) t
    refine XS.goto X12.here hx rfl (pc0 := 34) (pc' := 48) rfl (hb hby d6_34) (by decide) (by decide) ?_
    show Steps p.tables e below (T12.setTop (mkF m 48 #[.val (.ref o0), .val (.int q0), .val (.int (0 : Int32)), .val (.int (own_dg q0))] [])) t
    refine XS.aloadN X12.here hx rfl (hb hby d6_48) rfl rfl ?_
    show Steps p.tables e below (T12.setTop (mkF m 49 #[.val (.ref o0), .val (.int q0), .val (.int (0 : Int32)), .val (.int (own_dg q0))] [(.ref o0)])) t
    refine XS.iloadN X12.here hx rfl (hb hby d6_49) rfl ?_
    exact k
  have f14 := (pFn.keep Kc12 (ninS (Ne.symm pnb) nin0))
  obtain ⟨T16, h16, X16, e16, W16, st16⟩ := putF X12 hx hZ hown (host := "") (Or.inl (hw _ (List.mem_of_getElem? (i := 43) rfl))) Via.refl rfl f14 (pE.keep Kc12) (Or.inl (hw _ (List.mem_of_getElem? (i := 44) rfl))) (hw _ (List.mem_of_getElem? (i := 14) rfl)) (ty := .int) (by decide) rfl rfl (g := (mkF m 50 #[.val (.ref o0), .val (.int q0), .val (.int (0 : Int32)), .val (.int (own_dg q0))] [(.int (own_dg q0)), (.ref o0)])) rfl rfl (hb hby d6_50)
  have Fw16 := f14.same W16
  have K16 : Keep h0 h16 [o0, ba] := K12.wr W16 (Or.inl (List.mem_of_getElem? (i := 0) rfl))
  have N16 := Fr.snoc X16 N12 pg
  have R17 : Rch p e below (s₁.setTop (entryFrame m #[(.ref o0), (.int q0)] 4)) T16 (mkF m 54 #[.val (.ref o0), .val (.int q0), .val (.int (0 : Int32)), .val (.int (own_dg q0))] [(.ref o0)]) := fun t k => by
    refine R15 t ?_
    refine st16 _ ?_
    show Steps p.tables e below (T16.setTop (mkF m 53 #[.val (.ref o0), .val (.int q0), .val (.int (0 : Int32)), .val (.int (own_dg q0))] [])) t
    refine XS.aloadN X16.here hx rfl (hb hby d6_53) rfl rfl ?_
    exact k
  obtain ⟨fs, hr, hrun, hended, hW, hsame⟩ := X16.leave (v := some (.ref o0)) (fun h => by rw [Bd.returns] at h; cases h) (BodyLoose.notSynchronized Bd)
  refine ⟨_, _, R17 _ ?_, hrun, hended, _, _, rfl, ?_, ⟨_, rfl⟩, hW, hsame.mono (by decide) (by decide)⟩
  · jvm_step X16.here [X16.here.top, hx, (hb hby d6_54), X16.method', Bd.returns, Value.isRef, FieldType.isReference]
    first | (intro acts; rw [hr _ acts rfl rfl rfl]) | rw [hr _ _ rfl rfl rfl]
    exact Steps.refl _
  · show Q_rm_aappi Z o0 ba kb q0 cs t1 t2 k1 k2 h0 n0 _ T16.heap _
    rw [e16]
    exact ⟨rfl, N16, K16, ((pE.keep Kc12).wr W16), ((pFv.keep Kc12 (ninS (Ne.symm pnb) nin0)).other W16 (Or.inr (slot_ne (Or.inl (hw _ (List.mem_of_getElem? (i := 30) rfl))) (Or.inl (hw _ (List.mem_of_getElem? (i := 44) rfl))) (by decide) (t := (.array .byte)) (t' := .int) (by decide) (by decide)))), ((pFc.keep Kc12 (ninS (Ne.symm pnb) nin0)).other W16 (Or.inr (slot_ne (Or.inl (hw _ (List.mem_of_getElem? (i := 32) rfl))) (Or.inl (hw _ (List.mem_of_getElem? (i := 44) rfl))) (by decide) (t := .byte) (t' := .int) (by decide) (by decide)))), Fw16, (c12_arr.other W16 pnb)⟩
theorem d5_0 : decode jdk_67_method_15_code 0 = .ok (.aload_n 0, 1) := by decide +kernel
theorem d5_1 : decode jdk_67_method_15_code 1 = .ok (.iload_n 1, 1) := by decide +kernel
theorem d5_2 : decode jdk_67_method_15_code 2 = .ok (.invokespecial 53, 3) := by decide +kernel
theorem pd_8 : parseMethodDescriptor "(I)Ljava/lang/AbstractStringBuilder;" = some ⟨[.int], some (.object "java/lang/AbstractStringBuilder")⟩ := by decide +kernel
theorem d5_5 : decode jdk_67_method_15_code 5 = .ok (.pop, 1) := by decide +kernel
theorem d5_6 : decode jdk_67_method_15_code 6 = .ok (.aload_n 0, 1) := by decide +kernel
theorem d5_7 : decode jdk_67_method_15_code 7 = .ok (.areturn, 1) := by decide +kernel
theorem ef_rm_appi (m : MethodId) (x0 : Addr) (x1 : Int32) : entryFrame m #[(.ref x0), (.int x1)] 2 = mkF m 0 #[.val (.ref x0), .val (.int x1)] [] := by first | (simp [entryFrame, mkF, argsToLocals, Value.category]; done) | rfl
theorem pn_6 : plainName "java/lang/StringBuilder" = true := by first | (simp [plainName, overriddenIn]; done) | decide +kernel
def Q_rm_appi (Z : State) (o0 : Addr) (ba : Addr) (kb : ClassId) (q0 : Int32) (cs : Int32) (t1 : Addr) (t2 : Addr) (k1 : ClassId) (k2 : ClassId) (h0 : Heap) (n0 : Nat) (v : Option Value) (h : Heap) (L : List Loc) : Prop := (v = some (.ref o0)) ∧ (Fr n0 L) ∧ (Keep h0 h [o0, ba]) ∧ (Exa Z h o0 "java/lang/StringBuilder") ∧ (Fld Z h o0 "java/lang/AbstractStringBuilder" "value" "[B" (.ref ba)) ∧ (Fld Z h o0 "java/lang/AbstractStringBuilder" "coder" "B" (.int (0 : Int32))) ∧ (Fld Z h o0 "java/lang/AbstractStringBuilder" "count" "I" (.int (own_dg q0))) ∧ (Arv Z h ba kb .byte (16 : Int32) (own_buf q0 (own_dn q0)) (.int (0 : Int32)))
set_option maxRecDepth 65536 in
set_option maxHeartbeats 40000000 in
theorem rm_appi (l : Launch) (Z : State) (a0 : Array Value) (hw : ∀ d ∈ tables_1, d.before a0 Z = true) (ws : List Jvm.Cond) (o0 : Addr) (ba : Addr) (kb : ClassId) (q0 : Int32) (cs : Int32) (t1 : Addr) (t2 : Addr) (k1 : ClassId) (k2 : ClassId) (h0 : Heap) (n0 : Nat) (Z0 : n0 ≤ h0.size) (pE : Exa Z h0 o0 "java/lang/StringBuilder") (pg : n0 ≤ o0) (pgb : n0 ≤ ba) (pnb : ba ≠ o0) (pFv : Fld Z h0 o0 "java/lang/AbstractStringBuilder" "value" "[B" (.ref ba)) (pFc : Fld Z h0 o0 "java/lang/AbstractStringBuilder" "coder" "B" (.int (0 : Int32))) (hn : 0 ≤ q0.toInt) (pS : Sta Z h0 "java/lang/String" "COMPACT_STRINGS" "Z" (.int cs)) (pcs : ¬ (cs = (0 : Int32))) (pFn : Fld Z h0 o0 "java/lang/AbstractStringBuilder" "count" "I" (.int (0 : Int32))) (pV : Arv Z h0 ba kb .byte (16 : Int32) [(.int (0 : Int32)), (.int (0 : Int32)), (.int (0 : Int32)), (.int (0 : Int32)), (.int (0 : Int32)), (.int (0 : Int32)), (.int (0 : Int32)), (.int (0 : Int32)), (.int (0 : Int32)), (.int (0 : Int32)), (.int (0 : Int32)), (.int (0 : Int32)), (.int (0 : Int32)), (.int (0 : Int32)), (.int (0 : Int32)), (.int (0 : Int32))] (.int (0 : Int32))) (pn1 : t1 ≠ ba) (pn2 : t2 ≠ ba) (pS1 : Sta Z h0 "java/lang/Integer" "DigitOnes" "[B" (.ref t1)) (pS2 : Sta Z h0 "java/lang/Integer" "DigitTens" "[B" (.ref t2)) (pT1 : Arv Z h0 t1 k1 .byte (100 : Int32) own_ones (.int (0 : Int32))) (pT2 : Arv Z h0 t2 k2 .byte (100 : Int32) own_tens (.int (0 : Int32))) :
    MetFree l (⟨"java/lang/StringBuilder", "append", "(I)Ljava/lang/StringBuilder;"⟩ : MethodName) (head1 (Jvm.Cond.code (⟨"java/lang/StringBuilder", "append", "(I)Ljava/lang/StringBuilder;"⟩ : MethodName) jdk_67_method_15_code 2 (some (.object "java/lang/StringBuilder")) :: ws) ({ frames := 2, cells := 0, slots := 0, locals := 33 } : Room)) (fun a U => a = #[(.ref o0), (.int q0)] ∧ Z.Warmed39 U.vm ∧ U.heap = h0) (fun _ _ _ _ _ => True) (fun _ U o U' => ∃ v L, o = .returned v ∧ Q_rm_appi Z o0 ba kb q0 cs t1 t2 k1 k2 h0 n0 v U'.heap L ∧ FrameEnd U o U' L ({ frames := 2, cells := 0, slots := 0, locals := 33 } : Room).cells ({ frames := 2, cells := 0, slots := 0, locals := 33 } : Room).slots) := by
  refine MetFree.of_bodySF (plainFor_of_name pn_6) hisR ?_
  intro p e s m args below meth c s₁ Bd hml0 hP hK
  obtain ⟨rfl, hZ, hh⟩ := hP
  have hx := Bd.exec
  have hby := Bd.bytes
  have hml : c.maxLocals = 2 := hml0
  have hown : s.vm.findClass "java/lang/StringBuilder" = some m.cls := findClass_of_methodNamed Bd.named
  have hnm := (name_of_methodNamed Bd.named Bd.method).1
  have X0 : Stand p l e ({ frames := 2, cells := 0, slots := 0, locals := 33 } : Room) s m #[(.ref o0), (.int q0)] below meth c s₁ [] 0 0 := Stand.of_body Bd
  have e0 : s₁.heap = h0 := by rw [← hh, Bd.state]; rfl
  have N0 := Fr.nil n0
  have K0 : Keep h0 h0 [o0, ba] := Keep.refl _ _
  have R0 : Rch p e below (s₁.setTop (entryFrame m #[(.ref o0), (.int q0)] 2)) s₁ (mkF m 0 #[.val (.ref o0), .val (.int q0)] []) := fun t k => castTop (ef_rm_appi m o0 q0) k
  have R2 : Rch p e below (s₁.setTop (entryFrame m #[(.ref o0), (.int q0)] 2)) s₁ (mkF m 2 #[.val (.ref o0), .val (.int q0)] [(.int q0), (.ref o0)]) := fun t k => by
    refine R0 t ?_
    refine XS.aloadN X0.here hx rfl (hb hby d5_0) rfl rfl ?_
    show Steps p.tables e below (s₁.setTop (mkF m 1 #[.val (.ref o0), .val (.int q0)] [(.ref o0)])) t
    refine XS.iloadN X0.here hx rfl (hb hby d5_1) rfl ?_
    exact k
  obtain ⟨_, _, ⟨T1, L1, k1, n1⟩, -, X1, ⟨Lc1, hQ1, l1, y1, z1⟩, st1⟩ := superBack X0 hx hZ (y := (⟨"java/lang/AbstractStringBuilder", "append", "(I)Ljava/lang/AbstractStringBuilder;"⟩ : MethodName)) hown (hw _ (List.mem_of_getElem? (i := 38) rfl)) (own_same (hw _ (List.mem_of_getElem? (i := 39) rfl)) (hw _ (List.mem_of_getElem? (i := 52) rfl)) (hw _ (List.mem_of_getElem? (i := 50) rfl)) rfl (by decide)) (hw _ (List.mem_of_getElem? (i := 39) rfl)) (hw _ (List.mem_of_getElem? (i := 40) rfl)) (by decide) (backOf (W := 0) (rm_aappi l Z a0 hw [] o0 ba kb q0 cs t1 t2 k1 k2 h0 n0 (Nat.le_trans Z0 K0.1) pE pg pgb pnb pFv pFc hn pS pcs pFn pV pn1 pn2 pS1 pS2 pT1 pT2) hZ (hw _ (List.mem_of_getElem? (i := 42) rfl)) (hw _ (List.mem_of_getElem? (i := 23) rfl)) (by decide) (by decide)) e0 (Ins.self pE) (g := (mkF m 2 #[.val (.ref o0), .val (.int q0)] [(.int q0), (.ref o0)])) rfl (by rw [hml]; rfl) (hw _ (List.mem_of_getElem? (i := 42) rfl)) (argsL := [(.int q0)]) (rest := []) (lenOf pd_8 rfl) rfl (by show 2 * 0 + _ ≤ _; exact Nat.le_of_eq rfl) (hb hby d5_2) (fun _ _ => ⟨rfl, e0, (by decide : 0 + 0 ≤ _), (by decide : 0 + 0 ≤ _)⟩)
  dsimp only [Pt.U, Pt.locs, Pt.cells, Pt.slots] at X1 l1 y1 z1 st1 hQ1
  subst l1 y1 z1
  obtain ⟨rfl, N1q, Kc1, c1_E, c1_Fv, c1_Fc, c1_Fn, c1_arr⟩ := hQ1
  have N1 := Fr.app N0 N1q
  have K1 : Keep h0 T1.heap [o0, ba] := K0.trans Kc1 (allS (Or.inl (List.mem_of_getElem? (i := 0) rfl)) (allS (Or.inl (List.mem_of_getElem? (i := 1) rfl)) all0))
  have R3 : Rch p e below (s₁.setTop (entryFrame m #[(.ref o0), (.int q0)] 2)) T1 (mkF m 7 #[.val (.ref o0), .val (.int q0)] [(.ref o0)]) := fun t k => by
    refine R2 t ?_
    refine st1.trans ?_
    show Steps p.tables e below (T1.setTop (mkF m 5 #[.val (.ref o0), .val (.int q0)] [(.ref o0)])) t
    refine XS.pop X1.here hx rfl (hb hby d5_5) rfl rfl ?_
    show Steps p.tables e below (T1.setTop (mkF m 6 #[.val (.ref o0), .val (.int q0)] [])) t
    refine XS.aloadN X1.here hx rfl (hb hby d5_6) rfl rfl ?_
    exact k
  obtain ⟨fs, hr, hrun, hended, hW, hsame⟩ := X1.leave (v := some (.ref o0)) (fun h => by rw [Bd.returns] at h; cases h) (BodyLoose.notSynchronized Bd)
  refine ⟨_, _, R3 _ ?_, hrun, hended, _, _, rfl, ?_, ⟨_, rfl⟩, hW, hsame.mono (by decide) (by decide)⟩
  · jvm_step X1.here [X1.here.top, hx, (hb hby d5_7), X1.method', Bd.returns, Value.isRef, FieldType.isReference]
    first | (intro acts; rw [hr _ acts rfl rfl rfl]) | rw [hr _ _ rfl rfl rfl]
    exact Steps.refl _
  · show Q_rm_appi Z o0 ba kb q0 cs t1 t2 k1 k2 h0 n0 _ T1.heap _
    exact ⟨rfl, N1, K1, c1_E, c1_Fv, c1_Fc, c1_Fn, c1_arr⟩
theorem d16_0 : decode jdk_68_method_71_code 0 = .ok (.getstatic 18, 3) := by decide +kernel
theorem d16_3 : decode jdk_68_method_71_code 3 = .ok (.ifCond .eq 18, 3) := by decide +kernel
theorem d16_6 : decode jdk_68_method_71_code 6 = .ok (.aload_n 0, 1) := by decide +kernel
theorem d16_7 : decode jdk_68_method_71_code 7 = .ok (.getfield 22, 3) := by decide +kernel
theorem d16_10 : decode jdk_68_method_71_code 10 = .ok (.aload_n 1, 1) := by decide +kernel
theorem d16_11 : decode jdk_68_method_71_code 11 = .ok (.invokevirtual 40, 3) := by decide +kernel
theorem d16_14 : decode jdk_68_method_71_code 14 = .ok (.if_icmp .eq 7, 3) := by decide +kernel
theorem d16_21 : decode jdk_68_method_71_code 21 = .ok (.return_, 1) := by decide +kernel
theorem ef_rm_infl (m : MethodId) (x0 : Addr) (x1 : Addr) : entryFrame m #[(.ref x0), (.ref x1)] 2 = mkF m 0 #[.val (.ref x0), .val (.ref x1)] [] := by first | (simp [entryFrame, mkF, argsToLocals, Value.category]; done) | rfl
def Q_rm_infl (Z : State) (o0 : Addr) (o1 : Addr) (cs : Int32) (h0 : Heap) (n0 : Nat) (v : Option Value) (h : Heap) (L : List Loc) : Prop := (v = none) ∧ (Fr n0 L) ∧ (h = h0)
set_option maxRecDepth 65536 in
set_option maxHeartbeats 40000000 in
theorem rm_infl (l : Launch) (Z : State) (a0 : Array Value) (hw : ∀ d ∈ tables_1, d.before a0 Z = true) (ws : List Jvm.Cond) (o0 : Addr) (o1 : Addr) (cs : Int32) (h0 : Heap) (n0 : Nat) (Z0 : n0 ≤ h0.size) (pE1 : Exa Z h0 o1 "java/lang/String") (pFc : Fld Z h0 o0 "java/lang/AbstractStringBuilder" "coder" "B" (.int (0 : Int32))) (pGc : Fld Z h0 o1 "java/lang/String" "coder" "B" (.int (0 : Int32))) (pS : Sta Z h0 "java/lang/String" "COMPACT_STRINGS" "Z" (.int cs)) (pcs : ¬ (cs = (0 : Int32))) :
    MetFree l (⟨"java/lang/AbstractStringBuilder", "inflateIfNeededFor", "(Ljava/lang/String;)V"⟩ : MethodName) (head1 (Jvm.Cond.code (⟨"java/lang/AbstractStringBuilder", "inflateIfNeededFor", "(Ljava/lang/String;)V"⟩ : MethodName) jdk_68_method_71_code 2 none :: ws) ({ frames := 1, cells := 0, slots := 0, locals := 13 } : Room)) (fun a U => a = #[(.ref o0), (.ref o1)] ∧ Z.Warmed39 U.vm ∧ U.heap = h0) (fun _ _ _ _ _ => True) (fun _ U o U' => ∃ v L, o = .returned v ∧ Q_rm_infl Z o0 o1 cs h0 n0 v U'.heap L ∧ FrameEnd U o U' L ({ frames := 1, cells := 0, slots := 0, locals := 13 } : Room).cells ({ frames := 1, cells := 0, slots := 0, locals := 13 } : Room).slots) := by
  refine MetFree.of_bodySF (plainFor_of_name pn_5) hisR ?_
  intro p e s m args below meth c s₁ Bd hml0 hP hK
  obtain ⟨rfl, hZ, hh⟩ := hP
  have hx := Bd.exec
  have hby := Bd.bytes
  have hml : c.maxLocals = 2 := hml0
  have hown : s.vm.findClass "java/lang/AbstractStringBuilder" = some m.cls := findClass_of_methodNamed Bd.named
  have hnm := (name_of_methodNamed Bd.named Bd.method).1
  have X0 : Stand p l e ({ frames := 1, cells := 0, slots := 0, locals := 13 } : Room) s m #[(.ref o0), (.ref o1)] below meth c s₁ [] 0 0 := Stand.of_body Bd
  have e0 : s₁.heap = h0 := by rw [← hh, Bd.state]; rfl
  have N0 := Fr.nil n0
  have K0 : Keep h0 h0 [] := Keep.refl _ _
  have R0 : Rch p e below (s₁.setTop (entryFrame m #[(.ref o0), (.ref o1)] 2)) s₁ (mkF m 0 #[.val (.ref o0), .val (.ref o1)] []) := fun t k => castTop (ef_rm_infl m o0 o1) k
  obtain ⟨T1, X1, e1, st1⟩ := getS2 X0 hx hZ hown (host := "") (Or.inl (hw _ (List.mem_of_getElem? (i := 28) rfl))) Via.refl e0 pS (g := (mkF m 0 #[.val (.ref o0), .val (.ref o1)] [])) rfl (hb hby d16_0)
  have R3 : Rch p e below (s₁.setTop (entryFrame m #[(.ref o0), (.ref o1)] 2)) T1 (mkF m 7 #[.val (.ref o0), .val (.ref o1)] [(.ref o0)]) := fun t k => by
    refine R0 t ?_
    refine st1 _ ?_
    show Steps p.tables e below (T1.setTop (mkF m 3 #[.val (.ref o0), .val (.ref o1)] [(.int cs)])) t
    refine XS.ifNo X1.here hx rfl (hb hby d16_3) rfl ((if0 _ _).trans (feq pcs).1) ?_
    show Steps p.tables e below (T1.setTop (mkF m 6 #[.val (.ref o0), .val (.ref o1)] [])) t
    refine XS.aloadN X1.here hx rfl (hb hby d16_6) rfl rfl ?_
    exact k
  obtain ⟨T2, X2, e2, st2⟩ := getF X1 hx hZ hown (host := "") (Or.inl (hw _ (List.mem_of_getElem? (i := 31) rfl))) Via.refl e1 pFc (g := (mkF m 7 #[.val (.ref o0), .val (.ref o1)] [(.ref o0)])) rfl rfl (hb hby d16_7)
  have R5 : Rch p e below (s₁.setTop (entryFrame m #[(.ref o0), (.ref o1)] 2)) T2 (mkF m 11 #[.val (.ref o0), .val (.ref o1)] [(.ref o1), (.int (0 : Int32))]) := fun t k => by
    refine R3 t ?_
    refine st2 _ ?_
    show Steps p.tables e below (T2.setTop (mkF m 10 #[.val (.ref o0), .val (.ref o1)] [(.int (0 : Int32))])) t
    refine XS.aloadN X2.here hx rfl (hb hby d16_10) rfl rfl ?_
    exact k
  obtain ⟨cq4, kq4, q4a, q4b, q4c⟩ := isOf hZ e2 pE1
  obtain ⟨_, _, ⟨T4, L4, k4, n4⟩, -, X4, ⟨Lc4, hQ4, l4, y4, z4⟩, st4⟩ := X2.virtualBack hx (y := (⟨"java/lang/String", "coder", "()B"⟩ : MethodName)) (z := (⟨"java/lang/String", "coder", "()B"⟩ : MethodName)) hown (mvT hZ (hw _ (List.mem_of_getElem? (i := 95) rfl))) (mvT hZ (hw _ (List.mem_of_getElem? (i := 79) rfl))) (notFace_of_selects (args := #[]) (mvT hZ (hw _ (List.mem_of_getElem? (i := 81) rfl)))) (mvT hZ (hw _ (List.mem_of_getElem? (i := 81) rfl))) (mvT hZ (hw _ (List.mem_of_getElem? (i := 80) rfl))) (by decide) (backOf (W := 1) (rm_coder l Z a0 hw [] o1 cs h0 n0 (Nat.le_trans Z0 K0.1) pS pcs pGc) hZ (hw _ (List.mem_of_getElem? (i := 82) rfl)) (hw _ (List.mem_of_getElem? (i := 6) rfl)) (by decide) (by decide)) q4a q4c (g := (mkF m 11 #[.val (.ref o0), .val (.ref o1)] [(.ref o1), (.int (0 : Int32))])) rfl (by rw [hml]; rfl) (Steps.refl _) (argsL := []) (rest := [(.int (0 : Int32))]) (lenOf pd_0 rfl) rfl (by show 2 * 0 + _ ≤ _; exact Nat.le_of_eq rfl) (hb hby d16_11) (fun _ _ => ⟨rfl, e2, (by decide : 0 + 0 ≤ _), (by decide : 0 + 0 ≤ _)⟩)
  dsimp only [Pt.U, Pt.locs, Pt.cells, Pt.slots] at X4 l4 y4 z4 st4 hQ4
  subst l4 y4 z4
  obtain ⟨rfl, N4q, e4⟩ := hQ4
  have N4 := Fr.app N0 N4q
  have R6 : Rch p e below (s₁.setTop (entryFrame m #[(.ref o0), (.ref o1)] 2)) T4 (mkF m 21 #[.val (.ref o0), .val (.ref o1)] []) := fun t k => by
    refine R5 t ?_
    refine st4.trans ?_
    show Steps p.tables e below (T4.setTop (mkF m 14 #[.val (.ref o0), .val (.ref o1)] [(.int (0 : Int32)), (.int (0 : Int32))])) t
    refine XS.icmpYes X4.here hx rfl (pc0 := 14) (pc' := 21) rfl (hb hby d16_14) rfl (teq (by decide : (0 : Int32) = (0 : Int32))).1 (by decide) (by decide) ?_
    exact k
  obtain ⟨fs, hr, hrun, hended, hW, hsame⟩ := X4.leave (v := none) (fun _ => rfl) (BodyLoose.notSynchronized Bd)
  refine ⟨_, _, R6 _ ?_, hrun, hended, _, _, rfl, ?_, ⟨_, rfl⟩, hW, hsame.mono (by decide) (by decide)⟩
  · exact X4.returnOut hx Bd.returns (hb hby d16_21) hr
  · show Q_rm_infl Z o0 o1 cs h0 n0 _ T4.heap _
    rw [e4]
    exact ⟨rfl, N4, rfl⟩
theorem d17_0 : decode jdk_42_method_147_code 0 = .ok (.aload_n 0, 1) := by decide +kernel
theorem d17_1 : decode jdk_42_method_147_code 1 = .ok (.invokevirtual 335, 3) := by decide +kernel
theorem d17_4 : decode jdk_42_method_147_code 4 = .ok (.iload_n 3, 1) := by decide +kernel
theorem d17_5 : decode jdk_42_method_147_code 5 = .ok (.if_icmp .ne 23, 3) := by decide +kernel
theorem d17_8 : decode jdk_42_method_147_code 8 = .ok (.aload_n 0, 1) := by decide +kernel
theorem d17_9 : decode jdk_42_method_147_code 9 = .ok (.getfield 9, 3) := by decide +kernel
theorem d17_12 : decode jdk_42_method_147_code 12 = .ok (.iconst 0, 1) := by decide +kernel
theorem d17_13 : decode jdk_42_method_147_code 13 = .ok (.aload_n 1, 1) := by decide +kernel
theorem d17_14 : decode jdk_42_method_147_code 14 = .ok (.iload_n 2, 1) := by decide +kernel
theorem d17_15 : decode jdk_42_method_147_code 15 = .ok (.iload_n 3, 1) := by decide +kernel
theorem d17_16 : decode jdk_42_method_147_code 16 = .ok (.ishl, 1) := by decide +kernel
theorem d17_17 : decode jdk_42_method_147_code 17 = .ok (.aload_n 0, 1) := by decide +kernel
theorem d17_18 : decode jdk_42_method_147_code 18 = .ok (.getfield 9, 3) := by decide +kernel
theorem d17_21 : decode jdk_42_method_147_code 21 = .ok (.arraylength, 1) := by decide +kernel
theorem d17_22 : decode jdk_42_method_147_code 22 = .ok (.invokestatic 212, 3) := by decide +kernel
theorem d17_25 : decode jdk_42_method_147_code 25 = .ok (.goto 18, 3) := by decide +kernel
theorem d17_43 : decode jdk_42_method_147_code 43 = .ok (.return_, 1) := by decide +kernel
theorem ef_rm_gbts (m : MethodId) (x0 : Addr) (x1 : Addr) (x2 : Int32) (x3 : Int32) : entryFrame m #[(.ref x0), (.ref x1), (.int x2), (.int x3)] 4 = mkF m 0 #[.val (.ref x0), .val (.ref x1), .val (.int x2), .val (.int x3)] [] := by first | (simp [entryFrame, mkF, argsToLocals, Value.category]; done) | rfl
def Q_rm_gbts (Z : State) (ba : Addr) (kb : ClassId) (q0 : Int32) (cs : Int32) (o1 : Addr) (sv : Addr) (ks : ClassId) (t0 : Int32) (t1 : Int32) (h0 : Heap) (n0 : Nat) (v : Option Value) (h : Heap) (L : List Loc) : Prop := (v = none) ∧ (Fr n0 L) ∧ (Keep h0 h [ba]) ∧ (Arv Z h ba kb .byte (16 : Int32) (own_buf2 q0 (own_dn q0) t0 t1) (.int (0 : Int32)))
set_option maxRecDepth 65536 in
set_option maxHeartbeats 40000000 in
theorem rm_gbts (l : Launch) (Z : State) (a0 : Array Value) (hw : ∀ d ∈ tables_1, d.before a0 Z = true) (ws : List Jvm.Cond) (ba : Addr) (kb : ClassId) (q0 : Int32) (cs : Int32) (o1 : Addr) (sv : Addr) (ks : ClassId) (t0 : Int32) (t1 : Int32) (h0 : Heap) (n0 : Nat) (Z0 : n0 ≤ h0.size) (pE1 : Exa Z h0 o1 "java/lang/String") (pGv : Fld Z h0 o1 "java/lang/String" "value" "[B" (.ref sv)) (pGc : Fld Z h0 o1 "java/lang/String" "coder" "B" (.int (0 : Int32))) (pVs : Arv Z h0 sv ks .byte (2 : Int32) [(.int t0), (.int t1)] (.int (0 : Int32))) (pV : Arv Z h0 ba kb .byte (16 : Int32) (own_buf q0 (own_dn q0)) (.int (0 : Int32))) (pgb : n0 ≤ ba) (hn : 0 ≤ q0.toInt) (pS : Sta Z h0 "java/lang/String" "COMPACT_STRINGS" "Z" (.int cs)) (pcs : ¬ (cs = (0 : Int32))) :
    MetFree l (⟨"java/lang/String", "getBytes", "([BIB)V"⟩ : MethodName) (head1 (Jvm.Cond.code (⟨"java/lang/String", "getBytes", "([BIB)V"⟩ : MethodName) jdk_42_method_147_code 4 none :: ws) ({ frames := 1, cells := 0, slots := 0, locals := 18 } : Room)) (fun a U => a = #[(.ref o1), (.ref ba), (.int (own_dg q0)), (.int (0 : Int32))] ∧ Z.Warmed39 U.vm ∧ U.heap = h0) (fun _ _ _ _ _ => True) (fun _ U o U' => ∃ v L, o = .returned v ∧ Q_rm_gbts Z ba kb q0 cs o1 sv ks t0 t1 h0 n0 v U'.heap L ∧ FrameEnd U o U' L ({ frames := 1, cells := 0, slots := 0, locals := 18 } : Room).cells ({ frames := 1, cells := 0, slots := 0, locals := 18 } : Room).slots) := by
  refine MetFree.of_bodySF (plainFor_of_name pn_0) hisR ?_
  intro p e s m args below meth c s₁ Bd hml0 hP hK
  obtain ⟨rfl, hZ, hh⟩ := hP
  have hx := Bd.exec
  have hby := Bd.bytes
  have hml : c.maxLocals = 4 := hml0
  have hown : s.vm.findClass "java/lang/String" = some m.cls := findClass_of_methodNamed Bd.named
  have hnm := (name_of_methodNamed Bd.named Bd.method).1
  have X0 : Stand p l e ({ frames := 1, cells := 0, slots := 0, locals := 18 } : Room) s m #[(.ref o1), (.ref ba), (.int (own_dg q0)), (.int (0 : Int32))] below meth c s₁ [] 0 0 := Stand.of_body Bd
  have e0 : s₁.heap = h0 := by rw [← hh, Bd.state]; rfl
  have N0 := Fr.nil n0
  have K0 : Keep h0 h0 [ba] := Keep.refl _ _
  have R0 : Rch p e below (s₁.setTop (entryFrame m #[(.ref o1), (.ref ba), (.int (own_dg q0)), (.int (0 : Int32))] 4)) s₁ (mkF m 0 #[.val (.ref o1), .val (.ref ba), .val (.int (own_dg q0)), .val (.int (0 : Int32))] []) := fun t k => castTop (ef_rm_gbts m o1 ba (own_dg q0) (0 : Int32)) k
  have R2 : Rch p e below (s₁.setTop (entryFrame m #[(.ref o1), (.ref ba), (.int (own_dg q0)), (.int (0 : Int32))] 4)) s₁ (mkF m 1 #[.val (.ref o1), .val (.ref ba), .val (.int (own_dg q0)), .val (.int (0 : Int32))] [(.ref o1)]) := fun t k => by
    refine R0 t ?_
    refine XS.aloadN X0.here hx rfl (hb hby d17_0) rfl rfl ?_
    exact k
  obtain ⟨cq1, kq1, q1a, q1b, q1c⟩ := isOf hZ e0 pE1
  obtain ⟨_, _, ⟨T1, L1, k1, n1⟩, -, X1, ⟨Lc1, hQ1, l1, y1, z1⟩, st1⟩ := X0.virtualBack hx (y := (⟨"java/lang/String", "coder", "()B"⟩ : MethodName)) (z := (⟨"java/lang/String", "coder", "()B"⟩ : MethodName)) hown (mvT hZ (hw _ (List.mem_of_getElem? (i := 78) rfl))) (mvT hZ (hw _ (List.mem_of_getElem? (i := 79) rfl))) (notFace_of_selects (args := #[]) (mvT hZ (hw _ (List.mem_of_getElem? (i := 81) rfl)))) (mvT hZ (hw _ (List.mem_of_getElem? (i := 81) rfl))) (mvT hZ (hw _ (List.mem_of_getElem? (i := 80) rfl))) (by decide) (backOf (W := 0) (rm_coder l Z a0 hw [] o1 cs h0 n0 (Nat.le_trans Z0 K0.1) pS pcs pGc) hZ (hw _ (List.mem_of_getElem? (i := 82) rfl)) (hw _ (List.mem_of_getElem? (i := 6) rfl)) (by decide) (by decide)) q1a q1c (g := (mkF m 1 #[.val (.ref o1), .val (.ref ba), .val (.int (own_dg q0)), .val (.int (0 : Int32))] [(.ref o1)])) rfl (by rw [hml]; rfl) (Steps.refl _) (argsL := []) (rest := []) (lenOf pd_0 rfl) rfl (by show 2 * 0 + _ ≤ _; exact Nat.le_of_eq rfl) (hb hby d17_1) (fun _ _ => ⟨rfl, e0, (by decide : 0 + 0 ≤ _), (by decide : 0 + 0 ≤ _)⟩)
  dsimp only [Pt.U, Pt.locs, Pt.cells, Pt.slots] at X1 l1 y1 z1 st1 hQ1
  subst l1 y1 z1
  obtain ⟨rfl, N1q, e1⟩ := hQ1
  have N1 := Fr.app N0 N1q
  have R4 : Rch p e below (s₁.setTop (entryFrame m #[(.ref o1), (.ref ba), (.int (own_dg q0)), (.int (0 : Int32))] 4)) T1 (mkF m 9 #[.val (.ref o1), .val (.ref ba), .val (.int (own_dg q0)), .val (.int (0 : Int32))] [(.ref o1)]) := fun t k => by
    refine R2 t ?_
    refine st1.trans ?_
    show Steps p.tables e below (T1.setTop (mkF m 4 #[.val (.ref o1), .val (.ref ba), .val (.int (own_dg q0)), .val (.int (0 : Int32))] [(.int (0 : Int32))])) t
    refine XS.iloadN X1.here hx rfl (hb hby d17_4) rfl ?_
    show Steps p.tables e below (T1.setTop (mkF m 5 #[.val (.ref o1), .val (.ref ba), .val (.int (own_dg q0)), .val (.int (0 : Int32))] [(.int (0 : Int32)), (.int (0 : Int32))])) t
    refine XS.icmpNo X1.here hx rfl (hb hby d17_5) rfl (teq (by decide : (0 : Int32) = (0 : Int32))).2 ?_
    show Steps p.tables e below (T1.setTop (mkF m 8 #[.val (.ref o1), .val (.ref ba), .val (.int (own_dg q0)), .val (.int (0 : Int32))] [])) t
    refine XS.aloadN X1.here hx rfl (hb hby d17_8) rfl rfl ?_
    exact k
  obtain ⟨T3, X3, e3, st3⟩ := getF X1 hx hZ hown (host := "") (Or.inl (hw _ (List.mem_of_getElem? (i := 77) rfl))) Via.refl e1 pGv (g := (mkF m 9 #[.val (.ref o1), .val (.ref ba), .val (.int (own_dg q0)), .val (.int (0 : Int32))] [(.ref o1)])) rfl rfl (hb hby d17_9)
  have R5 : Rch p e below (s₁.setTop (entryFrame m #[(.ref o1), (.ref ba), (.int (own_dg q0)), (.int (0 : Int32))] 4)) T3 (mkF m 17 #[.val (.ref o1), .val (.ref ba), .val (.int (own_dg q0)), .val (.int (0 : Int32))] [(.int ((own_dg q0) <<< ((0 : Int32) &&& 31))), (.ref ba), (.int (0 : Int32)), (.ref sv)]) := fun t k => by
    refine R4 t ?_
    refine st3 _ ?_
    show Steps p.tables e below (T3.setTop (mkF m 12 #[.val (.ref o1), .val (.ref ba), .val (.int (own_dg q0)), .val (.int (0 : Int32))] [(.ref sv)])) t
    refine XS.iconst X3.here hx rfl (hb hby d17_12) ?_
    show Steps p.tables e below (T3.setTop (mkF m 13 #[.val (.ref o1), .val (.ref ba), .val (.int (own_dg q0)), .val (.int (0 : Int32))] [(.int (0 : Int32)), (.ref sv)])) t
    refine XS.aloadN X3.here hx rfl (hb hby d17_13) rfl rfl ?_
    show Steps p.tables e below (T3.setTop (mkF m 14 #[.val (.ref o1), .val (.ref ba), .val (.int (own_dg q0)), .val (.int (0 : Int32))] [(.ref ba), (.int (0 : Int32)), (.ref sv)])) t
    refine XS.iloadN X3.here hx rfl (hb hby d17_14) rfl ?_
    show Steps p.tables e below (T3.setTop (mkF m 15 #[.val (.ref o1), .val (.ref ba), .val (.int (own_dg q0)), .val (.int (0 : Int32))] [(.int (own_dg q0)), (.ref ba), (.int (0 : Int32)), (.ref sv)])) t
    refine XS.iloadN X3.here hx rfl (hb hby d17_15) rfl ?_
    show Steps p.tables e below (T3.setTop (mkF m 16 #[.val (.ref o1), .val (.ref ba), .val (.int (own_dg q0)), .val (.int (0 : Int32))] [(.int (0 : Int32)), (.int (own_dg q0)), (.ref ba), (.int (0 : Int32)), (.ref sv)])) t
    refine XS.ishl X3.here hx rfl (hb hby d17_16) rfl ?_
    exact k
  rw [own_shl0] at R5
  have R7 : Rch p e below (s₁.setTop (entryFrame m #[(.ref o1), (.ref ba), (.int (own_dg q0)), (.int (0 : Int32))] 4)) T3 (mkF m 18 #[.val (.ref o1), .val (.ref ba), .val (.int (own_dg q0)), .val (.int (0 : Int32))] [(.ref o1), (.int (own_dg q0)), (.ref ba), (.int (0 : Int32)), (.ref sv)]) := fun t k => by
    refine R5 t ?_
    refine XS.aloadN X3.here hx rfl (hb hby d17_17) rfl rfl ?_
    exact k
  obtain ⟨T6, X6, e6, st6⟩ := getF X3 hx hZ hown (host := "") (Or.inl (hw _ (List.mem_of_getElem? (i := 77) rfl))) Via.refl e3 pGv (g := (mkF m 18 #[.val (.ref o1), .val (.ref ba), .val (.int (own_dg q0)), .val (.int (0 : Int32))] [(.ref o1), (.int (own_dg q0)), (.ref ba), (.int (0 : Int32)), (.ref sv)])) rfl rfl (hb hby d17_18)
  have R9 : Rch p e below (s₁.setTop (entryFrame m #[(.ref o1), (.ref ba), (.int (own_dg q0)), (.int (0 : Int32))] 4)) T6 (mkF m 21 #[.val (.ref o1), .val (.ref ba), .val (.int (own_dg q0)), .val (.int (0 : Int32))] [(.ref sv), (.int (own_dg q0)), (.ref ba), (.int (0 : Int32)), (.ref sv)]) := fun t k => by
    refine R7 t ?_
    refine st6 _ ?_
    exact k
  obtain ⟨cl8, Ar8, -, Sz8, N8_, -, -⟩ := id pVs
  have R11 : Rch p e below (s₁.setTop (entryFrame m #[(.ref o1), (.ref ba), (.int (own_dg q0)), (.int (0 : Int32))] 4)) T6 (mkF m 22 #[.val (.ref o1), .val (.ref ba), .val (.int (own_dg q0)), .val (.int (0 : Int32))] [(.int (2 : Int32)), (.int (own_dg q0)), (.ref ba), (.int (0 : Int32)), (.ref sv)]) := fun t k => by
    refine R9 t ?_
    refine X6.arraylength hx (by rw [e6]; exact Ar8.1) (State.isArrayOf_alike hZ.alike Ar8.2.1) (g := (mkF m 21 #[.val (.ref o1), .val (.ref ba), .val (.int (own_dg q0)), .val (.int (0 : Int32))] [(.ref sv), (.int (own_dg q0)), (.ref ba), (.int (0 : Int32)), (.ref sv)])) rfl rfl (hb hby d17_21) _ ?_
    rw [len_of Sz8 N8_]
    exact k
  obtain ⟨T10, h10, L10, X10, e10, N10, Kc10, Vq10, st10⟩ := cpA X6 hx hZ hown (hw _ (List.mem_of_getElem? (i := 101) rfl)) (hw _ (List.mem_of_getElem? (i := 104) rfl)) (hw _ (List.mem_of_getElem? (i := 102) rfl)) (hw _ (List.mem_of_getElem? (i := 103) rfl)) e6 pVs pV (Or.inl ⟨rfl, rfl⟩) (by decide) (own_ge0 (own_dg0 hn)) (by decide) (by decide) (own_h5 hn) (us := [(.int t0), (.int t1)]) rfl (own_hl hn) N1 pgb (g := (mkF m 22 #[.val (.ref o1), .val (.ref ba), .val (.int (own_dg q0)), .val (.int (0 : Int32))] [(.int (2 : Int32)), (.int (own_dg q0)), (.ref ba), (.int (0 : Int32)), (.ref sv)])) rfl (by rw [hml]; rfl) rfl (hb hby d17_22) (by decide) (W := 0) (by show 2 * 0 + _ ≤ _; exact Nat.le_of_eq rfl) (by decide +kernel)
  have V10 : Arv Z h10 ba kb .byte (16 : Int32) (own_buf2 q0 (own_dn q0) t0 t1) (.int (0 : Int32)) := by have q := Vq10; rw [own_put2 hn] at q; exact q
  have K10 : Keep h0 h10 [ba] := K0.trans Kc10 (allS (Or.inl (List.mem_of_getElem? (i := 0) rfl)) all0)
  have R12 : Rch p e below (s₁.setTop (entryFrame m #[(.ref o1), (.ref ba), (.int (own_dg q0)), (.int (0 : Int32))] 4)) T10 (mkF m 43 #[.val (.ref o1), .val (.ref ba), .val (.int (own_dg q0)), .val (.int (0 : Int32))] []) := fun t k => by
    refine R11 t ?_
    refine st10 _ ?_
    show Steps p.tables e below (T10.setTop (mkF m 25 #[.val (.ref o1), .val (.ref ba), .val (.int (own_dg q0)), .val (.int (0 : Int32))] [])) t
    refine XS.goto X10.here hx rfl (pc0 := 25) (pc' := 43) rfl (hb hby d17_25) (by decide) (by decide) ?_
    exact k
  obtain ⟨fs, hr, hrun, hended, hW, hsame⟩ := X10.leave (v := none) (fun _ => rfl) (BodyLoose.notSynchronized Bd)
  refine ⟨_, _, R12 _ ?_, hrun, hended, _, _, rfl, ?_, ⟨_, rfl⟩, hW, hsame.mono (by decide) (by decide)⟩
  · exact X10.returnOut hx Bd.returns (hb hby d17_43) hr
  · show Q_rm_gbts Z ba kb q0 cs o1 sv ks t0 t1 h0 n0 _ T10.heap _
    rw [e10]
    exact ⟨rfl, N10, K10, V10⟩
theorem d15_0 : decode jdk_68_method_73_code 0 = .ok (.aload_n 0, 1) := by decide +kernel
theorem d15_1 : decode jdk_68_method_73_code 1 = .ok (.aload_n 2, 1) := by decide +kernel
theorem d15_2 : decode jdk_68_method_73_code 2 = .ok (.invokevirtual 397, 3) := by decide +kernel
theorem pd_9 : parseMethodDescriptor "(Ljava/lang/String;)V" = some ⟨[(.object "java/lang/String")], none⟩ := by decide +kernel
theorem d15_5 : decode jdk_68_method_73_code 5 = .ok (.aload_n 2, 1) := by decide +kernel
theorem d15_6 : decode jdk_68_method_73_code 6 = .ok (.aload_n 0, 1) := by decide +kernel
theorem d15_7 : decode jdk_68_method_73_code 7 = .ok (.getfield 15, 3) := by decide +kernel
theorem d15_10 : decode jdk_68_method_73_code 10 = .ok (.iload_n 1, 1) := by decide +kernel
theorem d15_11 : decode jdk_68_method_73_code 11 = .ok (.aload_n 0, 1) := by decide +kernel
theorem d15_12 : decode jdk_68_method_73_code 12 = .ok (.getfield 22, 3) := by decide +kernel
theorem d15_15 : decode jdk_68_method_73_code 15 = .ok (.invokevirtual 399, 3) := by decide +kernel
theorem pd_10 : parseMethodDescriptor "([BIB)V" = some ⟨[(.array .byte), .int, .byte], none⟩ := by decide +kernel
theorem d15_18 : decode jdk_68_method_73_code 18 = .ok (.return_, 1) := by decide +kernel
theorem ef_rm_putat (m : MethodId) (x0 : Addr) (x1 : Int32) (x2 : Addr) : entryFrame m #[(.ref x0), (.int x1), (.ref x2)] 3 = mkF m 0 #[.val (.ref x0), .val (.int x1), .val (.ref x2)] [] := by first | (simp [entryFrame, mkF, argsToLocals, Value.category]; done) | rfl
def Q_rm_putat (Z : State) (o0 : Addr) (ba : Addr) (kb : ClassId) (q0 : Int32) (cs : Int32) (o1 : Addr) (sv : Addr) (ks : ClassId) (t0 : Int32) (t1 : Int32) (h0 : Heap) (n0 : Nat) (v : Option Value) (h : Heap) (L : List Loc) : Prop := (v = none) ∧ (Fr n0 L) ∧ (Keep h0 h [ba]) ∧ (Arv Z h ba kb .byte (16 : Int32) (own_buf2 q0 (own_dn q0) t0 t1) (.int (0 : Int32)))
set_option maxRecDepth 65536 in
set_option maxHeartbeats 40000000 in
theorem rm_putat (l : Launch) (Z : State) (a0 : Array Value) (hw : ∀ d ∈ tables_1, d.before a0 Z = true) (ws : List Jvm.Cond) (o0 : Addr) (ba : Addr) (kb : ClassId) (q0 : Int32) (cs : Int32) (o1 : Addr) (sv : Addr) (ks : ClassId) (t0 : Int32) (t1 : Int32) (h0 : Heap) (n0 : Nat) (Z0 : n0 ≤ h0.size) (pE : Exa Z h0 o0 "java/lang/StringBuilder") (pg : n0 ≤ o0) (pgb : n0 ≤ ba) (pnb : ba ≠ o0) (pFv : Fld Z h0 o0 "java/lang/AbstractStringBuilder" "value" "[B" (.ref ba)) (pFc : Fld Z h0 o0 "java/lang/AbstractStringBuilder" "coder" "B" (.int (0 : Int32))) (hn : 0 ≤ q0.toInt) (pS : Sta Z h0 "java/lang/String" "COMPACT_STRINGS" "Z" (.int cs)) (pcs : ¬ (cs = (0 : Int32))) (pFn : Fld Z h0 o0 "java/lang/AbstractStringBuilder" "count" "I" (.int (own_dg q0))) (pV : Arv Z h0 ba kb .byte (16 : Int32) (own_buf q0 (own_dn q0)) (.int (0 : Int32))) (pE1 : Exa Z h0 o1 "java/lang/String") (pGv : Fld Z h0 o1 "java/lang/String" "value" "[B" (.ref sv)) (pGc : Fld Z h0 o1 "java/lang/String" "coder" "B" (.int (0 : Int32))) (pVs : Arv Z h0 sv ks .byte (2 : Int32) [(.int t0), (.int t1)] (.int (0 : Int32))) :
    MetFree l (⟨"java/lang/AbstractStringBuilder", "putStringAt", "(ILjava/lang/String;)V"⟩ : MethodName) (head1 (Jvm.Cond.code (⟨"java/lang/AbstractStringBuilder", "putStringAt", "(ILjava/lang/String;)V"⟩ : MethodName) jdk_68_method_73_code 3 none :: ws) ({ frames := 2, cells := 0, slots := 0, locals := 33 } : Room)) (fun a U => a = #[(.ref o0), (.int (own_dg q0)), (.ref o1)] ∧ Z.Warmed39 U.vm ∧ U.heap = h0) (fun _ _ _ _ _ => True) (fun _ U o U' => ∃ v L, o = .returned v ∧ Q_rm_putat Z o0 ba kb q0 cs o1 sv ks t0 t1 h0 n0 v U'.heap L ∧ FrameEnd U o U' L ({ frames := 2, cells := 0, slots := 0, locals := 33 } : Room).cells ({ frames := 2, cells := 0, slots := 0, locals := 33 } : Room).slots) := by
  refine MetFree.of_bodySF (plainFor_of_name pn_5) hisR ?_
  intro p e s m args below meth c s₁ Bd hml0 hP hK
  obtain ⟨rfl, hZ, hh⟩ := hP
  have hx := Bd.exec
  have hby := Bd.bytes
  have hml : c.maxLocals = 3 := hml0
  have hown : s.vm.findClass "java/lang/AbstractStringBuilder" = some m.cls := findClass_of_methodNamed Bd.named
  have hnm := (name_of_methodNamed Bd.named Bd.method).1
  have X0 : Stand p l e ({ frames := 2, cells := 0, slots := 0, locals := 33 } : Room) s m #[(.ref o0), (.int (own_dg q0)), (.ref o1)] below meth c s₁ [] 0 0 := Stand.of_body Bd
  have e0 : s₁.heap = h0 := by rw [← hh, Bd.state]; rfl
  have N0 := Fr.nil n0
  have K0 : Keep h0 h0 [ba] := Keep.refl _ _
  have R0 : Rch p e below (s₁.setTop (entryFrame m #[(.ref o0), (.int (own_dg q0)), (.ref o1)] 3)) s₁ (mkF m 0 #[.val (.ref o0), .val (.int (own_dg q0)), .val (.ref o1)] []) := fun t k => castTop (ef_rm_putat m o0 (own_dg q0) o1) k
  have R2 : Rch p e below (s₁.setTop (entryFrame m #[(.ref o0), (.int (own_dg q0)), (.ref o1)] 3)) s₁ (mkF m 2 #[.val (.ref o0), .val (.int (own_dg q0)), .val (.ref o1)] [(.ref o1), (.ref o0)]) := fun t k => by
    refine R0 t ?_
    refine XS.aloadN X0.here hx rfl (hb hby d15_0) rfl rfl ?_
    show Steps p.tables e below (s₁.setTop (mkF m 1 #[.val (.ref o0), .val (.int (own_dg q0)), .val (.ref o1)] [(.ref o0)])) t
    refine XS.aloadN X0.here hx rfl (hb hby d15_1) rfl rfl ?_
    exact k
  obtain ⟨cq1, q1, q1'⟩ := pE.cell
  obtain ⟨_, _, ⟨T1, L1, k1, n1⟩, -, X1, ⟨Lc1, hQ1, l1, y1, z1⟩, st1⟩ := X0.privateBack hx (y := (⟨"java/lang/AbstractStringBuilder", "inflateIfNeededFor", "(Ljava/lang/String;)V"⟩ : MethodName)) hown (mvT hZ (hw _ (List.mem_of_getElem? (i := 90) rfl))) (mvT hZ (hw _ (List.mem_of_getElem? (i := 91) rfl))) (own_selp2 hZ (hw _ (List.mem_of_getElem? (i := 93) rfl)) (hw _ (List.mem_of_getElem? (i := 92) rfl)) (hw _ (List.mem_of_getElem? (i := 91) rfl)) (by decide)) (Cond.privateMethod_at (mvP hZ (hw _ (List.mem_of_getElem? (i := 92) rfl)) (args := #[]))) (mvT hZ (hw _ (List.mem_of_getElem? (i := 94) rfl))) (by decide) (backOf (W := 0) (rm_infl l Z a0 hw [] o0 o1 cs h0 n0 (Nat.le_trans Z0 K0.1) pE1 pFc pGc pS pcs) hZ (hw _ (List.mem_of_getElem? (i := 94) rfl)) (hw _ (List.mem_of_getElem? (i := 23) rfl)) (by decide) (by decide)) (g := (mkF m 2 #[.val (.ref o0), .val (.int (own_dg q0)), .val (.ref o1)] [(.ref o1), (.ref o0)])) rfl (by rw [hml]; rfl) (Steps.refl _) (a := o0) (by rw [e0]; exact q1) q1' (argsL := [(.ref o1)]) (rest := []) (lenOf pd_9 rfl) rfl (by show 2 * 0 + _ ≤ _; exact Nat.le_of_eq rfl) (hb hby d15_2) (fun _ _ => ⟨rfl, e0, (by decide : 0 + 0 ≤ _), (by decide : 0 + 0 ≤ _)⟩)
  dsimp only [Pt.U, Pt.locs, Pt.cells, Pt.slots] at X1 l1 y1 z1 st1 hQ1
  subst l1 y1 z1
  obtain ⟨rfl, N1q, e1⟩ := hQ1
  have N1 := Fr.app N0 N1q
  have R4 : Rch p e below (s₁.setTop (entryFrame m #[(.ref o0), (.int (own_dg q0)), (.ref o1)] 3)) T1 (mkF m 7 #[.val (.ref o0), .val (.int (own_dg q0)), .val (.ref o1)] [(.ref o0), (.ref o1)]) := fun t k => by
    refine R2 t ?_
    refine st1.trans ?_
    show Steps p.tables e below (T1.setTop (mkF m 5 #[.val (.ref o0), .val (.int (own_dg q0)), .val (.ref o1)] [])) t
    refine XS.aloadN X1.here hx rfl (hb hby d15_5) rfl rfl ?_
    show Steps p.tables e below (T1.setTop (mkF m 6 #[.val (.ref o0), .val (.int (own_dg q0)), .val (.ref o1)] [(.ref o1)])) t
    refine XS.aloadN X1.here hx rfl (hb hby d15_6) rfl rfl ?_
    exact k
  obtain ⟨T3, X3, e3, st3⟩ := getF X1 hx hZ hown (host := "") (Or.inl (hw _ (List.mem_of_getElem? (i := 29) rfl))) Via.refl e1 pFv (g := (mkF m 7 #[.val (.ref o0), .val (.int (own_dg q0)), .val (.ref o1)] [(.ref o0), (.ref o1)])) rfl rfl (hb hby d15_7)
  have R6 : Rch p e below (s₁.setTop (entryFrame m #[(.ref o0), (.int (own_dg q0)), (.ref o1)] 3)) T3 (mkF m 12 #[.val (.ref o0), .val (.int (own_dg q0)), .val (.ref o1)] [(.ref o0), (.int (own_dg q0)), (.ref ba), (.ref o1)]) := fun t k => by
    refine R4 t ?_
    refine st3 _ ?_
    show Steps p.tables e below (T3.setTop (mkF m 10 #[.val (.ref o0), .val (.int (own_dg q0)), .val (.ref o1)] [(.ref ba), (.ref o1)])) t
    refine XS.iloadN X3.here hx rfl (hb hby d15_10) rfl ?_
    show Steps p.tables e below (T3.setTop (mkF m 11 #[.val (.ref o0), .val (.int (own_dg q0)), .val (.ref o1)] [(.int (own_dg q0)), (.ref ba), (.ref o1)])) t
    refine XS.aloadN X3.here hx rfl (hb hby d15_11) rfl rfl ?_
    exact k
  obtain ⟨T5, X5, e5, st5⟩ := getF X3 hx hZ hown (host := "") (Or.inl (hw _ (List.mem_of_getElem? (i := 31) rfl))) Via.refl e3 pFc (g := (mkF m 12 #[.val (.ref o0), .val (.int (own_dg q0)), .val (.ref o1)] [(.ref o0), (.int (own_dg q0)), (.ref ba), (.ref o1)])) rfl rfl (hb hby d15_12)
  have R8 : Rch p e below (s₁.setTop (entryFrame m #[(.ref o0), (.int (own_dg q0)), (.ref o1)] 3)) T5 (mkF m 15 #[.val (.ref o0), .val (.int (own_dg q0)), .val (.ref o1)] [(.int (0 : Int32)), (.int (own_dg q0)), (.ref ba), (.ref o1)]) := fun t k => by
    refine R6 t ?_
    refine st5 _ ?_
    exact k
  obtain ⟨cq7, kq7, q7a, q7b, q7c⟩ := isOf hZ e5 pE1
  obtain ⟨_, _, ⟨T7, L7, k7, n7⟩, -, X7, ⟨Lc7, hQ7, l7, y7, z7⟩, st7⟩ := X5.virtualBack hx (y := (⟨"java/lang/String", "getBytes", "([BIB)V"⟩ : MethodName)) (z := (⟨"java/lang/String", "getBytes", "([BIB)V"⟩ : MethodName)) hown (mvT hZ (hw _ (List.mem_of_getElem? (i := 96) rfl))) (mvT hZ (hw _ (List.mem_of_getElem? (i := 97) rfl))) (notFace_of_selects (args := #[]) (mvT hZ (hw _ (List.mem_of_getElem? (i := 99) rfl)))) (mvT hZ (hw _ (List.mem_of_getElem? (i := 99) rfl))) (mvT hZ (hw _ (List.mem_of_getElem? (i := 98) rfl))) (by decide) (backOf (W := 0) (rm_gbts l Z a0 hw [] ba kb q0 cs o1 sv ks t0 t1 h0 n0 (Nat.le_trans Z0 K0.1) pE1 pGv pGc pVs pV pgb hn pS pcs) hZ (hw _ (List.mem_of_getElem? (i := 100) rfl)) (hw _ (List.mem_of_getElem? (i := 6) rfl)) (by decide) (by decide)) q7a q7c (g := (mkF m 15 #[.val (.ref o0), .val (.int (own_dg q0)), .val (.ref o1)] [(.int (0 : Int32)), (.int (own_dg q0)), (.ref ba), (.ref o1)])) rfl (by rw [hml]; rfl) (Steps.refl _) (argsL := [(.ref ba), (.int (own_dg q0)), (.int (0 : Int32))]) (rest := []) (lenOf pd_10 rfl) rfl (by show 2 * 0 + _ ≤ _; exact Nat.le_of_eq rfl) (hb hby d15_15) (fun _ _ => ⟨rfl, e5, (by decide : 0 + 0 ≤ _), (by decide : 0 + 0 ≤ _)⟩)
  dsimp only [Pt.U, Pt.locs, Pt.cells, Pt.slots] at X7 l7 y7 z7 st7 hQ7
  subst l7 y7 z7
  obtain ⟨rfl, N7q, Kc7, c7_arr⟩ := hQ7
  have N7 := Fr.app N1 N7q
  have K7 : Keep h0 T7.heap [ba] := K0.trans Kc7 (allS (Or.inl (List.mem_of_getElem? (i := 0) rfl)) all0)
  have R9 : Rch p e below (s₁.setTop (entryFrame m #[(.ref o0), (.int (own_dg q0)), (.ref o1)] 3)) T7 (mkF m 18 #[.val (.ref o0), .val (.int (own_dg q0)), .val (.ref o1)] []) := fun t k => by
    refine R8 t ?_
    refine st7.trans ?_
    exact k
  obtain ⟨fs, hr, hrun, hended, hW, hsame⟩ := X7.leave (v := none) (fun _ => rfl) (BodyLoose.notSynchronized Bd)
  refine ⟨_, _, R9 _ ?_, hrun, hended, _, _, rfl, ?_, ⟨_, rfl⟩, hW, hsame.mono (by decide) (by decide)⟩
  · exact X7.returnOut hx Bd.returns (hb hby d15_18) hr
  · show Q_rm_putat Z o0 ba kb q0 cs o1 sv ks t0 t1 h0 n0 _ T7.heap _
    exact ⟨rfl, N7, K7, c7_arr⟩
theorem d12_0 : decode jdk_68_method_22_code 0 = .ok (.aload_n 1, 1) := by decide +kernel
theorem d12_1 : decode jdk_68_method_22_code 1 = .ok (.ifnonnull 8, 3) := by decide +kernel
theorem d12_9 : decode jdk_68_method_22_code 9 = .ok (.aload_n 1, 1) := by decide +kernel
theorem d12_10 : decode jdk_68_method_22_code 10 = .ok (.invokevirtual 32, 3) := by decide +kernel
theorem pd_11 : parseMethodDescriptor "()I" = some ⟨[], some .int⟩ := by decide +kernel
theorem d12_13 : decode jdk_68_method_22_code 13 = .ok (.istore_n 2, 1) := by decide +kernel
theorem d12_14 : decode jdk_68_method_22_code 14 = .ok (.aload_n 0, 1) := by decide +kernel
theorem d12_15 : decode jdk_68_method_22_code 15 = .ok (.aload_n 0, 1) := by decide +kernel
theorem d12_16 : decode jdk_68_method_22_code 16 = .ok (.getfield 79, 3) := by decide +kernel
theorem d12_19 : decode jdk_68_method_22_code 19 = .ok (.iload_n 2, 1) := by decide +kernel
theorem d12_20 : decode jdk_68_method_22_code 20 = .ok (.iadd, 1) := by decide +kernel
theorem d12_21 : decode jdk_68_method_22_code 21 = .ok (.invokevirtual 100, 3) := by decide +kernel
theorem d12_24 : decode jdk_68_method_22_code 24 = .ok (.aload_n 0, 1) := by decide +kernel
theorem d12_25 : decode jdk_68_method_22_code 25 = .ok (.aload_n 0, 1) := by decide +kernel
theorem d12_26 : decode jdk_68_method_22_code 26 = .ok (.getfield 79, 3) := by decide +kernel
theorem d12_29 : decode jdk_68_method_22_code 29 = .ok (.aload_n 1, 1) := by decide +kernel
theorem d12_30 : decode jdk_68_method_22_code 30 = .ok (.invokevirtual 208, 3) := by decide +kernel
theorem pd_12 : parseMethodDescriptor "(ILjava/lang/String;)V" = some ⟨[.int, (.object "java/lang/String")], none⟩ := by decide +kernel
theorem d12_33 : decode jdk_68_method_22_code 33 = .ok (.aload_n 0, 1) := by decide +kernel
theorem d12_34 : decode jdk_68_method_22_code 34 = .ok (.dup, 1) := by decide +kernel
theorem d12_35 : decode jdk_68_method_22_code 35 = .ok (.getfield 79, 3) := by decide +kernel
theorem d12_38 : decode jdk_68_method_22_code 38 = .ok (.iload_n 2, 1) := by decide +kernel
theorem d12_39 : decode jdk_68_method_22_code 39 = .ok (.iadd, 1) := by decide +kernel
theorem d12_40 : decode jdk_68_method_22_code 40 = .ok (.putfield 79, 3) := by decide +kernel
theorem d12_43 : decode jdk_68_method_22_code 43 = .ok (.aload_n 0, 1) := by decide +kernel
theorem d12_44 : decode jdk_68_method_22_code 44 = .ok (.areturn, 1) := by decide +kernel
theorem ef_rm_aapps (m : MethodId) (x0 : Addr) (x1 : Addr) : entryFrame m #[(.ref x0), (.ref x1)] 3 = mkF m 0 #[.val (.ref x0), .val (.ref x1), .unset] [] := by first | (simp [entryFrame, mkF, argsToLocals, Value.category]; done) | rfl
def Q_rm_aapps (Z : State) (o0 : Addr) (ba : Addr) (kb : ClassId) (q0 : Int32) (cs : Int32) (o1 : Addr) (sv : Addr) (ks : ClassId) (t0 : Int32) (t1 : Int32) (h0 : Heap) (n0 : Nat) (v : Option Value) (h : Heap) (L : List Loc) : Prop := (v = some (.ref o0)) ∧ (Fr n0 L) ∧ (Keep h0 h [o0, ba]) ∧ (Exa Z h o0 "java/lang/StringBuilder") ∧ (Fld Z h o0 "java/lang/AbstractStringBuilder" "value" "[B" (.ref ba)) ∧ (Fld Z h o0 "java/lang/AbstractStringBuilder" "coder" "B" (.int (0 : Int32))) ∧ (Fld Z h o0 "java/lang/AbstractStringBuilder" "count" "I" (.int ((own_dg q0) + (2 : Int32)))) ∧ (Arv Z h ba kb .byte (16 : Int32) (own_buf2 q0 (own_dn q0) t0 t1) (.int (0 : Int32)))
set_option maxRecDepth 65536 in
set_option maxHeartbeats 40000000 in
theorem rm_aapps (l : Launch) (Z : State) (a0 : Array Value) (hw : ∀ d ∈ tables_1, d.before a0 Z = true) (ws : List Jvm.Cond) (o0 : Addr) (ba : Addr) (kb : ClassId) (q0 : Int32) (cs : Int32) (o1 : Addr) (sv : Addr) (ks : ClassId) (t0 : Int32) (t1 : Int32) (h0 : Heap) (n0 : Nat) (Z0 : n0 ≤ h0.size) (pE : Exa Z h0 o0 "java/lang/StringBuilder") (pg : n0 ≤ o0) (pgb : n0 ≤ ba) (pnb : ba ≠ o0) (pFv : Fld Z h0 o0 "java/lang/AbstractStringBuilder" "value" "[B" (.ref ba)) (pFc : Fld Z h0 o0 "java/lang/AbstractStringBuilder" "coder" "B" (.int (0 : Int32))) (hn : 0 ≤ q0.toInt) (pS : Sta Z h0 "java/lang/String" "COMPACT_STRINGS" "Z" (.int cs)) (pcs : ¬ (cs = (0 : Int32))) (pFn : Fld Z h0 o0 "java/lang/AbstractStringBuilder" "count" "I" (.int (own_dg q0))) (pV : Arv Z h0 ba kb .byte (16 : Int32) (own_buf q0 (own_dn q0)) (.int (0 : Int32))) (pE1 : Exa Z h0 o1 "java/lang/String") (pGv : Fld Z h0 o1 "java/lang/String" "value" "[B" (.ref sv)) (pGc : Fld Z h0 o1 "java/lang/String" "coder" "B" (.int (0 : Int32))) (pVs : Arv Z h0 sv ks .byte (2 : Int32) [(.int t0), (.int t1)] (.int (0 : Int32))) :
    MetFree l (⟨"java/lang/AbstractStringBuilder", "append", "(Ljava/lang/String;)Ljava/lang/AbstractStringBuilder;"⟩ : MethodName) (head1 (Jvm.Cond.code (⟨"java/lang/AbstractStringBuilder", "append", "(Ljava/lang/String;)Ljava/lang/AbstractStringBuilder;"⟩ : MethodName) jdk_68_method_22_code 3 (some (.object "java/lang/AbstractStringBuilder")) :: ws) ({ frames := 3, cells := 0, slots := 0, locals := 47 } : Room)) (fun a U => a = #[(.ref o0), (.ref o1)] ∧ Z.Warmed39 U.vm ∧ U.heap = h0) (fun _ _ _ _ _ => True) (fun _ U o U' => ∃ v L, o = .returned v ∧ Q_rm_aapps Z o0 ba kb q0 cs o1 sv ks t0 t1 h0 n0 v U'.heap L ∧ FrameEnd U o U' L ({ frames := 3, cells := 0, slots := 0, locals := 47 } : Room).cells ({ frames := 3, cells := 0, slots := 0, locals := 47 } : Room).slots) := by
  refine MetFree.of_bodySF (plainFor_of_name pn_5) hisR ?_
  intro p e s m args below meth c s₁ Bd hml0 hP hK
  obtain ⟨rfl, hZ, hh⟩ := hP
  have hx := Bd.exec
  have hby := Bd.bytes
  have hml : c.maxLocals = 3 := hml0
  have hown : s.vm.findClass "java/lang/AbstractStringBuilder" = some m.cls := findClass_of_methodNamed Bd.named
  have hnm := (name_of_methodNamed Bd.named Bd.method).1
  have X0 : Stand p l e ({ frames := 3, cells := 0, slots := 0, locals := 47 } : Room) s m #[(.ref o0), (.ref o1)] below meth c s₁ [] 0 0 := Stand.of_body Bd
  have e0 : s₁.heap = h0 := by rw [← hh, Bd.state]; rfl
  have N0 := Fr.nil n0
  have K0 : Keep h0 h0 [o0, ba] := Keep.refl _ _
  have R0 : Rch p e below (s₁.setTop (entryFrame m #[(.ref o0), (.ref o1)] 3)) s₁ (mkF m 0 #[.val (.ref o0), .val (.ref o1), .unset] []) := fun t k => castTop (ef_rm_aapps m o0 o1) k
  have R2 : Rch p e below (s₁.setTop (entryFrame m #[(.ref o0), (.ref o1)] 3)) s₁ (mkF m 10 #[.val (.ref o0), .val (.ref o1), .unset] [(.ref o1)]) := fun t k => by
    refine R0 t ?_
    refine XS.aloadN X0.here hx rfl (hb hby d12_0) rfl rfl ?_
    show Steps p.tables e below (s₁.setTop (mkF m 1 #[.val (.ref o0), .val (.ref o1), .unset] [(.ref o1)])) t
    refine XS.ifnonnullYes X0.here hx rfl (pc0 := 1) (pc' := 9) rfl (hb hby d12_1) rfl (by decide) (by decide) ?_
    show Steps p.tables e below (s₁.setTop (mkF m 9 #[.val (.ref o0), .val (.ref o1), .unset] [])) t
    refine XS.aloadN X0.here hx rfl (hb hby d12_9) rfl rfl ?_
    exact k
  obtain ⟨cq1, kq1, q1a, q1b, q1c⟩ := isOf hZ e0 pE1
  obtain ⟨_, _, ⟨T1, L1, k1, n1⟩, -, X1, ⟨Lc1, hQ1, l1, y1, z1⟩, st1⟩ := X0.virtualBack hx (y := (⟨"java/lang/String", "length", "()I"⟩ : MethodName)) (z := (⟨"java/lang/String", "length", "()I"⟩ : MethodName)) hown (mvT hZ (hw _ (List.mem_of_getElem? (i := 72) rfl))) (mvT hZ (hw _ (List.mem_of_getElem? (i := 73) rfl))) (notFace_of_selects (args := #[]) (mvT hZ (hw _ (List.mem_of_getElem? (i := 75) rfl)))) (mvT hZ (hw _ (List.mem_of_getElem? (i := 75) rfl))) (mvT hZ (hw _ (List.mem_of_getElem? (i := 74) rfl))) (by decide) (backOf (W := 0) (rm_length l Z a0 hw [] o1 cs sv ks (2 : Int32) [(.int t0), (.int t1)] h0 n0 (Nat.le_trans Z0 K0.1) pE1 pGv pGc pVs pS pcs) hZ (hw _ (List.mem_of_getElem? (i := 76) rfl)) (hw _ (List.mem_of_getElem? (i := 6) rfl)) (by decide) (by decide)) q1a q1c (g := (mkF m 10 #[.val (.ref o0), .val (.ref o1), .unset] [(.ref o1)])) rfl (by rw [hml]; rfl) (Steps.refl _) (argsL := []) (rest := []) (lenOf pd_11 rfl) rfl (by show 2 * 0 + _ ≤ _; exact Nat.le_of_eq rfl) (hb hby d12_10) (fun _ _ => ⟨rfl, e0, (by decide : 0 + 0 ≤ _), (by decide : 0 + 0 ≤ _)⟩)
  dsimp only [Pt.U, Pt.locs, Pt.cells, Pt.slots] at X1 l1 y1 z1 st1 hQ1
  subst l1 y1 z1
  obtain ⟨rfl, N1q, e1⟩ := hQ1
  have N1 := Fr.app N0 N1q
  have R4 : Rch p e below (s₁.setTop (entryFrame m #[(.ref o0), (.ref o1)] 3)) T1 (mkF m 16 #[.val (.ref o0), .val (.ref o1), .val (.int (2 : Int32))] [(.ref o0), (.ref o0)]) := fun t k => by
    refine R2 t ?_
    refine st1.trans ?_
    show Steps p.tables e below (T1.setTop (mkF m 13 #[.val (.ref o0), .val (.ref o1), .unset] [(.int (2 : Int32))])) t
    refine XS.istoreN X1.here hx rfl (hb hby d12_13) rfl (l' := #[.val (.ref o0), .val (.ref o1), .val (.int (2 : Int32))]) rfl ?_
    show Steps p.tables e below (T1.setTop (mkF m 14 #[.val (.ref o0), .val (.ref o1), .val (.int (2 : Int32))] [])) t
    refine XS.aloadN X1.here hx rfl (hb hby d12_14) rfl rfl ?_
    show Steps p.tables e below (T1.setTop (mkF m 15 #[.val (.ref o0), .val (.ref o1), .val (.int (2 : Int32))] [(.ref o0)])) t
    refine XS.aloadN X1.here hx rfl (hb hby d12_15) rfl rfl ?_
    exact k
  obtain ⟨T3, X3, e3, st3⟩ := getF X1 hx hZ hown (host := "") (Or.inl (hw _ (List.mem_of_getElem? (i := 43) rfl))) Via.refl e1 pFn (g := (mkF m 16 #[.val (.ref o0), .val (.ref o1), .val (.int (2 : Int32))] [(.ref o0), (.ref o0)])) rfl rfl (hb hby d12_16)
  have R6 : Rch p e below (s₁.setTop (entryFrame m #[(.ref o0), (.ref o1)] 3)) T3 (mkF m 21 #[.val (.ref o0), .val (.ref o1), .val (.int (2 : Int32))] [(.int ((own_dg q0) + (2 : Int32))), (.ref o0)]) := fun t k => by
    refine R4 t ?_
    refine st3 _ ?_
    show Steps p.tables e below (T3.setTop (mkF m 19 #[.val (.ref o0), .val (.ref o1), .val (.int (2 : Int32))] [(.int (own_dg q0)), (.ref o0)])) t
    refine XS.iloadN X3.here hx rfl (hb hby d12_19) rfl ?_
    show Steps p.tables e below (T3.setTop (mkF m 20 #[.val (.ref o0), .val (.ref o1), .val (.int (2 : Int32))] [(.int (2 : Int32)), (.int (own_dg q0)), (.ref o0)])) t
    refine XS.iadd X3.here hx rfl (hb hby d12_20) rfl ?_
    exact k
  obtain ⟨cq5, q5, q5'⟩ := pE.cell
  obtain ⟨_, _, ⟨T5, L5, k5, n5⟩, -, X5, ⟨Lc5, hQ5, l5, y5, z5⟩, st5⟩ := X3.privateBack hx (y := (⟨"java/lang/AbstractStringBuilder", "ensureCapacityInternal", "(I)V"⟩ : MethodName)) hown (mvT hZ (hw _ (List.mem_of_getElem? (i := 49) rfl))) (mvT hZ (hw _ (List.mem_of_getElem? (i := 50) rfl))) (own_selp2 hZ (hw _ (List.mem_of_getElem? (i := 52) rfl)) (hw _ (List.mem_of_getElem? (i := 51) rfl)) (hw _ (List.mem_of_getElem? (i := 50) rfl)) (by decide)) (Cond.privateMethod_at (mvP hZ (hw _ (List.mem_of_getElem? (i := 51) rfl)) (args := #[]))) (mvT hZ (hw _ (List.mem_of_getElem? (i := 53) rfl))) (by decide) (backOf (W := 0) (rm_ensure l Z a0 hw [] o0 ba kb (own_buf q0 (own_dn q0)) ((own_dg q0) + (2 : Int32)) h0 n0 (Nat.le_trans Z0 K0.1) pFv pFc pV (own_cap2 hn)) hZ (hw _ (List.mem_of_getElem? (i := 53) rfl)) (hw _ (List.mem_of_getElem? (i := 23) rfl)) (by decide) (by decide)) (g := (mkF m 21 #[.val (.ref o0), .val (.ref o1), .val (.int (2 : Int32))] [(.int ((own_dg q0) + (2 : Int32))), (.ref o0)])) rfl (by rw [hml]; rfl) (Steps.refl _) (a := o0) (by rw [e3]; exact q5) q5' (argsL := [(.int ((own_dg q0) + (2 : Int32)))]) (rest := []) (lenOf pd_6 rfl) rfl (by show 2 * 0 + _ ≤ _; exact Nat.le_of_eq rfl) (hb hby d12_21) (fun _ _ => ⟨rfl, e3, (by decide : 0 + 0 ≤ _), (by decide : 0 + 0 ≤ _)⟩)
  dsimp only [Pt.U, Pt.locs, Pt.cells, Pt.slots] at X5 l5 y5 z5 st5 hQ5
  subst l5 y5 z5
  obtain ⟨rfl, N5q, e5⟩ := hQ5
  have N5 := Fr.app N1 N5q
  have R8 : Rch p e below (s₁.setTop (entryFrame m #[(.ref o0), (.ref o1)] 3)) T5 (mkF m 26 #[.val (.ref o0), .val (.ref o1), .val (.int (2 : Int32))] [(.ref o0), (.ref o0)]) := fun t k => by
    refine R6 t ?_
    refine st5.trans ?_
    show Steps p.tables e below (T5.setTop (mkF m 24 #[.val (.ref o0), .val (.ref o1), .val (.int (2 : Int32))] [])) t
    refine XS.aloadN X5.here hx rfl (hb hby d12_24) rfl rfl ?_
    show Steps p.tables e below (T5.setTop (mkF m 25 #[.val (.ref o0), .val (.ref o1), .val (.int (2 : Int32))] [(.ref o0)])) t
    refine XS.aloadN X5.here hx rfl (hb hby d12_25) rfl rfl ?_
    exact k
  obtain ⟨T7, X7, e7, st7⟩ := getF X5 hx hZ hown (host := "") (Or.inl (hw _ (List.mem_of_getElem? (i := 43) rfl))) Via.refl e5 pFn (g := (mkF m 26 #[.val (.ref o0), .val (.ref o1), .val (.int (2 : Int32))] [(.ref o0), (.ref o0)])) rfl rfl (hb hby d12_26)
  have R10 : Rch p e below (s₁.setTop (entryFrame m #[(.ref o0), (.ref o1)] 3)) T7 (mkF m 30 #[.val (.ref o0), .val (.ref o1), .val (.int (2 : Int32))] [(.ref o1), (.int (own_dg q0)), (.ref o0)]) := fun t k => by
    refine R8 t ?_
    refine st7 _ ?_
    show Steps p.tables e below (T7.setTop (mkF m 29 #[.val (.ref o0), .val (.ref o1), .val (.int (2 : Int32))] [(.int (own_dg q0)), (.ref o0)])) t
    refine XS.aloadN X7.here hx rfl (hb hby d12_29) rfl rfl ?_
    exact k
  obtain ⟨cq9, q9, q9'⟩ := pE.cell
  obtain ⟨_, _, ⟨T9, L9, k9, n9⟩, -, X9, ⟨Lc9, hQ9, l9, y9, z9⟩, st9⟩ := X7.privateBack hx (y := (⟨"java/lang/AbstractStringBuilder", "putStringAt", "(ILjava/lang/String;)V"⟩ : MethodName)) hown (mvT hZ (hw _ (List.mem_of_getElem? (i := 85) rfl))) (mvT hZ (hw _ (List.mem_of_getElem? (i := 86) rfl))) (own_selp2 hZ (hw _ (List.mem_of_getElem? (i := 88) rfl)) (hw _ (List.mem_of_getElem? (i := 87) rfl)) (hw _ (List.mem_of_getElem? (i := 86) rfl)) (by decide)) (Cond.privateMethod_at (mvP hZ (hw _ (List.mem_of_getElem? (i := 87) rfl)) (args := #[]))) (mvT hZ (hw _ (List.mem_of_getElem? (i := 89) rfl))) (by decide) (backOf (W := 0) (rm_putat l Z a0 hw [] o0 ba kb q0 cs o1 sv ks t0 t1 h0 n0 (Nat.le_trans Z0 K0.1) pE pg pgb pnb pFv pFc hn pS pcs pFn pV pE1 pGv pGc pVs) hZ (hw _ (List.mem_of_getElem? (i := 89) rfl)) (hw _ (List.mem_of_getElem? (i := 23) rfl)) (by decide) (by decide)) (g := (mkF m 30 #[.val (.ref o0), .val (.ref o1), .val (.int (2 : Int32))] [(.ref o1), (.int (own_dg q0)), (.ref o0)])) rfl (by rw [hml]; rfl) (Steps.refl _) (a := o0) (by rw [e7]; exact q9) q9' (argsL := [(.int (own_dg q0)), (.ref o1)]) (rest := []) (lenOf pd_12 rfl) rfl (by show 2 * 0 + _ ≤ _; exact Nat.le_of_eq rfl) (hb hby d12_30) (fun _ _ => ⟨rfl, e7, (by decide : 0 + 0 ≤ _), (by decide : 0 + 0 ≤ _)⟩)
  dsimp only [Pt.U, Pt.locs, Pt.cells, Pt.slots] at X9 l9 y9 z9 st9 hQ9
  subst l9 y9 z9
  obtain ⟨rfl, N9q, Kc9, c9_arr⟩ := hQ9
  have N9 := Fr.app N5 N9q
  have K9 : Keep h0 T9.heap [o0, ba] := K0.trans Kc9 (allS (Or.inl (List.mem_of_getElem? (i := 1) rfl)) all0)
  have R12 : Rch p e below (s₁.setTop (entryFrame m #[(.ref o0), (.ref o1)] 3)) T9 (mkF m 35 #[.val (.ref o0), .val (.ref o1), .val (.int (2 : Int32))] [(.ref o0), (.ref o0)]) := fun t k => by
    refine R10 t ?_
    refine st9.trans ?_
    show Steps p.tables e below (T9.setTop (mkF m 33 #[.val (.ref o0), .val (.ref o1), .val (.int (2 : Int32))] [])) t
    refine XS.aloadN X9.here hx rfl (hb hby d12_33) rfl rfl ?_
    show Steps p.tables e below (T9.setTop (mkF m 34 #[.val (.ref o0), .val (.ref o1), .val (.int (2 : Int32))] [(.ref o0)])) t
    refine XS.dup X9.here hx rfl (hb hby d12_34) rfl rfl ?_
    exact k
  obtain ⟨T11, X11, e11, st11⟩ := getF X9 hx hZ hown (host := "") (Or.inl (hw _ (List.mem_of_getElem? (i := 43) rfl))) Via.refl rfl (pFn.keep Kc9 (ninS (Ne.symm pnb) nin0)) (g := (mkF m 35 #[.val (.ref o0), .val (.ref o1), .val (.int (2 : Int32))] [(.ref o0), (.ref o0)])) rfl rfl (hb hby d12_35)
  have R14 : Rch p e below (s₁.setTop (entryFrame m #[(.ref o0), (.ref o1)] 3)) T11 (mkF m 40 #[.val (.ref o0), .val (.ref o1), .val (.int (2 : Int32))] [(.int ((own_dg q0) + (2 : Int32))), (.ref o0)]) := fun t k => by
    refine R12 t ?_
    refine st11 _ ?_
    show Steps p.tables e below (T11.setTop (mkF m 38 #[.val (.ref o0), .val (.ref o1), .val (.int (2 : Int32))] [(.int (own_dg q0)), (.ref o0)])) t
    refine XS.iloadN X11.here hx rfl (hb hby d12_38) rfl ?_
    show Steps p.tables e below (T11.setTop (mkF m 39 #[.val (.ref o0), .val (.ref o1), .val (.int (2 : Int32))] [(.int (2 : Int32)), (.int (own_dg q0)), (.ref o0)])) t
    refine XS.iadd X11.here hx rfl (hb hby d12_39) rfl ?_
    exact k
  have f13 := (pFn.keep Kc9 (ninS (Ne.symm pnb) nin0))
  obtain ⟨T15, h15, X15, e15, W15, st15⟩ := putF X11 hx hZ hown (host := "") (Or.inl (hw _ (List.mem_of_getElem? (i := 43) rfl))) Via.refl e11 f13 (pE.keep Kc9) (Or.inl (hw _ (List.mem_of_getElem? (i := 44) rfl))) (hw _ (List.mem_of_getElem? (i := 14) rfl)) (ty := .int) (by decide) rfl rfl (g := (mkF m 40 #[.val (.ref o0), .val (.ref o1), .val (.int (2 : Int32))] [(.int ((own_dg q0) + (2 : Int32))), (.ref o0)])) rfl rfl (hb hby d12_40)
  have Fw15 := f13.same W15
  have K15 : Keep h0 h15 [o0, ba] := K9.wr W15 (Or.inl (List.mem_of_getElem? (i := 0) rfl))
  have N15 := Fr.snoc X15 N9 pg
  have R16 : Rch p e below (s₁.setTop (entryFrame m #[(.ref o0), (.ref o1)] 3)) T15 (mkF m 44 #[.val (.ref o0), .val (.ref o1), .val (.int (2 : Int32))] [(.ref o0)]) := fun t k => by
    refine R14 t ?_
    refine st15 _ ?_
    show Steps p.tables e below (T15.setTop (mkF m 43 #[.val (.ref o0), .val (.ref o1), .val (.int (2 : Int32))] [])) t
    refine XS.aloadN X15.here hx rfl (hb hby d12_43) rfl rfl ?_
    exact k
  obtain ⟨fs, hr, hrun, hended, hW, hsame⟩ := X15.leave (v := some (.ref o0)) (fun h => by rw [Bd.returns] at h; cases h) (BodyLoose.notSynchronized Bd)
  refine ⟨_, _, R16 _ ?_, hrun, hended, _, _, rfl, ?_, ⟨_, rfl⟩, hW, hsame.mono (by decide) (by decide)⟩
  · jvm_step X15.here [X15.here.top, hx, (hb hby d12_44), X15.method', Bd.returns, Value.isRef, FieldType.isReference]
    first | (intro acts; rw [hr _ acts rfl rfl rfl]) | rw [hr _ _ rfl rfl rfl]
    exact Steps.refl _
  · show Q_rm_aapps Z o0 ba kb q0 cs o1 sv ks t0 t1 h0 n0 _ T15.heap _
    rw [e15]
    exact ⟨rfl, N15, K15, ((pE.keep Kc9).wr W15), ((pFv.keep Kc9 (ninS (Ne.symm pnb) nin0)).other W15 (Or.inr (slot_ne (Or.inl (hw _ (List.mem_of_getElem? (i := 30) rfl))) (Or.inl (hw _ (List.mem_of_getElem? (i := 44) rfl))) (by decide) (t := (.array .byte)) (t' := .int) (by decide) (by decide)))), ((pFc.keep Kc9 (ninS (Ne.symm pnb) nin0)).other W15 (Or.inr (slot_ne (Or.inl (hw _ (List.mem_of_getElem? (i := 32) rfl))) (Or.inl (hw _ (List.mem_of_getElem? (i := 44) rfl))) (by decide) (t := .byte) (t' := .int) (by decide) (by decide)))), Fw15, (c9_arr.other W15 pnb)⟩
theorem d11_0 : decode jdk_67_method_7_code 0 = .ok (.aload_n 0, 1) := by decide +kernel
theorem d11_1 : decode jdk_67_method_7_code 1 = .ok (.aload_n 1, 1) := by decide +kernel
theorem d11_2 : decode jdk_67_method_7_code 2 = .ok (.invokespecial 29, 3) := by decide +kernel
theorem pd_13 : parseMethodDescriptor "(Ljava/lang/String;)Ljava/lang/AbstractStringBuilder;" = some ⟨[(.object "java/lang/String")], some (.object "java/lang/AbstractStringBuilder")⟩ := by decide +kernel
theorem d11_5 : decode jdk_67_method_7_code 5 = .ok (.pop, 1) := by decide +kernel
theorem d11_6 : decode jdk_67_method_7_code 6 = .ok (.aload_n 0, 1) := by decide +kernel
theorem d11_7 : decode jdk_67_method_7_code 7 = .ok (.areturn, 1) := by decide +kernel
theorem ef_rm_apps (m : MethodId) (x0 : Addr) (x1 : Addr) : entryFrame m #[(.ref x0), (.ref x1)] 2 = mkF m 0 #[.val (.ref x0), .val (.ref x1)] [] := by first | (simp [entryFrame, mkF, argsToLocals, Value.category]; done) | rfl
def Q_rm_apps (Z : State) (o0 : Addr) (ba : Addr) (kb : ClassId) (q0 : Int32) (cs : Int32) (o1 : Addr) (sv : Addr) (ks : ClassId) (t0 : Int32) (t1 : Int32) (h0 : Heap) (n0 : Nat) (v : Option Value) (h : Heap) (L : List Loc) : Prop := (v = some (.ref o0)) ∧ (Fr n0 L) ∧ (Keep h0 h [o0, ba]) ∧ (Exa Z h o0 "java/lang/StringBuilder") ∧ (Fld Z h o0 "java/lang/AbstractStringBuilder" "value" "[B" (.ref ba)) ∧ (Fld Z h o0 "java/lang/AbstractStringBuilder" "coder" "B" (.int (0 : Int32))) ∧ (Fld Z h o0 "java/lang/AbstractStringBuilder" "count" "I" (.int ((own_dg q0) + (2 : Int32)))) ∧ (Arv Z h ba kb .byte (16 : Int32) (own_buf2 q0 (own_dn q0) t0 t1) (.int (0 : Int32)))
set_option maxRecDepth 65536 in
set_option maxHeartbeats 40000000 in
theorem rm_apps (l : Launch) (Z : State) (a0 : Array Value) (hw : ∀ d ∈ tables_1, d.before a0 Z = true) (ws : List Jvm.Cond) (o0 : Addr) (ba : Addr) (kb : ClassId) (q0 : Int32) (cs : Int32) (o1 : Addr) (sv : Addr) (ks : ClassId) (t0 : Int32) (t1 : Int32) (h0 : Heap) (n0 : Nat) (Z0 : n0 ≤ h0.size) (pE : Exa Z h0 o0 "java/lang/StringBuilder") (pg : n0 ≤ o0) (pgb : n0 ≤ ba) (pnb : ba ≠ o0) (pFv : Fld Z h0 o0 "java/lang/AbstractStringBuilder" "value" "[B" (.ref ba)) (pFc : Fld Z h0 o0 "java/lang/AbstractStringBuilder" "coder" "B" (.int (0 : Int32))) (hn : 0 ≤ q0.toInt) (pS : Sta Z h0 "java/lang/String" "COMPACT_STRINGS" "Z" (.int cs)) (pcs : ¬ (cs = (0 : Int32))) (pFn : Fld Z h0 o0 "java/lang/AbstractStringBuilder" "count" "I" (.int (own_dg q0))) (pV : Arv Z h0 ba kb .byte (16 : Int32) (own_buf q0 (own_dn q0)) (.int (0 : Int32))) (pE1 : Exa Z h0 o1 "java/lang/String") (pGv : Fld Z h0 o1 "java/lang/String" "value" "[B" (.ref sv)) (pGc : Fld Z h0 o1 "java/lang/String" "coder" "B" (.int (0 : Int32))) (pVs : Arv Z h0 sv ks .byte (2 : Int32) [(.int t0), (.int t1)] (.int (0 : Int32))) :
    MetFree l (⟨"java/lang/StringBuilder", "append", "(Ljava/lang/String;)Ljava/lang/StringBuilder;"⟩ : MethodName) (head1 (Jvm.Cond.code (⟨"java/lang/StringBuilder", "append", "(Ljava/lang/String;)Ljava/lang/StringBuilder;"⟩ : MethodName) jdk_67_method_7_code 2 (some (.object "java/lang/StringBuilder")) :: ws) ({ frames := 4, cells := 0, slots := 0, locals := 61 } : Room)) (fun a U => a = #[(.ref o0), (.ref o1)] ∧ Z.Warmed39 U.vm ∧ U.heap = h0) (fun _ _ _ _ _ => True) (fun _ U o U' => ∃ v L, o = .returned v ∧ Q_rm_apps Z o0 ba kb q0 cs o1 sv ks t0 t1 h0 n0 v U'.heap L ∧ FrameEnd U o U' L ({ frames := 4, cells := 0, slots := 0, locals := 61 } : Room).cells ({ frames := 4, cells := 0, slots := 0, locals := 61 } : Room).slots) := by
  refine MetFree.of_bodySF (plainFor_of_name pn_6) hisR ?_
  intro p e s m args below meth c s₁ Bd hml0 hP hK
  obtain ⟨rfl, hZ, hh⟩ := hP
  have hx := Bd.exec
  have hby := Bd.bytes
  have hml : c.maxLocals = 2 := hml0
  have hown : s.vm.findClass "java/lang/StringBuilder" = some m.cls := findClass_of_methodNamed Bd.named
  have hnm := (name_of_methodNamed Bd.named Bd.method).1
  have X0 : Stand p l e ({ frames := 4, cells := 0, slots := 0, locals := 61 } : Room) s m #[(.ref o0), (.ref o1)] below meth c s₁ [] 0 0 := Stand.of_body Bd
  have e0 : s₁.heap = h0 := by rw [← hh, Bd.state]; rfl
  have N0 := Fr.nil n0
  have K0 : Keep h0 h0 [o0, ba] := Keep.refl _ _
  have R0 : Rch p e below (s₁.setTop (entryFrame m #[(.ref o0), (.ref o1)] 2)) s₁ (mkF m 0 #[.val (.ref o0), .val (.ref o1)] []) := fun t k => castTop (ef_rm_apps m o0 o1) k
  have R2 : Rch p e below (s₁.setTop (entryFrame m #[(.ref o0), (.ref o1)] 2)) s₁ (mkF m 2 #[.val (.ref o0), .val (.ref o1)] [(.ref o1), (.ref o0)]) := fun t k => by
    refine R0 t ?_
    refine XS.aloadN X0.here hx rfl (hb hby d11_0) rfl rfl ?_
    show Steps p.tables e below (s₁.setTop (mkF m 1 #[.val (.ref o0), .val (.ref o1)] [(.ref o0)])) t
    refine XS.aloadN X0.here hx rfl (hb hby d11_1) rfl rfl ?_
    exact k
  obtain ⟨_, _, ⟨T1, L1, k1, n1⟩, -, X1, ⟨Lc1, hQ1, l1, y1, z1⟩, st1⟩ := superBack X0 hx hZ (y := (⟨"java/lang/AbstractStringBuilder", "append", "(Ljava/lang/String;)Ljava/lang/AbstractStringBuilder;"⟩ : MethodName)) hown (hw _ (List.mem_of_getElem? (i := 68) rfl)) (own_same (hw _ (List.mem_of_getElem? (i := 69) rfl)) (hw _ (List.mem_of_getElem? (i := 52) rfl)) (hw _ (List.mem_of_getElem? (i := 50) rfl)) rfl (by decide)) (hw _ (List.mem_of_getElem? (i := 69) rfl)) (hw _ (List.mem_of_getElem? (i := 40) rfl)) (by decide) (backOf (W := 0) (rm_aapps l Z a0 hw [] o0 ba kb q0 cs o1 sv ks t0 t1 h0 n0 (Nat.le_trans Z0 K0.1) pE pg pgb pnb pFv pFc hn pS pcs pFn pV pE1 pGv pGc pVs) hZ (hw _ (List.mem_of_getElem? (i := 71) rfl)) (hw _ (List.mem_of_getElem? (i := 23) rfl)) (by decide) (by decide)) e0 (Ins.self pE) (g := (mkF m 2 #[.val (.ref o0), .val (.ref o1)] [(.ref o1), (.ref o0)])) rfl (by rw [hml]; rfl) (hw _ (List.mem_of_getElem? (i := 71) rfl)) (argsL := [(.ref o1)]) (rest := []) (lenOf pd_13 rfl) rfl (by show 2 * 0 + _ ≤ _; exact Nat.le_of_eq rfl) (hb hby d11_2) (fun _ _ => ⟨rfl, e0, (by decide : 0 + 0 ≤ _), (by decide : 0 + 0 ≤ _)⟩)
  dsimp only [Pt.U, Pt.locs, Pt.cells, Pt.slots] at X1 l1 y1 z1 st1 hQ1
  subst l1 y1 z1
  obtain ⟨rfl, N1q, Kc1, c1_E, c1_Fv, c1_Fc, c1_Fn, c1_arr⟩ := hQ1
  have N1 := Fr.app N0 N1q
  have K1 : Keep h0 T1.heap [o0, ba] := K0.trans Kc1 (allS (Or.inl (List.mem_of_getElem? (i := 0) rfl)) (allS (Or.inl (List.mem_of_getElem? (i := 1) rfl)) all0))
  have R3 : Rch p e below (s₁.setTop (entryFrame m #[(.ref o0), (.ref o1)] 2)) T1 (mkF m 7 #[.val (.ref o0), .val (.ref o1)] [(.ref o0)]) := fun t k => by
    refine R2 t ?_
    refine st1.trans ?_
    show Steps p.tables e below (T1.setTop (mkF m 5 #[.val (.ref o0), .val (.ref o1)] [(.ref o0)])) t
    refine XS.pop X1.here hx rfl (hb hby d11_5) rfl rfl ?_
    show Steps p.tables e below (T1.setTop (mkF m 6 #[.val (.ref o0), .val (.ref o1)] [])) t
    refine XS.aloadN X1.here hx rfl (hb hby d11_6) rfl rfl ?_
    exact k
  obtain ⟨fs, hr, hrun, hended, hW, hsame⟩ := X1.leave (v := some (.ref o0)) (fun h => by rw [Bd.returns] at h; cases h) (BodyLoose.notSynchronized Bd)
  refine ⟨_, _, R3 _ ?_, hrun, hended, _, _, rfl, ?_, ⟨_, rfl⟩, hW, hsame.mono (by decide) (by decide)⟩
  · jvm_step X1.here [X1.here.top, hx, (hb hby d11_7), X1.method', Bd.returns, Value.isRef, FieldType.isReference]
    first | (intro acts; rw [hr _ acts rfl rfl rfl]) | rw [hr _ _ rfl rfl rfl]
    exact Steps.refl _
  · show Q_rm_apps Z o0 ba kb q0 cs o1 sv ks t0 t1 h0 n0 _ T1.heap _
    exact ⟨rfl, N1, K1, c1_E, c1_Fv, c1_Fc, c1_Fn, c1_arr⟩
theorem d21_0 : decode jdk_68_method_64_code 0 = .ok (.aload_n 0, 1) := by decide +kernel
theorem d21_1 : decode jdk_68_method_64_code 1 = .ok (.getfield 15, 3) := by decide +kernel
theorem d21_4 : decode jdk_68_method_64_code 4 = .ok (.areturn, 1) := by decide +kernel
theorem ef_rm_getv (m : MethodId) (x0 : Addr) : entryFrame m #[(.ref x0)] 1 = mkF m 0 #[.val (.ref x0)] [] := by first | (simp [entryFrame, mkF, argsToLocals, Value.category]; done) | rfl
def Q_rm_getv (Z : State) (o0 : Addr) (ba : Addr) (h0 : Heap) (n0 : Nat) (v : Option Value) (h : Heap) (L : List Loc) : Prop := (v = some (.ref ba)) ∧ (Fr n0 L) ∧ (h = h0)
set_option maxRecDepth 65536 in
set_option maxHeartbeats 40000000 in
theorem rm_getv (l : Launch) (Z : State) (a0 : Array Value) (hw : ∀ d ∈ tables_1, d.before a0 Z = true) (ws : List Jvm.Cond) (o0 : Addr) (ba : Addr) (h0 : Heap) (n0 : Nat) (Z0 : n0 ≤ h0.size) (pFv : Fld Z h0 o0 "java/lang/AbstractStringBuilder" "value" "[B" (.ref ba)) :
    MetFree l (⟨"java/lang/AbstractStringBuilder", "getValue", "()[B"⟩ : MethodName) (head1 (Jvm.Cond.code (⟨"java/lang/AbstractStringBuilder", "getValue", "()[B"⟩ : MethodName) jdk_68_method_64_code 1 (some (.array .byte)) :: ws) ({ frames := 0, cells := 0, slots := 0, locals := 0 } : Room)) (fun a U => a = #[(.ref o0)] ∧ Z.Warmed39 U.vm ∧ U.heap = h0) (fun _ _ _ _ _ => True) (fun _ U o U' => ∃ v L, o = .returned v ∧ Q_rm_getv Z o0 ba h0 n0 v U'.heap L ∧ FrameEnd U o U' L ({ frames := 0, cells := 0, slots := 0, locals := 0 } : Room).cells ({ frames := 0, cells := 0, slots := 0, locals := 0 } : Room).slots) := by
  refine MetFree.of_bodySF (plainFor_of_name pn_5) hisR ?_
  intro p e s m args below meth c s₁ Bd hml0 hP hK
  obtain ⟨rfl, hZ, hh⟩ := hP
  have hx := Bd.exec
  have hby := Bd.bytes
  have hml : c.maxLocals = 1 := hml0
  have hown : s.vm.findClass "java/lang/AbstractStringBuilder" = some m.cls := findClass_of_methodNamed Bd.named
  have hnm := (name_of_methodNamed Bd.named Bd.method).1
  have X0 : Stand p l e ({ frames := 0, cells := 0, slots := 0, locals := 0 } : Room) s m #[(.ref o0)] below meth c s₁ [] 0 0 := Stand.of_body Bd
  have e0 : s₁.heap = h0 := by rw [← hh, Bd.state]; rfl
  have N0 := Fr.nil n0
  have K0 : Keep h0 h0 [] := Keep.refl _ _
  have R0 : Rch p e below (s₁.setTop (entryFrame m #[(.ref o0)] 1)) s₁ (mkF m 0 #[.val (.ref o0)] []) := fun t k => castTop (ef_rm_getv m o0) k
  have R2 : Rch p e below (s₁.setTop (entryFrame m #[(.ref o0)] 1)) s₁ (mkF m 1 #[.val (.ref o0)] [(.ref o0)]) := fun t k => by
    refine R0 t ?_
    refine XS.aloadN X0.here hx rfl (hb hby d21_0) rfl rfl ?_
    exact k
  obtain ⟨T1, X1, e1, st1⟩ := getF X0 hx hZ hown (host := "") (Or.inl (hw _ (List.mem_of_getElem? (i := 29) rfl))) Via.refl e0 pFv (g := (mkF m 1 #[.val (.ref o0)] [(.ref o0)])) rfl rfl (hb hby d21_1)
  have R3 : Rch p e below (s₁.setTop (entryFrame m #[(.ref o0)] 1)) T1 (mkF m 4 #[.val (.ref o0)] [(.ref ba)]) := fun t k => by
    refine R2 t ?_
    refine st1 _ ?_
    exact k
  obtain ⟨fs, hr, hrun, hended, hW, hsame⟩ := X1.leave (v := some (.ref ba)) (fun h => by rw [Bd.returns] at h; cases h) (BodyLoose.notSynchronized Bd)
  refine ⟨_, _, R3 _ ?_, hrun, hended, _, _, rfl, ?_, ⟨_, rfl⟩, hW, hsame.mono (by decide) (by decide)⟩
  · jvm_step X1.here [X1.here.top, hx, (hb hby d21_4), X1.method', Bd.returns, Value.isRef, FieldType.isReference]
    first | (intro acts; rw [hr _ acts rfl rfl rfl]) | rw [hr _ _ rfl rfl rfl]
    exact Steps.refl _
  · show Q_rm_getv Z o0 ba h0 n0 _ T1.heap _
    rw [e1]
    exact ⟨rfl, N0, rfl⟩
theorem d23_0 : decode jdk_68_method_6_code 0 = .ok (.aload_n 0, 1) := by decide +kernel
theorem d23_1 : decode jdk_68_method_6_code 1 = .ok (.getfield 79, 3) := by decide +kernel
theorem d23_4 : decode jdk_68_method_6_code 4 = .ok (.ireturn, 1) := by decide +kernel
theorem ef_rm_alen (m : MethodId) (x0 : Addr) : entryFrame m #[(.ref x0)] 1 = mkF m 0 #[.val (.ref x0)] [] := by first | (simp [entryFrame, mkF, argsToLocals, Value.category]; done) | rfl
def Q_rm_alen (Z : State) (o0 : Addr) (q1 : Int32) (h0 : Heap) (n0 : Nat) (v : Option Value) (h : Heap) (L : List Loc) : Prop := (v = some (.int q1)) ∧ (Fr n0 L) ∧ (h = h0)
set_option maxRecDepth 65536 in
set_option maxHeartbeats 40000000 in
theorem rm_alen (l : Launch) (Z : State) (a0 : Array Value) (hw : ∀ d ∈ tables_1, d.before a0 Z = true) (ws : List Jvm.Cond) (o0 : Addr) (q1 : Int32) (h0 : Heap) (n0 : Nat) (Z0 : n0 ≤ h0.size) (pFn : Fld Z h0 o0 "java/lang/AbstractStringBuilder" "count" "I" (.int q1)) :
    MetFree l (⟨"java/lang/AbstractStringBuilder", "length", "()I"⟩ : MethodName) (head1 (Jvm.Cond.code (⟨"java/lang/AbstractStringBuilder", "length", "()I"⟩ : MethodName) jdk_68_method_6_code 1 (some .int) :: ws) ({ frames := 0, cells := 0, slots := 0, locals := 0 } : Room)) (fun a U => a = #[(.ref o0)] ∧ Z.Warmed39 U.vm ∧ U.heap = h0) (fun _ _ _ _ _ => True) (fun _ U o U' => ∃ v L, o = .returned v ∧ Q_rm_alen Z o0 q1 h0 n0 v U'.heap L ∧ FrameEnd U o U' L ({ frames := 0, cells := 0, slots := 0, locals := 0 } : Room).cells ({ frames := 0, cells := 0, slots := 0, locals := 0 } : Room).slots) := by
  refine MetFree.of_bodySF (plainFor_of_name pn_5) hisR ?_
  intro p e s m args below meth c s₁ Bd hml0 hP hK
  obtain ⟨rfl, hZ, hh⟩ := hP
  have hx := Bd.exec
  have hby := Bd.bytes
  have hml : c.maxLocals = 1 := hml0
  have hown : s.vm.findClass "java/lang/AbstractStringBuilder" = some m.cls := findClass_of_methodNamed Bd.named
  have hnm := (name_of_methodNamed Bd.named Bd.method).1
  have X0 : Stand p l e ({ frames := 0, cells := 0, slots := 0, locals := 0 } : Room) s m #[(.ref o0)] below meth c s₁ [] 0 0 := Stand.of_body Bd
  have e0 : s₁.heap = h0 := by rw [← hh, Bd.state]; rfl
  have N0 := Fr.nil n0
  have K0 : Keep h0 h0 [] := Keep.refl _ _
  have R0 : Rch p e below (s₁.setTop (entryFrame m #[(.ref o0)] 1)) s₁ (mkF m 0 #[.val (.ref o0)] []) := fun t k => castTop (ef_rm_alen m o0) k
  have R2 : Rch p e below (s₁.setTop (entryFrame m #[(.ref o0)] 1)) s₁ (mkF m 1 #[.val (.ref o0)] [(.ref o0)]) := fun t k => by
    refine R0 t ?_
    refine XS.aloadN X0.here hx rfl (hb hby d23_0) rfl rfl ?_
    exact k
  obtain ⟨T1, X1, e1, st1⟩ := getF X0 hx hZ hown (host := "") (Or.inl (hw _ (List.mem_of_getElem? (i := 43) rfl))) Via.refl e0 pFn (g := (mkF m 1 #[.val (.ref o0)] [(.ref o0)])) rfl rfl (hb hby d23_1)
  have R3 : Rch p e below (s₁.setTop (entryFrame m #[(.ref o0)] 1)) T1 (mkF m 4 #[.val (.ref o0)] [(.int q1)]) := fun t k => by
    refine R2 t ?_
    refine st1 _ ?_
    exact k
  obtain ⟨fs, hr, hrun, hended, hW, hsame⟩ := X1.leave (v := some (.int q1)) (fun h => by rw [Bd.returns] at h; cases h) (BodyLoose.notSynchronized Bd)
  refine ⟨_, _, R3 _ ?_, hrun, hended, _, _, rfl, ?_, ⟨_, rfl⟩, hW, hsame.mono (by decide) (by decide)⟩
  · exact retI X1 hx Bd.returns (hb hby d23_4) hr
  · show Q_rm_alen Z o0 q1 h0 n0 _ T1.heap _
    rw [e1]
    exact ⟨rfl, N0, rfl⟩
theorem d22_0 : decode jdk_67_method_93_code 0 = .ok (.aload_n 0, 1) := by decide +kernel
theorem d22_1 : decode jdk_67_method_93_code 1 = .ok (.invokespecial 343, 3) := by decide +kernel
theorem d22_4 : decode jdk_67_method_93_code 4 = .ok (.ireturn, 1) := by decide +kernel
theorem ef_rm_slen (m : MethodId) (x0 : Addr) : entryFrame m #[(.ref x0)] 1 = mkF m 0 #[.val (.ref x0)] [] := by first | (simp [entryFrame, mkF, argsToLocals, Value.category]; done) | rfl
def Q_rm_slen (Z : State) (o0 : Addr) (q1 : Int32) (h0 : Heap) (n0 : Nat) (v : Option Value) (h : Heap) (L : List Loc) : Prop := (v = some (.int q1)) ∧ (Fr n0 L) ∧ (h = h0)
set_option maxRecDepth 65536 in
set_option maxHeartbeats 40000000 in
theorem rm_slen (l : Launch) (Z : State) (a0 : Array Value) (hw : ∀ d ∈ tables_1, d.before a0 Z = true) (ws : List Jvm.Cond) (o0 : Addr) (q1 : Int32) (h0 : Heap) (n0 : Nat) (Z0 : n0 ≤ h0.size) (pE : Exa Z h0 o0 "java/lang/StringBuilder") (pFn : Fld Z h0 o0 "java/lang/AbstractStringBuilder" "count" "I" (.int q1)) :
    MetFree l (⟨"java/lang/StringBuilder", "length", "()I"⟩ : MethodName) (head1 (Jvm.Cond.code (⟨"java/lang/StringBuilder", "length", "()I"⟩ : MethodName) jdk_67_method_93_code 1 (some .int) :: ws) ({ frames := 1, cells := 0, slots := 0, locals := 12 } : Room)) (fun a U => a = #[(.ref o0)] ∧ Z.Warmed39 U.vm ∧ U.heap = h0) (fun _ _ _ _ _ => True) (fun _ U o U' => ∃ v L, o = .returned v ∧ Q_rm_slen Z o0 q1 h0 n0 v U'.heap L ∧ FrameEnd U o U' L ({ frames := 1, cells := 0, slots := 0, locals := 12 } : Room).cells ({ frames := 1, cells := 0, slots := 0, locals := 12 } : Room).slots) := by
  refine MetFree.of_bodySF (plainFor_of_name pn_6) hisR ?_
  intro p e s m args below meth c s₁ Bd hml0 hP hK
  obtain ⟨rfl, hZ, hh⟩ := hP
  have hx := Bd.exec
  have hby := Bd.bytes
  have hml : c.maxLocals = 1 := hml0
  have hown : s.vm.findClass "java/lang/StringBuilder" = some m.cls := findClass_of_methodNamed Bd.named
  have hnm := (name_of_methodNamed Bd.named Bd.method).1
  have X0 : Stand p l e ({ frames := 1, cells := 0, slots := 0, locals := 12 } : Room) s m #[(.ref o0)] below meth c s₁ [] 0 0 := Stand.of_body Bd
  have e0 : s₁.heap = h0 := by rw [← hh, Bd.state]; rfl
  have N0 := Fr.nil n0
  have K0 : Keep h0 h0 [] := Keep.refl _ _
  have R0 : Rch p e below (s₁.setTop (entryFrame m #[(.ref o0)] 1)) s₁ (mkF m 0 #[.val (.ref o0)] []) := fun t k => castTop (ef_rm_slen m o0) k
  have R2 : Rch p e below (s₁.setTop (entryFrame m #[(.ref o0)] 1)) s₁ (mkF m 1 #[.val (.ref o0)] [(.ref o0)]) := fun t k => by
    refine R0 t ?_
    refine XS.aloadN X0.here hx rfl (hb hby d22_0) rfl rfl ?_
    exact k
  obtain ⟨_, _, ⟨T1, L1, k1, n1⟩, -, X1, ⟨Lc1, hQ1, l1, y1, z1⟩, st1⟩ := superBack X0 hx hZ (y := (⟨"java/lang/AbstractStringBuilder", "length", "()I"⟩ : MethodName)) hown (hw _ (List.mem_of_getElem? (i := 130) rfl)) (own_same (hw _ (List.mem_of_getElem? (i := 126) rfl)) (hw _ (List.mem_of_getElem? (i := 52) rfl)) (hw _ (List.mem_of_getElem? (i := 50) rfl)) rfl (by decide)) (hw _ (List.mem_of_getElem? (i := 126) rfl)) (hw _ (List.mem_of_getElem? (i := 40) rfl)) (by decide) (backOf (W := 0) (rm_alen l Z a0 hw [] o0 q1 h0 n0 (Nat.le_trans Z0 K0.1) pFn) hZ (hw _ (List.mem_of_getElem? (i := 131) rfl)) (hw _ (List.mem_of_getElem? (i := 23) rfl)) (by decide) (by decide)) e0 (Ins.self pE) (g := (mkF m 1 #[.val (.ref o0)] [(.ref o0)])) rfl (by rw [hml]; rfl) (hw _ (List.mem_of_getElem? (i := 131) rfl)) (argsL := []) (rest := []) (lenOf pd_11 rfl) rfl (by show 2 * 0 + _ ≤ _; exact Nat.le_of_eq rfl) (hb hby d22_1) (fun _ _ => ⟨rfl, e0, (by decide : 0 + 0 ≤ _), (by decide : 0 + 0 ≤ _)⟩)
  dsimp only [Pt.U, Pt.locs, Pt.cells, Pt.slots] at X1 l1 y1 z1 st1 hQ1
  subst l1 y1 z1
  obtain ⟨rfl, N1q, e1⟩ := hQ1
  have N1 := Fr.app N0 N1q
  have R3 : Rch p e below (s₁.setTop (entryFrame m #[(.ref o0)] 1)) T1 (mkF m 4 #[.val (.ref o0)] [(.int q1)]) := fun t k => by
    refine R2 t ?_
    refine st1.trans ?_
    exact k
  obtain ⟨fs, hr, hrun, hended, hW, hsame⟩ := X1.leave (v := some (.int q1)) (fun h => by rw [Bd.returns] at h; cases h) (BodyLoose.notSynchronized Bd)
  refine ⟨_, _, R3 _ ?_, hrun, hended, _, _, rfl, ?_, ⟨_, rfl⟩, hW, hsame.mono (by decide) (by decide)⟩
  · exact retI X1 hx Bd.returns (hb hby d22_4) hr
  · show Q_rm_slen Z o0 q1 h0 n0 _ T1.heap _
    rw [e1]
    exact ⟨rfl, N1, rfl⟩
theorem d26_0 : decode jdk_65_method_131_code 0 = .ok (.iload_n 1, 1) := by decide +kernel
theorem d26_1 : decode jdk_65_method_131_code 1 = .ok (.iload_n 0, 1) := by decide +kernel
theorem d26_2 : decode jdk_65_method_131_code 2 = .ok (.if_icmp .ge 35, 3) := by decide +kernel
theorem d26_37 : decode jdk_65_method_131_code 37 = .ok (.return_, 1) := by decide +kernel
theorem ef_rm_ckl (m : MethodId) (x0 : Int32) (x1 : Int32) : entryFrame m #[(.int x0), (.int x1)] 2 = mkF m 0 #[.val (.int x0), .val (.int x1)] [] := by first | (simp [entryFrame, mkF, argsToLocals, Value.category]; done) | rfl
theorem pn_7 : plainName "java/util/Arrays" = true := by first | (simp [plainName, overriddenIn]; done) | decide +kernel
def Q_rm_ckl (Z : State) (q1 : Int32) (h0 : Heap) (n0 : Nat) (v : Option Value) (h : Heap) (L : List Loc) : Prop := (v = none) ∧ (Fr n0 L) ∧ (h = h0)
set_option maxRecDepth 65536 in
set_option maxHeartbeats 40000000 in
theorem rm_ckl (l : Launch) (Z : State) (a0 : Array Value) (hw : ∀ d ∈ tables_1, d.before a0 Z = true) (ws : List Jvm.Cond) (q1 : Int32) (h0 : Heap) (n0 : Nat) (Z0 : n0 ≤ h0.size) (p1 : ¬ q1 < 0) :
    MetFree l (⟨"java/util/Arrays", "checkLength", "(II)V"⟩ : MethodName) (head1 (Jvm.Cond.code (⟨"java/util/Arrays", "checkLength", "(II)V"⟩ : MethodName) jdk_65_method_131_code 2 none :: ws) ({ frames := 0, cells := 0, slots := 0, locals := 0 } : Room)) (fun a U => a = #[(.int (0 : Int32)), (.int q1)] ∧ Z.Warmed39 U.vm ∧ U.heap = h0) (fun _ _ _ _ _ => True) (fun _ U o U' => ∃ v L, o = .returned v ∧ Q_rm_ckl Z q1 h0 n0 v U'.heap L ∧ FrameEnd U o U' L ({ frames := 0, cells := 0, slots := 0, locals := 0 } : Room).cells ({ frames := 0, cells := 0, slots := 0, locals := 0 } : Room).slots) := by
  refine MetFree.of_bodySF (plainFor_of_name pn_7) hisR ?_
  intro p e s m args below meth c s₁ Bd hml0 hP hK
  obtain ⟨rfl, hZ, hh⟩ := hP
  have hx := Bd.exec
  have hby := Bd.bytes
  have hml : c.maxLocals = 2 := hml0
  have hown : s.vm.findClass "java/util/Arrays" = some m.cls := findClass_of_methodNamed Bd.named
  have hnm := (name_of_methodNamed Bd.named Bd.method).1
  have X0 : Stand p l e ({ frames := 0, cells := 0, slots := 0, locals := 0 } : Room) s m #[(.int (0 : Int32)), (.int q1)] below meth c s₁ [] 0 0 := Stand.of_body Bd
  have e0 : s₁.heap = h0 := by rw [← hh, Bd.state]; rfl
  have N0 := Fr.nil n0
  have K0 : Keep h0 h0 [] := Keep.refl _ _
  have R0 : Rch p e below (s₁.setTop (entryFrame m #[(.int (0 : Int32)), (.int q1)] 2)) s₁ (mkF m 0 #[.val (.int (0 : Int32)), .val (.int q1)] []) := fun t k => castTop (ef_rm_ckl m (0 : Int32) q1) k
  have R1 : Rch p e below (s₁.setTop (entryFrame m #[(.int (0 : Int32)), (.int q1)] 2)) s₁ (mkF m 37 #[.val (.int (0 : Int32)), .val (.int q1)] []) := fun t k => by
    refine R0 t ?_
    refine XS.iloadN X0.here hx rfl (hb hby d26_0) rfl ?_
    show Steps p.tables e below (s₁.setTop (mkF m 1 #[.val (.int (0 : Int32)), .val (.int q1)] [(.int q1)])) t
    refine XS.iloadN X0.here hx rfl (hb hby d26_1) rfl ?_
    show Steps p.tables e below (s₁.setTop (mkF m 2 #[.val (.int (0 : Int32)), .val (.int q1)] [(.int (0 : Int32)), (.int q1)])) t
    refine XS.icmpYes X0.here hx rfl (pc0 := 2) (pc' := 37) rfl (hb hby d26_2) rfl (flt p1).2.1 (by decide) (by decide) ?_
    exact k
  obtain ⟨fs, hr, hrun, hended, hW, hsame⟩ := X0.leave (v := none) (fun _ => rfl) (BodyLoose.notSynchronized Bd)
  refine ⟨_, _, R1 _ ?_, hrun, hended, _, _, rfl, ?_, ⟨_, rfl⟩, hW, hsame.mono (by decide) (by decide)⟩
  · exact X0.returnOut hx Bd.returns (hb hby d26_37) hr
  · show Q_rm_ckl Z q1 h0 n0 _ s₁.heap _
    rw [e0]
    exact ⟨rfl, N0, rfl⟩
theorem d27_0 : decode jdk_29_method_69_code 0 = .ok (.iload_n 0, 1) := by decide +kernel
theorem d27_1 : decode jdk_29_method_69_code 1 = .ok (.iload_n 1, 1) := by decide +kernel
theorem d27_2 : decode jdk_29_method_69_code 2 = .ok (.if_icmp .gt 7, 3) := by decide +kernel
theorem d27_9 : decode jdk_29_method_69_code 9 = .ok (.iload_n 1, 1) := by decide +kernel
theorem d27_10 : decode jdk_29_method_69_code 10 = .ok (.ireturn, 1) := by decide +kernel
theorem ef_rm_min (m : MethodId) (x0 : Int32) (x1 : Int32) : entryFrame m #[(.int x0), (.int x1)] 2 = mkF m 0 #[.val (.int x0), .val (.int x1)] [] := by first | (simp [entryFrame, mkF, argsToLocals, Value.category]; done) | rfl
def Q_rm_min (Z : State) (q1 : Int32) (h0 : Heap) (n0 : Nat) (v : Option Value) (h : Heap) (L : List Loc) : Prop := (v = some (.int q1)) ∧ (Fr n0 L) ∧ (h = h0)
set_option maxRecDepth 65536 in
set_option maxHeartbeats 40000000 in
theorem rm_min (l : Launch) (Z : State) (a0 : Array Value) (hw : ∀ d ∈ tables_1, d.before a0 Z = true) (ws : List Jvm.Cond) (q1 : Int32) (h0 : Heap) (n0 : Nat) (Z0 : n0 ≤ h0.size) (p2 : q1 < 16) :
    MetFree l (⟨"java/lang/Math", "min", "(II)I"⟩ : MethodName) (head1 (Jvm.Cond.code (⟨"java/lang/Math", "min", "(II)I"⟩ : MethodName) jdk_29_method_69_code 2 (some .int) :: ws) ({ frames := 0, cells := 0, slots := 0, locals := 0 } : Room)) (fun a U => a = #[(.int (16 : Int32)), (.int q1)] ∧ Z.Warmed39 U.vm ∧ U.heap = h0) (fun _ _ _ _ _ => True) (fun _ U o U' => ∃ v L, o = .returned v ∧ Q_rm_min Z q1 h0 n0 v U'.heap L ∧ FrameEnd U o U' L ({ frames := 0, cells := 0, slots := 0, locals := 0 } : Room).cells ({ frames := 0, cells := 0, slots := 0, locals := 0 } : Room).slots) := by
  refine MetFree.of_bodySF (Jvm.Free.JP.mathPlain rfl (by decide +kernel)) hisR ?_
  intro p e s m args below meth c s₁ Bd hml0 hP hK
  obtain ⟨rfl, hZ, hh⟩ := hP
  have hx := Bd.exec
  have hby := Bd.bytes
  have hml : c.maxLocals = 2 := hml0
  have hown : s.vm.findClass "java/lang/Math" = some m.cls := findClass_of_methodNamed Bd.named
  have hnm := (name_of_methodNamed Bd.named Bd.method).1
  have X0 : Stand p l e ({ frames := 0, cells := 0, slots := 0, locals := 0 } : Room) s m #[(.int (16 : Int32)), (.int q1)] below meth c s₁ [] 0 0 := Stand.of_body Bd
  have e0 : s₁.heap = h0 := by rw [← hh, Bd.state]; rfl
  have N0 := Fr.nil n0
  have K0 : Keep h0 h0 [] := Keep.refl _ _
  have R0 : Rch p e below (s₁.setTop (entryFrame m #[(.int (16 : Int32)), (.int q1)] 2)) s₁ (mkF m 0 #[.val (.int (16 : Int32)), .val (.int q1)] []) := fun t k => castTop (ef_rm_min m (16 : Int32) q1) k
  have R1 : Rch p e below (s₁.setTop (entryFrame m #[(.int (16 : Int32)), (.int q1)] 2)) s₁ (mkF m 10 #[.val (.int (16 : Int32)), .val (.int q1)] [(.int q1)]) := fun t k => by
    refine R0 t ?_
    refine XS.iloadN X0.here hx rfl (hb hby d27_0) rfl ?_
    show Steps p.tables e below (s₁.setTop (mkF m 1 #[.val (.int (16 : Int32)), .val (.int q1)] [(.int (16 : Int32))])) t
    refine XS.iloadN X0.here hx rfl (hb hby d27_1) rfl ?_
    show Steps p.tables e below (s₁.setTop (mkF m 2 #[.val (.int (16 : Int32)), .val (.int q1)] [(.int q1), (.int (16 : Int32))])) t
    refine XS.icmpYes X0.here hx rfl (pc0 := 2) (pc' := 9) rfl (hb hby d27_2) rfl (tlt p2).2.2.1 (by decide) (by decide) ?_
    show Steps p.tables e below (s₁.setTop (mkF m 9 #[.val (.int (16 : Int32)), .val (.int q1)] [])) t
    refine XS.iloadN X0.here hx rfl (hb hby d27_9) rfl ?_
    exact k
  obtain ⟨fs, hr, hrun, hended, hW, hsame⟩ := X0.leave (v := some (.int q1)) (fun h => by rw [Bd.returns] at h; cases h) (BodyLoose.notSynchronized Bd)
  refine ⟨_, _, R1 _ ?_, hrun, hended, _, _, rfl, ?_, ⟨_, rfl⟩, hW, hsame.mono (by decide) (by decide)⟩
  · exact retI X0 hx Bd.returns (hb hby d27_10) hr
  · show Q_rm_min Z q1 h0 n0 _ s₁.heap _
    rw [e0]
    exact ⟨rfl, N0, rfl⟩
theorem d25_0 : decode jdk_65_method_133_code 0 = .ok (.iload_n 1, 1) := by decide +kernel
theorem d25_1 : decode jdk_65_method_133_code 1 = .ok (.iload_n 2, 1) := by decide +kernel
theorem d25_2 : decode jdk_65_method_133_code 2 = .ok (.invokestatic 343, 3) := by decide +kernel
theorem d25_5 : decode jdk_65_method_133_code 5 = .ok (.iload_n 2, 1) := by decide +kernel
theorem d25_6 : decode jdk_65_method_133_code 6 = .ok (.iload_n 1, 1) := by decide +kernel
theorem d25_7 : decode jdk_65_method_133_code 7 = .ok (.isub, 1) := by decide +kernel
theorem d25_8 : decode jdk_65_method_133_code 8 = .ok (.istore_n 3, 1) := by decide +kernel
theorem d25_9 : decode jdk_65_method_133_code 9 = .ok (.iload_n 3, 1) := by decide +kernel
theorem d25_10 : decode jdk_65_method_133_code 10 = .ok (.newarray .byte, 2) := by decide +kernel
theorem d25_12 : decode jdk_65_method_133_code 12 = .ok (.astore 4, 2) := by decide +kernel
theorem d25_14 : decode jdk_65_method_133_code 14 = .ok (.aload_n 0, 1) := by decide +kernel
theorem d25_15 : decode jdk_65_method_133_code 15 = .ok (.iload_n 1, 1) := by decide +kernel
theorem d25_16 : decode jdk_65_method_133_code 16 = .ok (.aload 4, 2) := by decide +kernel
theorem d25_18 : decode jdk_65_method_133_code 18 = .ok (.iconst 0, 1) := by decide +kernel
theorem d25_19 : decode jdk_65_method_133_code 19 = .ok (.aload_n 0, 1) := by decide +kernel
theorem d25_20 : decode jdk_65_method_133_code 20 = .ok (.arraylength, 1) := by decide +kernel
theorem d25_21 : decode jdk_65_method_133_code 21 = .ok (.iload_n 1, 1) := by decide +kernel
theorem d25_22 : decode jdk_65_method_133_code 22 = .ok (.isub, 1) := by decide +kernel
theorem d25_23 : decode jdk_65_method_133_code 23 = .ok (.iload_n 3, 1) := by decide +kernel
theorem d25_24 : decode jdk_65_method_133_code 24 = .ok (.invokestatic 304, 3) := by decide +kernel
theorem pd_14 : parseMethodDescriptor "(II)I" = some ⟨[.int, .int], some .int⟩ := by decide +kernel
theorem d25_27 : decode jdk_65_method_133_code 27 = .ok (.invokestatic 150, 3) := by decide +kernel
theorem d25_30 : decode jdk_65_method_133_code 30 = .ok (.aload 4, 2) := by decide +kernel
theorem d25_32 : decode jdk_65_method_133_code 32 = .ok (.areturn, 1) := by decide +kernel
theorem ef_rm_corb (m : MethodId) (x0 : Addr) (x1 : Int32) (x2 : Int32) : entryFrame m #[(.ref x0), (.int x1), (.int x2)] 5 = mkF m 0 #[.val (.ref x0), .val (.int x1), .val (.int x2), .unset, .unset] [] := by first | (simp [entryFrame, mkF, argsToLocals, Value.category]; done) | rfl
def Q_rm_corb (Z : State) (ba : Addr) (kb : ClassId) (q0 : Int32) (q1 : Int32) (t0 : Int32) (t1 : Int32) (h0 : Heap) (n0 : Nat) (v : Option Value) (h : Heap) (L : List Loc) : Prop := (v = some (.ref (h0.size))) ∧ (Fr n0 L) ∧ (Keep h0 h []) ∧ (∃ kx, Arv Z h (h0.size) kx .byte q1 (own_txt q0 (own_dn q0) t0 t1) (.int (0 : Int32)))
set_option maxRecDepth 65536 in
set_option maxHeartbeats 40000000 in
theorem rm_corb (l : Launch) (Z : State) (a0 : Array Value) (hw : ∀ d ∈ tables_1, d.before a0 Z = true) (ws : List Jvm.Cond) (ba : Addr) (kb : ClassId) (q0 : Int32) (q1 : Int32) (t0 : Int32) (t1 : Int32) (h0 : Heap) (n0 : Nat) (Z0 : n0 ≤ h0.size) (hn : 0 ≤ q0.toInt) (pq : q1 = own_dg q0 + 2) (pV : Arv Z h0 ba kb .byte (16 : Int32) (own_buf2 q0 (own_dn q0) t0 t1) (.int (0 : Int32))) :
    MetFree l (⟨"java/util/Arrays", "copyOfRangeByte", "([BII)[B"⟩ : MethodName) (head1 (Jvm.Cond.code (⟨"java/util/Arrays", "copyOfRangeByte", "([BII)[B"⟩ : MethodName) jdk_65_method_133_code 5 (some (.array .byte)) :: ws) ({ frames := 1, cells := 1, slots := 12, locals := 18 } : Room)) (fun a U => a = #[(.ref ba), (.int (0 : Int32)), (.int q1)] ∧ Z.Warmed39 U.vm ∧ U.heap = h0) (fun _ _ _ _ _ => True) (fun _ U o U' => ∃ v L, o = .returned v ∧ Q_rm_corb Z ba kb q0 q1 t0 t1 h0 n0 v U'.heap L ∧ FrameEnd U o U' L ({ frames := 1, cells := 1, slots := 12, locals := 18 } : Room).cells ({ frames := 1, cells := 1, slots := 12, locals := 18 } : Room).slots) := by
  refine MetFree.of_bodySF (plainFor_of_name pn_7) hisR ?_
  intro p e s m args below meth c s₁ Bd hml0 hP hK
  obtain ⟨rfl, hZ, hh⟩ := hP
  have hx := Bd.exec
  have hby := Bd.bytes
  have hml : c.maxLocals = 5 := hml0
  have hown : s.vm.findClass "java/util/Arrays" = some m.cls := findClass_of_methodNamed Bd.named
  have hnm := (name_of_methodNamed Bd.named Bd.method).1
  have X0 : Stand p l e ({ frames := 1, cells := 1, slots := 12, locals := 18 } : Room) s m #[(.ref ba), (.int (0 : Int32)), (.int q1)] below meth c s₁ [] 0 0 := Stand.of_body Bd
  have e0 : s₁.heap = h0 := by rw [← hh, Bd.state]; rfl
  have N0 := Fr.nil n0
  have K0 : Keep h0 h0 [] := Keep.refl _ _
  have R0 : Rch p e below (s₁.setTop (entryFrame m #[(.ref ba), (.int (0 : Int32)), (.int q1)] 5)) s₁ (mkF m 0 #[.val (.ref ba), .val (.int (0 : Int32)), .val (.int q1), .unset, .unset] []) := fun t k => castTop (ef_rm_corb m ba (0 : Int32) q1) k
  have R2 : Rch p e below (s₁.setTop (entryFrame m #[(.ref ba), (.int (0 : Int32)), (.int q1)] 5)) s₁ (mkF m 2 #[.val (.ref ba), .val (.int (0 : Int32)), .val (.int q1), .unset, .unset] [(.int q1), (.int (0 : Int32))]) := fun t k => by
    refine R0 t ?_
    refine XS.iloadN X0.here hx rfl (hb hby d25_0) rfl ?_
    show Steps p.tables e below (s₁.setTop (mkF m 1 #[.val (.ref ba), .val (.int (0 : Int32)), .val (.int q1), .unset, .unset] [(.int (0 : Int32))])) t
    refine XS.iloadN X0.here hx rfl (hb hby d25_1) rfl ?_
    exact k
  obtain ⟨_, _, ⟨T1, L1, k1, n1⟩, -, X1, ⟨Lc1, hQ1, l1, y1, z1⟩, st1⟩ := Jvm.LawKit.callS X0 hx (y := (⟨"java/util/Arrays", "checkLength", "(II)V"⟩ : MethodName)) hown (mvT hZ (hw _ (List.mem_of_getElem? (i := 140) rfl))) (mvT hZ (hw _ (List.mem_of_getElem? (i := 141) rfl))) (mvT hZ (hw _ (List.mem_of_getElem? (i := 135) rfl))) (mvT hZ (hw _ (List.mem_of_getElem? (i := 142) rfl))) (by decide) (backOf (W := 0) (rm_ckl l Z a0 hw [] q1 h0 n0 (Nat.le_trans Z0 K0.1) (own_ln hn pq).1) hZ (hw _ (List.mem_of_getElem? (i := 142) rfl)) (hw _ (List.mem_of_getElem? (i := 135) rfl)) (by decide) (by decide)) (g := (mkF m 2 #[.val (.ref ba), .val (.int (0 : Int32)), .val (.int q1), .unset, .unset] [(.int q1), (.int (0 : Int32))])) rfl (by rw [hml]; rfl) (argsL := [(.int (0 : Int32)), (.int q1)]) (rest := []) (lenOf pd_2 rfl) rfl (by show 2 * 0 + _ ≤ _; exact Nat.le_of_eq rfl) (hb hby d25_2) (fun _ _ => ⟨rfl, e0, (by decide : 0 + 0 ≤ _), (by decide : 0 + 0 ≤ _)⟩)
  dsimp only [Pt.U, Pt.locs, Pt.cells, Pt.slots] at X1 l1 y1 z1 st1 hQ1
  subst l1 y1 z1
  obtain ⟨rfl, N1q, e1⟩ := hQ1
  have N1 := Fr.app N0 N1q
  have R3 : Rch p e below (s₁.setTop (entryFrame m #[(.ref ba), (.int (0 : Int32)), (.int q1)] 5)) T1 (mkF m 8 #[.val (.ref ba), .val (.int (0 : Int32)), .val (.int q1), .unset, .unset] [(.int (q1 - (0 : Int32)))]) := fun t k => by
    refine R2 t ?_
    refine st1 _ ?_
    show Steps p.tables e below (T1.setTop (mkF m 5 #[.val (.ref ba), .val (.int (0 : Int32)), .val (.int q1), .unset, .unset] [])) t
    refine XS.iloadN X1.here hx rfl (hb hby d25_5) rfl ?_
    show Steps p.tables e below (T1.setTop (mkF m 6 #[.val (.ref ba), .val (.int (0 : Int32)), .val (.int q1), .unset, .unset] [(.int q1)])) t
    refine XS.iloadN X1.here hx rfl (hb hby d25_6) rfl ?_
    show Steps p.tables e below (T1.setTop (mkF m 7 #[.val (.ref ba), .val (.int (0 : Int32)), .val (.int q1), .unset, .unset] [(.int (0 : Int32)), (.int q1)])) t
    refine XS.isub X1.here hx rfl (hb hby d25_7) rfl ?_
    exact k
  rw [own_sub0] at R3
  have R5 : Rch p e below (s₁.setTop (entryFrame m #[(.ref ba), (.int (0 : Int32)), (.int q1)] 5)) T1 (mkF m 10 #[.val (.ref ba), .val (.int (0 : Int32)), .val (.int q1), .val (.int q1), .unset] [(.int q1)]) := fun t k => by
    refine R3 t ?_
    refine XS.istoreN X1.here hx rfl (hb hby d25_8) rfl (l' := #[.val (.ref ba), .val (.int (0 : Int32)), .val (.int q1), .val (.int q1), .unset]) rfl ?_
    show Steps p.tables e below (T1.setTop (mkF m 9 #[.val (.ref ba), .val (.int (0 : Int32)), .val (.int q1), .val (.int q1), .unset] [])) t
    refine XS.iloadN X1.here hx rfl (hb hby d25_9) rfl ?_
    exact k
  obtain ⟨T4, h4, k4, X4, e4, E4, A4, st4⟩ := newP X1 hx hZ (hw _ (List.mem_of_getElem? (i := 8) rfl)) e1 (g := (mkF m 10 #[.val (.ref ba), .val (.int (0 : Int32)), .val (.int q1), .val (.int q1), .unset] [(.int q1)])) rfl (hb hby d25_10) rfl (own_ln hn pq).1 (cap := 12) (own_ln hn pq).2.2.2.1 (by decide) (by decide) (by decide)
  obtain ⟨b4, g4⟩ : ∃ z, z = h0.size := ⟨_, rfl⟩
  rw [← g4] at A4 st4
  have g_b4 : n0 ≤ b4 := Nat.le_trans (Nat.le_trans Z0 K0.1) (Nat.le_of_eq g4.symm)
  have sz_b4 : h0.size ≤ b4 := Nat.le_trans K0.1 (Nat.le_of_eq g4.symm)
  have K4 : Keep h0 h4 [] := K0.ext E4
  have V4 : Arv Z h4 b4 k4 .byte q1 [] (.int (0 : Int32)) := Arv.new A4 (own_ln hn pq).1
  have R7 : Rch p e below (s₁.setTop (entryFrame m #[(.ref ba), (.int (0 : Int32)), (.int q1)] 5)) T4 (mkF m 20 #[.val (.ref ba), .val (.int (0 : Int32)), .val (.int q1), .val (.int q1), .val (.ref b4)] [(.ref ba), (.int (0 : Int32)), (.ref b4), (.int (0 : Int32)), (.ref ba)]) := fun t k => by
    refine R5 t ?_
    refine st4 _ ?_
    show Steps p.tables e below (T4.setTop (mkF m 12 #[.val (.ref ba), .val (.int (0 : Int32)), .val (.int q1), .val (.int q1), .unset] [(.ref b4)])) t
    refine XS.astore X4.here hx rfl (hb hby d25_12) rfl rfl (l' := #[.val (.ref ba), .val (.int (0 : Int32)), .val (.int q1), .val (.int q1), .val (.ref b4)]) rfl ?_
    show Steps p.tables e below (T4.setTop (mkF m 14 #[.val (.ref ba), .val (.int (0 : Int32)), .val (.int q1), .val (.int q1), .val (.ref b4)] [])) t
    refine XS.aloadN X4.here hx rfl (hb hby d25_14) rfl rfl ?_
    show Steps p.tables e below (T4.setTop (mkF m 15 #[.val (.ref ba), .val (.int (0 : Int32)), .val (.int q1), .val (.int q1), .val (.ref b4)] [(.ref ba)])) t
    refine XS.iloadN X4.here hx rfl (hb hby d25_15) rfl ?_
    show Steps p.tables e below (T4.setTop (mkF m 16 #[.val (.ref ba), .val (.int (0 : Int32)), .val (.int q1), .val (.int q1), .val (.ref b4)] [(.int (0 : Int32)), (.ref ba)])) t
    refine XS.aload X4.here hx rfl (hb hby d25_16) rfl rfl ?_
    show Steps p.tables e below (T4.setTop (mkF m 18 #[.val (.ref ba), .val (.int (0 : Int32)), .val (.int q1), .val (.int q1), .val (.ref b4)] [(.ref b4), (.int (0 : Int32)), (.ref ba)])) t
    refine XS.iconst X4.here hx rfl (hb hby d25_18) ?_
    show Steps p.tables e below (T4.setTop (mkF m 19 #[.val (.ref ba), .val (.int (0 : Int32)), .val (.int q1), .val (.int q1), .val (.ref b4)] [(.int (0 : Int32)), (.ref b4), (.int (0 : Int32)), (.ref ba)])) t
    refine XS.aloadN X4.here hx rfl (hb hby d25_19) rfl rfl ?_
    exact k
  obtain ⟨cl6, Ar6, -, Sz6, N6_, -, -⟩ := id (pV.ext E4)
  have R9 : Rch p e below (s₁.setTop (entryFrame m #[(.ref ba), (.int (0 : Int32)), (.int q1)] 5)) T4 (mkF m 24 #[.val (.ref ba), .val (.int (0 : Int32)), .val (.int q1), .val (.int q1), .val (.ref b4)] [(.int q1), (.int (16 : Int32)), (.int (0 : Int32)), (.ref b4), (.int (0 : Int32)), (.ref ba)]) := fun t k => by
    refine R7 t ?_
    refine X4.arraylength hx (by rw [e4]; exact Ar6.1) (State.isArrayOf_alike hZ.alike Ar6.2.1) (g := (mkF m 20 #[.val (.ref ba), .val (.int (0 : Int32)), .val (.int q1), .val (.int q1), .val (.ref b4)] [(.ref ba), (.int (0 : Int32)), (.ref b4), (.int (0 : Int32)), (.ref ba)])) rfl rfl (hb hby d25_20) _ ?_
    rw [len_of Sz6 N6_]
    show Steps p.tables e below (T4.setTop (mkF m 21 #[.val (.ref ba), .val (.int (0 : Int32)), .val (.int q1), .val (.int q1), .val (.ref b4)] [(.int (16 : Int32)), (.int (0 : Int32)), (.ref b4), (.int (0 : Int32)), (.ref ba)])) t
    refine XS.iloadN X4.here hx rfl (hb hby d25_21) rfl ?_
    show Steps p.tables e below (T4.setTop (mkF m 22 #[.val (.ref ba), .val (.int (0 : Int32)), .val (.int q1), .val (.int q1), .val (.ref b4)] [(.int (0 : Int32)), (.int (16 : Int32)), (.int (0 : Int32)), (.ref b4), (.int (0 : Int32)), (.ref ba)])) t
    refine XS.isub X4.here hx rfl (hb hby d25_22) rfl ?_
    show Steps p.tables e below (T4.setTop (mkF m 23 #[.val (.ref ba), .val (.int (0 : Int32)), .val (.int q1), .val (.int q1), .val (.ref b4)] [(.int (16 : Int32)), (.int (0 : Int32)), (.ref b4), (.int (0 : Int32)), (.ref ba)])) t
    refine XS.iloadN X4.here hx rfl (hb hby d25_23) rfl ?_
    exact k
  obtain ⟨_, _, ⟨T8, L8, k8, n8⟩, -, X8, ⟨Lc8, hQ8, l8, y8, z8⟩, st8⟩ := Jvm.LawKit.callS X4 hx (y := (⟨"java/lang/Math", "min", "(II)I"⟩ : MethodName)) hown (mvT hZ (hw _ (List.mem_of_getElem? (i := 143) rfl))) (mvT hZ (hw _ (List.mem_of_getElem? (i := 144) rfl))) (mvT hZ (hw _ (List.mem_of_getElem? (i := 145) rfl))) (mvT hZ (hw _ (List.mem_of_getElem? (i := 146) rfl))) (by decide) (backOf (W := 4) (rm_min l Z a0 hw [] q1 h4 n0 (Nat.le_trans Z0 K4.1) (own_ln hn pq).2.2.2.2) hZ (hw _ (List.mem_of_getElem? (i := 146) rfl)) (hw _ (List.mem_of_getElem? (i := 145) rfl)) (by decide) (by decide)) (g := (mkF m 24 #[.val (.ref ba), .val (.int (0 : Int32)), .val (.int q1), .val (.int q1), .val (.ref b4)] [(.int q1), (.int (16 : Int32)), (.int (0 : Int32)), (.ref b4), (.int (0 : Int32)), (.ref ba)])) rfl (by rw [hml]; rfl) (argsL := [(.int (16 : Int32)), (.int q1)]) (rest := [(.int (0 : Int32)), (.ref b4), (.int (0 : Int32)), (.ref ba)]) (lenOf pd_14 rfl) rfl (by show 2 * 0 + _ ≤ _; exact Nat.le_of_eq rfl) (hb hby d25_24) (fun _ _ => ⟨rfl, e4, (by decide : 1 + 0 ≤ _), (by decide : 12 + 0 ≤ _)⟩)
  dsimp only [Pt.U, Pt.locs, Pt.cells, Pt.slots] at X8 l8 y8 z8 st8 hQ8
  subst l8 y8 z8
  obtain ⟨rfl, N8q, e8⟩ := hQ8
  have N8 := Fr.app N1 N8q
  have R11 : Rch p e below (s₁.setTop (entryFrame m #[(.ref ba), (.int (0 : Int32)), (.int q1)] 5)) T8 (mkF m 27 #[.val (.ref ba), .val (.int (0 : Int32)), .val (.int q1), .val (.int q1), .val (.ref b4)] [(.int q1), (.int (0 : Int32)), (.ref b4), (.int (0 : Int32)), (.ref ba)]) := fun t k => by
    refine R9 t ?_
    refine st8 _ ?_
    exact k
  obtain ⟨T10, h10, L10, X10, e10, N10, Kc10, Vq10, st10⟩ := cpA X8 hx hZ hown (hw _ (List.mem_of_getElem? (i := 147) rfl)) (hw _ (List.mem_of_getElem? (i := 104) rfl)) (hw _ (List.mem_of_getElem? (i := 102) rfl)) (hw _ (List.mem_of_getElem? (i := 103) rfl)) e8 (pV.ext E4) (V4.pad (pad_rep [] (.int (0 : Int32)) q1.toNatClampNeg)) (Or.inl ⟨rfl, rfl⟩) (by decide) (by decide) (own_ln hn pq).1 (own_ln hn pq).2.1 (own_ln hn pq).2.2.1 (us := (own_txt q0 (own_dn q0) t0 t1)) (own_hus hn pq) (own_ln2 q1) N8 g_b4 (g := (mkF m 27 #[.val (.ref ba), .val (.int (0 : Int32)), .val (.int q1), .val (.int q1), .val (.ref b4)] [(.int q1), (.int (0 : Int32)), (.ref b4), (.int (0 : Int32)), (.ref ba)])) rfl (by rw [hml]; rfl) rfl (hb hby d25_27) (by decide) (W := 0) (by show 2 * 0 + _ ≤ _; exact Nat.le_of_eq rfl) (by decide +kernel)
  have V10 : Arv Z h10 b4 k4 .byte q1 (own_txt q0 (own_dn q0) t0 t1) (.int (0 : Int32)) := by have q := Vq10; rw [own_whole2] at q; exact q
  have K10 : Keep h0 h10 [] := K4.trans Kc10 (allS (Or.inr sz_b4) all0)
  have R12 : Rch p e below (s₁.setTop (entryFrame m #[(.ref ba), (.int (0 : Int32)), (.int q1)] 5)) T10 (mkF m 32 #[.val (.ref ba), .val (.int (0 : Int32)), .val (.int q1), .val (.int q1), .val (.ref b4)] [(.ref b4)]) := fun t k => by
    refine R11 t ?_
    refine st10 _ ?_
    show Steps p.tables e below (T10.setTop (mkF m 30 #[.val (.ref ba), .val (.int (0 : Int32)), .val (.int q1), .val (.int q1), .val (.ref b4)] [])) t
    refine XS.aload X10.here hx rfl (hb hby d25_30) rfl rfl ?_
    exact k
  obtain ⟨fs, hr, hrun, hended, hW, hsame⟩ := X10.leave (v := some (.ref b4)) (fun h => by rw [Bd.returns] at h; cases h) (BodyLoose.notSynchronized Bd)
  refine ⟨_, _, R12 _ ?_, hrun, hended, _, _, rfl, ?_, ⟨_, rfl⟩, hW, hsame.mono (by decide) (by decide)⟩
  · jvm_step X10.here [X10.here.top, hx, (hb hby d25_32), X10.method', Bd.returns, Value.isRef, FieldType.isReference]
    first | (intro acts; rw [hr _ acts rfl rfl rfl]) | rw [hr _ _ rfl rfl rfl]
    exact Steps.refl _
  · show Q_rm_corb Z ba kb q0 q1 t0 t1 h0 n0 _ T10.heap _
    rw [e10]
    exact ⟨own_v g4, N10, K10, ⟨_, g4 ▸ V10⟩⟩
theorem d24_0 : decode jdk_65_method_132_code 0 = .ok (.iload_n 1, 1) := by decide +kernel
theorem d24_1 : decode jdk_65_method_132_code 1 = .ok (.ifCond .ne 9, 3) := by decide +kernel
theorem d24_4 : decode jdk_65_method_132_code 4 = .ok (.iload_n 2, 1) := by decide +kernel
theorem d24_5 : decode jdk_65_method_132_code 5 = .ok (.aload_n 0, 1) := by decide +kernel
theorem d24_6 : decode jdk_65_method_132_code 6 = .ok (.arraylength, 1) := by decide +kernel
theorem d24_7 : decode jdk_65_method_132_code 7 = .ok (.if_icmp .eq 10, 3) := by decide +kernel
theorem d24_10 : decode jdk_65_method_132_code 10 = .ok (.aload_n 0, 1) := by decide +kernel
theorem d24_11 : decode jdk_65_method_132_code 11 = .ok (.iload_n 1, 1) := by decide +kernel
theorem d24_12 : decode jdk_65_method_132_code 12 = .ok (.iload_n 2, 1) := by decide +kernel
theorem d24_13 : decode jdk_65_method_132_code 13 = .ok (.invokestatic 339, 3) := by decide +kernel
theorem pd_15 : parseMethodDescriptor "([BII)[B" = some ⟨[(.array .byte), .int, .int], some (.array .byte)⟩ := by decide +kernel
theorem d24_16 : decode jdk_65_method_132_code 16 = .ok (.areturn, 1) := by decide +kernel
theorem ef_rm_cor (m : MethodId) (x0 : Addr) (x1 : Int32) (x2 : Int32) : entryFrame m #[(.ref x0), (.int x1), (.int x2)] 3 = mkF m 0 #[.val (.ref x0), .val (.int x1), .val (.int x2)] [] := by first | (simp [entryFrame, mkF, argsToLocals, Value.category]; done) | rfl
def Q_rm_cor (Z : State) (ba : Addr) (kb : ClassId) (q0 : Int32) (q1 : Int32) (t0 : Int32) (t1 : Int32) (h0 : Heap) (n0 : Nat) (v : Option Value) (h : Heap) (L : List Loc) : Prop := (v = some (.ref (h0.size))) ∧ (Fr n0 L) ∧ (Keep h0 h []) ∧ (∃ kx, Arv Z h (h0.size) kx .byte q1 (own_txt q0 (own_dn q0) t0 t1) (.int (0 : Int32)))
set_option maxRecDepth 65536 in
set_option maxHeartbeats 40000000 in
theorem rm_cor (l : Launch) (Z : State) (a0 : Array Value) (hw : ∀ d ∈ tables_1, d.before a0 Z = true) (ws : List Jvm.Cond) (ba : Addr) (kb : ClassId) (q0 : Int32) (q1 : Int32) (t0 : Int32) (t1 : Int32) (h0 : Heap) (n0 : Nat) (Z0 : n0 ≤ h0.size) (hn : 0 ≤ q0.toInt) (pq : q1 = own_dg q0 + 2) (pV : Arv Z h0 ba kb .byte (16 : Int32) (own_buf2 q0 (own_dn q0) t0 t1) (.int (0 : Int32))) :
    MetFree l (⟨"java/util/Arrays", "copyOfRange", "([BII)[B"⟩ : MethodName) (head1 (Jvm.Cond.code (⟨"java/util/Arrays", "copyOfRange", "([BII)[B"⟩ : MethodName) jdk_65_method_132_code 3 (some (.array .byte)) :: ws) ({ frames := 2, cells := 1, slots := 12, locals := 34 } : Room)) (fun a U => a = #[(.ref ba), (.int (0 : Int32)), (.int q1)] ∧ Z.Warmed39 U.vm ∧ U.heap = h0) (fun _ _ _ _ _ => True) (fun _ U o U' => ∃ v L, o = .returned v ∧ Q_rm_cor Z ba kb q0 q1 t0 t1 h0 n0 v U'.heap L ∧ FrameEnd U o U' L ({ frames := 2, cells := 1, slots := 12, locals := 34 } : Room).cells ({ frames := 2, cells := 1, slots := 12, locals := 34 } : Room).slots) := by
  refine MetFree.of_bodySF (plainFor_of_name pn_7) hisR ?_
  intro p e s m args below meth c s₁ Bd hml0 hP hK
  obtain ⟨rfl, hZ, hh⟩ := hP
  have hx := Bd.exec
  have hby := Bd.bytes
  have hml : c.maxLocals = 3 := hml0
  have hown : s.vm.findClass "java/util/Arrays" = some m.cls := findClass_of_methodNamed Bd.named
  have hnm := (name_of_methodNamed Bd.named Bd.method).1
  have X0 : Stand p l e ({ frames := 2, cells := 1, slots := 12, locals := 34 } : Room) s m #[(.ref ba), (.int (0 : Int32)), (.int q1)] below meth c s₁ [] 0 0 := Stand.of_body Bd
  have e0 : s₁.heap = h0 := by rw [← hh, Bd.state]; rfl
  have N0 := Fr.nil n0
  have K0 : Keep h0 h0 [] := Keep.refl _ _
  have R0 : Rch p e below (s₁.setTop (entryFrame m #[(.ref ba), (.int (0 : Int32)), (.int q1)] 3)) s₁ (mkF m 0 #[.val (.ref ba), .val (.int (0 : Int32)), .val (.int q1)] []) := fun t k => castTop (ef_rm_cor m ba (0 : Int32) q1) k
  have R2 : Rch p e below (s₁.setTop (entryFrame m #[(.ref ba), (.int (0 : Int32)), (.int q1)] 3)) s₁ (mkF m 6 #[.val (.ref ba), .val (.int (0 : Int32)), .val (.int q1)] [(.ref ba), (.int q1)]) := fun t k => by
    refine R0 t ?_
    refine XS.iloadN X0.here hx rfl (hb hby d24_0) rfl ?_
    show Steps p.tables e below (s₁.setTop (mkF m 1 #[.val (.ref ba), .val (.int (0 : Int32)), .val (.int q1)] [(.int (0 : Int32))])) t
    refine XS.ifNo X0.here hx rfl (hb hby d24_1) rfl ((if0 _ _).trans (teq (by decide : (0 : Int32) = (0 : Int32))).2) ?_
    show Steps p.tables e below (s₁.setTop (mkF m 4 #[.val (.ref ba), .val (.int (0 : Int32)), .val (.int q1)] [])) t
    refine XS.iloadN X0.here hx rfl (hb hby d24_4) rfl ?_
    show Steps p.tables e below (s₁.setTop (mkF m 5 #[.val (.ref ba), .val (.int (0 : Int32)), .val (.int q1)] [(.int q1)])) t
    refine XS.aloadN X0.here hx rfl (hb hby d24_5) rfl rfl ?_
    exact k
  obtain ⟨cl1, Ar1, -, Sz1, N1_, -, -⟩ := id pV
  have R4 : Rch p e below (s₁.setTop (entryFrame m #[(.ref ba), (.int (0 : Int32)), (.int q1)] 3)) s₁ (mkF m 13 #[.val (.ref ba), .val (.int (0 : Int32)), .val (.int q1)] [(.int q1), (.int (0 : Int32)), (.ref ba)]) := fun t k => by
    refine R2 t ?_
    refine X0.arraylength hx (by rw [e0]; exact Ar1.1) (State.isArrayOf_alike hZ.alike Ar1.2.1) (g := (mkF m 6 #[.val (.ref ba), .val (.int (0 : Int32)), .val (.int q1)] [(.ref ba), (.int q1)])) rfl rfl (hb hby d24_6) _ ?_
    rw [len_of Sz1 N1_]
    show Steps p.tables e below (s₁.setTop (mkF m 7 #[.val (.ref ba), .val (.int (0 : Int32)), .val (.int q1)] [(.int (16 : Int32)), (.int q1)])) t
    refine XS.icmpNo X0.here hx rfl (hb hby d24_7) rfl (feq (own_n16 hn pq)).1 ?_
    show Steps p.tables e below (s₁.setTop (mkF m 10 #[.val (.ref ba), .val (.int (0 : Int32)), .val (.int q1)] [])) t
    refine XS.aloadN X0.here hx rfl (hb hby d24_10) rfl rfl ?_
    show Steps p.tables e below (s₁.setTop (mkF m 11 #[.val (.ref ba), .val (.int (0 : Int32)), .val (.int q1)] [(.ref ba)])) t
    refine XS.iloadN X0.here hx rfl (hb hby d24_11) rfl ?_
    show Steps p.tables e below (s₁.setTop (mkF m 12 #[.val (.ref ba), .val (.int (0 : Int32)), .val (.int q1)] [(.int (0 : Int32)), (.ref ba)])) t
    refine XS.iloadN X0.here hx rfl (hb hby d24_12) rfl ?_
    exact k
  obtain ⟨_, _, ⟨T3, L3, k3, n3⟩, -, X3, ⟨Lc3, hQ3, l3, y3, z3⟩, st3⟩ := Jvm.LawKit.callS X0 hx (y := (⟨"java/util/Arrays", "copyOfRangeByte", "([BII)[B"⟩ : MethodName)) hown (mvT hZ (hw _ (List.mem_of_getElem? (i := 137) rfl))) (mvT hZ (hw _ (List.mem_of_getElem? (i := 138) rfl))) (mvT hZ (hw _ (List.mem_of_getElem? (i := 135) rfl))) (mvT hZ (hw _ (List.mem_of_getElem? (i := 139) rfl))) (by decide) (backOf (W := 0) (rm_corb l Z a0 hw [] ba kb q0 q1 t0 t1 h0 n0 (Nat.le_trans Z0 K0.1) hn pq pV) hZ (hw _ (List.mem_of_getElem? (i := 139) rfl)) (hw _ (List.mem_of_getElem? (i := 135) rfl)) (by decide) (by decide)) (g := (mkF m 13 #[.val (.ref ba), .val (.int (0 : Int32)), .val (.int q1)] [(.int q1), (.int (0 : Int32)), (.ref ba)])) rfl (by rw [hml]; rfl) (argsL := [(.ref ba), (.int (0 : Int32)), (.int q1)]) (rest := []) (lenOf pd_15 rfl) rfl (by show 2 * 0 + _ ≤ _; exact Nat.le_of_eq rfl) (hb hby d24_13) (fun _ _ => ⟨rfl, e0, (by decide : 0 + 1 ≤ _), (by decide : 0 + 12 ≤ _)⟩)
  dsimp only [Pt.U, Pt.locs, Pt.cells, Pt.slots] at X3 l3 y3 z3 st3 hQ3
  subst l3 y3 z3
  obtain ⟨rfl, N3q, Kc3, c3_arr⟩ := hQ3
  have N3 := Fr.app N0 N3q
  have K3 : Keep h0 T3.heap [] := K0.trans Kc3 all0
  have R5 : Rch p e below (s₁.setTop (entryFrame m #[(.ref ba), (.int (0 : Int32)), (.int q1)] 3)) T3 (mkF m 16 #[.val (.ref ba), .val (.int (0 : Int32)), .val (.int q1)] [(.ref (h0.size))]) := fun t k => by
    refine R4 t ?_
    refine st3 _ ?_
    exact k
  obtain ⟨fs, hr, hrun, hended, hW, hsame⟩ := X3.leave (v := some (.ref (h0.size))) (fun h => by rw [Bd.returns] at h; cases h) (BodyLoose.notSynchronized Bd)
  refine ⟨_, _, R5 _ ?_, hrun, hended, _, _, rfl, ?_, ⟨_, rfl⟩, hW, hsame.mono (by decide) (by decide)⟩
  · jvm_step X3.here [X3.here.top, hx, (hb hby d24_16), X3.method', Bd.returns, Value.isRef, FieldType.isReference]
    first | (intro acts; rw [hr _ acts rfl rfl rfl]) | rw [hr _ _ rfl rfl rfl]
    exact Steps.refl _
  · show Q_rm_cor Z ba kb q0 q1 t0 t1 h0 n0 _ T3.heap _
    exact ⟨rfl, N3, K3, c3_arr⟩
theorem d20_0 : decode jdk_42_method_150_code 0 = .ok (.aload_n 0, 1) := by decide +kernel
theorem d20_1 : decode jdk_42_method_150_code 1 = .ok (.invokespecial 1, 3) := by decide +kernel
theorem d20_4 : decode jdk_42_method_150_code 4 = .ok (.aload_n 1, 1) := by decide +kernel
theorem d20_5 : decode jdk_42_method_150_code 5 = .ok (.invokevirtual 552, 3) := by decide +kernel
theorem pd_16 : parseMethodDescriptor "()[B" = some ⟨[], some (.array .byte)⟩ := by decide +kernel
theorem d20_8 : decode jdk_42_method_150_code 8 = .ok (.astore_n 3, 1) := by decide +kernel
theorem d20_9 : decode jdk_42_method_150_code 9 = .ok (.aload_n 1, 1) := by decide +kernel
theorem d20_10 : decode jdk_42_method_150_code 10 = .ok (.invokevirtual 549, 3) := by decide +kernel
theorem d20_13 : decode jdk_42_method_150_code 13 = .ok (.istore 4, 2) := by decide +kernel
theorem d20_15 : decode jdk_42_method_150_code 15 = .ok (.aload_n 1, 1) := by decide +kernel
theorem d20_16 : decode jdk_42_method_150_code 16 = .ok (.invokevirtual 1047, 3) := by decide +kernel
theorem d20_19 : decode jdk_42_method_150_code 19 = .ok (.ifCond .eq 22, 3) := by decide +kernel
theorem d20_22 : decode jdk_42_method_150_code 22 = .ok (.aload_n 0, 1) := by decide +kernel
theorem d20_23 : decode jdk_42_method_150_code 23 = .ok (.iconst 0, 1) := by decide +kernel
theorem d20_24 : decode jdk_42_method_150_code 24 = .ok (.putfield 15, 3) := by decide +kernel
theorem d20_27 : decode jdk_42_method_150_code 27 = .ok (.aload_n 0, 1) := by decide +kernel
theorem d20_28 : decode jdk_42_method_150_code 28 = .ok (.aload_n 3, 1) := by decide +kernel
theorem d20_29 : decode jdk_42_method_150_code 29 = .ok (.iconst 0, 1) := by decide +kernel
theorem d20_30 : decode jdk_42_method_150_code 30 = .ok (.iload 4, 2) := by decide +kernel
theorem d20_32 : decode jdk_42_method_150_code 32 = .ok (.invokestatic 54, 3) := by decide +kernel
theorem d20_35 : decode jdk_42_method_150_code 35 = .ok (.putfield 9, 3) := by decide +kernel
theorem d20_38 : decode jdk_42_method_150_code 38 = .ok (.goto 59, 3) := by decide +kernel
theorem d20_97 : decode jdk_42_method_150_code 97 = .ok (.return_, 1) := by decide +kernel
theorem ef_rm_sia (m : MethodId) (x0 : Addr) (x1 : Addr) : entryFrame m #[(.ref x0), (.ref x1), .null] 5 = mkF m 0 #[.val (.ref x0), .val (.ref x1), .val .null, .unset, .unset] [] := by first | (simp [entryFrame, mkF, argsToLocals, Value.category]; done) | rfl
def Q_rm_sia (Z : State) (o0 : Addr) (o1 : Addr) (ba : Addr) (kb : ClassId) (q0 : Int32) (q1 : Int32) (t0 : Int32) (t1 : Int32) (cs : Int32) (h0 : Heap) (n0 : Nat) (v : Option Value) (h : Heap) (L : List Loc) : Prop := (v = none) ∧ (Fr n0 L) ∧ (Keep h0 h [o0]) ∧ (Exa Z h o0 "java/lang/String") ∧ (Fld Z h o0 "java/lang/String" "coder" "B" (.int (0 : Int32))) ∧ (∃ sv ks, Fld Z h o0 "java/lang/String" "value" "[B" (.ref sv) ∧ Arv Z h sv ks .byte q1 (own_txt q0 (own_dn q0) t0 t1) (.int (0 : Int32)))
set_option maxRecDepth 65536 in
set_option maxHeartbeats 40000000 in
theorem rm_sia (l : Launch) (Z : State) (a0 : Array Value) (hw : ∀ d ∈ tables_1, d.before a0 Z = true) (ws : List Jvm.Cond) (o0 : Addr) (o1 : Addr) (ba : Addr) (kb : ClassId) (q0 : Int32) (q1 : Int32) (t0 : Int32) (t1 : Int32) (cs : Int32) (h0 : Heap) (n0 : Nat) (Z0 : n0 ≤ h0.size) (pE : Exa Z h0 o0 "java/lang/String") (pg : n0 ≤ o0) (pGv : Fld Z h0 o0 "java/lang/String" "value" "[B" .null) (pGc : Fld Z h0 o0 "java/lang/String" "coder" "B" (.int (0 : Int32))) (pE1 : Exa Z h0 o1 "java/lang/StringBuilder") (pno : o1 ≠ o0) (pnb : ba ≠ o0) (pFv : Fld Z h0 o1 "java/lang/AbstractStringBuilder" "value" "[B" (.ref ba)) (pFc : Fld Z h0 o1 "java/lang/AbstractStringBuilder" "coder" "B" (.int (0 : Int32))) (pFn : Fld Z h0 o1 "java/lang/AbstractStringBuilder" "count" "I" (.int q1)) (pS : Sta Z h0 "java/lang/String" "COMPACT_STRINGS" "Z" (.int cs)) (pcs : ¬ (cs = (0 : Int32))) (hn : 0 ≤ q0.toInt) (pq : q1 = own_dg q0 + 2) (pV : Arv Z h0 ba kb .byte (16 : Int32) (own_buf2 q0 (own_dn q0) t0 t1) (.int (0 : Int32))) :
    MetFree l (⟨"java/lang/String", "<init>", "(Ljava/lang/AbstractStringBuilder;Ljava/lang/Void;)V"⟩ : MethodName) (head1 (Jvm.Cond.code (⟨"java/lang/String", "<init>", "(Ljava/lang/AbstractStringBuilder;Ljava/lang/Void;)V"⟩ : MethodName) jdk_42_method_150_code 5 none :: ws) ({ frames := 3, cells := 1, slots := 12, locals := 49 } : Room)) (fun a U => a = #[(.ref o0), (.ref o1), .null] ∧ Z.Warmed39 U.vm ∧ U.heap = h0) (fun _ _ _ _ _ => True) (fun _ U o U' => ∃ v L, o = .returned v ∧ Q_rm_sia Z o0 o1 ba kb q0 q1 t0 t1 cs h0 n0 v U'.heap L ∧ FrameEnd U o U' L ({ frames := 3, cells := 1, slots := 12, locals := 49 } : Room).cells ({ frames := 3, cells := 1, slots := 12, locals := 49 } : Room).slots) := by
  refine MetFree.of_bodySF (plainFor_of_name pn_0) hisR ?_
  intro p e s m args below meth c s₁ Bd hml0 hP hK
  obtain ⟨rfl, hZ, hh⟩ := hP
  have hx := Bd.exec
  have hby := Bd.bytes
  have hml : c.maxLocals = 5 := hml0
  have hown : s.vm.findClass "java/lang/String" = some m.cls := findClass_of_methodNamed Bd.named
  have hnm := (name_of_methodNamed Bd.named Bd.method).1
  have X0 : Stand p l e ({ frames := 3, cells := 1, slots := 12, locals := 49 } : Room) s m #[(.ref o0), (.ref o1), .null] below meth c s₁ [] 0 0 := Stand.of_body Bd
  have e0 : s₁.heap = h0 := by rw [← hh, Bd.state]; rfl
  have N0 := Fr.nil n0
  have K0 : Keep h0 h0 [o0] := Keep.refl _ _
  have R0 : Rch p e below (s₁.setTop (entryFrame m #[(.ref o0), (.ref o1), .null] 5)) s₁ (mkF m 0 #[.val (.ref o0), .val (.ref o1), .val .null, .unset, .unset] []) := fun t k => castTop (ef_rm_sia m o0 o1) k
  have R2 : Rch p e below (s₁.setTop (entryFrame m #[(.ref o0), (.ref o1), .null] 5)) s₁ (mkF m 1 #[.val (.ref o0), .val (.ref o1), .val .null, .unset, .unset] [(.ref o0)]) := fun t k => by
    refine R0 t ?_
    refine XS.aloadN X0.here hx rfl (hb hby d20_0) rfl rfl ?_
    exact k
  obtain ⟨T1, X1, e1, st1⟩ := initO X0 hx hZ hown (hw _ (List.mem_of_getElem? (i := 118) rfl)) (hw _ (List.mem_of_getElem? (i := 26) rfl)) (hw _ (List.mem_of_getElem? (i := 27) rfl)) e0 (g := (mkF m 1 #[.val (.ref o0), .val (.ref o1), .val .null, .unset, .unset] [(.ref o0)])) rfl (by rw [hml]; rfl) rfl (hb hby d20_1) (by decide) (W := 0) (by show 2 * 0 + _ ≤ _; exact Nat.le_of_eq rfl) (by decide)
  have R4 : Rch p e below (s₁.setTop (entryFrame m #[(.ref o0), (.ref o1), .null] 5)) T1 (mkF m 5 #[.val (.ref o0), .val (.ref o1), .val .null, .unset, .unset] [(.ref o1)]) := fun t k => by
    refine R2 t ?_
    refine st1 _ ?_
    show Steps p.tables e below (T1.setTop (mkF m 4 #[.val (.ref o0), .val (.ref o1), .val .null, .unset, .unset] [])) t
    refine XS.aloadN X1.here hx rfl (hb hby d20_4) rfl rfl ?_
    exact k
  obtain ⟨cq3, kq3, q3a, q3b, q3c⟩ := isOf hZ e1 pE1
  obtain ⟨_, _, ⟨T3, L3, k3, n3⟩, -, X3, ⟨Lc3, hQ3, l3, y3, z3⟩, st3⟩ := X1.virtualBack hx (y := (⟨"java/lang/AbstractStringBuilder", "getValue", "()[B"⟩ : MethodName)) (z := (⟨"java/lang/AbstractStringBuilder", "getValue", "()[B"⟩ : MethodName)) hown (mvT hZ (hw _ (List.mem_of_getElem? (i := 119) rfl))) (mvT hZ (hw _ (List.mem_of_getElem? (i := 120) rfl))) (notFace_of_selects (args := #[]) (mvT hZ (hw _ (List.mem_of_getElem? (i := 122) rfl)))) (mvT hZ (hw _ (List.mem_of_getElem? (i := 122) rfl))) (mvT hZ (hw _ (List.mem_of_getElem? (i := 121) rfl))) (by decide) (backOf (W := 0) (rm_getv l Z a0 hw [] o1 ba h0 n0 (Nat.le_trans Z0 K0.1) pFv) hZ (hw _ (List.mem_of_getElem? (i := 123) rfl)) (hw _ (List.mem_of_getElem? (i := 23) rfl)) (by decide) (by decide)) q3a q3c (g := (mkF m 5 #[.val (.ref o0), .val (.ref o1), .val .null, .unset, .unset] [(.ref o1)])) rfl (by rw [hml]; rfl) (Steps.refl _) (argsL := []) (rest := []) (lenOf pd_16 rfl) rfl (by show 2 * 0 + _ ≤ _; exact Nat.le_of_eq rfl) (hb hby d20_5) (fun _ _ => ⟨rfl, e1, (by decide : 0 + 0 ≤ _), (by decide : 0 + 0 ≤ _)⟩)
  dsimp only [Pt.U, Pt.locs, Pt.cells, Pt.slots] at X3 l3 y3 z3 st3 hQ3
  subst l3 y3 z3
  obtain ⟨rfl, N3q, e3⟩ := hQ3
  have N3 := Fr.app N0 N3q
  have R6 : Rch p e below (s₁.setTop (entryFrame m #[(.ref o0), (.ref o1), .null] 5)) T3 (mkF m 10 #[.val (.ref o0), .val (.ref o1), .val .null, .val (.ref ba), .unset] [(.ref o1)]) := fun t k => by
    refine R4 t ?_
    refine st3.trans ?_
    show Steps p.tables e below (T3.setTop (mkF m 8 #[.val (.ref o0), .val (.ref o1), .val .null, .unset, .unset] [(.ref ba)])) t
    refine XS.astoreN X3.here hx rfl (hb hby d20_8) rfl rfl (l' := #[.val (.ref o0), .val (.ref o1), .val .null, .val (.ref ba), .unset]) rfl ?_
    show Steps p.tables e below (T3.setTop (mkF m 9 #[.val (.ref o0), .val (.ref o1), .val .null, .val (.ref ba), .unset] [])) t
    refine XS.aloadN X3.here hx rfl (hb hby d20_9) rfl rfl ?_
    exact k
  obtain ⟨cq5, kq5, q5a, q5b, q5c⟩ := isOf hZ e3 pE1
  obtain ⟨_, _, ⟨T5, L5, k5, n5⟩, -, X5, ⟨Lc5, hQ5, l5, y5, z5⟩, st5⟩ := X3.virtualBack hx (y := (⟨"java/lang/AbstractStringBuilder", "length", "()I"⟩ : MethodName)) (z := (⟨"java/lang/StringBuilder", "length", "()I"⟩ : MethodName)) hown (mvT hZ (hw _ (List.mem_of_getElem? (i := 124) rfl))) (mvT hZ (hw _ (List.mem_of_getElem? (i := 125) rfl))) (own_nface hZ (hw _ (List.mem_of_getElem? (i := 52) rfl)) (hw _ (List.mem_of_getElem? (i := 50) rfl)) rfl) (mvT hZ (hw _ (List.mem_of_getElem? (i := 127) rfl))) (mvT hZ (hw _ (List.mem_of_getElem? (i := 128) rfl))) (by decide) (backOf (W := 0) (rm_slen l Z a0 hw [] o1 q1 h0 n0 (Nat.le_trans Z0 K0.1) pE1 pFn) hZ (hw _ (List.mem_of_getElem? (i := 129) rfl)) (hw _ (List.mem_of_getElem? (i := 15) rfl)) (by decide) (by decide)) q5a q5c (g := (mkF m 10 #[.val (.ref o0), .val (.ref o1), .val .null, .val (.ref ba), .unset] [(.ref o1)])) rfl (by rw [hml]; rfl) (Steps.refl _) (argsL := []) (rest := []) (lenOf pd_11 rfl) rfl (by show 2 * 0 + _ ≤ _; exact Nat.le_of_eq rfl) (hb hby d20_10) (fun _ _ => ⟨rfl, e3, (by decide : 0 + 0 ≤ _), (by decide : 0 + 0 ≤ _)⟩)
  dsimp only [Pt.U, Pt.locs, Pt.cells, Pt.slots] at X5 l5 y5 z5 st5 hQ5
  subst l5 y5 z5
  obtain ⟨rfl, N5q, e5⟩ := hQ5
  have N5 := Fr.app N3 N5q
  have R8 : Rch p e below (s₁.setTop (entryFrame m #[(.ref o0), (.ref o1), .null] 5)) T5 (mkF m 16 #[.val (.ref o0), .val (.ref o1), .val .null, .val (.ref ba), .val (.int q1)] [(.ref o1)]) := fun t k => by
    refine R6 t ?_
    refine st5.trans ?_
    show Steps p.tables e below (T5.setTop (mkF m 13 #[.val (.ref o0), .val (.ref o1), .val .null, .val (.ref ba), .unset] [(.int q1)])) t
    refine XS.istore X5.here hx rfl (hb hby d20_13) rfl (l' := #[.val (.ref o0), .val (.ref o1), .val .null, .val (.ref ba), .val (.int q1)]) rfl ?_
    show Steps p.tables e below (T5.setTop (mkF m 15 #[.val (.ref o0), .val (.ref o1), .val .null, .val (.ref ba), .val (.int q1)] [])) t
    refine XS.aloadN X5.here hx rfl (hb hby d20_15) rfl rfl ?_
    exact k
  obtain ⟨cq7, kq7, q7a, q7b, q7c⟩ := isOf hZ e5 pE1
  obtain ⟨_, _, ⟨T7, L7, k7, n7⟩, -, X7, ⟨Lc7, hQ7, l7, y7, z7⟩, st7⟩ := X5.virtualBack hx (y := (⟨"java/lang/AbstractStringBuilder", "isLatin1", "()Z"⟩ : MethodName)) (z := (⟨"java/lang/AbstractStringBuilder", "isLatin1", "()Z"⟩ : MethodName)) hown (mvT hZ (hw _ (List.mem_of_getElem? (i := 132) rfl))) (mvT hZ (hw _ (List.mem_of_getElem? (i := 55) rfl))) (notFace_of_selects (args := #[]) (mvT hZ (hw _ (List.mem_of_getElem? (i := 57) rfl)))) (mvT hZ (hw _ (List.mem_of_getElem? (i := 57) rfl))) (mvT hZ (hw _ (List.mem_of_getElem? (i := 56) rfl))) (by decide) (backOf (W := 0) (rm_alat l Z a0 hw [] o1 cs h0 n0 (Nat.le_trans Z0 K0.1) pS pcs pFc) hZ (hw _ (List.mem_of_getElem? (i := 58) rfl)) (hw _ (List.mem_of_getElem? (i := 23) rfl)) (by decide) (by decide)) q7a q7c (g := (mkF m 16 #[.val (.ref o0), .val (.ref o1), .val .null, .val (.ref ba), .val (.int q1)] [(.ref o1)])) rfl (by rw [hml]; rfl) (Steps.refl _) (argsL := []) (rest := []) (lenOf pd_3 rfl) rfl (by show 2 * 0 + _ ≤ _; exact Nat.le_of_eq rfl) (hb hby d20_16) (fun _ _ => ⟨rfl, e5, (by decide : 0 + 0 ≤ _), (by decide : 0 + 0 ≤ _)⟩)
  dsimp only [Pt.U, Pt.locs, Pt.cells, Pt.slots] at X7 l7 y7 z7 st7 hQ7
  subst l7 y7 z7
  obtain ⟨rfl, N7q, e7⟩ := hQ7
  have N7 := Fr.app N5 N7q
  have R10 : Rch p e below (s₁.setTop (entryFrame m #[(.ref o0), (.ref o1), .null] 5)) T7 (mkF m 24 #[.val (.ref o0), .val (.ref o1), .val .null, .val (.ref ba), .val (.int q1)] [(.int (0 : Int32)), (.ref o0)]) := fun t k => by
    refine R8 t ?_
    refine st7.trans ?_
    show Steps p.tables e below (T7.setTop (mkF m 19 #[.val (.ref o0), .val (.ref o1), .val .null, .val (.ref ba), .val (.int q1)] [(.int (1 : Int32))])) t
    refine XS.ifNo X7.here hx rfl (hb hby d20_19) rfl ((if0 _ _).trans (feq (by decide : ¬ ((1 : Int32) = (0 : Int32)))).1) ?_
    show Steps p.tables e below (T7.setTop (mkF m 22 #[.val (.ref o0), .val (.ref o1), .val .null, .val (.ref ba), .val (.int q1)] [])) t
    refine XS.aloadN X7.here hx rfl (hb hby d20_22) rfl rfl ?_
    show Steps p.tables e below (T7.setTop (mkF m 23 #[.val (.ref o0), .val (.ref o1), .val .null, .val (.ref ba), .val (.int q1)] [(.ref o0)])) t
    refine XS.iconst X7.here hx rfl (hb hby d20_23) ?_
    exact k
  obtain ⟨T9, h9, X9, e9, W9, st9⟩ := putFN X7 hx hZ hown (hw _ (List.mem_of_getElem? (i := 84) rfl)) Via.refl e7 pGc pE (Or.inr ⟨(hw _ (List.mem_of_getElem? (i := 10) rfl)), rfl, hnm⟩) (hw _ (List.mem_of_getElem? (i := 7) rfl)) (ty := .byte) (v' := (.int (0 : Int32))) (by decide) rfl rfl (g := (mkF m 24 #[.val (.ref o0), .val (.ref o1), .val .null, .val (.ref ba), .val (.int q1)] [(.int (0 : Int32)), (.ref o0)])) rfl rfl (hb hby d20_24)
  have Fw9 := pGc.same W9
  have K9 : Keep h0 h9 [o0] := K0.wr W9 (Or.inl (List.mem_of_getElem? (i := 0) rfl))
  have N9 := Fr.snoc X9 N7 pg
  have R12 : Rch p e below (s₁.setTop (entryFrame m #[(.ref o0), (.ref o1), .null] 5)) T9 (mkF m 32 #[.val (.ref o0), .val (.ref o1), .val .null, .val (.ref ba), .val (.int q1)] [(.int q1), (.int (0 : Int32)), (.ref ba), (.ref o0)]) := fun t k => by
    refine R10 t ?_
    refine st9 _ ?_
    show Steps p.tables e below (T9.setTop (mkF m 27 #[.val (.ref o0), .val (.ref o1), .val .null, .val (.ref ba), .val (.int q1)] [])) t
    refine XS.aloadN X9.here hx rfl (hb hby d20_27) rfl rfl ?_
    show Steps p.tables e below (T9.setTop (mkF m 28 #[.val (.ref o0), .val (.ref o1), .val .null, .val (.ref ba), .val (.int q1)] [(.ref o0)])) t
    refine XS.aloadN X9.here hx rfl (hb hby d20_28) rfl rfl ?_
    show Steps p.tables e below (T9.setTop (mkF m 29 #[.val (.ref o0), .val (.ref o1), .val .null, .val (.ref ba), .val (.int q1)] [(.ref ba), (.ref o0)])) t
    refine XS.iconst X9.here hx rfl (hb hby d20_29) ?_
    show Steps p.tables e below (T9.setTop (mkF m 30 #[.val (.ref o0), .val (.ref o1), .val .null, .val (.ref ba), .val (.int q1)] [(.int (0 : Int32)), (.ref ba), (.ref o0)])) t
    refine XS.iload X9.here hx rfl (hb hby d20_30) rfl ?_
    exact k
  obtain ⟨_, _, ⟨T11, L11, k11, n11⟩, -, X11, ⟨Lc11, hQ11, l11, y11, z11⟩, st11⟩ := Jvm.LawKit.callS X9 hx (y := (⟨"java/util/Arrays", "copyOfRange", "([BII)[B"⟩ : MethodName)) hown (mvT hZ (hw _ (List.mem_of_getElem? (i := 133) rfl))) (mvT hZ (hw _ (List.mem_of_getElem? (i := 134) rfl))) (mvT hZ (hw _ (List.mem_of_getElem? (i := 135) rfl))) (mvT hZ (hw _ (List.mem_of_getElem? (i := 136) rfl))) (by decide) (backOf (W := 1) (rm_cor l Z a0 hw [] ba kb q0 q1 t0 t1 h9 n0 (Nat.le_trans Z0 K9.1) hn pq (pV.other W9 pnb)) hZ (hw _ (List.mem_of_getElem? (i := 136) rfl)) (hw _ (List.mem_of_getElem? (i := 135) rfl)) (by decide) (by decide)) (g := (mkF m 32 #[.val (.ref o0), .val (.ref o1), .val .null, .val (.ref ba), .val (.int q1)] [(.int q1), (.int (0 : Int32)), (.ref ba), (.ref o0)])) rfl (by rw [hml]; rfl) (argsL := [(.ref ba), (.int (0 : Int32)), (.int q1)]) (rest := [(.ref o0)]) (lenOf pd_15 rfl) rfl (by show 2 * 0 + _ ≤ _; exact Nat.le_of_eq rfl) (hb hby d20_32) (fun _ _ => ⟨rfl, e9, (by decide : 0 + 1 ≤ _), (by decide : 0 + 12 ≤ _)⟩)
  dsimp only [Pt.U, Pt.locs, Pt.cells, Pt.slots] at X11 l11 y11 z11 st11 hQ11
  subst l11 y11 z11
  obtain ⟨rfl, N11q, Kc11, c11_arr⟩ := hQ11
  have N11 := Fr.app N9 N11q
  have K11 : Keep h0 T11.heap [o0] := K9.trans Kc11 all0
  obtain ⟨sv, hsv⟩ : ∃ z, z = h9.size := ⟨_, rfl⟩
  rw [← hsv] at c11_arr st11
  obtain ⟨ks, Vs⟩ := c11_arr
  have R14 : Rch p e below (s₁.setTop (entryFrame m #[(.ref o0), (.ref o1), .null] 5)) T11 (mkF m 35 #[.val (.ref o0), .val (.ref o1), .val .null, .val (.ref ba), .val (.int q1)] [(.ref sv), (.ref o0)]) := fun t k => by
    refine R12 t ?_
    refine st11 _ ?_
    exact k
  have f13 := ((pGv.other W9 (Or.inr (slot_ne (Or.inr (hw _ (List.mem_of_getElem? (i := 9) rfl))) (Or.inr (hw _ (List.mem_of_getElem? (i := 10) rfl))) (by decide) (t := (.array .byte)) (t' := .byte) (by decide) (by decide)))).keep Kc11 nin0)
  obtain ⟨T15, h15, X15, e15, W15, st15⟩ := putF X11 hx hZ hown (host := "") (Or.inl (hw _ (List.mem_of_getElem? (i := 77) rfl))) Via.refl rfl f13 ((pE.wr W9).keep Kc11) (Or.inr ⟨(hw _ (List.mem_of_getElem? (i := 9) rfl)), rfl, hnm⟩) (hw _ (List.mem_of_getElem? (i := 7) rfl)) (ty := (.array .byte)) (by decide) rfl rfl (g := (mkF m 35 #[.val (.ref o0), .val (.ref o1), .val .null, .val (.ref ba), .val (.int q1)] [(.ref sv), (.ref o0)])) rfl rfl (hb hby d20_35)
  have Fw15 := f13.same W15
  have K15 : Keep h0 h15 [o0] := K11.wr W15 (Or.inl (List.mem_of_getElem? (i := 0) rfl))
  have N15 := Fr.snoc X15 N11 pg
  have R16 : Rch p e below (s₁.setTop (entryFrame m #[(.ref o0), (.ref o1), .null] 5)) T15 (mkF m 97 #[.val (.ref o0), .val (.ref o1), .val .null, .val (.ref ba), .val (.int q1)] []) := fun t k => by
    refine R14 t ?_
    refine st15 _ ?_
    show Steps p.tables e below (T15.setTop (mkF m 38 #[.val (.ref o0), .val (.ref o1), .val .null, .val (.ref ba), .val (.int q1)] [])) t
    refine XS.goto X15.here hx rfl (pc0 := 38) (pc' := 97) rfl (hb hby d20_38) (by decide) (by decide) ?_
    exact k
  obtain ⟨fs, hr, hrun, hended, hW, hsame⟩ := X15.leave (v := none) (fun _ => rfl) (BodyLoose.notSynchronized Bd)
  refine ⟨_, _, R16 _ ?_, hrun, hended, _, _, rfl, ?_, ⟨_, rfl⟩, hW, hsame.mono (by decide) (by decide)⟩
  · exact X15.returnOut hx Bd.returns (hb hby d20_97) hr
  · show Q_rm_sia Z o0 o1 ba kb q0 q1 t0 t1 cs h0 n0 _ T15.heap _
    rw [e15]
    exact ⟨rfl, N15, K15, (((pE.wr W9).keep Kc11).wr W15), ((Fw9.keep Kc11 nin0).other W15 (Or.inr (slot_ne (Or.inr (hw _ (List.mem_of_getElem? (i := 10) rfl))) (Or.inr (hw _ (List.mem_of_getElem? (i := 9) rfl))) (by decide) (t := .byte) (t' := (.array .byte)) (by decide) (by decide)))), ⟨sv, ks, Fw15, (Vs.other W15 (Ne.symm (Nat.ne_of_lt (Nat.lt_of_lt_of_le (pE.wr W9).lt (Nat.le_of_eq hsv.symm)))))⟩⟩
theorem d19_0 : decode jdk_42_method_53_code 0 = .ok (.aload_n 0, 1) := by decide +kernel
theorem d19_1 : decode jdk_42_method_53_code 1 = .ok (.aload_n 1, 1) := by decide +kernel
theorem d19_2 : decode jdk_42_method_53_code 2 = .ok (.aconst_null, 1) := by decide +kernel
theorem d19_3 : decode jdk_42_method_53_code 3 = .ok (.invokespecial 489, 3) := by decide +kernel
theorem pd_17 : parseMethodDescriptor "(Ljava/lang/AbstractStringBuilder;Ljava/lang/Void;)V" = some ⟨[(.object "java/lang/AbstractStringBuilder"), (.object "java/lang/Void")], none⟩ := by decide +kernel
theorem d19_6 : decode jdk_42_method_53_code 6 = .ok (.return_, 1) := by decide +kernel
theorem ef_rm_sis (m : MethodId) (x0 : Addr) (x1 : Addr) : entryFrame m #[(.ref x0), (.ref x1)] 2 = mkF m 0 #[.val (.ref x0), .val (.ref x1)] [] := by first | (simp [entryFrame, mkF, argsToLocals, Value.category]; done) | rfl
def Q_rm_sis (Z : State) (o0 : Addr) (o1 : Addr) (ba : Addr) (kb : ClassId) (q0 : Int32) (q1 : Int32) (t0 : Int32) (t1 : Int32) (cs : Int32) (h0 : Heap) (n0 : Nat) (v : Option Value) (h : Heap) (L : List Loc) : Prop := (v = none) ∧ (Fr n0 L) ∧ (Keep h0 h [o0]) ∧ (Exa Z h o0 "java/lang/String") ∧ (Fld Z h o0 "java/lang/String" "coder" "B" (.int (0 : Int32))) ∧ (∃ sv ks, Fld Z h o0 "java/lang/String" "value" "[B" (.ref sv) ∧ Arv Z h sv ks .byte q1 (own_txt q0 (own_dn q0) t0 t1) (.int (0 : Int32)))
set_option maxRecDepth 65536 in
set_option maxHeartbeats 40000000 in
theorem rm_sis (l : Launch) (Z : State) (a0 : Array Value) (hw : ∀ d ∈ tables_1, d.before a0 Z = true) (ws : List Jvm.Cond) (o0 : Addr) (o1 : Addr) (ba : Addr) (kb : ClassId) (q0 : Int32) (q1 : Int32) (t0 : Int32) (t1 : Int32) (cs : Int32) (h0 : Heap) (n0 : Nat) (Z0 : n0 ≤ h0.size) (pE : Exa Z h0 o0 "java/lang/String") (pg : n0 ≤ o0) (pGv : Fld Z h0 o0 "java/lang/String" "value" "[B" .null) (pGc : Fld Z h0 o0 "java/lang/String" "coder" "B" (.int (0 : Int32))) (pE1 : Exa Z h0 o1 "java/lang/StringBuilder") (pno : o1 ≠ o0) (pnb : ba ≠ o0) (pFv : Fld Z h0 o1 "java/lang/AbstractStringBuilder" "value" "[B" (.ref ba)) (pFc : Fld Z h0 o1 "java/lang/AbstractStringBuilder" "coder" "B" (.int (0 : Int32))) (pFn : Fld Z h0 o1 "java/lang/AbstractStringBuilder" "count" "I" (.int q1)) (pS : Sta Z h0 "java/lang/String" "COMPACT_STRINGS" "Z" (.int cs)) (pcs : ¬ (cs = (0 : Int32))) (hn : 0 ≤ q0.toInt) (pq : q1 = own_dg q0 + 2) (pV : Arv Z h0 ba kb .byte (16 : Int32) (own_buf2 q0 (own_dn q0) t0 t1) (.int (0 : Int32))) :
    MetFree l (⟨"java/lang/String", "<init>", "(Ljava/lang/StringBuilder;)V"⟩ : MethodName) (head1 (Jvm.Cond.code (⟨"java/lang/String", "<init>", "(Ljava/lang/StringBuilder;)V"⟩ : MethodName) jdk_42_method_53_code 2 none :: ws) ({ frames := 4, cells := 1, slots := 12, locals := 65 } : Room)) (fun a U => a = #[(.ref o0), (.ref o1)] ∧ Z.Warmed39 U.vm ∧ U.heap = h0) (fun _ _ _ _ _ => True) (fun _ U o U' => ∃ v L, o = .returned v ∧ Q_rm_sis Z o0 o1 ba kb q0 q1 t0 t1 cs h0 n0 v U'.heap L ∧ FrameEnd U o U' L ({ frames := 4, cells := 1, slots := 12, locals := 65 } : Room).cells ({ frames := 4, cells := 1, slots := 12, locals := 65 } : Room).slots) := by
  refine MetFree.of_bodySF (plainFor_of_name pn_0) hisR ?_
  intro p e s m args below meth c s₁ Bd hml0 hP hK
  obtain ⟨rfl, hZ, hh⟩ := hP
  have hx := Bd.exec
  have hby := Bd.bytes
  have hml : c.maxLocals = 2 := hml0
  have hown : s.vm.findClass "java/lang/String" = some m.cls := findClass_of_methodNamed Bd.named
  have hnm := (name_of_methodNamed Bd.named Bd.method).1
  have X0 : Stand p l e ({ frames := 4, cells := 1, slots := 12, locals := 65 } : Room) s m #[(.ref o0), (.ref o1)] below meth c s₁ [] 0 0 := Stand.of_body Bd
  have e0 : s₁.heap = h0 := by rw [← hh, Bd.state]; rfl
  have N0 := Fr.nil n0
  have K0 : Keep h0 h0 [o0] := Keep.refl _ _
  have R0 : Rch p e below (s₁.setTop (entryFrame m #[(.ref o0), (.ref o1)] 2)) s₁ (mkF m 0 #[.val (.ref o0), .val (.ref o1)] []) := fun t k => castTop (ef_rm_sis m o0 o1) k
  have R2 : Rch p e below (s₁.setTop (entryFrame m #[(.ref o0), (.ref o1)] 2)) s₁ (mkF m 3 #[.val (.ref o0), .val (.ref o1)] [.null, (.ref o1), (.ref o0)]) := fun t k => by
    refine R0 t ?_
    refine XS.aloadN X0.here hx rfl (hb hby d19_0) rfl rfl ?_
    show Steps p.tables e below (s₁.setTop (mkF m 1 #[.val (.ref o0), .val (.ref o1)] [(.ref o0)])) t
    refine XS.aloadN X0.here hx rfl (hb hby d19_1) rfl rfl ?_
    show Steps p.tables e below (s₁.setTop (mkF m 2 #[.val (.ref o0), .val (.ref o1)] [(.ref o1), (.ref o0)])) t
    refine XS.aconstNull X0.here hx rfl (hb hby d19_2) ?_
    exact k
  obtain ⟨_, _, ⟨T1, L1, k1, n1⟩, -, X1, ⟨Lc1, hQ1, l1, y1, z1⟩, st1⟩ := X0.specialBack hx (y := (⟨"java/lang/String", "<init>", "(Ljava/lang/AbstractStringBuilder;Ljava/lang/Void;)V"⟩ : MethodName)) rfl hown (mvT hZ (hw _ (List.mem_of_getElem? (i := 115) rfl))) (mvT hZ (hw _ (List.mem_of_getElem? (i := 116) rfl))) (mvT hZ (hw _ (List.mem_of_getElem? (i := 117) rfl))) (by decide) (backOf (W := 0) (rm_sia l Z a0 hw [] o0 o1 ba kb q0 q1 t0 t1 cs h0 n0 (Nat.le_trans Z0 K0.1) pE pg pGv pGc pE1 pno pnb pFv pFc pFn pS pcs hn pq pV) hZ (hw _ (List.mem_of_getElem? (i := 117) rfl)) (hw _ (List.mem_of_getElem? (i := 6) rfl)) (by decide) (by decide)) (g := (mkF m 3 #[.val (.ref o0), .val (.ref o1)] [.null, (.ref o1), (.ref o0)])) rfl (by rw [hml]; rfl) (Steps.refl _) (a := o0) (argsL := [(.ref o1), .null]) (rest := []) (lenOf pd_17 rfl) rfl (by show 2 * 0 + _ ≤ _; exact Nat.le_of_eq rfl) (hb hby d19_3) (fun _ _ => ⟨rfl, e0, (by decide : 0 + 1 ≤ _), (by decide : 0 + 12 ≤ _)⟩)
  dsimp only [Pt.U, Pt.locs, Pt.cells, Pt.slots] at X1 l1 y1 z1 st1 hQ1
  subst l1 y1 z1
  obtain ⟨rfl, N1q, Kc1, c1_E, c1_Gc, c1_val⟩ := hQ1
  have N1 := Fr.app N0 N1q
  have K1 : Keep h0 T1.heap [o0] := K0.trans Kc1 (allS (Or.inl (List.mem_of_getElem? (i := 0) rfl)) all0)
  have R3 : Rch p e below (s₁.setTop (entryFrame m #[(.ref o0), (.ref o1)] 2)) T1 (mkF m 6 #[.val (.ref o0), .val (.ref o1)] []) := fun t k => by
    refine R2 t ?_
    refine st1.trans ?_
    exact k
  obtain ⟨fs, hr, hrun, hended, hW, hsame⟩ := X1.leave (v := none) (fun _ => rfl) (BodyLoose.notSynchronized Bd)
  refine ⟨_, _, R3 _ ?_, hrun, hended, _, _, rfl, ?_, ⟨_, rfl⟩, hW, hsame.mono (by decide) (by decide)⟩
  · exact X1.returnOut hx Bd.returns (hb hby d19_6) hr
  · show Q_rm_sis Z o0 o1 ba kb q0 q1 t0 t1 cs h0 n0 _ T1.heap _
    exact ⟨rfl, N1, K1, c1_E, c1_Gc, c1_val⟩
theorem d18_0 : decode jdk_67_method_42_code 0 = .ok (.new 18, 3) := by decide +kernel
theorem d18_3 : decode jdk_67_method_42_code 3 = .ok (.dup, 1) := by decide +kernel
theorem d18_4 : decode jdk_67_method_42_code 4 = .ok (.aload_n 0, 1) := by decide +kernel
theorem d18_5 : decode jdk_67_method_42_code 5 = .ok (.invokespecial 137, 3) := by decide +kernel
theorem pd_18 : parseMethodDescriptor "(Ljava/lang/StringBuilder;)V" = some ⟨[(.object "java/lang/StringBuilder")], none⟩ := by decide +kernel
theorem d18_8 : decode jdk_67_method_42_code 8 = .ok (.areturn, 1) := by decide +kernel
theorem ef_rm_tst (m : MethodId) (x0 : Addr) : entryFrame m #[(.ref x0)] 1 = mkF m 0 #[.val (.ref x0)] [] := by first | (simp [entryFrame, mkF, argsToLocals, Value.category]; done) | rfl
def Q_rm_tst (Z : State) (o1 : Addr) (ba : Addr) (kb : ClassId) (q0 : Int32) (q1 : Int32) (t0 : Int32) (t1 : Int32) (cs : Int32) (h0 : Heap) (n0 : Nat) (v : Option Value) (h : Heap) (L : List Loc) : Prop := (v = some (.ref (h0.size))) ∧ (Fr n0 L) ∧ (Keep h0 h []) ∧ (Exa Z h (h0.size) "java/lang/String") ∧ (Fld Z h (h0.size) "java/lang/String" "coder" "B" (.int (0 : Int32))) ∧ (∃ sv ks, Fld Z h (h0.size) "java/lang/String" "value" "[B" (.ref sv) ∧ Arv Z h sv ks .byte q1 (own_txt q0 (own_dn q0) t0 t1) (.int (0 : Int32)))
set_option maxRecDepth 65536 in
set_option maxHeartbeats 40000000 in
theorem rm_tst (l : Launch) (Z : State) (a0 : Array Value) (hw : ∀ d ∈ tables_1, d.before a0 Z = true) (ws : List Jvm.Cond) (o1 : Addr) (ba : Addr) (kb : ClassId) (q0 : Int32) (q1 : Int32) (t0 : Int32) (t1 : Int32) (cs : Int32) (h0 : Heap) (n0 : Nat) (Z0 : n0 ≤ h0.size) (pE1 : Exa Z h0 o1 "java/lang/StringBuilder") (pFv : Fld Z h0 o1 "java/lang/AbstractStringBuilder" "value" "[B" (.ref ba)) (pFc : Fld Z h0 o1 "java/lang/AbstractStringBuilder" "coder" "B" (.int (0 : Int32))) (pFn : Fld Z h0 o1 "java/lang/AbstractStringBuilder" "count" "I" (.int q1)) (pS : Sta Z h0 "java/lang/String" "COMPACT_STRINGS" "Z" (.int cs)) (pcs : ¬ (cs = (0 : Int32))) (hn : 0 ≤ q0.toInt) (pq : q1 = own_dg q0 + 2) (pV : Arv Z h0 ba kb .byte (16 : Int32) (own_buf2 q0 (own_dn q0) t0 t1) (.int (0 : Int32))) :
    MetFree l (⟨"java/lang/StringBuilder", "toString", "()Ljava/lang/String;"⟩ : MethodName) (head1 (Jvm.Cond.code (⟨"java/lang/StringBuilder", "toString", "()Ljava/lang/String;"⟩ : MethodName) jdk_67_method_42_code 1 (some (.object "java/lang/String")) :: ws) ({ frames := 5, cells := 2, slots := 16, locals := 79 } : Room)) (fun a U => a = #[(.ref o1)] ∧ Z.Warmed39 U.vm ∧ U.heap = h0) (fun _ _ _ _ _ => True) (fun _ U o U' => ∃ v L, o = .returned v ∧ Q_rm_tst Z o1 ba kb q0 q1 t0 t1 cs h0 n0 v U'.heap L ∧ FrameEnd U o U' L ({ frames := 5, cells := 2, slots := 16, locals := 79 } : Room).cells ({ frames := 5, cells := 2, slots := 16, locals := 79 } : Room).slots) := by
  refine MetFree.of_bodySF (plainFor_of_name pn_6) hisR ?_
  intro p e s m args below meth c s₁ Bd hml0 hP hK
  obtain ⟨rfl, hZ, hh⟩ := hP
  have hx := Bd.exec
  have hby := Bd.bytes
  have hml : c.maxLocals = 1 := hml0
  have hown : s.vm.findClass "java/lang/StringBuilder" = some m.cls := findClass_of_methodNamed Bd.named
  have hnm := (name_of_methodNamed Bd.named Bd.method).1
  have X0 : Stand p l e ({ frames := 5, cells := 2, slots := 16, locals := 79 } : Room) s m #[(.ref o1)] below meth c s₁ [] 0 0 := Stand.of_body Bd
  have e0 : s₁.heap = h0 := by rw [← hh, Bd.state]; rfl
  have N0 := Fr.nil n0
  have K0 : Keep h0 h0 [] := Keep.refl _ _
  have R0 : Rch p e below (s₁.setTop (entryFrame m #[(.ref o1)] 1)) s₁ (mkF m 0 #[.val (.ref o1)] []) := fun t k => castTop (ef_rm_tst m o1) k
  obtain ⟨T1, h1, X1, e1, E1, A1, D1, -, st1⟩ := newO X0 hx hZ hown (hw _ (List.mem_of_getElem? (i := 110) rfl)) (hw _ (List.mem_of_getElem? (i := 7) rfl)) (hw _ (List.mem_of_getElem? (i := 6) rfl)) e0 (g := (mkF m 0 #[.val (.ref o1)] [])) rfl (hb hby d18_0) (by decide) (by decide)
  obtain ⟨b1, g1⟩ : ∃ z, z = h0.size := ⟨_, rfl⟩
  rw [← g1] at A1 D1 st1
  have g_b1 : n0 ≤ b1 := Nat.le_trans (Nat.le_trans Z0 K0.1) (Nat.le_of_eq g1.symm)
  have sz_b1 : h0.size ≤ b1 := Nat.le_trans K0.1 (Nat.le_of_eq g1.symm)
  have K1 : Keep h0 h1 [] := K0.ext E1
  have F1_value : Fld Z h1 b1 "java/lang/String" "value" "[B" .null := D1 (Or.inr (hw _ (List.mem_of_getElem? (i := 9) rfl))) (ty := (.array .byte)) (by decide)
  have F1_coder : Fld Z h1 b1 "java/lang/String" "coder" "B" (.int (0 : Int32)) := D1 (Or.inr (hw _ (List.mem_of_getElem? (i := 10) rfl))) (ty := .byte) (by decide)
  have R3 : Rch p e below (s₁.setTop (entryFrame m #[(.ref o1)] 1)) T1 (mkF m 5 #[.val (.ref o1)] [(.ref o1), (.ref b1), (.ref b1)]) := fun t k => by
    refine R0 t ?_
    refine st1 _ ?_
    show Steps p.tables e below (T1.setTop (mkF m 3 #[.val (.ref o1)] [(.ref b1)])) t
    refine XS.dup X1.here hx rfl (hb hby d18_3) rfl rfl ?_
    show Steps p.tables e below (T1.setTop (mkF m 4 #[.val (.ref o1)] [(.ref b1), (.ref b1)])) t
    refine XS.aloadN X1.here hx rfl (hb hby d18_4) rfl rfl ?_
    exact k
  obtain ⟨_, _, ⟨T2, L2, k2, n2⟩, -, X2, ⟨Lc2, hQ2, l2, y2, z2⟩, st2⟩ := X1.specialBack hx (y := (⟨"java/lang/String", "<init>", "(Ljava/lang/StringBuilder;)V"⟩ : MethodName)) rfl hown (mvT hZ (hw _ (List.mem_of_getElem? (i := 111) rfl))) (mvT hZ (hw _ (List.mem_of_getElem? (i := 112) rfl))) (mvT hZ (hw _ (List.mem_of_getElem? (i := 114) rfl))) (by decide) (backOf (W := 1) (rm_sis l Z a0 hw [] b1 o1 ba kb q0 q1 t0 t1 cs h1 n0 (Nat.le_trans Z0 K1.1) A1 g_b1 F1_value F1_coder (pE1.ext E1) (Nat.ne_of_lt (Nat.lt_of_lt_of_le pE1.lt (Nat.le_of_eq g1.symm))) (Nat.ne_of_lt (Nat.lt_of_lt_of_le pV.lt (Nat.le_of_eq g1.symm))) (pFv.ext E1) (pFc.ext E1) (pFn.ext E1) (pS.ext E1) pcs hn pq (pV.ext E1)) hZ (hw _ (List.mem_of_getElem? (i := 114) rfl)) (hw _ (List.mem_of_getElem? (i := 6) rfl)) (by decide) (by decide)) (g := (mkF m 5 #[.val (.ref o1)] [(.ref o1), (.ref b1), (.ref b1)])) rfl (by rw [hml]; rfl) (Steps.refl _) (a := b1) (argsL := [(.ref o1)]) (rest := [(.ref b1)]) (lenOf pd_18 rfl) rfl (by show 2 * 0 + _ ≤ _; exact Nat.le_of_eq rfl) (hb hby d18_5) (fun _ _ => ⟨rfl, e1, (by decide : 1 + 1 ≤ _), (by decide : 4 + 12 ≤ _)⟩)
  dsimp only [Pt.U, Pt.locs, Pt.cells, Pt.slots] at X2 l2 y2 z2 st2 hQ2
  subst l2 y2 z2
  obtain ⟨rfl, N2q, Kc2, c2_E, c2_Gc, c2_val⟩ := hQ2
  have N2 := Fr.app N0 N2q
  have K2 : Keep h0 T2.heap [] := K1.trans Kc2 (allS (Or.inr sz_b1) all0)
  have R4 : Rch p e below (s₁.setTop (entryFrame m #[(.ref o1)] 1)) T2 (mkF m 8 #[.val (.ref o1)] [(.ref b1)]) := fun t k => by
    refine R3 t ?_
    refine st2.trans ?_
    exact k
  obtain ⟨fs, hr, hrun, hended, hW, hsame⟩ := X2.leave (v := some (.ref b1)) (fun h => by rw [Bd.returns] at h; cases h) (BodyLoose.notSynchronized Bd)
  refine ⟨_, _, R4 _ ?_, hrun, hended, _, _, rfl, ?_, ⟨_, rfl⟩, hW, hsame.mono (by decide) (by decide)⟩
  · jvm_step X2.here [X2.here.top, hx, (hb hby d18_8), X2.method', Bd.returns, Value.isRef, FieldType.isReference]
    first | (intro acts; rw [hr _ acts rfl rfl rfl]) | rw [hr _ _ rfl rfl rfl]
    exact Steps.refl _
  · show Q_rm_tst Z o1 ba kb q0 q1 t0 t1 cs h0 n0 _ T2.heap _
    exact ⟨own_v g1, N2, K2, (g1 ▸ c2_E), (g1 ▸ c2_Gc), (g1 ▸ c2_val)⟩
theorem d3_0 : decode jdk_68_method_2_code 0 = .ok (.aload_n 0, 1) := by decide +kernel
theorem d3_1 : decode jdk_68_method_2_code 1 = .ok (.invokespecial 3, 3) := by decide +kernel
theorem d3_4 : decode jdk_68_method_2_code 4 = .ok (.getstatic 18, 3) := by decide +kernel
theorem d3_7 : decode jdk_68_method_2_code 7 = .ok (.ifCond .eq 18, 3) := by decide +kernel
theorem d3_10 : decode jdk_68_method_2_code 10 = .ok (.aload_n 0, 1) := by decide +kernel
theorem d3_11 : decode jdk_68_method_2_code 11 = .ok (.iload_n 1, 1) := by decide +kernel
theorem d3_12 : decode jdk_68_method_2_code 12 = .ok (.newarray .byte, 2) := by decide +kernel
theorem d3_14 : decode jdk_68_method_2_code 14 = .ok (.putfield 15, 3) := by decide +kernel
theorem d3_17 : decode jdk_68_method_2_code 17 = .ok (.aload_n 0, 1) := by decide +kernel
theorem d3_18 : decode jdk_68_method_2_code 18 = .ok (.iconst 0, 1) := by decide +kernel
theorem d3_19 : decode jdk_68_method_2_code 19 = .ok (.putfield 22, 3) := by decide +kernel
theorem d3_22 : decode jdk_68_method_2_code 22 = .ok (.goto 16, 3) := by decide +kernel
theorem d3_38 : decode jdk_68_method_2_code 38 = .ok (.return_, 1) := by decide +kernel
theorem ef_rm_ainit (m : MethodId) (x0 : Addr) (x1 : Int32) : entryFrame m #[(.ref x0), (.int x1)] 2 = mkF m 0 #[.val (.ref x0), .val (.int x1)] [] := by first | (simp [entryFrame, mkF, argsToLocals, Value.category]; done) | rfl
def Q_rm_ainit (Z : State) (o0 : Addr) (cs : Int32) (h0 : Heap) (n0 : Nat) (v : Option Value) (h : Heap) (L : List Loc) : Prop := (v = none) ∧ (Fr n0 L) ∧ (Keep h0 h [o0]) ∧ (Exa Z h o0 "java/lang/StringBuilder") ∧ (Fld Z h o0 "java/lang/AbstractStringBuilder" "value" "[B" (.ref (h0.size))) ∧ (Fld Z h o0 "java/lang/AbstractStringBuilder" "coder" "B" (.int (0 : Int32))) ∧ (Fld Z h o0 "java/lang/AbstractStringBuilder" "count" "I" (.int (0 : Int32))) ∧ (∃ kx, Arv Z h (h0.size) kx .byte (16 : Int32) [(.int (0 : Int32)), (.int (0 : Int32)), (.int (0 : Int32)), (.int (0 : Int32)), (.int (0 : Int32)), (.int (0 : Int32)), (.int (0 : Int32)), (.int (0 : Int32)), (.int (0 : Int32)), (.int (0 : Int32)), (.int (0 : Int32)), (.int (0 : Int32)), (.int (0 : Int32)), (.int (0 : Int32)), (.int (0 : Int32)), (.int (0 : Int32))] (.int (0 : Int32)))
set_option maxRecDepth 65536 in
set_option maxHeartbeats 40000000 in
theorem rm_ainit (l : Launch) (Z : State) (a0 : Array Value) (hw : ∀ d ∈ tables_1, d.before a0 Z = true) (ws : List Jvm.Cond) (o0 : Addr) (cs : Int32) (h0 : Heap) (n0 : Nat) (Z0 : n0 ≤ h0.size) (pE : Exa Z h0 o0 "java/lang/StringBuilder") (pg : n0 ≤ o0) (pFv : Fld Z h0 o0 "java/lang/AbstractStringBuilder" "value" "[B" .null) (pFc : Fld Z h0 o0 "java/lang/AbstractStringBuilder" "coder" "B" (.int (0 : Int32))) (pFn : Fld Z h0 o0 "java/lang/AbstractStringBuilder" "count" "I" (.int (0 : Int32))) (pS : Sta Z h0 "java/lang/String" "COMPACT_STRINGS" "Z" (.int cs)) (pcs : ¬ (cs = (0 : Int32))) :
    MetFree l (⟨"java/lang/AbstractStringBuilder", "<init>", "(I)V"⟩ : MethodName) (head1 (Jvm.Cond.code (⟨"java/lang/AbstractStringBuilder", "<init>", "(I)V"⟩ : MethodName) jdk_68_method_2_code 2 none :: ws) ({ frames := 1, cells := 1, slots := 16, locals := 12 } : Room)) (fun a U => a = #[(.ref o0), (.int (16 : Int32))] ∧ Z.Warmed39 U.vm ∧ U.heap = h0) (fun _ _ _ _ _ => True) (fun _ U o U' => ∃ v L, o = .returned v ∧ Q_rm_ainit Z o0 cs h0 n0 v U'.heap L ∧ FrameEnd U o U' L ({ frames := 1, cells := 1, slots := 16, locals := 12 } : Room).cells ({ frames := 1, cells := 1, slots := 16, locals := 12 } : Room).slots) := by
  refine MetFree.of_bodySF (plainFor_of_name pn_5) hisR ?_
  intro p e s m args below meth c s₁ Bd hml0 hP hK
  obtain ⟨rfl, hZ, hh⟩ := hP
  have hx := Bd.exec
  have hby := Bd.bytes
  have hml : c.maxLocals = 2 := hml0
  have hown : s.vm.findClass "java/lang/AbstractStringBuilder" = some m.cls := findClass_of_methodNamed Bd.named
  have hnm := (name_of_methodNamed Bd.named Bd.method).1
  have X0 : Stand p l e ({ frames := 1, cells := 1, slots := 16, locals := 12 } : Room) s m #[(.ref o0), (.int (16 : Int32))] below meth c s₁ [] 0 0 := Stand.of_body Bd
  have e0 : s₁.heap = h0 := by rw [← hh, Bd.state]; rfl
  have N0 := Fr.nil n0
  have K0 : Keep h0 h0 [o0] := Keep.refl _ _
  have R0 : Rch p e below (s₁.setTop (entryFrame m #[(.ref o0), (.int (16 : Int32))] 2)) s₁ (mkF m 0 #[.val (.ref o0), .val (.int (16 : Int32))] []) := fun t k => castTop (ef_rm_ainit m o0 (16 : Int32)) k
  have R2 : Rch p e below (s₁.setTop (entryFrame m #[(.ref o0), (.int (16 : Int32))] 2)) s₁ (mkF m 1 #[.val (.ref o0), .val (.int (16 : Int32))] [(.ref o0)]) := fun t k => by
    refine R0 t ?_
    refine XS.aloadN X0.here hx rfl (hb hby d3_0) rfl rfl ?_
    exact k
  obtain ⟨T1, X1, e1, st1⟩ := initO X0 hx hZ hown (hw _ (List.mem_of_getElem? (i := 25) rfl)) (hw _ (List.mem_of_getElem? (i := 26) rfl)) (hw _ (List.mem_of_getElem? (i := 27) rfl)) e0 (g := (mkF m 1 #[.val (.ref o0), .val (.int (16 : Int32))] [(.ref o0)])) rfl (by rw [hml]; rfl) rfl (hb hby d3_1) (by decide) (W := 0) (by show 2 * 0 + _ ≤ _; exact Nat.le_of_eq rfl) (by decide)
  have R4 : Rch p e below (s₁.setTop (entryFrame m #[(.ref o0), (.int (16 : Int32))] 2)) T1 (mkF m 4 #[.val (.ref o0), .val (.int (16 : Int32))] []) := fun t k => by
    refine R2 t ?_
    refine st1 _ ?_
    exact k
  obtain ⟨T3, X3, e3, st3⟩ := getS2 X1 hx hZ hown (host := "") (Or.inl (hw _ (List.mem_of_getElem? (i := 28) rfl))) Via.refl e1 pS (g := (mkF m 4 #[.val (.ref o0), .val (.int (16 : Int32))] [])) rfl (hb hby d3_4)
  have R6 : Rch p e below (s₁.setTop (entryFrame m #[(.ref o0), (.int (16 : Int32))] 2)) T3 (mkF m 12 #[.val (.ref o0), .val (.int (16 : Int32))] [(.int (16 : Int32)), (.ref o0)]) := fun t k => by
    refine R4 t ?_
    refine st3 _ ?_
    show Steps p.tables e below (T3.setTop (mkF m 7 #[.val (.ref o0), .val (.int (16 : Int32))] [(.int cs)])) t
    refine XS.ifNo X3.here hx rfl (hb hby d3_7) rfl ((if0 _ _).trans (feq pcs).1) ?_
    show Steps p.tables e below (T3.setTop (mkF m 10 #[.val (.ref o0), .val (.int (16 : Int32))] [])) t
    refine XS.aloadN X3.here hx rfl (hb hby d3_10) rfl rfl ?_
    show Steps p.tables e below (T3.setTop (mkF m 11 #[.val (.ref o0), .val (.int (16 : Int32))] [(.ref o0)])) t
    refine XS.iloadN X3.here hx rfl (hb hby d3_11) rfl ?_
    exact k
  obtain ⟨T5, h5, k5, X5, e5, E5, A5, st5⟩ := newP X3 hx hZ (hw _ (List.mem_of_getElem? (i := 8) rfl)) e3 (g := (mkF m 12 #[.val (.ref o0), .val (.int (16 : Int32))] [(.int (16 : Int32)), (.ref o0)])) rfl (hb hby d3_12) rfl (by decide) (cap := 16) (by decide) (by decide) (by decide) (by decide)
  obtain ⟨b5, g5⟩ : ∃ z, z = h0.size := ⟨_, rfl⟩
  rw [← g5] at A5 st5
  have g_b5 : n0 ≤ b5 := Nat.le_trans (Nat.le_trans Z0 K0.1) (Nat.le_of_eq g5.symm)
  have sz_b5 : h0.size ≤ b5 := Nat.le_trans K0.1 (Nat.le_of_eq g5.symm)
  have K5 : Keep h0 h5 [o0] := K0.ext E5
  have V5 : Arv Z h5 b5 k5 .byte (16 : Int32) [(.int (0 : Int32)), (.int (0 : Int32)), (.int (0 : Int32)), (.int (0 : Int32)), (.int (0 : Int32)), (.int (0 : Int32)), (.int (0 : Int32)), (.int (0 : Int32)), (.int (0 : Int32)), (.int (0 : Int32)), (.int (0 : Int32)), (.int (0 : Int32)), (.int (0 : Int32)), (.int (0 : Int32)), (.int (0 : Int32)), (.int (0 : Int32))] (.int (0 : Int32)) := (Arv.new A5 (by decide)).pad (pad_rep [] (.int (0 : Int32)) 16)
  have R8 : Rch p e below (s₁.setTop (entryFrame m #[(.ref o0), (.int (16 : Int32))] 2)) T5 (mkF m 14 #[.val (.ref o0), .val (.int (16 : Int32))] [(.ref b5), (.ref o0)]) := fun t k => by
    refine R6 t ?_
    refine st5 _ ?_
    exact k
  have f7 := (pFv.ext E5)
  obtain ⟨T9, h9, X9, e9, W9, st9⟩ := putF X5 hx hZ hown (host := "") (Or.inl (hw _ (List.mem_of_getElem? (i := 29) rfl))) Via.refl e5 f7 (pE.ext E5) (Or.inl (hw _ (List.mem_of_getElem? (i := 30) rfl))) (hw _ (List.mem_of_getElem? (i := 14) rfl)) (ty := (.array .byte)) (by decide) rfl rfl (g := (mkF m 14 #[.val (.ref o0), .val (.int (16 : Int32))] [(.ref b5), (.ref o0)])) rfl rfl (hb hby d3_14)
  have Fw9 := f7.same W9
  have K9 : Keep h0 h9 [o0] := K5.wr W9 (Or.inl (List.mem_of_getElem? (i := 0) rfl))
  have N9 := Fr.snoc X9 N0 pg
  have R11 : Rch p e below (s₁.setTop (entryFrame m #[(.ref o0), (.int (16 : Int32))] 2)) T9 (mkF m 19 #[.val (.ref o0), .val (.int (16 : Int32))] [(.int (0 : Int32)), (.ref o0)]) := fun t k => by
    refine R8 t ?_
    refine st9 _ ?_
    show Steps p.tables e below (T9.setTop (mkF m 17 #[.val (.ref o0), .val (.int (16 : Int32))] [])) t
    refine XS.aloadN X9.here hx rfl (hb hby d3_17) rfl rfl ?_
    show Steps p.tables e below (T9.setTop (mkF m 18 #[.val (.ref o0), .val (.int (16 : Int32))] [(.ref o0)])) t
    refine XS.iconst X9.here hx rfl (hb hby d3_18) ?_
    exact k
  have f10 := ((pFc.ext E5).other W9 (Or.inr (slot_ne (Or.inl (hw _ (List.mem_of_getElem? (i := 32) rfl))) (Or.inl (hw _ (List.mem_of_getElem? (i := 30) rfl))) (by decide) (t := .byte) (t' := (.array .byte)) (by decide) (by decide))))
  obtain ⟨T12, h12, X12, e12, W12, st12⟩ := putFN X9 hx hZ hown (hw _ (List.mem_of_getElem? (i := 31) rfl)) Via.refl e9 f10 ((pE.ext E5).wr W9) (Or.inl (hw _ (List.mem_of_getElem? (i := 32) rfl))) (hw _ (List.mem_of_getElem? (i := 14) rfl)) (ty := .byte) (v' := (.int (0 : Int32))) (by decide) rfl rfl (g := (mkF m 19 #[.val (.ref o0), .val (.int (16 : Int32))] [(.int (0 : Int32)), (.ref o0)])) rfl rfl (hb hby d3_19)
  have Fw12 := f10.same W12
  have K12 : Keep h0 h12 [o0] := K9.wr W12 (Or.inl (List.mem_of_getElem? (i := 0) rfl))
  have N12 := Fr.snoc X12 N9 pg
  have R13 : Rch p e below (s₁.setTop (entryFrame m #[(.ref o0), (.int (16 : Int32))] 2)) T12 (mkF m 38 #[.val (.ref o0), .val (.int (16 : Int32))] []) := fun t k => by
    refine R11 t ?_
    refine st12 _ ?_
    show Steps p.tables e below (T12.setTop (mkF m 22 #[.val (.ref o0), .val (.int (16 : Int32))] [])) t
    refine XS.goto X12.here hx rfl (pc0 := 22) (pc' := 38) rfl (hb hby d3_22) (by decide) (by decide) ?_
    exact k
  obtain ⟨fs, hr, hrun, hended, hW, hsame⟩ := X12.leave (v := none) (fun _ => rfl) (BodyLoose.notSynchronized Bd)
  refine ⟨_, _, R13 _ ?_, hrun, hended, _, _, rfl, ?_, ⟨_, rfl⟩, hW, hsame.mono (by decide) (by decide)⟩
  · exact X12.returnOut hx Bd.returns (hb hby d3_38) hr
  · show Q_rm_ainit Z o0 cs h0 n0 _ T12.heap _
    rw [e12]
    exact ⟨rfl, N12, K12, (((pE.ext E5).wr W9).wr W12), (g5 ▸ (Fw9.other W12 (Or.inr (slot_ne (Or.inl (hw _ (List.mem_of_getElem? (i := 30) rfl))) (Or.inl (hw _ (List.mem_of_getElem? (i := 32) rfl))) (by decide) (t := (.array .byte)) (t' := .byte) (by decide) (by decide))))), Fw12, (((pFn.ext E5).other W9 (Or.inr (slot_ne (Or.inl (hw _ (List.mem_of_getElem? (i := 44) rfl))) (Or.inl (hw _ (List.mem_of_getElem? (i := 30) rfl))) (by decide) (t := .int) (t' := (.array .byte)) (by decide) (by decide)))).other W12 (Or.inr (slot_ne (Or.inl (hw _ (List.mem_of_getElem? (i := 44) rfl))) (Or.inl (hw _ (List.mem_of_getElem? (i := 32) rfl))) (by decide) (t := .int) (t' := .byte) (by decide) (by decide)))), ⟨_, g5 ▸ ((V5.other W9 (Ne.symm (Nat.ne_of_lt (Nat.lt_of_lt_of_le pE.lt (Nat.le_of_eq g5.symm))))).other W12 (Ne.symm (Nat.ne_of_lt (Nat.lt_of_lt_of_le pE.lt (Nat.le_of_eq g5.symm)))))⟩⟩
theorem d2_0 : decode jdk_67_method_1_code 0 = .ok (.aload_n 0, 1) := by decide +kernel
theorem d2_1 : decode jdk_67_method_1_code 1 = .ok (.bipush 16, 2) := by decide +kernel
theorem d2_3 : decode jdk_67_method_1_code 3 = .ok (.invokespecial 1, 3) := by decide +kernel
theorem d2_6 : decode jdk_67_method_1_code 6 = .ok (.return_, 1) := by decide +kernel
theorem ef_rm_sinit (m : MethodId) (x0 : Addr) : entryFrame m #[(.ref x0)] 1 = mkF m 0 #[.val (.ref x0)] [] := by first | (simp [entryFrame, mkF, argsToLocals, Value.category]; done) | rfl
def Q_rm_sinit (Z : State) (o0 : Addr) (cs : Int32) (h0 : Heap) (n0 : Nat) (v : Option Value) (h : Heap) (L : List Loc) : Prop := (v = none) ∧ (Fr n0 L) ∧ (Keep h0 h [o0]) ∧ (Exa Z h o0 "java/lang/StringBuilder") ∧ (Fld Z h o0 "java/lang/AbstractStringBuilder" "value" "[B" (.ref (h0.size))) ∧ (Fld Z h o0 "java/lang/AbstractStringBuilder" "coder" "B" (.int (0 : Int32))) ∧ (Fld Z h o0 "java/lang/AbstractStringBuilder" "count" "I" (.int (0 : Int32))) ∧ (∃ kx, Arv Z h (h0.size) kx .byte (16 : Int32) [(.int (0 : Int32)), (.int (0 : Int32)), (.int (0 : Int32)), (.int (0 : Int32)), (.int (0 : Int32)), (.int (0 : Int32)), (.int (0 : Int32)), (.int (0 : Int32)), (.int (0 : Int32)), (.int (0 : Int32)), (.int (0 : Int32)), (.int (0 : Int32)), (.int (0 : Int32)), (.int (0 : Int32)), (.int (0 : Int32)), (.int (0 : Int32))] (.int (0 : Int32)))
set_option maxRecDepth 65536 in
set_option maxHeartbeats 40000000 in
theorem rm_sinit (l : Launch) (Z : State) (a0 : Array Value) (hw : ∀ d ∈ tables_1, d.before a0 Z = true) (ws : List Jvm.Cond) (o0 : Addr) (cs : Int32) (h0 : Heap) (n0 : Nat) (Z0 : n0 ≤ h0.size) (pE : Exa Z h0 o0 "java/lang/StringBuilder") (pg : n0 ≤ o0) (pFv : Fld Z h0 o0 "java/lang/AbstractStringBuilder" "value" "[B" .null) (pFc : Fld Z h0 o0 "java/lang/AbstractStringBuilder" "coder" "B" (.int (0 : Int32))) (pFn : Fld Z h0 o0 "java/lang/AbstractStringBuilder" "count" "I" (.int (0 : Int32))) (pS : Sta Z h0 "java/lang/String" "COMPACT_STRINGS" "Z" (.int cs)) (pcs : ¬ (cs = (0 : Int32))) :
    MetFree l (⟨"java/lang/StringBuilder", "<init>", "()V"⟩ : MethodName) (head1 (Jvm.Cond.code (⟨"java/lang/StringBuilder", "<init>", "()V"⟩ : MethodName) jdk_67_method_1_code 1 none :: ws) ({ frames := 2, cells := 1, slots := 16, locals := 25 } : Room)) (fun a U => a = #[(.ref o0)] ∧ Z.Warmed39 U.vm ∧ U.heap = h0) (fun _ _ _ _ _ => True) (fun _ U o U' => ∃ v L, o = .returned v ∧ Q_rm_sinit Z o0 cs h0 n0 v U'.heap L ∧ FrameEnd U o U' L ({ frames := 2, cells := 1, slots := 16, locals := 25 } : Room).cells ({ frames := 2, cells := 1, slots := 16, locals := 25 } : Room).slots) := by
  refine MetFree.of_bodySF (plainFor_of_name pn_6) hisR ?_
  intro p e s m args below meth c s₁ Bd hml0 hP hK
  obtain ⟨rfl, hZ, hh⟩ := hP
  have hx := Bd.exec
  have hby := Bd.bytes
  have hml : c.maxLocals = 1 := hml0
  have hown : s.vm.findClass "java/lang/StringBuilder" = some m.cls := findClass_of_methodNamed Bd.named
  have hnm := (name_of_methodNamed Bd.named Bd.method).1
  have X0 : Stand p l e ({ frames := 2, cells := 1, slots := 16, locals := 25 } : Room) s m #[(.ref o0)] below meth c s₁ [] 0 0 := Stand.of_body Bd
  have e0 : s₁.heap = h0 := by rw [← hh, Bd.state]; rfl
  have N0 := Fr.nil n0
  have K0 : Keep h0 h0 [o0] := Keep.refl _ _
  have R0 : Rch p e below (s₁.setTop (entryFrame m #[(.ref o0)] 1)) s₁ (mkF m 0 #[.val (.ref o0)] []) := fun t k => castTop (ef_rm_sinit m o0) k
  have R2 : Rch p e below (s₁.setTop (entryFrame m #[(.ref o0)] 1)) s₁ (mkF m 3 #[.val (.ref o0)] [(.int (16 : Int32)), (.ref o0)]) := fun t k => by
    refine R0 t ?_
    refine XS.aloadN X0.here hx rfl (hb hby d2_0) rfl rfl ?_
    show Steps p.tables e below (s₁.setTop (mkF m 1 #[.val (.ref o0)] [(.ref o0)])) t
    refine XS.bipush X0.here hx rfl (hb hby d2_1) ?_
    exact k
  obtain ⟨_, _, ⟨T1, L1, k1, n1⟩, -, X1, ⟨Lc1, hQ1, l1, y1, z1⟩, st1⟩ := X0.specialBack hx (y := (⟨"java/lang/AbstractStringBuilder", "<init>", "(I)V"⟩ : MethodName)) rfl hown (mvT hZ (hw _ (List.mem_of_getElem? (i := 19) rfl))) (mvT hZ (hw _ (List.mem_of_getElem? (i := 20) rfl))) (mvT hZ (hw _ (List.mem_of_getElem? (i := 24) rfl))) (by decide) (backOf (W := 0) (rm_ainit l Z a0 hw [] o0 cs h0 n0 (Nat.le_trans Z0 K0.1) pE pg pFv pFc pFn pS pcs) hZ (hw _ (List.mem_of_getElem? (i := 24) rfl)) (hw _ (List.mem_of_getElem? (i := 23) rfl)) (by decide) (by decide)) (g := (mkF m 3 #[.val (.ref o0)] [(.int (16 : Int32)), (.ref o0)])) rfl (by rw [hml]; rfl) (Steps.refl _) (a := o0) (argsL := [(.int (16 : Int32))]) (rest := []) (lenOf pd_6 rfl) rfl (by show 2 * 0 + _ ≤ _; exact Nat.le_of_eq rfl) (hb hby d2_3) (fun _ _ => ⟨rfl, e0, (by decide : 0 + 1 ≤ _), (by decide : 0 + 16 ≤ _)⟩)
  dsimp only [Pt.U, Pt.locs, Pt.cells, Pt.slots] at X1 l1 y1 z1 st1 hQ1
  subst l1 y1 z1
  obtain ⟨rfl, N1q, Kc1, c1_E, c1_Fv, c1_Fc, c1_Fn, c1_arr⟩ := hQ1
  have N1 := Fr.app N0 N1q
  have K1 : Keep h0 T1.heap [o0] := K0.trans Kc1 (allS (Or.inl (List.mem_of_getElem? (i := 0) rfl)) all0)
  have R3 : Rch p e below (s₁.setTop (entryFrame m #[(.ref o0)] 1)) T1 (mkF m 6 #[.val (.ref o0)] []) := fun t k => by
    refine R2 t ?_
    refine st1.trans ?_
    exact k
  obtain ⟨fs, hr, hrun, hended, hW, hsame⟩ := X1.leave (v := none) (fun _ => rfl) (BodyLoose.notSynchronized Bd)
  refine ⟨_, _, R3 _ ?_, hrun, hended, _, _, rfl, ?_, ⟨_, rfl⟩, hW, hsame.mono (by decide) (by decide)⟩
  · exact X1.returnOut hx Bd.returns (hb hby d2_6) hr
  · show Q_rm_sinit Z o0 cs h0 n0 _ T1.heap _
    exact ⟨rfl, N1, K1, c1_E, c1_Fv, c1_Fc, c1_Fn, c1_arr⟩
theorem d29_0 : decode method_3_code 0 = .ok (.iload_n 3, 1) := by decide +kernel
theorem d29_1 : decode method_3_code 1 = .ok (.iload_n 2, 1) := by decide +kernel
theorem d29_2 : decode method_3_code 2 = .ok (.if_icmp .lt 5, 3) := by decide +kernel
theorem d29_7 : decode method_3_code 7 = .ok (.iload_n 1, 1) := by decide +kernel
theorem d29_8 : decode method_3_code 8 = .ok (.i2l, 1) := by decide +kernel
theorem d29_9 : decode method_3_code 9 = .ok (.aload 4, 2) := by decide +kernel
theorem d29_11 : decode method_3_code 11 = .ok (.iload_n 2, 1) := by decide +kernel
theorem d29_12 : decode method_3_code 12 = .ok (.iconst 1, 1) := by decide +kernel
theorem d29_13 : decode method_3_code 13 = .ok (.isub, 1) := by decide +kernel
theorem d29_14 : decode method_3_code 14 = .ok (.iload_n 3, 1) := by decide +kernel
theorem d29_15 : decode method_3_code 15 = .ok (.isub, 1) := by decide +kernel
theorem d29_16 : decode method_3_code 16 = .ok (.laload, 1) := by decide +kernel
theorem d29_17 : decode method_3_code 17 = .ok (.ldiv, 1) := by decide +kernel
theorem d29_18 : decode method_3_code 18 = .ok (.lstore 5, 2) := by decide +kernel
theorem d29_20 : decode method_3_code 20 = .ok (.aload_n 0, 1) := by decide +kernel
theorem d29_21 : decode method_3_code 21 = .ok (.iload_n 3, 1) := by decide +kernel
theorem d29_22 : decode method_3_code 22 = .ok (.invokevirtual 12, 3) := by decide +kernel
theorem pd_19 : parseMethodDescriptor "(I)C" = some ⟨[.int], some .char⟩ := by decide +kernel
theorem d29_25 : decode method_3_code 25 = .ok (.bipush 48, 2) := by decide +kernel
theorem d29_27 : decode method_3_code 27 = .ok (.lload 5, 2) := by decide +kernel
theorem d29_29 : decode method_3_code 29 = .ok (.ldc2_w 18, 3) := by decide +kernel
theorem d29_32 : decode method_3_code 32 = .ok (.lrem, 1) := by decide +kernel
theorem d29_33 : decode method_3_code 33 = .ok (.l2i, 1) := by decide +kernel
theorem d29_34 : decode method_3_code 34 = .ok (.iadd, 1) := by decide +kernel
theorem d29_35 : decode method_3_code 35 = .ok (.i2c, 1) := by decide +kernel
theorem d29_36 : decode method_3_code 36 = .ok (.if_icmp .ne 7, 3) := by decide +kernel
theorem d29_39 : decode method_3_code 39 = .ok (.iconst 1, 1) := by decide +kernel
theorem d29_40 : decode method_3_code 40 = .ok (.goto 4, 3) := by decide +kernel
theorem d29_44 : decode method_3_code 44 = .ok (.ireturn, 1) := by decide +kernel
theorem d29_5 : decode method_3_code 5 = .ok (.iconst 1, 1) := by decide +kernel
theorem d29_6 : decode method_3_code 6 = .ok (.ireturn, 1) := by decide +kernel
theorem ef_rm_at (m : MethodId) (x0 : Addr) (x1 : Int32) (x2 : Int32) (x3 : Int32) (x4 : Addr) : entryFrame m #[(.ref x0), (.int x1), (.int x2), (.int x3), (.ref x4)] 7 = mkF m 0 #[.val (.ref x0), .val (.int x1), .val (.int x2), .val (.int x3), .val (.ref x4), .unset, .unset] [] := by first | (simp [entryFrame, mkF, argsToLocals, Value.category]; done) | rfl
def Q_rm_at (Z : State) (o0 : Addr) (cs : Int32) (sv : Addr) (ks : ClassId) (q0 : Int32) (q2 : Int32) (t0 : Int32) (t1 : Int32) (pa : Addr) (kp : ClassId) (vv : Value) (h0 : Heap) (n0 : Nat) (v : Option Value) (h : Heap) (L : List Loc) : Prop := (v = some (.int (1 : Int32))) ∧ (Fr n0 L) ∧ (h = h0)
set_option maxRecDepth 65536 in
set_option maxHeartbeats 40000000 in
theorem rm_at (l : Launch) (Z : State) (a0 : Array Value) (hw : ∀ d ∈ tables_1, d.before a0 Z = true) (ws : List Jvm.Cond) (o0 : Addr) (cs : Int32) (sv : Addr) (ks : ClassId) (q0 : Int32) (q2 : Int32) (t0 : Int32) (t1 : Int32) (pa : Addr) (kp : ClassId) (vv : Value) (h0 : Heap) (n0 : Nat) (Z0 : n0 ≤ h0.size) (pE : Exa Z h0 o0 "java/lang/String") (pFv : Fld Z h0 o0 "java/lang/String" "value" "[B" (.ref sv)) (pFc : Fld Z h0 o0 "java/lang/String" "coder" "B" (.int (0 : Int32))) (pV : Arv Z h0 sv ks .byte ((own_dg q0) + (2 : Int32)) (own_txt q0 (own_dn q0) t0 t1) (.int (0 : Int32))) (pS : Sta Z h0 "java/lang/String" "COMPACT_STRINGS" "Z" (.int cs)) (pcs : ¬ (cs = (0 : Int32))) (pSF : Sta Z h0 "jdk/internal/util/Preconditions" "SIOOBE_FORMATTER" "Ljava/util/function/BiFunction;" vv) (pvv : vv.isRef = true) (hn : 0 ≤ q0.toInt) (pp : Arv Z h0 pa kp .long (10 : Int32) own_pows (.long (0 : Int64))) (pi : 0 ≤ q2.toInt ∧ q2.toInt ≤ 9) :
    MetFree l (⟨"com/example/clausewright/clausewright/OrdinalPrintPinLaw", "at", "(Ljava/lang/String;III[J)Z"⟩ : MethodName) (head1 (Jvm.Cond.code (⟨"com/example/clausewright/clausewright/OrdinalPrintPinLaw", "at", "(Ljava/lang/String;III[J)Z"⟩ : MethodName) method_3_code 7 (some .boolean) :: ws) ({ frames := 4, cells := 0, slots := 0, locals := 53 } : Room)) (fun a U => a = #[(.ref o0), (.int q0), (.int (own_dg q0)), (.int q2), (.ref pa)] ∧ Z.Warmed39 U.vm ∧ U.heap = h0) (fun _ _ _ _ _ => True) (fun _ U o U' => ∃ v L, o = .returned v ∧ Q_rm_at Z o0 cs sv ks q0 q2 t0 t1 pa kp vv h0 n0 v U'.heap L ∧ FrameEnd U o U' L ({ frames := 4, cells := 0, slots := 0, locals := 53 } : Room).cells ({ frames := 4, cells := 0, slots := 0, locals := 53 } : Room).slots) := by
  refine MetFree.of_bodySF (plainFor_of_name pn_3) hisR ?_
  intro p e s m args below meth c s₁ Bd hml0 hP hK
  obtain ⟨rfl, hZ, hh⟩ := hP
  have hx := Bd.exec
  have hby := Bd.bytes
  have hml : c.maxLocals = 7 := hml0
  have hown : s.vm.findClass "com/example/clausewright/clausewright/OrdinalPrintPinLaw" = some m.cls := findClass_of_methodNamed Bd.named
  have hnm := (name_of_methodNamed Bd.named Bd.method).1
  have X0 : Stand p l e ({ frames := 4, cells := 0, slots := 0, locals := 53 } : Room) s m #[(.ref o0), (.int q0), (.int (own_dg q0)), (.int q2), (.ref pa)] below meth c s₁ [] 0 0 := Stand.of_body Bd
  have e0 : s₁.heap = h0 := by rw [← hh, Bd.state]; rfl
  have N0 := Fr.nil n0
  have K0 : Keep h0 h0 [] := Keep.refl _ _
  have R0 : Rch p e below (s₁.setTop (entryFrame m #[(.ref o0), (.int q0), (.int (own_dg q0)), (.int q2), (.ref pa)] 7)) s₁ (mkF m 0 #[.val (.ref o0), .val (.int q0), .val (.int (own_dg q0)), .val (.int q2), .val (.ref pa), .unset, .unset] []) := fun t k => castTop (ef_rm_at m o0 q0 (own_dg q0) q2 pa) k
  have R2 : Rch p e below (s₁.setTop (entryFrame m #[(.ref o0), (.int q0), (.int (own_dg q0)), (.int q2), (.ref pa)] 7)) s₁ (mkF m 2 #[.val (.ref o0), .val (.int q0), .val (.int (own_dg q0)), .val (.int q2), .val (.ref pa), .unset, .unset] [(.int (own_dg q0)), (.int q2)]) := fun t k => by
    refine R0 t ?_
    refine XS.iloadN X0.here hx rfl (hb hby d29_0) rfl ?_
    show Steps p.tables e below (s₁.setTop (mkF m 1 #[.val (.ref o0), .val (.int q0), .val (.int (own_dg q0)), .val (.int q2), .val (.ref pa), .unset, .unset] [(.int q2)])) t
    refine XS.iloadN X0.here hx rfl (hb hby d29_1) rfl ?_
    exact k
  by_cases hc2_1 : q2 < (own_dg q0)
  · have R3 : Rch p e below (s₁.setTop (entryFrame m #[(.ref o0), (.int q0), (.int (own_dg q0)), (.int q2), (.ref pa)] 7)) s₁ (mkF m 7 #[.val (.ref o0), .val (.int q0), .val (.int (own_dg q0)), .val (.int q2), .val (.ref pa), .unset, .unset] []) := fun t k => by
      refine R2 t ?_
      refine XS.icmpYes X0.here hx rfl (pc0 := 2) (pc' := 7) rfl (hb hby d29_2) rfl (tlt hc2_1).1 (by decide) (by decide) ?_
      exact k
    have ix := own_idx hn pi hc2_1
    have R5 : Rch p e below (s₁.setTop (entryFrame m #[(.ref o0), (.int q0), (.int (own_dg q0)), (.int q2), (.ref pa)] 7)) s₁ (mkF m 16 #[.val (.ref o0), .val (.int q0), .val (.int (own_dg q0)), .val (.int q2), .val (.ref pa), .unset, .unset] [(.int (((own_dg q0) - (1 : Int32)) - q2)), (.ref pa), (.long (q0.toInt64))]) := fun t k => by
      refine R3 t ?_
      refine XS.iloadN X0.here hx rfl (hb hby d29_7) rfl ?_
      show Steps p.tables e below (s₁.setTop (mkF m 8 #[.val (.ref o0), .val (.int q0), .val (.int (own_dg q0)), .val (.int q2), .val (.ref pa), .unset, .unset] [(.int q0)])) t
      refine XS.i2l X0.here hx rfl (hb hby d29_8) rfl ?_
      show Steps p.tables e below (s₁.setTop (mkF m 9 #[.val (.ref o0), .val (.int q0), .val (.int (own_dg q0)), .val (.int q2), .val (.ref pa), .unset, .unset] [(.long (q0.toInt64))])) t
      refine XS.aload X0.here hx rfl (hb hby d29_9) rfl rfl ?_
      show Steps p.tables e below (s₁.setTop (mkF m 11 #[.val (.ref o0), .val (.int q0), .val (.int (own_dg q0)), .val (.int q2), .val (.ref pa), .unset, .unset] [(.ref pa), (.long (q0.toInt64))])) t
      refine XS.iloadN X0.here hx rfl (hb hby d29_11) rfl ?_
      show Steps p.tables e below (s₁.setTop (mkF m 12 #[.val (.ref o0), .val (.int q0), .val (.int (own_dg q0)), .val (.int q2), .val (.ref pa), .unset, .unset] [(.int (own_dg q0)), (.ref pa), (.long (q0.toInt64))])) t
      refine XS.iconst X0.here hx rfl (hb hby d29_12) ?_
      show Steps p.tables e below (s₁.setTop (mkF m 13 #[.val (.ref o0), .val (.int q0), .val (.int (own_dg q0)), .val (.int q2), .val (.ref pa), .unset, .unset] [(.int (1 : Int32)), (.int (own_dg q0)), (.ref pa), (.long (q0.toInt64))])) t
      refine XS.isub X0.here hx rfl (hb hby d29_13) rfl ?_
      show Steps p.tables e below (s₁.setTop (mkF m 14 #[.val (.ref o0), .val (.int q0), .val (.int (own_dg q0)), .val (.int q2), .val (.ref pa), .unset, .unset] [(.int ((own_dg q0) - (1 : Int32))), (.ref pa), (.long (q0.toInt64))])) t
      refine XS.iloadN X0.here hx rfl (hb hby d29_14) rfl ?_
      show Steps p.tables e below (s₁.setTop (mkF m 15 #[.val (.ref o0), .val (.int q0), .val (.int (own_dg q0)), .val (.int q2), .val (.ref pa), .unset, .unset] [(.int q2), (.int ((own_dg q0) - (1 : Int32))), (.ref pa), (.long (q0.toInt64))])) t
      refine XS.isub X0.here hx rfl (hb hby d29_15) rfl ?_
      exact k
    obtain ⟨cl4, Ar4, q4, Sz4, N4_, Hs4, G4⟩ := id pp
    have hin4 : ¬ ((((own_dg q0) - (1 : Int32)) - q2) < 0 ∨ cl4.slots.size ≤ ((((own_dg q0) - (1 : Int32)) - q2)).toNatClampNeg) := inb_of Sz4 ix.2.2.2.2.2
    have hat4 : cl4.slots[((((own_dg q0) - (1 : Int32)) - q2)).toNatClampNeg]? = some (.long (own_pw (((own_dg q0) - (1 : Int32)) - q2))) := Hs4.at hin4 (own_pow_at ix.1 ix.2.1)
    have R7 : Rch p e below (s₁.setTop (entryFrame m #[(.ref o0), (.int q0), (.int (own_dg q0)), (.int q2), (.ref pa)] 7)) s₁ (mkF m 22 #[.val (.ref o0), .val (.int q0), .val (.int (own_dg q0)), .val (.int q2), .val (.ref pa), .val (.long ((q0.toInt64) / (own_pw (((own_dg q0) - (1 : Int32)) - q2)))), .second] [(.int q2), (.ref o0)]) := fun t k => by
      refine R5 t ?_
      refine X0.laload hx (j := (((own_dg q0) - (1 : Int32)) - q2)) (v := (.long (own_pw (((own_dg q0) - (1 : Int32)) - q2)))) (by rw [e0]; exact Ar4.1) (State.isArrayOf_alike hZ.alike Ar4.2.1) Ar4.2.2 hin4 hat4 (g := (mkF m 16 #[.val (.ref o0), .val (.int q0), .val (.int (own_dg q0)), .val (.int q2), .val (.ref pa), .unset, .unset] [(.int (((own_dg q0) - (1 : Int32)) - q2)), (.ref pa), (.long (q0.toInt64))])) rfl rfl (hb hby d29_16) _ ?_
      show Steps p.tables e below (s₁.setTop (mkF m 17 #[.val (.ref o0), .val (.int q0), .val (.int (own_dg q0)), .val (.int q2), .val (.ref pa), .unset, .unset] [(.long (own_pw (((own_dg q0) - (1 : Int32)) - q2))), (.long (q0.toInt64))])) t
      refine XS.ldiv X0.here hx rfl (hb hby d29_17) rfl (own_pw_nz ix.1 ix.2.1) ?_
      show Steps p.tables e below (s₁.setTop (mkF m 18 #[.val (.ref o0), .val (.int q0), .val (.int (own_dg q0)), .val (.int q2), .val (.ref pa), .unset, .unset] [(.long ((q0.toInt64) / (own_pw (((own_dg q0) - (1 : Int32)) - q2))))])) t
      refine XS.lstore X0.here hx rfl (hb hby d29_18) rfl (l' := #[.val (.ref o0), .val (.int q0), .val (.int (own_dg q0)), .val (.int q2), .val (.ref pa), .val (.long ((q0.toInt64) / (own_pw (((own_dg q0) - (1 : Int32)) - q2)))), .second]) rfl ?_
      show Steps p.tables e below (s₁.setTop (mkF m 20 #[.val (.ref o0), .val (.int q0), .val (.int (own_dg q0)), .val (.int q2), .val (.ref pa), .val (.long ((q0.toInt64) / (own_pw (((own_dg q0) - (1 : Int32)) - q2)))), .second] [])) t
      refine XS.aloadN X0.here hx rfl (hb hby d29_20) rfl rfl ?_
      show Steps p.tables e below (s₁.setTop (mkF m 21 #[.val (.ref o0), .val (.int q0), .val (.int (own_dg q0)), .val (.int q2), .val (.ref pa), .val (.long ((q0.toInt64) / (own_pw (((own_dg q0) - (1 : Int32)) - q2)))), .second] [(.ref o0)])) t
      refine XS.iloadN X0.here hx rfl (hb hby d29_21) rfl ?_
      exact k
    obtain ⟨cq6, kq6, q6a, q6b, q6c⟩ := isOf hZ e0 pE
    obtain ⟨_, _, ⟨T6, L6, k6, n6⟩, -, X6, ⟨Lc6, hQ6, l6, y6, z6⟩, st6⟩ := X0.virtualBack hx (y := (⟨"java/lang/String", "charAt", "(I)C"⟩ : MethodName)) (z := (⟨"java/lang/String", "charAt", "(I)C"⟩ : MethodName)) hown (mvT hZ (hw _ (List.mem_of_getElem? (i := 166) rfl))) (mvT hZ (hw _ (List.mem_of_getElem? (i := 167) rfl))) (notFace_of_selects (args := #[]) (mvT hZ (hw _ (List.mem_of_getElem? (i := 169) rfl)))) (mvT hZ (hw _ (List.mem_of_getElem? (i := 169) rfl))) (mvT hZ (hw _ (List.mem_of_getElem? (i := 168) rfl))) (by decide) (backOf (W := 0) (rm_cha l Z a0 hw [] o0 cs sv ks ((own_dg q0) + (2 : Int32)) (own_txt q0 (own_dn q0) t0 t1) q2 (own_dig q0 (((own_dg q0) - (1 : Int32)) - q2).toNatClampNeg) vv h0 n0 (Nat.le_trans Z0 K0.1) pE pFv pFc pS pcs pV ix.2.2.2.2.1 (by rw [ix.2.2.1]; exact own_txt_dig _ _ _ _ _ ix.2.2.2.1) (own_dig_rng _ _) pvv pSF) hZ (hw _ (List.mem_of_getElem? (i := 170) rfl)) (hw _ (List.mem_of_getElem? (i := 6) rfl)) (by decide) (by decide)) q6a q6c (g := (mkF m 22 #[.val (.ref o0), .val (.int q0), .val (.int (own_dg q0)), .val (.int q2), .val (.ref pa), .val (.long ((q0.toInt64) / (own_pw (((own_dg q0) - (1 : Int32)) - q2)))), .second] [(.int q2), (.ref o0)])) rfl (by rw [hml]; rfl) (Steps.refl _) (argsL := [(.int q2)]) (rest := []) (lenOf pd_19 rfl) rfl (by show 2 * 0 + _ ≤ _; exact Nat.le_of_eq rfl) (hb hby d29_22) (fun _ _ => ⟨rfl, e0, (by decide : 0 + 0 ≤ _), (by decide : 0 + 0 ≤ _)⟩)
    dsimp only [Pt.U, Pt.locs, Pt.cells, Pt.slots] at X6 l6 y6 z6 st6 hQ6
    subst l6 y6 z6
    obtain ⟨rfl, N6q, e6⟩ := hQ6
    have N6 := Fr.app N0 N6q
    have R8 : Rch p e below (s₁.setTop (entryFrame m #[(.ref o0), (.int q0), (.int (own_dg q0)), (.int q2), (.ref pa)] 7)) T6 (mkF m 44 #[.val (.ref o0), .val (.int q0), .val (.int (own_dg q0)), .val (.int q2), .val (.ref pa), .val (.long ((q0.toInt64) / (own_pw (((own_dg q0) - (1 : Int32)) - q2)))), .second] [(.int (1 : Int32))]) := fun t k => by
      refine R7 t ?_
      refine st6.trans ?_
      show Steps p.tables e below (T6.setTop (mkF m 25 #[.val (.ref o0), .val (.int q0), .val (.int (own_dg q0)), .val (.int q2), .val (.ref pa), .val (.long ((q0.toInt64) / (own_pw (((own_dg q0) - (1 : Int32)) - q2)))), .second] [(.int (own_dig q0 (((own_dg q0) - (1 : Int32)) - q2).toNatClampNeg))])) t
      refine XS.bipush X6.here hx rfl (hb hby d29_25) ?_
      show Steps p.tables e below (T6.setTop (mkF m 27 #[.val (.ref o0), .val (.int q0), .val (.int (own_dg q0)), .val (.int q2), .val (.ref pa), .val (.long ((q0.toInt64) / (own_pw (((own_dg q0) - (1 : Int32)) - q2)))), .second] [(.int (48 : Int32)), (.int (own_dig q0 (((own_dg q0) - (1 : Int32)) - q2).toNatClampNeg))])) t
      refine XS.lload X6.here hx rfl (hb hby d29_27) rfl ?_
      show Steps p.tables e below (T6.setTop (mkF m 29 #[.val (.ref o0), .val (.int q0), .val (.int (own_dg q0)), .val (.int q2), .val (.ref pa), .val (.long ((q0.toInt64) / (own_pw (((own_dg q0) - (1 : Int32)) - q2)))), .second] [(.long ((q0.toInt64) / (own_pw (((own_dg q0) - (1 : Int32)) - q2)))), (.int (48 : Int32)), (.int (own_dig q0 (((own_dg q0) - (1 : Int32)) - q2).toNatClampNeg))])) t
      refine X6.ldc2Long hx hown (mvT hZ (hw _ (List.mem_of_getElem? (i := 149) rfl))) (g := (mkF m 29 #[.val (.ref o0), .val (.int q0), .val (.int (own_dg q0)), .val (.int q2), .val (.ref pa), .val (.long ((q0.toInt64) / (own_pw (((own_dg q0) - (1 : Int32)) - q2)))), .second] [(.long ((q0.toInt64) / (own_pw (((own_dg q0) - (1 : Int32)) - q2)))), (.int (48 : Int32)), (.int (own_dig q0 (((own_dg q0) - (1 : Int32)) - q2).toNatClampNeg))])) rfl (hb hby d29_29) _ ?_
      show Steps p.tables e below (T6.setTop (mkF m 32 #[.val (.ref o0), .val (.int q0), .val (.int (own_dg q0)), .val (.int q2), .val (.ref pa), .val (.long ((q0.toInt64) / (own_pw (((own_dg q0) - (1 : Int32)) - q2)))), .second] [(.long (10 : Int64)), (.long ((q0.toInt64) / (own_pw (((own_dg q0) - (1 : Int32)) - q2)))), (.int (48 : Int32)), (.int (own_dig q0 (((own_dg q0) - (1 : Int32)) - q2).toNatClampNeg))])) t
      refine XS.lrem X6.here hx rfl (hb hby d29_32) rfl (by decide) ?_
      show Steps p.tables e below (T6.setTop (mkF m 33 #[.val (.ref o0), .val (.int q0), .val (.int (own_dg q0)), .val (.int q2), .val (.ref pa), .val (.long ((q0.toInt64) / (own_pw (((own_dg q0) - (1 : Int32)) - q2)))), .second] [(.long (((q0.toInt64) / (own_pw (((own_dg q0) - (1 : Int32)) - q2))) - (((q0.toInt64) / (own_pw (((own_dg q0) - (1 : Int32)) - q2))) / (10 : Int64)) * (10 : Int64))), (.int (48 : Int32)), (.int (own_dig q0 (((own_dg q0) - (1 : Int32)) - q2).toNatClampNeg))])) t
      refine XS.l2i X6.here hx rfl (hb hby d29_33) rfl ?_
      show Steps p.tables e below (T6.setTop (mkF m 34 #[.val (.ref o0), .val (.int q0), .val (.int (own_dg q0)), .val (.int q2), .val (.ref pa), .val (.long ((q0.toInt64) / (own_pw (((own_dg q0) - (1 : Int32)) - q2)))), .second] [(.int ((((q0.toInt64) / (own_pw (((own_dg q0) - (1 : Int32)) - q2))) - (((q0.toInt64) / (own_pw (((own_dg q0) - (1 : Int32)) - q2))) / (10 : Int64)) * (10 : Int64)).toInt32)), (.int (48 : Int32)), (.int (own_dig q0 (((own_dg q0) - (1 : Int32)) - q2).toNatClampNeg))])) t
      refine XS.iadd X6.here hx rfl (hb hby d29_34) rfl ?_
      show Steps p.tables e below (T6.setTop (mkF m 35 #[.val (.ref o0), .val (.int q0), .val (.int (own_dg q0)), .val (.int q2), .val (.ref pa), .val (.long ((q0.toInt64) / (own_pw (((own_dg q0) - (1 : Int32)) - q2)))), .second] [(.int ((48 : Int32) + ((((q0.toInt64) / (own_pw (((own_dg q0) - (1 : Int32)) - q2))) - (((q0.toInt64) / (own_pw (((own_dg q0) - (1 : Int32)) - q2))) / (10 : Int64)) * (10 : Int64)).toInt32))), (.int (own_dig q0 (((own_dg q0) - (1 : Int32)) - q2).toNatClampNeg))])) t
      refine XS.i2c X6.here hx rfl (hb hby d29_35) rfl ?_
      show Steps p.tables e below (T6.setTop (mkF m 36 #[.val (.ref o0), .val (.int q0), .val (.int (own_dg q0)), .val (.int q2), .val (.ref pa), .val (.long ((q0.toInt64) / (own_pw (((own_dg q0) - (1 : Int32)) - q2)))), .second] [(.int (((48 : Int32) + ((((q0.toInt64) / (own_pw (((own_dg q0) - (1 : Int32)) - q2))) - (((q0.toInt64) / (own_pw (((own_dg q0) - (1 : Int32)) - q2))) / (10 : Int64)) * (10 : Int64)).toInt32)).toUInt32.toUInt16.toUInt32.toInt32)), (.int (own_dig q0 (((own_dg q0) - (1 : Int32)) - q2).toNatClampNeg))])) t
      refine XS.icmpNo X6.here hx rfl (hb hby d29_36) rfl (teq (own_atv hn ix.1 ix.2.1)).2 ?_
      show Steps p.tables e below (T6.setTop (mkF m 39 #[.val (.ref o0), .val (.int q0), .val (.int (own_dg q0)), .val (.int q2), .val (.ref pa), .val (.long ((q0.toInt64) / (own_pw (((own_dg q0) - (1 : Int32)) - q2)))), .second] [])) t
      refine XS.iconst X6.here hx rfl (hb hby d29_39) ?_
      show Steps p.tables e below (T6.setTop (mkF m 40 #[.val (.ref o0), .val (.int q0), .val (.int (own_dg q0)), .val (.int q2), .val (.ref pa), .val (.long ((q0.toInt64) / (own_pw (((own_dg q0) - (1 : Int32)) - q2)))), .second] [(.int (1 : Int32))])) t
      refine XS.goto X6.here hx rfl (pc0 := 40) (pc' := 44) rfl (hb hby d29_40) (by decide) (by decide) ?_
      exact k
    obtain ⟨fs, hr, hrun, hended, hW, hsame⟩ := X6.leave (v := some (.int (1 : Int32))) (fun h => by rw [Bd.returns] at h; cases h) (BodyLoose.notSynchronized Bd)
    refine ⟨_, _, R8 _ ?_, hrun, hended, _, _, rfl, ?_, ⟨_, rfl⟩, hW, hsame.mono (by decide) (by decide)⟩
    · exact retN X6 hx (t := .boolean) Bd.returns (by simp) (hb hby d29_44) hr
    · show Q_rm_at Z o0 cs sv ks q0 q2 t0 t1 pa kp vv h0 n0 _ T6.heap _
      rw [e6]
      exact ⟨rfl, N6, rfl⟩
  · have R9 : Rch p e below (s₁.setTop (entryFrame m #[(.ref o0), (.int q0), (.int (own_dg q0)), (.int q2), (.ref pa)] 7)) s₁ (mkF m 6 #[.val (.ref o0), .val (.int q0), .val (.int (own_dg q0)), .val (.int q2), .val (.ref pa), .unset, .unset] [(.int (1 : Int32))]) := fun t k => by
      refine R2 t ?_
      refine XS.icmpNo X0.here hx rfl (hb hby d29_2) rfl (flt hc2_1).1 ?_
      show Steps p.tables e below (s₁.setTop (mkF m 5 #[.val (.ref o0), .val (.int q0), .val (.int (own_dg q0)), .val (.int q2), .val (.ref pa), .unset, .unset] [])) t
      refine XS.iconst X0.here hx rfl (hb hby d29_5) ?_
      exact k
    obtain ⟨fs, hr, hrun, hended, hW, hsame⟩ := X0.leave (v := some (.int (1 : Int32))) (fun h => by rw [Bd.returns] at h; cases h) (BodyLoose.notSynchronized Bd)
    refine ⟨_, _, R9 _ ?_, hrun, hended, _, _, rfl, ?_, ⟨_, rfl⟩, hW, hsame.mono (by decide) (by decide)⟩
    · exact retN X0 hx (t := .boolean) Bd.returns (by simp) (hb hby d29_6) hr
    · show Q_rm_at Z o0 cs sv ks q0 q2 t0 t1 pa kp vv h0 n0 _ s₁.heap _
      rw [e0]
      exact ⟨rfl, N0, rfl⟩
theorem own_wS {Z : State} {a0 : Array Value} (hw : ∀ d ∈ tables_1, d.before a0 Z = true) : ∀ a ∈ Bundle.stringAtoms, a.before a0 Z = true := fun d hd => by
  simp only [Bundle.stringAtoms, List.mem_cons, List.not_mem_nil, or_false] at hd
  rcases hd with rfl | rfl | rfl | rfl | rfl | rfl | rfl
  · exact (hw _ (List.mem_of_getElem? (i := 6) rfl))
  · exact (hw _ (List.mem_of_getElem? (i := 7) rfl))
  · exact (hw _ (List.mem_of_getElem? (i := 8) rfl))
  · exact (hw _ (List.mem_of_getElem? (i := 9) rfl))
  · exact (hw _ (List.mem_of_getElem? (i := 10) rfl))
  · exact (hw _ (List.mem_of_getElem? (i := 11) rfl))
  · exact (hw _ (List.mem_of_getElem? (i := 12) rfl))
theorem own_EL {Z : State} {a0 : Array Value} (hw : ∀ d ∈ tables_1, d.before a0 Z = true) : EW Z a0 consts_1 := (EW.cons (hw _ (List.mem_of_getElem? (i := 5) rfl)) (by first | decide | simp) (EW.cons (hw _ (List.mem_of_getElem? (i := 195) rfl)) (by first | decide | simp) (EW.cons (hw _ (List.mem_of_getElem? (i := 196) rfl)) (by first | decide | simp) (EW.cons (hw _ (List.mem_of_getElem? (i := 188) rfl)) (by first | decide | simp) EW.nil))))
theorem d1_0 : decode prog_6_method_3_code 0 = .ok (.iload_n 0, 1) := by decide +kernel
theorem d1_1 : decode prog_6_method_3_code 1 = .ok (.bipush 100, 2) := by decide +kernel
theorem d1_3 : decode prog_6_method_3_code 3 = .ok (.irem, 1) := by decide +kernel
theorem d1_4 : decode prog_6_method_3_code 4 = .ok (.istore_n 1, 1) := by decide +kernel
theorem d1_5 : decode prog_6_method_3_code 5 = .ok (.iload_n 0, 1) := by decide +kernel
theorem d1_6 : decode prog_6_method_3_code 6 = .ok (.bipush 10, 2) := by decide +kernel
theorem d1_8 : decode prog_6_method_3_code 8 = .ok (.irem, 1) := by decide +kernel
theorem d1_9 : decode prog_6_method_3_code 9 = .ok (.istore_n 2, 1) := by decide +kernel
theorem d1_10 : decode prog_6_method_3_code 10 = .ok (.iload_n 1, 1) := by decide +kernel
theorem d1_11 : decode prog_6_method_3_code 11 = .ok (.bipush 11, 2) := by decide +kernel
theorem d1_13 : decode prog_6_method_3_code 13 = .ok (.if_icmp .lt 14, 3) := by decide +kernel
theorem d1_27 : decode prog_6_method_3_code 27 = .ok (.iload_n 2, 1) := by decide +kernel
theorem d1_28 : decode prog_6_method_3_code 28 = .ok (.iconst 1, 1) := by decide +kernel
theorem d1_29 : decode prog_6_method_3_code 29 = .ok (.if_icmp .ne 8, 3) := by decide +kernel
theorem d1_32 : decode prog_6_method_3_code 32 = .ok (.ldc 47, 2) := by decide +kernel
theorem d1_34 : decode prog_6_method_3_code 34 = .ok (.goto 25, 3) := by decide +kernel
theorem d1_37 : decode prog_6_method_3_code 37 = .ok (.iload_n 2, 1) := by decide +kernel
theorem d1_38 : decode prog_6_method_3_code 38 = .ok (.iconst 2, 1) := by decide +kernel
theorem d1_39 : decode prog_6_method_3_code 39 = .ok (.if_icmp .ne 8, 3) := by decide +kernel
theorem d1_42 : decode prog_6_method_3_code 42 = .ok (.ldc 49, 2) := by decide +kernel
theorem d1_44 : decode prog_6_method_3_code 44 = .ok (.goto 15, 3) := by decide +kernel
theorem d1_47 : decode prog_6_method_3_code 47 = .ok (.iload_n 2, 1) := by decide +kernel
theorem d1_48 : decode prog_6_method_3_code 48 = .ok (.iconst 3, 1) := by decide +kernel
theorem d1_49 : decode prog_6_method_3_code 49 = .ok (.if_icmp .ne 8, 3) := by decide +kernel
theorem d1_52 : decode prog_6_method_3_code 52 = .ok (.ldc 51, 2) := by decide +kernel
theorem d1_54 : decode prog_6_method_3_code 54 = .ok (.goto 5, 3) := by decide +kernel
theorem d1_57 : decode prog_6_method_3_code 57 = .ok (.ldc 45, 2) := by decide +kernel
theorem d1_16 : decode prog_6_method_3_code 16 = .ok (.iload_n 1, 1) := by decide +kernel
theorem d1_17 : decode prog_6_method_3_code 17 = .ok (.bipush 13, 2) := by decide +kernel
theorem d1_19 : decode prog_6_method_3_code 19 = .ok (.if_icmp .gt 8, 3) := by decide +kernel
theorem d1_22 : decode prog_6_method_3_code 22 = .ok (.ldc 45, 2) := by decide +kernel
theorem d1_24 : decode prog_6_method_3_code 24 = .ok (.goto 35, 3) := by decide +kernel
theorem d1_59 : decode prog_6_method_3_code 59 = .ok (.astore_n 3, 1) := by decide +kernel
theorem d1_60 : decode prog_6_method_3_code 60 = .ok (.new 53, 3) := by decide +kernel
theorem d1_63 : decode prog_6_method_3_code 63 = .ok (.dup, 1) := by decide +kernel
theorem d1_64 : decode prog_6_method_3_code 64 = .ok (.invokespecial 55, 3) := by decide +kernel
theorem pd_20 : parseMethodDescriptor "()V" = some ⟨[], none⟩ := by decide +kernel
theorem d1_67 : decode prog_6_method_3_code 67 = .ok (.iload_n 0, 1) := by decide +kernel
theorem d1_68 : decode prog_6_method_3_code 68 = .ok (.invokevirtual 56, 3) := by decide +kernel
theorem pd_21 : parseMethodDescriptor "(I)Ljava/lang/StringBuilder;" = some ⟨[.int], some (.object "java/lang/StringBuilder")⟩ := by decide +kernel
theorem d1_71 : decode prog_6_method_3_code 71 = .ok (.aload_n 3, 1) := by decide +kernel
theorem d1_72 : decode prog_6_method_3_code 72 = .ok (.invokevirtual 60, 3) := by decide +kernel
theorem pd_22 : parseMethodDescriptor "(Ljava/lang/String;)Ljava/lang/StringBuilder;" = some ⟨[(.object "java/lang/String")], some (.object "java/lang/StringBuilder")⟩ := by decide +kernel
theorem d1_75 : decode prog_6_method_3_code 75 = .ok (.invokevirtual 63, 3) := by decide +kernel
theorem pd_23 : parseMethodDescriptor "()Ljava/lang/String;" = some ⟨[], some (.object "java/lang/String")⟩ := by decide +kernel
theorem d1_78 : decode prog_6_method_3_code 78 = .ok (.areturn, 1) := by decide +kernel
theorem ef_rm_print (m : MethodId) (x0 : Int32) : entryFrame m #[(.int x0)] 4 = mkF m 0 #[.val (.int x0), .unset, .unset, .unset] [] := by first | (simp [entryFrame, mkF, argsToLocals, Value.category]; done) | rfl
theorem pn_8 : plainName "com/example/clausewright/clausewright/Ordinal" = true := by first | (simp [plainName, overriddenIn]; done) | decide +kernel
def Q_rm_print (Z : State) (q0 : Int32) (cs : Int32) (ta : Addr) (tb : Addr) (ka : ClassId) (kt : ClassId) (h0 : Heap) (n0 : Nat) (v : Option Value) (h : Heap) (L : List Loc) : Prop := (∃ st sv ks, v = some (.ref st) ∧ Exa Z h st "java/lang/String" ∧ Fld Z h st "java/lang/String" "coder" "B" (.int (0 : Int32)) ∧ Fld Z h st "java/lang/String" "value" "[B" (.ref sv) ∧ Arv Z h sv ks .byte ((own_dg q0) + (2 : Int32)) (own_txt q0 (own_dn q0) (own_s0 q0) (own_s1 q0)) (.int (0 : Int32))) ∧ Fr n0 L ∧ Keep h0 h []
set_option maxRecDepth 65536 in
set_option maxHeartbeats 40000000 in
theorem rm_print (l : Launch) (Z : State) (a0 : Array Value) (hw : ∀ d ∈ tables_1, d.before a0 Z = true) (ws : List Jvm.Cond) (q0 : Int32) (cs : Int32) (ta : Addr) (tb : Addr) (ka : ClassId) (kt : ClassId) (h0 : Heap) (n0 : Nat) (Z0 : n0 ≤ h0.size) (hn : 0 ≤ q0.toInt) (pS : Sta Z h0 "java/lang/String" "COMPACT_STRINGS" "Z" (.int cs)) (pcs : ¬ (cs = (0 : Int32))) (pS1 : Sta Z h0 "java/lang/Integer" "DigitOnes" "[B" (.ref ta)) (pS2 : Sta Z h0 "java/lang/Integer" "DigitTens" "[B" (.ref tb)) (pT1 : Arv Z h0 ta ka .byte (100 : Int32) own_ones (.int (0 : Int32))) (pT2 : Arv Z h0 tb kt .byte (100 : Int32) own_tens (.int (0 : Int32))) :
    MetFree l (⟨"com/example/clausewright/clausewright/Ordinal", "print", "(I)Ljava/lang/String;"⟩ : MethodName) (head1 (Jvm.Cond.code (⟨"com/example/clausewright/clausewright/Ordinal", "print", "(I)Ljava/lang/String;"⟩ : MethodName) prog_6_method_3_code 4 (some (.object "java/lang/String")) :: ws) ({ frames := 6, cells := 6, slots := 48, locals := 91 } : Room)) (fun a U => a = #[(.int q0)] ∧ Z.Warmed39 U.vm ∧ U.heap = h0 ∧ CHv Z consts_1 U.vm h0) (fun _ _ _ _ _ => True) (fun _ U o U' => ∃ v L, o = .returned v ∧ Q_rm_print Z q0 cs ta tb ka kt h0 n0 v U'.heap L ∧ CHr Z consts_1 U.vm U.heap U'.vm U'.heap ∧ ReturnedEndW U o U' L ({ frames := 6, cells := 6, slots := 48, locals := 91 } : Room).cells ({ frames := 6, cells := 6, slots := 48, locals := 91 } : Room).slots) := by
  refine MetFree.of_bodySF (plainFor_of_name pn_8) hisR ?_
  intro p e s m args below meth c s₁ Bd hml0 hP hK
  obtain ⟨rfl, hZ, hh, hCH⟩ := hP
  have hx := Bd.exec
  have hby := Bd.bytes
  have hml : c.maxLocals = 4 := hml0
  have hown : s.vm.findClass "com/example/clausewright/clausewright/Ordinal" = some m.cls := findClass_of_methodNamed Bd.named
  have hnm := (name_of_methodNamed Bd.named Bd.method).1
  have X0 : Stand p l e ({ frames := 6, cells := 6, slots := 48, locals := 91 } : Room) s m #[(.int q0)] below meth c s₁ [] 0 0 := Stand.of_body Bd
  have e0 : s₁.heap = h0 := by rw [← hh, Bd.state]; rfl
  have N0 := Fr.nil n0
  have K0 : Keep h0 h0 [] := Keep.refl _ _
  have R0 : Rch p e below (s₁.setTop (entryFrame m #[(.int q0)] 4)) s₁ (mkF m 0 #[.val (.int q0), .unset, .unset, .unset] []) := fun t k => castTop (ef_rm_print m q0) k
  have R1 : Rch p e below (s₁.setTop (entryFrame m #[(.int q0)] 4)) s₁ (mkF m 10 #[.val (.int q0), .val (.int (q0 % (100 : Int32))), .val (.int (q0 % (10 : Int32))), .unset] []) := fun t k => by
    refine R0 t ?_
    refine XS.iloadN X0.here hx rfl (hb hby d1_0) rfl ?_
    show Steps p.tables e below (s₁.setTop (mkF m 1 #[.val (.int q0), .unset, .unset, .unset] [(.int q0)])) t
    refine XS.bipush X0.here hx rfl (hb hby d1_1) ?_
    show Steps p.tables e below (s₁.setTop (mkF m 3 #[.val (.int q0), .unset, .unset, .unset] [(.int (100 : Int32)), (.int q0)])) t
    refine iremM X0 hx rfl (hb hby d1_3) rfl (by decide) ?_
    show Steps p.tables e below (s₁.setTop (mkF m 4 #[.val (.int q0), .unset, .unset, .unset] [(.int (q0 % (100 : Int32)))])) t
    refine XS.istoreN X0.here hx rfl (hb hby d1_4) rfl (l' := #[.val (.int q0), .val (.int (q0 % (100 : Int32))), .unset, .unset]) rfl ?_
    show Steps p.tables e below (s₁.setTop (mkF m 5 #[.val (.int q0), .val (.int (q0 % (100 : Int32))), .unset, .unset] [])) t
    refine XS.iloadN X0.here hx rfl (hb hby d1_5) rfl ?_
    show Steps p.tables e below (s₁.setTop (mkF m 6 #[.val (.int q0), .val (.int (q0 % (100 : Int32))), .unset, .unset] [(.int q0)])) t
    refine XS.bipush X0.here hx rfl (hb hby d1_6) ?_
    show Steps p.tables e below (s₁.setTop (mkF m 8 #[.val (.int q0), .val (.int (q0 % (100 : Int32))), .unset, .unset] [(.int (10 : Int32)), (.int q0)])) t
    refine iremM X0 hx rfl (hb hby d1_8) rfl (by decide) ?_
    show Steps p.tables e below (s₁.setTop (mkF m 9 #[.val (.int q0), .val (.int (q0 % (100 : Int32))), .unset, .unset] [(.int (q0 % (10 : Int32)))])) t
    refine XS.istoreN X0.here hx rfl (hb hby d1_9) rfl (l' := #[.val (.int q0), .val (.int (q0 % (100 : Int32))), .val (.int (q0 % (10 : Int32))), .unset]) rfl ?_
    exact k
  have hEL := own_EL hw
  obtain ⟨TJ, hJ, kJ, sa, sb, kx, XJ, eJ, EJ, SJ, lJ, ZJ, oJ, A1, A2, A3, A4, CJ, RJ⟩ : ∃ (TJ : State) (hJ : Heap) (kJ : Nat) (sa sb : Addr) (kx : ClassId), Stand p l e ({ frames := 6, cells := 6, slots := 48, locals := 91 } : Room) (s.setVm TJ.vm) m #[(.int q0)] below meth c TJ [] 2 12 ∧ TJ.heap = hJ ∧ Ext h0 hJ ∧ s.Since TJ.vm kJ ∧ kJ ≤ hJ.size ∧ Z.Warmed39 (s.setVm TJ.vm).vm ∧ (s.setVm TJ.vm).vm.findClass "com/example/clausewright/clausewright/Ordinal" = some m.cls ∧ Exa Z hJ sa "java/lang/String" ∧ Fld Z hJ sa "java/lang/String" "coder" "B" (.int (0 : Int32)) ∧ Fld Z hJ sa "java/lang/String" "value" "[B" (.ref sb) ∧ Arv Z hJ sb kx .byte (2 : Int32) [(.int (own_s0 q0)), (.int (own_s1 q0))] (.int (0 : Int32)) ∧ CHr Z consts_1 s.vm h0 TJ.vm hJ ∧ Rch p e below (s₁.setTop (entryFrame m #[(.int q0)] 4)) TJ (mkF m 59 #[.val (.int q0), .val (.int (q0 % (100 : Int32))), .val (.int (q0 % (10 : Int32))), .unset] [(.ref sa)]) := by
    have R3 : Rch p e below (s₁.setTop (entryFrame m #[(.int q0)] 4)) s₁ (mkF m 13 #[.val (.int q0), .val (.int (q0 % (100 : Int32))), .val (.int (q0 % (10 : Int32))), .unset] [(.int (11 : Int32)), (.int (q0 % (100 : Int32)))]) := fun t k => by
      refine R1 t ?_
      refine XS.iloadN X0.here hx rfl (hb hby d1_10) rfl ?_
      show Steps p.tables e below (s₁.setTop (mkF m 11 #[.val (.int q0), .val (.int (q0 % (100 : Int32))), .val (.int (q0 % (10 : Int32))), .unset] [(.int (q0 % (100 : Int32)))])) t
      refine XS.bipush X0.here hx rfl (hb hby d1_11) ?_
      exact k
    by_cases hc13_2 : (q0 % (100 : Int32)) < (11 : Int32)
    · have R5 : Rch p e below (s₁.setTop (entryFrame m #[(.int q0)] 4)) s₁ (mkF m 29 #[.val (.int q0), .val (.int (q0 % (100 : Int32))), .val (.int (q0 % (10 : Int32))), .unset] [(.int (1 : Int32)), (.int (q0 % (10 : Int32)))]) := fun t k => by
        refine R3 t ?_
        refine XS.icmpYes X0.here hx rfl (pc0 := 13) (pc' := 27) rfl (hb hby d1_13) rfl (tlt hc13_2).1 (by decide) (by decide) ?_
        show Steps p.tables e below (s₁.setTop (mkF m 27 #[.val (.int q0), .val (.int (q0 % (100 : Int32))), .val (.int (q0 % (10 : Int32))), .unset] [])) t
        refine XS.iloadN X0.here hx rfl (hb hby d1_27) rfl ?_
        show Steps p.tables e below (s₁.setTop (mkF m 28 #[.val (.int q0), .val (.int (q0 % (100 : Int32))), .val (.int (q0 % (10 : Int32))), .unset] [(.int (q0 % (10 : Int32)))])) t
        refine XS.iconst X0.here hx rfl (hb hby d1_28) ?_
        exact k
      by_cases hc29_4 : (q0 % (10 : Int32)) = (1 : Int32)
      · have R6 : Rch p e below (s₁.setTop (entryFrame m #[(.int q0)] 4)) s₁ (mkF m 32 #[.val (.int q0), .val (.int (q0 % (100 : Int32))), .val (.int (q0 % (10 : Int32))), .unset] []) := fun t k => by
          refine R5 t ?_
          refine XS.icmpNo X0.here hx rfl (hb hby d1_29) rfl (teq hc29_4).2 ?_
          exact k
        obtain ⟨sa, TJ, hJ, kJ, sb, kx, XJ, eJ, EJ, SJ, lJ, ZJ, oJ, A1, A2, A3, A4, -, -, CJ, -, -, stJ⟩ := ldcCH (s := s) (vm0 := s.vm) X0 hx hZ hown (hw _ (List.mem_of_getElem? (i := 195) rfl)) (own_wS hw) e0 (k0 := 0) ((State.WarmedH.refl s).since 0) (Nat.zero_le _) hEL (List.mem_of_getElem? (i := 1) rfl) hCH (text := "st") (vs := [.int (115 : Int32), .int (116 : Int32)]) (z := (2 : Int32)) ⟨by first | decide | simp, by first | rfl | decide⟩ (by decide) (by decide) (g := (mkF m 32 #[.val (.int q0), .val (.int (q0 % (100 : Int32))), .val (.int (q0 % (10 : Int32))), .unset] [])) rfl (hb hby d1_32) (n := 8) (by decide) (by decide) (by decide) (by decide)
        have R7 : Rch p e below (s₁.setTop (entryFrame m #[(.int q0)] 4)) TJ (mkF m 59 #[.val (.int q0), .val (.int (q0 % (100 : Int32))), .val (.int (q0 % (10 : Int32))), .unset] [(.ref sa)]) := fun t k => by
          refine R6 t ?_
          refine stJ _ ?_
          show Steps p.tables e below (TJ.setTop (mkF m 34 #[.val (.int q0), .val (.int (q0 % (100 : Int32))), .val (.int (q0 % (10 : Int32))), .unset] [(.ref sa)])) t
          refine XS.goto XJ.here hx rfl (pc0 := 34) (pc' := 59) rfl (hb hby d1_34) (by decide) (by decide) ?_
          exact k
        exact ⟨TJ, hJ, kJ, sa, sb, kx, XJ, eJ, EJ, SJ, lJ, ZJ, oJ, A1, A2, A3, own_arvs A4 (own_p1s (fun z => z.1 hc13_2) hc29_4), CJ, R7⟩
      · have R9 : Rch p e below (s₁.setTop (entryFrame m #[(.int q0)] 4)) s₁ (mkF m 39 #[.val (.int q0), .val (.int (q0 % (100 : Int32))), .val (.int (q0 % (10 : Int32))), .unset] [(.int (2 : Int32)), (.int (q0 % (10 : Int32)))]) := fun t k => by
          refine R5 t ?_
          refine XS.icmpYes X0.here hx rfl (pc0 := 29) (pc' := 37) rfl (hb hby d1_29) rfl (feq hc29_4).2 (by decide) (by decide) ?_
          show Steps p.tables e below (s₁.setTop (mkF m 37 #[.val (.int q0), .val (.int (q0 % (100 : Int32))), .val (.int (q0 % (10 : Int32))), .unset] [])) t
          refine XS.iloadN X0.here hx rfl (hb hby d1_37) rfl ?_
          show Steps p.tables e below (s₁.setTop (mkF m 38 #[.val (.int q0), .val (.int (q0 % (100 : Int32))), .val (.int (q0 % (10 : Int32))), .unset] [(.int (q0 % (10 : Int32)))])) t
          refine XS.iconst X0.here hx rfl (hb hby d1_38) ?_
          exact k
        by_cases hc39_8 : (q0 % (10 : Int32)) = (2 : Int32)
        · have R10 : Rch p e below (s₁.setTop (entryFrame m #[(.int q0)] 4)) s₁ (mkF m 42 #[.val (.int q0), .val (.int (q0 % (100 : Int32))), .val (.int (q0 % (10 : Int32))), .unset] []) := fun t k => by
            refine R9 t ?_
            refine XS.icmpNo X0.here hx rfl (hb hby d1_39) rfl (teq hc39_8).2 ?_
            exact k
          obtain ⟨sa, TJ, hJ, kJ, sb, kx, XJ, eJ, EJ, SJ, lJ, ZJ, oJ, A1, A2, A3, A4, -, -, CJ, -, -, stJ⟩ := ldcCH (s := s) (vm0 := s.vm) X0 hx hZ hown (hw _ (List.mem_of_getElem? (i := 196) rfl)) (own_wS hw) e0 (k0 := 0) ((State.WarmedH.refl s).since 0) (Nat.zero_le _) hEL (List.mem_of_getElem? (i := 2) rfl) hCH (text := "nd") (vs := [.int (110 : Int32), .int (100 : Int32)]) (z := (2 : Int32)) ⟨by first | decide | simp, by first | rfl | decide⟩ (by decide) (by decide) (g := (mkF m 42 #[.val (.int q0), .val (.int (q0 % (100 : Int32))), .val (.int (q0 % (10 : Int32))), .unset] [])) rfl (hb hby d1_42) (n := 8) (by decide) (by decide) (by decide) (by decide)
          have R11 : Rch p e below (s₁.setTop (entryFrame m #[(.int q0)] 4)) TJ (mkF m 59 #[.val (.int q0), .val (.int (q0 % (100 : Int32))), .val (.int (q0 % (10 : Int32))), .unset] [(.ref sa)]) := fun t k => by
            refine R10 t ?_
            refine stJ _ ?_
            show Steps p.tables e below (TJ.setTop (mkF m 44 #[.val (.int q0), .val (.int (q0 % (100 : Int32))), .val (.int (q0 % (10 : Int32))), .unset] [(.ref sa)])) t
            refine XS.goto XJ.here hx rfl (pc0 := 44) (pc' := 59) rfl (hb hby d1_44) (by decide) (by decide) ?_
            exact k
          exact ⟨TJ, hJ, kJ, sa, sb, kx, XJ, eJ, EJ, SJ, lJ, ZJ, oJ, A1, A2, A3, own_arvs A4 (own_p2s (fun z => z.1 hc13_2) hc29_4 hc39_8), CJ, R11⟩
        · have R13 : Rch p e below (s₁.setTop (entryFrame m #[(.int q0)] 4)) s₁ (mkF m 49 #[.val (.int q0), .val (.int (q0 % (100 : Int32))), .val (.int (q0 % (10 : Int32))), .unset] [(.int (3 : Int32)), (.int (q0 % (10 : Int32)))]) := fun t k => by
            refine R9 t ?_
            refine XS.icmpYes X0.here hx rfl (pc0 := 39) (pc' := 47) rfl (hb hby d1_39) rfl (feq hc39_8).2 (by decide) (by decide) ?_
            show Steps p.tables e below (s₁.setTop (mkF m 47 #[.val (.int q0), .val (.int (q0 % (100 : Int32))), .val (.int (q0 % (10 : Int32))), .unset] [])) t
            refine XS.iloadN X0.here hx rfl (hb hby d1_47) rfl ?_
            show Steps p.tables e below (s₁.setTop (mkF m 48 #[.val (.int q0), .val (.int (q0 % (100 : Int32))), .val (.int (q0 % (10 : Int32))), .unset] [(.int (q0 % (10 : Int32)))])) t
            refine XS.iconst X0.here hx rfl (hb hby d1_48) ?_
            exact k
          by_cases hc49_12 : (q0 % (10 : Int32)) = (3 : Int32)
          · have R14 : Rch p e below (s₁.setTop (entryFrame m #[(.int q0)] 4)) s₁ (mkF m 52 #[.val (.int q0), .val (.int (q0 % (100 : Int32))), .val (.int (q0 % (10 : Int32))), .unset] []) := fun t k => by
              refine R13 t ?_
              refine XS.icmpNo X0.here hx rfl (hb hby d1_49) rfl (teq hc49_12).2 ?_
              exact k
            obtain ⟨sa, TJ, hJ, kJ, sb, kx, XJ, eJ, EJ, SJ, lJ, ZJ, oJ, A1, A2, A3, A4, -, -, CJ, -, -, stJ⟩ := ldcCH (s := s) (vm0 := s.vm) X0 hx hZ hown (hw _ (List.mem_of_getElem? (i := 188) rfl)) (own_wS hw) e0 (k0 := 0) ((State.WarmedH.refl s).since 0) (Nat.zero_le _) hEL (List.mem_of_getElem? (i := 3) rfl) hCH (text := "rd") (vs := [.int (114 : Int32), .int (100 : Int32)]) (z := (2 : Int32)) ⟨by first | decide | simp, by first | rfl | decide⟩ (by decide) (by decide) (g := (mkF m 52 #[.val (.int q0), .val (.int (q0 % (100 : Int32))), .val (.int (q0 % (10 : Int32))), .unset] [])) rfl (hb hby d1_52) (n := 8) (by decide) (by decide) (by decide) (by decide)
            have R15 : Rch p e below (s₁.setTop (entryFrame m #[(.int q0)] 4)) TJ (mkF m 59 #[.val (.int q0), .val (.int (q0 % (100 : Int32))), .val (.int (q0 % (10 : Int32))), .unset] [(.ref sa)]) := fun t k => by
              refine R14 t ?_
              refine stJ _ ?_
              show Steps p.tables e below (TJ.setTop (mkF m 54 #[.val (.int q0), .val (.int (q0 % (100 : Int32))), .val (.int (q0 % (10 : Int32))), .unset] [(.ref sa)])) t
              refine XS.goto XJ.here hx rfl (pc0 := 54) (pc' := 59) rfl (hb hby d1_54) (by decide) (by decide) ?_
              exact k
            exact ⟨TJ, hJ, kJ, sa, sb, kx, XJ, eJ, EJ, SJ, lJ, ZJ, oJ, A1, A2, A3, own_arvs A4 (own_p3s (fun z => z.1 hc13_2) hc29_4 hc39_8 hc49_12), CJ, R15⟩
          · have R16 : Rch p e below (s₁.setTop (entryFrame m #[(.int q0)] 4)) s₁ (mkF m 57 #[.val (.int q0), .val (.int (q0 % (100 : Int32))), .val (.int (q0 % (10 : Int32))), .unset] []) := fun t k => by
              refine R13 t ?_
              refine XS.icmpYes X0.here hx rfl (pc0 := 49) (pc' := 57) rfl (hb hby d1_49) rfl (feq hc49_12).2 (by decide) (by decide) ?_
              exact k
            obtain ⟨sa, TJ, hJ, kJ, sb, kx, XJ, eJ, EJ, SJ, lJ, ZJ, oJ, A1, A2, A3, A4, -, -, CJ, -, -, stJ⟩ := ldcCH (s := s) (vm0 := s.vm) X0 hx hZ hown (hw _ (List.mem_of_getElem? (i := 5) rfl)) (own_wS hw) e0 (k0 := 0) ((State.WarmedH.refl s).since 0) (Nat.zero_le _) hEL (List.mem_of_getElem? (i := 0) rfl) hCH (text := "th") (vs := [.int (116 : Int32), .int (104 : Int32)]) (z := (2 : Int32)) ⟨by first | decide | simp, by first | rfl | decide⟩ (by decide) (by decide) (g := (mkF m 57 #[.val (.int q0), .val (.int (q0 % (100 : Int32))), .val (.int (q0 % (10 : Int32))), .unset] [])) rfl (hb hby d1_57) (n := 8) (by decide) (by decide) (by decide) (by decide)
            have R17 : Rch p e below (s₁.setTop (entryFrame m #[(.int q0)] 4)) TJ (mkF m 59 #[.val (.int q0), .val (.int (q0 % (100 : Int32))), .val (.int (q0 % (10 : Int32))), .unset] [(.ref sa)]) := fun t k => by
              refine R16 t ?_
              refine stJ _ ?_
              exact k
            exact ⟨TJ, hJ, kJ, sa, sb, kx, XJ, eJ, EJ, SJ, lJ, ZJ, oJ, A1, A2, A3, own_arvs A4 (own_p4s (fun z => z.1 hc13_2) hc29_4 hc39_8 hc49_12), CJ, R17⟩
    · have R19 : Rch p e below (s₁.setTop (entryFrame m #[(.int q0)] 4)) s₁ (mkF m 19 #[.val (.int q0), .val (.int (q0 % (100 : Int32))), .val (.int (q0 % (10 : Int32))), .unset] [(.int (13 : Int32)), (.int (q0 % (100 : Int32)))]) := fun t k => by
        refine R3 t ?_
        refine XS.icmpNo X0.here hx rfl (hb hby d1_13) rfl (flt hc13_2).1 ?_
        show Steps p.tables e below (s₁.setTop (mkF m 16 #[.val (.int q0), .val (.int (q0 % (100 : Int32))), .val (.int (q0 % (10 : Int32))), .unset] [])) t
        refine XS.iloadN X0.here hx rfl (hb hby d1_16) rfl ?_
        show Steps p.tables e below (s₁.setTop (mkF m 17 #[.val (.int q0), .val (.int (q0 % (100 : Int32))), .val (.int (q0 % (10 : Int32))), .unset] [(.int (q0 % (100 : Int32)))])) t
        refine XS.bipush X0.here hx rfl (hb hby d1_17) ?_
        exact k
      by_cases hc19_18 : (13 : Int32) < (q0 % (100 : Int32))
      · have R21 : Rch p e below (s₁.setTop (entryFrame m #[(.int q0)] 4)) s₁ (mkF m 29 #[.val (.int q0), .val (.int (q0 % (100 : Int32))), .val (.int (q0 % (10 : Int32))), .unset] [(.int (1 : Int32)), (.int (q0 % (10 : Int32)))]) := fun t k => by
          refine R19 t ?_
          refine XS.icmpYes X0.here hx rfl (pc0 := 19) (pc' := 27) rfl (hb hby d1_19) rfl (tlt hc19_18).2.2.1 (by decide) (by decide) ?_
          show Steps p.tables e below (s₁.setTop (mkF m 27 #[.val (.int q0), .val (.int (q0 % (100 : Int32))), .val (.int (q0 % (10 : Int32))), .unset] [])) t
          refine XS.iloadN X0.here hx rfl (hb hby d1_27) rfl ?_
          show Steps p.tables e below (s₁.setTop (mkF m 28 #[.val (.int q0), .val (.int (q0 % (100 : Int32))), .val (.int (q0 % (10 : Int32))), .unset] [(.int (q0 % (10 : Int32)))])) t
          refine XS.iconst X0.here hx rfl (hb hby d1_28) ?_
          exact k
        by_cases hc29_20 : (q0 % (10 : Int32)) = (1 : Int32)
        · have R22 : Rch p e below (s₁.setTop (entryFrame m #[(.int q0)] 4)) s₁ (mkF m 32 #[.val (.int q0), .val (.int (q0 % (100 : Int32))), .val (.int (q0 % (10 : Int32))), .unset] []) := fun t k => by
            refine R21 t ?_
            refine XS.icmpNo X0.here hx rfl (hb hby d1_29) rfl (teq hc29_20).2 ?_
            exact k
          obtain ⟨sa, TJ, hJ, kJ, sb, kx, XJ, eJ, EJ, SJ, lJ, ZJ, oJ, A1, A2, A3, A4, -, -, CJ, -, -, stJ⟩ := ldcCH (s := s) (vm0 := s.vm) X0 hx hZ hown (hw _ (List.mem_of_getElem? (i := 195) rfl)) (own_wS hw) e0 (k0 := 0) ((State.WarmedH.refl s).since 0) (Nat.zero_le _) hEL (List.mem_of_getElem? (i := 1) rfl) hCH (text := "st") (vs := [.int (115 : Int32), .int (116 : Int32)]) (z := (2 : Int32)) ⟨by first | decide | simp, by first | rfl | decide⟩ (by decide) (by decide) (g := (mkF m 32 #[.val (.int q0), .val (.int (q0 % (100 : Int32))), .val (.int (q0 % (10 : Int32))), .unset] [])) rfl (hb hby d1_32) (n := 8) (by decide) (by decide) (by decide) (by decide)
          have R23 : Rch p e below (s₁.setTop (entryFrame m #[(.int q0)] 4)) TJ (mkF m 59 #[.val (.int q0), .val (.int (q0 % (100 : Int32))), .val (.int (q0 % (10 : Int32))), .unset] [(.ref sa)]) := fun t k => by
            refine R22 t ?_
            refine stJ _ ?_
            show Steps p.tables e below (TJ.setTop (mkF m 34 #[.val (.int q0), .val (.int (q0 % (100 : Int32))), .val (.int (q0 % (10 : Int32))), .unset] [(.ref sa)])) t
            refine XS.goto XJ.here hx rfl (pc0 := 34) (pc' := 59) rfl (hb hby d1_34) (by decide) (by decide) ?_
            exact k
          exact ⟨TJ, hJ, kJ, sa, sb, kx, XJ, eJ, EJ, SJ, lJ, ZJ, oJ, A1, A2, A3, own_arvs A4 (own_p1s (fun z => z.2 hc19_18) hc29_20), CJ, R23⟩
        · have R25 : Rch p e below (s₁.setTop (entryFrame m #[(.int q0)] 4)) s₁ (mkF m 39 #[.val (.int q0), .val (.int (q0 % (100 : Int32))), .val (.int (q0 % (10 : Int32))), .unset] [(.int (2 : Int32)), (.int (q0 % (10 : Int32)))]) := fun t k => by
            refine R21 t ?_
            refine XS.icmpYes X0.here hx rfl (pc0 := 29) (pc' := 37) rfl (hb hby d1_29) rfl (feq hc29_20).2 (by decide) (by decide) ?_
            show Steps p.tables e below (s₁.setTop (mkF m 37 #[.val (.int q0), .val (.int (q0 % (100 : Int32))), .val (.int (q0 % (10 : Int32))), .unset] [])) t
            refine XS.iloadN X0.here hx rfl (hb hby d1_37) rfl ?_
            show Steps p.tables e below (s₁.setTop (mkF m 38 #[.val (.int q0), .val (.int (q0 % (100 : Int32))), .val (.int (q0 % (10 : Int32))), .unset] [(.int (q0 % (10 : Int32)))])) t
            refine XS.iconst X0.here hx rfl (hb hby d1_38) ?_
            exact k
          by_cases hc39_24 : (q0 % (10 : Int32)) = (2 : Int32)
          · have R26 : Rch p e below (s₁.setTop (entryFrame m #[(.int q0)] 4)) s₁ (mkF m 42 #[.val (.int q0), .val (.int (q0 % (100 : Int32))), .val (.int (q0 % (10 : Int32))), .unset] []) := fun t k => by
              refine R25 t ?_
              refine XS.icmpNo X0.here hx rfl (hb hby d1_39) rfl (teq hc39_24).2 ?_
              exact k
            obtain ⟨sa, TJ, hJ, kJ, sb, kx, XJ, eJ, EJ, SJ, lJ, ZJ, oJ, A1, A2, A3, A4, -, -, CJ, -, -, stJ⟩ := ldcCH (s := s) (vm0 := s.vm) X0 hx hZ hown (hw _ (List.mem_of_getElem? (i := 196) rfl)) (own_wS hw) e0 (k0 := 0) ((State.WarmedH.refl s).since 0) (Nat.zero_le _) hEL (List.mem_of_getElem? (i := 2) rfl) hCH (text := "nd") (vs := [.int (110 : Int32), .int (100 : Int32)]) (z := (2 : Int32)) ⟨by first | decide | simp, by first | rfl | decide⟩ (by decide) (by decide) (g := (mkF m 42 #[.val (.int q0), .val (.int (q0 % (100 : Int32))), .val (.int (q0 % (10 : Int32))), .unset] [])) rfl (hb hby d1_42) (n := 8) (by decide) (by decide) (by decide) (by decide)
            have R27 : Rch p e below (s₁.setTop (entryFrame m #[(.int q0)] 4)) TJ (mkF m 59 #[.val (.int q0), .val (.int (q0 % (100 : Int32))), .val (.int (q0 % (10 : Int32))), .unset] [(.ref sa)]) := fun t k => by
              refine R26 t ?_
              refine stJ _ ?_
              show Steps p.tables e below (TJ.setTop (mkF m 44 #[.val (.int q0), .val (.int (q0 % (100 : Int32))), .val (.int (q0 % (10 : Int32))), .unset] [(.ref sa)])) t
              refine XS.goto XJ.here hx rfl (pc0 := 44) (pc' := 59) rfl (hb hby d1_44) (by decide) (by decide) ?_
              exact k
            exact ⟨TJ, hJ, kJ, sa, sb, kx, XJ, eJ, EJ, SJ, lJ, ZJ, oJ, A1, A2, A3, own_arvs A4 (own_p2s (fun z => z.2 hc19_18) hc29_20 hc39_24), CJ, R27⟩
          · have R29 : Rch p e below (s₁.setTop (entryFrame m #[(.int q0)] 4)) s₁ (mkF m 49 #[.val (.int q0), .val (.int (q0 % (100 : Int32))), .val (.int (q0 % (10 : Int32))), .unset] [(.int (3 : Int32)), (.int (q0 % (10 : Int32)))]) := fun t k => by
              refine R25 t ?_
              refine XS.icmpYes X0.here hx rfl (pc0 := 39) (pc' := 47) rfl (hb hby d1_39) rfl (feq hc39_24).2 (by decide) (by decide) ?_
              show Steps p.tables e below (s₁.setTop (mkF m 47 #[.val (.int q0), .val (.int (q0 % (100 : Int32))), .val (.int (q0 % (10 : Int32))), .unset] [])) t
              refine XS.iloadN X0.here hx rfl (hb hby d1_47) rfl ?_
              show Steps p.tables e below (s₁.setTop (mkF m 48 #[.val (.int q0), .val (.int (q0 % (100 : Int32))), .val (.int (q0 % (10 : Int32))), .unset] [(.int (q0 % (10 : Int32)))])) t
              refine XS.iconst X0.here hx rfl (hb hby d1_48) ?_
              exact k
            by_cases hc49_28 : (q0 % (10 : Int32)) = (3 : Int32)
            · have R30 : Rch p e below (s₁.setTop (entryFrame m #[(.int q0)] 4)) s₁ (mkF m 52 #[.val (.int q0), .val (.int (q0 % (100 : Int32))), .val (.int (q0 % (10 : Int32))), .unset] []) := fun t k => by
                refine R29 t ?_
                refine XS.icmpNo X0.here hx rfl (hb hby d1_49) rfl (teq hc49_28).2 ?_
                exact k
              obtain ⟨sa, TJ, hJ, kJ, sb, kx, XJ, eJ, EJ, SJ, lJ, ZJ, oJ, A1, A2, A3, A4, -, -, CJ, -, -, stJ⟩ := ldcCH (s := s) (vm0 := s.vm) X0 hx hZ hown (hw _ (List.mem_of_getElem? (i := 188) rfl)) (own_wS hw) e0 (k0 := 0) ((State.WarmedH.refl s).since 0) (Nat.zero_le _) hEL (List.mem_of_getElem? (i := 3) rfl) hCH (text := "rd") (vs := [.int (114 : Int32), .int (100 : Int32)]) (z := (2 : Int32)) ⟨by first | decide | simp, by first | rfl | decide⟩ (by decide) (by decide) (g := (mkF m 52 #[.val (.int q0), .val (.int (q0 % (100 : Int32))), .val (.int (q0 % (10 : Int32))), .unset] [])) rfl (hb hby d1_52) (n := 8) (by decide) (by decide) (by decide) (by decide)
              have R31 : Rch p e below (s₁.setTop (entryFrame m #[(.int q0)] 4)) TJ (mkF m 59 #[.val (.int q0), .val (.int (q0 % (100 : Int32))), .val (.int (q0 % (10 : Int32))), .unset] [(.ref sa)]) := fun t k => by
                refine R30 t ?_
                refine stJ _ ?_
                show Steps p.tables e below (TJ.setTop (mkF m 54 #[.val (.int q0), .val (.int (q0 % (100 : Int32))), .val (.int (q0 % (10 : Int32))), .unset] [(.ref sa)])) t
                refine XS.goto XJ.here hx rfl (pc0 := 54) (pc' := 59) rfl (hb hby d1_54) (by decide) (by decide) ?_
                exact k
              exact ⟨TJ, hJ, kJ, sa, sb, kx, XJ, eJ, EJ, SJ, lJ, ZJ, oJ, A1, A2, A3, own_arvs A4 (own_p3s (fun z => z.2 hc19_18) hc29_20 hc39_24 hc49_28), CJ, R31⟩
            · have R32 : Rch p e below (s₁.setTop (entryFrame m #[(.int q0)] 4)) s₁ (mkF m 57 #[.val (.int q0), .val (.int (q0 % (100 : Int32))), .val (.int (q0 % (10 : Int32))), .unset] []) := fun t k => by
                refine R29 t ?_
                refine XS.icmpYes X0.here hx rfl (pc0 := 49) (pc' := 57) rfl (hb hby d1_49) rfl (feq hc49_28).2 (by decide) (by decide) ?_
                exact k
              obtain ⟨sa, TJ, hJ, kJ, sb, kx, XJ, eJ, EJ, SJ, lJ, ZJ, oJ, A1, A2, A3, A4, -, -, CJ, -, -, stJ⟩ := ldcCH (s := s) (vm0 := s.vm) X0 hx hZ hown (hw _ (List.mem_of_getElem? (i := 5) rfl)) (own_wS hw) e0 (k0 := 0) ((State.WarmedH.refl s).since 0) (Nat.zero_le _) hEL (List.mem_of_getElem? (i := 0) rfl) hCH (text := "th") (vs := [.int (116 : Int32), .int (104 : Int32)]) (z := (2 : Int32)) ⟨by first | decide | simp, by first | rfl | decide⟩ (by decide) (by decide) (g := (mkF m 57 #[.val (.int q0), .val (.int (q0 % (100 : Int32))), .val (.int (q0 % (10 : Int32))), .unset] [])) rfl (hb hby d1_57) (n := 8) (by decide) (by decide) (by decide) (by decide)
              have R33 : Rch p e below (s₁.setTop (entryFrame m #[(.int q0)] 4)) TJ (mkF m 59 #[.val (.int q0), .val (.int (q0 % (100 : Int32))), .val (.int (q0 % (10 : Int32))), .unset] [(.ref sa)]) := fun t k => by
                refine R32 t ?_
                refine stJ _ ?_
                exact k
              exact ⟨TJ, hJ, kJ, sa, sb, kx, XJ, eJ, EJ, SJ, lJ, ZJ, oJ, A1, A2, A3, own_arvs A4 (own_p4s (fun z => z.2 hc19_18) hc29_20 hc39_24 hc49_28), CJ, R33⟩
      · have R34 : Rch p e below (s₁.setTop (entryFrame m #[(.int q0)] 4)) s₁ (mkF m 22 #[.val (.int q0), .val (.int (q0 % (100 : Int32))), .val (.int (q0 % (10 : Int32))), .unset] []) := fun t k => by
          refine R19 t ?_
          refine XS.icmpNo X0.here hx rfl (hb hby d1_19) rfl (flt hc19_18).2.2.1 ?_
          exact k
        obtain ⟨sa, TJ, hJ, kJ, sb, kx, XJ, eJ, EJ, SJ, lJ, ZJ, oJ, A1, A2, A3, A4, -, -, CJ, -, -, stJ⟩ := ldcCH (s := s) (vm0 := s.vm) X0 hx hZ hown (hw _ (List.mem_of_getElem? (i := 5) rfl)) (own_wS hw) e0 (k0 := 0) ((State.WarmedH.refl s).since 0) (Nat.zero_le _) hEL (List.mem_of_getElem? (i := 0) rfl) hCH (text := "th") (vs := [.int (116 : Int32), .int (104 : Int32)]) (z := (2 : Int32)) ⟨by first | decide | simp, by first | rfl | decide⟩ (by decide) (by decide) (g := (mkF m 22 #[.val (.int q0), .val (.int (q0 % (100 : Int32))), .val (.int (q0 % (10 : Int32))), .unset] [])) rfl (hb hby d1_22) (n := 8) (by decide) (by decide) (by decide) (by decide)
        have R35 : Rch p e below (s₁.setTop (entryFrame m #[(.int q0)] 4)) TJ (mkF m 59 #[.val (.int q0), .val (.int (q0 % (100 : Int32))), .val (.int (q0 % (10 : Int32))), .unset] [(.ref sa)]) := fun t k => by
          refine R34 t ?_
          refine stJ _ ?_
          show Steps p.tables e below (TJ.setTop (mkF m 24 #[.val (.int q0), .val (.int (q0 % (100 : Int32))), .val (.int (q0 % (10 : Int32))), .unset] [(.ref sa)])) t
          refine XS.goto XJ.here hx rfl (pc0 := 24) (pc' := 59) rfl (hb hby d1_24) (by decide) (by decide) ?_
          exact k
        exact ⟨TJ, hJ, kJ, sa, sb, kx, XJ, eJ, EJ, SJ, lJ, ZJ, oJ, A1, A2, A3, own_arvs A4 (own_pA hc13_2 hc19_18), CJ, R35⟩
  have KJ : Keep h0 hJ [] := K0.ext EJ
  have KK0 : Keep hJ hJ [] := Keep.refl _ _
  have hZ := ZJ
  have hown := oJ
  have R37 : Rch p e below (s₁.setTop (entryFrame m #[(.int q0)] 4)) TJ (mkF m 60 #[.val (.int q0), .val (.int (q0 % (100 : Int32))), .val (.int (q0 % (10 : Int32))), .val (.ref sa)] []) := fun t k => by
    refine RJ t ?_
    refine XS.astoreN XJ.here hx rfl (hb hby d1_59) rfl rfl (l' := #[.val (.int q0), .val (.int (q0 % (100 : Int32))), .val (.int (q0 % (10 : Int32))), .val (.ref sa)]) rfl ?_
    exact k
  obtain ⟨T36, h36, X36, e36, E36, A36, D36, -, st36⟩ := newO XJ hx hZ hown (hw _ (List.mem_of_getElem? (i := 13) rfl)) (hw _ (List.mem_of_getElem? (i := 14) rfl)) (hw _ (List.mem_of_getElem? (i := 15) rfl)) eJ (g := (mkF m 60 #[.val (.int q0), .val (.int (q0 % (100 : Int32))), .val (.int (q0 % (10 : Int32))), .val (.ref sa)] [])) rfl (hb hby d1_60) (by decide) (by decide)
  obtain ⟨b36, g36⟩ : ∃ z, z = hJ.size := ⟨_, rfl⟩
  rw [← g36] at A36 D36 st36
  have g_b36 : n0 ≤ b36 := Nat.le_trans (Nat.le_trans Z0 KJ.1) (Nat.le_of_eq g36.symm)
  have sz_b36 : h0.size ≤ b36 := Nat.le_trans KJ.1 (Nat.le_of_eq g36.symm)
  have K36 : Keep h0 h36 [] := KJ.ext E36
  have sy_b36 : hJ.size ≤ b36 := Nat.le_trans KK0.1 (Nat.le_of_eq g36.symm)
  have KK36 : Keep hJ h36 [] := KK0.ext E36
  have F36_value : Fld Z h36 b36 "java/lang/AbstractStringBuilder" "value" "[B" .null := D36 (Or.inl (hw _ (List.mem_of_getElem? (i := 30) rfl))) (ty := (.array .byte)) (by decide)
  have F36_coder : Fld Z h36 b36 "java/lang/AbstractStringBuilder" "coder" "B" (.int (0 : Int32)) := D36 (Or.inl (hw _ (List.mem_of_getElem? (i := 32) rfl))) (ty := .byte) (by decide)
  have F36_count : Fld Z h36 b36 "java/lang/AbstractStringBuilder" "count" "I" (.int (0 : Int32)) := D36 (Or.inl (hw _ (List.mem_of_getElem? (i := 44) rfl))) (ty := .int) (by decide)
  have R39 : Rch p e below (s₁.setTop (entryFrame m #[(.int q0)] 4)) T36 (mkF m 64 #[.val (.int q0), .val (.int (q0 % (100 : Int32))), .val (.int (q0 % (10 : Int32))), .val (.ref sa)] [(.ref b36), (.ref b36)]) := fun t k => by
    refine R37 t ?_
    refine st36 _ ?_
    show Steps p.tables e below (T36.setTop (mkF m 63 #[.val (.int q0), .val (.int (q0 % (100 : Int32))), .val (.int (q0 % (10 : Int32))), .val (.ref sa)] [(.ref b36)])) t
    refine XS.dup X36.here hx rfl (hb hby d1_63) rfl rfl ?_
    exact k
  obtain ⟨_, _, ⟨T38, L38, k38, n38⟩, -, X38, ⟨Lc38, hQ38, l38, y38, z38⟩, st38⟩ := X36.specialBack hx (y := (⟨"java/lang/StringBuilder", "<init>", "()V"⟩ : MethodName)) rfl hown (mvT hZ (hw _ (List.mem_of_getElem? (i := 16) rfl))) (mvT hZ (hw _ (List.mem_of_getElem? (i := 17) rfl))) (mvT hZ (hw _ (List.mem_of_getElem? (i := 18) rfl))) (by decide) (backOf (W := 1) (rm_sinit l Z a0 hw [] b36 cs h36 n0 (Nat.le_trans Z0 K36.1) A36 g_b36 F36_value F36_coder F36_count ((pS.ext EJ).ext E36) pcs) hZ (hw _ (List.mem_of_getElem? (i := 18) rfl)) (hw _ (List.mem_of_getElem? (i := 15) rfl)) (by decide) (by decide)) (g := (mkF m 64 #[.val (.int q0), .val (.int (q0 % (100 : Int32))), .val (.int (q0 % (10 : Int32))), .val (.ref sa)] [(.ref b36), (.ref b36)])) rfl (by rw [hml]; rfl) (Steps.refl _) (a := b36) (argsL := []) (rest := [(.ref b36)]) (lenOf pd_20 rfl) rfl (by show 2 * 0 + _ ≤ _; exact Nat.le_of_eq rfl) (hb hby d1_64) (fun _ _ => ⟨rfl, e36, (by decide : 3 + 1 ≤ _), (by decide : 16 + 16 ≤ _)⟩)
  dsimp only [Pt.U, Pt.locs, Pt.cells, Pt.slots] at X38 l38 y38 z38 st38 hQ38
  subst l38 y38 z38
  obtain ⟨rfl, N38q, Kc38, c38_E, c38_Fv, c38_Fc, c38_Fn, c38_arr⟩ := hQ38
  have N38 := Fr.app N0 N38q
  have K38 : Keep h0 T38.heap [] := K36.trans Kc38 (allS (Or.inr sz_b36) all0)
  have KK38 : Keep hJ T38.heap [] := KK36.trans Kc38 (allS (Or.inr sy_b36) all0)
  obtain ⟨ba, hba⟩ : ∃ z, z = h36.size := ⟨_, rfl⟩
  rw [← hba] at c38_Fv c38_arr
  obtain ⟨kb, Vb⟩ := c38_arr
  have g_ba : n0 ≤ ba := Nat.le_trans (Nat.le_trans Z0 K36.1) (Nat.le_of_eq hba.symm)
  have sz_ba : h0.size ≤ ba := Nat.le_trans K36.1 (Nat.le_of_eq hba.symm)
  have sy_ba : hJ.size ≤ ba := Nat.le_trans KK36.1 (Nat.le_of_eq hba.symm)
  have R41 : Rch p e below (s₁.setTop (entryFrame m #[(.int q0)] 4)) T38 (mkF m 68 #[.val (.int q0), .val (.int (q0 % (100 : Int32))), .val (.int (q0 % (10 : Int32))), .val (.ref sa)] [(.int q0), (.ref b36)]) := fun t k => by
    refine R39 t ?_
    refine st38.trans ?_
    show Steps p.tables e below (T38.setTop (mkF m 67 #[.val (.int q0), .val (.int (q0 % (100 : Int32))), .val (.int (q0 % (10 : Int32))), .val (.ref sa)] [(.ref b36)])) t
    refine XS.iloadN X38.here hx rfl (hb hby d1_67) rfl ?_
    exact k
  obtain ⟨cq40, kq40, q40a, q40b, q40c⟩ := isOf hZ rfl c38_E
  obtain ⟨_, _, ⟨T40, L40, k40, n40⟩, -, X40, ⟨Lc40, hQ40, l40, y40, z40⟩, st40⟩ := X38.virtualBack hx (y := (⟨"java/lang/StringBuilder", "append", "(I)Ljava/lang/StringBuilder;"⟩ : MethodName)) (z := (⟨"java/lang/StringBuilder", "append", "(I)Ljava/lang/StringBuilder;"⟩ : MethodName)) hown (mvT hZ (hw _ (List.mem_of_getElem? (i := 33) rfl))) (mvT hZ (hw _ (List.mem_of_getElem? (i := 34) rfl))) (notFace_of_selects (args := #[]) (mvT hZ (hw _ (List.mem_of_getElem? (i := 36) rfl)))) (mvT hZ (hw _ (List.mem_of_getElem? (i := 36) rfl))) (mvT hZ (hw _ (List.mem_of_getElem? (i := 35) rfl))) (by decide) (backOf (W := 0) (rm_appi l Z a0 hw [] b36 ba kb q0 cs ta tb ka kt T38.heap n0 (Nat.le_trans Z0 K38.1) c38_E g_b36 g_ba (Ne.symm (Nat.ne_of_lt (Nat.lt_of_lt_of_le A36.lt (Nat.le_of_eq hba.symm)))) c38_Fv c38_Fc hn (own_sta_keep ((pS.ext EJ).ext E36) Kc38 (allS A36.nostat all0)) pcs c38_Fn Vb (Nat.ne_of_lt (Nat.lt_of_lt_of_le ((pT1.ext EJ).ext E36).lt (Nat.le_of_eq hba.symm))) (Nat.ne_of_lt (Nat.lt_of_lt_of_le ((pT2.ext EJ).ext E36).lt (Nat.le_of_eq hba.symm))) (own_sta_keep ((pS1.ext EJ).ext E36) Kc38 (allS A36.nostat all0)) (own_sta_keep ((pS2.ext EJ).ext E36) Kc38 (allS A36.nostat all0)) (((pT1.ext EJ).ext E36).keep Kc38 (ninS (Nat.ne_of_lt (Nat.lt_of_lt_of_le (pT1.ext EJ).lt (Nat.le_of_eq g36.symm))) nin0)) (((pT2.ext EJ).ext E36).keep Kc38 (ninS (Nat.ne_of_lt (Nat.lt_of_lt_of_le (pT2.ext EJ).lt (Nat.le_of_eq g36.symm))) nin0))) hZ (hw _ (List.mem_of_getElem? (i := 37) rfl)) (hw _ (List.mem_of_getElem? (i := 15) rfl)) (by decide) (by decide)) q40a q40c (g := (mkF m 68 #[.val (.int q0), .val (.int (q0 % (100 : Int32))), .val (.int (q0 % (10 : Int32))), .val (.ref sa)] [(.int q0), (.ref b36)])) rfl (by rw [hml]; rfl) (Steps.refl _) (argsL := [(.int q0)]) (rest := []) (lenOf pd_21 rfl) rfl (by show 2 * 0 + _ ≤ _; exact Nat.le_of_eq rfl) (hb hby d1_68) (fun _ _ => ⟨rfl, rfl, (by decide : 4 + 0 ≤ _), (by decide : 32 + 0 ≤ _)⟩)
  dsimp only [Pt.U, Pt.locs, Pt.cells, Pt.slots] at X40 l40 y40 z40 st40 hQ40
  subst l40 y40 z40
  obtain ⟨rfl, N40q, Kc40, c40_E, c40_Fv, c40_Fc, c40_Fn, c40_arr⟩ := hQ40
  have N40 := Fr.app N38 N40q
  have K40 : Keep h0 T40.heap [] := K38.trans Kc40 (allS (Or.inr sz_b36) (allS (Or.inr sz_ba) all0))
  have KK40 : Keep hJ T40.heap [] := KK38.trans Kc40 (allS (Or.inr sy_b36) (allS (Or.inr sy_ba) all0))
  have R43 : Rch p e below (s₁.setTop (entryFrame m #[(.int q0)] 4)) T40 (mkF m 72 #[.val (.int q0), .val (.int (q0 % (100 : Int32))), .val (.int (q0 % (10 : Int32))), .val (.ref sa)] [(.ref sa), (.ref b36)]) := fun t k => by
    refine R41 t ?_
    refine st40.trans ?_
    show Steps p.tables e below (T40.setTop (mkF m 71 #[.val (.int q0), .val (.int (q0 % (100 : Int32))), .val (.int (q0 % (10 : Int32))), .val (.ref sa)] [(.ref b36)])) t
    refine XS.aloadN X40.here hx rfl (hb hby d1_71) rfl rfl ?_
    exact k
  obtain ⟨cq42, kq42, q42a, q42b, q42c⟩ := isOf hZ rfl c40_E
  obtain ⟨_, _, ⟨T42, L42, k42, n42⟩, -, X42, ⟨Lc42, hQ42, l42, y42, z42⟩, st42⟩ := X40.virtualBack hx (y := (⟨"java/lang/StringBuilder", "append", "(Ljava/lang/String;)Ljava/lang/StringBuilder;"⟩ : MethodName)) (z := (⟨"java/lang/StringBuilder", "append", "(Ljava/lang/String;)Ljava/lang/StringBuilder;"⟩ : MethodName)) hown (mvT hZ (hw _ (List.mem_of_getElem? (i := 63) rfl))) (mvT hZ (hw _ (List.mem_of_getElem? (i := 64) rfl))) (notFace_of_selects (args := #[]) (mvT hZ (hw _ (List.mem_of_getElem? (i := 66) rfl)))) (mvT hZ (hw _ (List.mem_of_getElem? (i := 66) rfl))) (mvT hZ (hw _ (List.mem_of_getElem? (i := 65) rfl))) (by decide) (backOf (W := 0) (rm_apps l Z a0 hw [] b36 ba kb q0 cs sa sb kx (own_s0 q0) (own_s1 q0) T40.heap n0 (Nat.le_trans Z0 K40.1) c40_E g_b36 g_ba (Ne.symm (Nat.ne_of_lt (Nat.lt_of_lt_of_le A36.lt (Nat.le_of_eq hba.symm)))) c40_Fv c40_Fc hn (own_sta_keep (own_sta_keep ((pS.ext EJ).ext E36) Kc38 (allS A36.nostat all0)) Kc40 (allS c38_E.nostat (allS Vb.nostat all0))) pcs c40_Fn c40_arr (((A1.ext E36).keep Kc38).keep Kc40) (((A3.ext E36).keep Kc38 (ninS (Nat.ne_of_lt (Nat.lt_of_lt_of_le A1.lt (Nat.le_of_eq g36.symm))) nin0)).keep Kc40 (ninS (Nat.ne_of_lt (Nat.lt_of_lt_of_le A1.lt (Nat.le_of_eq g36.symm))) (ninS (Nat.ne_of_lt (Nat.lt_of_lt_of_le (A1.ext E36).lt (Nat.le_of_eq hba.symm))) nin0))) (((A2.ext E36).keep Kc38 (ninS (Nat.ne_of_lt (Nat.lt_of_lt_of_le A1.lt (Nat.le_of_eq g36.symm))) nin0)).keep Kc40 (ninS (Nat.ne_of_lt (Nat.lt_of_lt_of_le A1.lt (Nat.le_of_eq g36.symm))) (ninS (Nat.ne_of_lt (Nat.lt_of_lt_of_le (A1.ext E36).lt (Nat.le_of_eq hba.symm))) nin0))) (((A4.ext E36).keep Kc38 (ninS (Nat.ne_of_lt (Nat.lt_of_lt_of_le A4.lt (Nat.le_of_eq g36.symm))) nin0)).keep Kc40 (ninS (Nat.ne_of_lt (Nat.lt_of_lt_of_le A4.lt (Nat.le_of_eq g36.symm))) (ninS (Nat.ne_of_lt (Nat.lt_of_lt_of_le (A4.ext E36).lt (Nat.le_of_eq hba.symm))) nin0)))) hZ (hw _ (List.mem_of_getElem? (i := 67) rfl)) (hw _ (List.mem_of_getElem? (i := 15) rfl)) (by decide) (by decide)) q42a q42c (g := (mkF m 72 #[.val (.int q0), .val (.int (q0 % (100 : Int32))), .val (.int (q0 % (10 : Int32))), .val (.ref sa)] [(.ref sa), (.ref b36)])) rfl (by rw [hml]; rfl) (Steps.refl _) (argsL := [(.ref sa)]) (rest := []) (lenOf pd_22 rfl) rfl (by show 2 * 0 + _ ≤ _; exact Nat.le_of_eq rfl) (hb hby d1_72) (fun _ _ => ⟨rfl, rfl, (by decide : 4 + 0 ≤ _), (by decide : 32 + 0 ≤ _)⟩)
  dsimp only [Pt.U, Pt.locs, Pt.cells, Pt.slots] at X42 l42 y42 z42 st42 hQ42
  subst l42 y42 z42
  obtain ⟨rfl, N42q, Kc42, c42_E, c42_Fv, c42_Fc, c42_Fn, c42_arr⟩ := hQ42
  have N42 := Fr.app N40 N42q
  have K42 : Keep h0 T42.heap [] := K40.trans Kc42 (allS (Or.inr sz_b36) (allS (Or.inr sz_ba) all0))
  have KK42 : Keep hJ T42.heap [] := KK40.trans Kc42 (allS (Or.inr sy_b36) (allS (Or.inr sy_ba) all0))
  have R45 : Rch p e below (s₁.setTop (entryFrame m #[(.int q0)] 4)) T42 (mkF m 75 #[.val (.int q0), .val (.int (q0 % (100 : Int32))), .val (.int (q0 % (10 : Int32))), .val (.ref sa)] [(.ref b36)]) := fun t k => by
    refine R43 t ?_
    refine st42.trans ?_
    exact k
  obtain ⟨cq44, kq44, q44a, q44b, q44c⟩ := isOf hZ rfl c42_E
  obtain ⟨_, _, ⟨T44, L44, k44, n44⟩, -, X44, ⟨Lc44, hQ44, l44, y44, z44⟩, st44⟩ := X42.virtualBack hx (y := (⟨"java/lang/StringBuilder", "toString", "()Ljava/lang/String;"⟩ : MethodName)) (z := (⟨"java/lang/StringBuilder", "toString", "()Ljava/lang/String;"⟩ : MethodName)) hown (mvT hZ (hw _ (List.mem_of_getElem? (i := 105) rfl))) (mvT hZ (hw _ (List.mem_of_getElem? (i := 106) rfl))) (notFace_of_selects (args := #[]) (mvT hZ (hw _ (List.mem_of_getElem? (i := 108) rfl)))) (mvT hZ (hw _ (List.mem_of_getElem? (i := 108) rfl))) (mvT hZ (hw _ (List.mem_of_getElem? (i := 107) rfl))) (by decide) (backOf (W := 0) (rm_tst l Z a0 hw [] b36 ba kb q0 ((own_dg q0) + (2 : Int32)) (own_s0 q0) (own_s1 q0) cs T42.heap n0 (Nat.le_trans Z0 K42.1) c42_E c42_Fv c42_Fc c42_Fn (own_sta_keep (own_sta_keep (own_sta_keep ((pS.ext EJ).ext E36) Kc38 (allS A36.nostat all0)) Kc40 (allS c38_E.nostat (allS Vb.nostat all0))) Kc42 (allS c40_E.nostat (allS c40_arr.nostat all0))) pcs hn rfl c42_arr) hZ (hw _ (List.mem_of_getElem? (i := 109) rfl)) (hw _ (List.mem_of_getElem? (i := 15) rfl)) (by decide) (by decide)) q44a q44c (g := (mkF m 75 #[.val (.int q0), .val (.int (q0 % (100 : Int32))), .val (.int (q0 % (10 : Int32))), .val (.ref sa)] [(.ref b36)])) rfl (by rw [hml]; rfl) (Steps.refl _) (argsL := []) (rest := []) (lenOf pd_23 rfl) rfl (by show 2 * 0 + _ ≤ _; exact Nat.le_of_eq rfl) (hb hby d1_75) (fun _ _ => ⟨rfl, rfl, (by decide : 4 + 2 ≤ _), (by decide : 32 + 16 ≤ _)⟩)
  dsimp only [Pt.U, Pt.locs, Pt.cells, Pt.slots] at X44 l44 y44 z44 st44 hQ44
  subst l44 y44 z44
  obtain ⟨rfl, N44q, Kc44, c44_E, c44_Gc, c44_val⟩ := hQ44
  have N44 := Fr.app N42 N44q
  have K44 : Keep h0 T44.heap [] := K42.trans Kc44 all0
  have KK44 : Keep hJ T44.heap [] := KK42.trans Kc44 all0
  have R46 : Rch p e below (s₁.setTop (entryFrame m #[(.int q0)] 4)) T44 (mkF m 78 #[.val (.int q0), .val (.int (q0 % (100 : Int32))), .val (.int (q0 % (10 : Int32))), .val (.ref sa)] [(.ref (T42.heap.size))]) := fun t k => by
    refine R45 t ?_
    refine st44.trans ?_
    exact k
  obtain ⟨fs, hr, hrun, hended, hRW⟩ := Stand.leaveW (s := s) X44 SJ (Nat.le_trans lJ KK44.1) (v := some (.ref (T42.heap.size))) (fun h => by rw [Bd.returns] at h; cases h) (BodyLoose.notSynchronized Bd)
  refine ⟨_, _, R46 _ ?_, hrun, hended, _, _, rfl, ?_, ?_, ⟨hRW.1, hRW.2.1, hRW.2.2.1, hRW.2.2.2.mono (by decide) (by decide)⟩⟩
  · jvm_step X44.here [X44.here.top, hx, (hb hby d1_78), X44.method', Bd.returns, Value.isRef, FieldType.isReference]
    first | (intro acts; rw [hr _ acts rfl rfl rfl]) | rw [hr _ _ rfl rfl rfl]
    exact Steps.refl _
  · show Q_rm_print Z q0 cs ta tb ka kt h0 n0 _ T44.heap _
    obtain ⟨sv, ks, z1, z2⟩ := c44_val
    exact ⟨⟨_, sv, ks, rfl, c44_E, c44_Gc, z1, z2⟩, N44, K44⟩
  · show CHr Z consts_1 s.vm s.heap T44.vm T44.heap
    rw [hh]
    exact (CJ.trans (CHr.keep KK44 own_sf0 CJ.1)).trans (CHv.at X44 hZ hEL (CHr.keep KK44 own_sf0 CJ.1).1)
theorem pd_24 : parseMethodDescriptor "(I)Ljava/lang/String;" = some ⟨[.int], some (.object "java/lang/String")⟩ := by decide +kernel
theorem pd_25 : parseMethodDescriptor "(Ljava/lang/String;III[J)Z" = some ⟨[(.object "java/lang/String"), .int, .int, .int, (.array .long)], some .boolean⟩ := by decide +kernel
theorem ef_rm_law (m : MethodId) (x0 : Int32) : entryFrame m #[(.int x0)] maxLocals = mkF m 0 #[.val (.int x0), .unset, .unset, .unset, .unset, .unset, .unset, .unset, .unset, .unset] [] := by first | (simp [entryFrame, mkF, argsToLocals, Value.category, maxLocals]; done) | rfl
def Q_rm_law (Z : State) (i0 : Int32) (cs : Int32) (vv : Value) (ta : Addr) (tb : Addr) (ka : ClassId) (kt : ClassId) (h0 : Heap) (n0 : Nat) (v : Option Value) (h : Heap) (L : List Loc) : Prop := (v = some (.int (1 : Int32))) ∧ (Fr n0 L) ∧ (Keep h0 h [])
set_option maxRecDepth 65536 in
set_option maxHeartbeats 40000000 in
theorem rm_law (l : Launch) (Z : State) (a0 : Array Value) (hw : ∀ d ∈ tables_1, d.before a0 Z = true) (ws : List Jvm.Cond) (i0 : Int32) (cs : Int32) (vv : Value) (ta : Addr) (tb : Addr) (ka : ClassId) (kt : ClassId) (h0 : Heap) (n0 : Nat) (Z0 : n0 ≤ h0.size) (pS : Sta Z h0 "java/lang/String" "COMPACT_STRINGS" "Z" (.int cs)) (pcs : ¬ (cs = (0 : Int32))) (pSF : Sta Z h0 "jdk/internal/util/Preconditions" "SIOOBE_FORMATTER" "Ljava/util/function/BiFunction;" vv) (pvv : vv.isRef = true) (pS1 : Sta Z h0 "java/lang/Integer" "DigitOnes" "[B" (.ref ta)) (pS2 : Sta Z h0 "java/lang/Integer" "DigitTens" "[B" (.ref tb)) (pT1 : Arv Z h0 ta ka .byte (100 : Int32) own_ones (.int (0 : Int32))) (pT2 : Arv Z h0 tb kt .byte (100 : Int32) own_tens (.int (0 : Int32))) :
    MetFree l x (head1 (Jvm.Cond.code x code maxLocals ret :: ws) room_1) (fun a U => a = #[(.int i0)] ∧ Z.Warmed39 U.vm ∧ U.heap = h0 ∧ CHv Z consts_1 U.vm h0) (fun _ _ _ _ _ => True) (fun _ U o U' => ∃ v L, o = .returned v ∧ Q_rm_law Z i0 cs vv ta tb ka kt h0 n0 v U'.heap L ∧ CHr Z consts_1 U.vm U.heap U'.vm U'.heap ∧ ReturnedEndW U o U' L room_1.cells room_1.slots) := by
  refine MetFree.of_bodySF (plainFor_of_name pn_3) hisR ?_
  intro p e s m args below meth c s₁ Bd hml0 hP hK
  obtain ⟨rfl, hZ, hh, hCH⟩ := hP
  have hx := Bd.exec
  have hby := Bd.bytes
  have hml : c.maxLocals = 10 := hml0
  have hown : s.vm.findClass "com/example/clausewright/clausewright/OrdinalPrintPinLaw" = some m.cls := findClass_of_methodNamed Bd.named
  have hnm := (name_of_methodNamed Bd.named Bd.method).1
  have X0 : Stand p l e room_1 s m #[(.int i0)] below meth c s₁ [] 0 0 := Stand.of_body Bd
  have e0 : s₁.heap = h0 := by rw [← hh, Bd.state]; rfl
  have N0 := Fr.nil n0
  have K0 : Keep h0 h0 [] := Keep.refl _ _
  have R0 : Rch p e below (s₁.setTop (entryFrame m #[(.int i0)] maxLocals)) s₁ (mkF m 0 #[.val (.int i0), .unset, .unset, .unset, .unset, .unset, .unset, .unset, .unset, .unset] []) := fun t k => castTop (ef_rm_law m i0) k
  have R1 : Rch p e below (s₁.setTop (entryFrame m #[(.int i0)] maxLocals)) s₁ (mkF m 4 #[.val (.int i0), .unset, .unset, .unset, .unset, .unset, .unset, .unset, .unset, .unset] [(.int (i0 &&& (2147483647 : Int32)))]) := fun t k => by
    refine R0 t ?_
    refine XS.iloadN X0.here hx rfl (hb hby at_0) rfl ?_
    show Steps p.tables e below (s₁.setTop (mkF m 1 #[.val (.int i0), .unset, .unset, .unset, .unset, .unset, .unset, .unset, .unset, .unset] [(.int i0)])) t
    refine X0.ldcInt hx hown (mvT hZ (hw _ (List.mem_of_getElem? (i := 0) rfl))) (g := (mkF m 1 #[.val (.int i0), .unset, .unset, .unset, .unset, .unset, .unset, .unset, .unset, .unset] [(.int i0)])) rfl (hb hby at_1) _ ?_
    show Steps p.tables e below (s₁.setTop (mkF m 3 #[.val (.int i0), .unset, .unset, .unset, .unset, .unset, .unset, .unset, .unset, .unset] [(.int (2147483647 : Int32)), (.int i0)])) t
    refine XS.iand X0.here hx rfl (hb hby at_3) rfl ?_
    exact k
  obtain ⟨q0, hq0⟩ : ∃ z, z = (i0 &&& (2147483647 : Int32)) := ⟨_, rfl⟩
  have hn : 0 ≤ q0.toInt := by rw [hq0]; exact own_and i0
  have hEL := own_EL hw
  rw [← hq0] at R1
  have R2 : Rch p e below (s₁.setTop (entryFrame m #[(.int i0)] maxLocals)) s₁ (mkF m 6 #[.val (.int i0), .val (.int q0), .unset, .unset, .unset, .unset, .unset, .unset, .unset, .unset] [(.int q0)]) := fun t k => by
    refine R1 t ?_
    refine XS.istoreN X0.here hx rfl (hb hby at_4) rfl (l' := #[.val (.int i0), .val (.int q0), .unset, .unset, .unset, .unset, .unset, .unset, .unset, .unset]) rfl ?_
    show Steps p.tables e below (s₁.setTop (mkF m 5 #[.val (.int i0), .val (.int q0), .unset, .unset, .unset, .unset, .unset, .unset, .unset, .unset] [])) t
    refine XS.iloadN X0.here hx rfl (hb hby at_5) rfl ?_
    exact k
  obtain ⟨_, _, ⟨TJ, LJ, kJ, nJ⟩, -, XJ, SJ, lJ, ⟨LcJ, hQJ, l1J, l2J, l3J, CJ⟩, stepJ⟩ := callSS (s := s) X0 hx (y := (⟨"com/example/clausewright/clausewright/Ordinal", "print", "(I)Ljava/lang/String;"⟩ : MethodName)) hown (mvT hZ (hw _ (List.mem_of_getElem? (i := 1) rfl))) (mvT hZ (hw _ (List.mem_of_getElem? (i := 2) rfl))) (mvT hZ (hw _ (List.mem_of_getElem? (i := 3) rfl))) (mvT hZ (hw _ (List.mem_of_getElem? (i := 4) rfl))) (by decide) (backOfSH (s := s) (vm0 := s.vm) (W := 0) (EL := consts_1) (rm_print l Z a0 hw [] q0 cs ta tb ka kt h0 n0 Z0 hn pS pcs pS1 pS2 pT1 pT2) hZ (hw _ (List.mem_of_getElem? (i := 4) rfl)) (hw _ (List.mem_of_getElem? (i := 3) rfl)) (by decide) (by decide) hEL hCH) (g := (mkF m 6 #[.val (.int i0), .val (.int q0), .unset, .unset, .unset, .unset, .unset, .unset, .unset, .unset] [(.int q0)])) rfl (by rw [hml]; rfl) (argsL := [(.int q0)]) (rest := []) (lenOf pd_24 rfl) rfl (by show 2 * 0 + _ ≤ _; exact Nat.le_of_eq rfl) (hb hby at_6) (fun _ _ => ⟨rfl, e0, (by decide : 0 + 6 ≤ _), (by decide : 0 + 48 ≤ _)⟩)
  dsimp only [Pt.U, Pt.locs, Pt.cells, Pt.slots] at XJ SJ lJ l1J l2J l3J stepJ hQJ CJ
  subst l1J l2J l3J
  obtain ⟨⟨st, sv, ks, rfl, B1, B2, B3, B4⟩, NJq, KcJ⟩ := hQJ
  have NJ := Fr.app N0 NJq
  have KJ : Keep h0 TJ.heap [] := K0.trans KcJ all0
  have KK0 : Keep TJ.heap TJ.heap [] := Keep.refl _ _
  have ZJ : Z.Warmed39 (s.setVm TJ.vm).vm := State.Warmed39.trans (t := s) hZ SJ.1
  have oJ : (s.setVm TJ.vm).vm.findClass "com/example/clausewright/clausewright/OrdinalPrintPinLaw" = some m.cls := by show TJ.vm.findClass _ = _; rw [SJ.1.alike.findClass]; exact hown
  have hZ := ZJ
  have hown := oJ
  have R4 : Rch p e below (s₁.setTop (entryFrame m #[(.int i0)] maxLocals)) TJ (mkF m 12 #[.val (.int i0), .val (.int q0), .val (.ref st), .unset, .unset, .unset, .unset, .unset, .unset, .unset] [(.int (10 : Int32))]) := fun t k => by
    refine R2 t ?_
    refine stepJ.trans ?_
    show Steps p.tables e below (TJ.setTop (mkF m 9 #[.val (.int i0), .val (.int q0), .unset, .unset, .unset, .unset, .unset, .unset, .unset, .unset] [(.ref st)])) t
    refine XS.astoreN XJ.here hx rfl (hb hby at_9) rfl rfl (l' := #[.val (.int i0), .val (.int q0), .val (.ref st), .unset, .unset, .unset, .unset, .unset, .unset, .unset]) rfl ?_
    show Steps p.tables e below (TJ.setTop (mkF m 10 #[.val (.int i0), .val (.int q0), .val (.ref st), .unset, .unset, .unset, .unset, .unset, .unset, .unset] [])) t
    refine XS.bipush XJ.here hx rfl (hb hby at_10) ?_
    exact k
  obtain ⟨T3, h3, k3, X3, e3, E3, A3, st3⟩ := newP XJ hx hZ (hw _ (List.mem_of_getElem? (i := 148) rfl)) rfl (g := (mkF m 12 #[.val (.int i0), .val (.int q0), .val (.ref st), .unset, .unset, .unset, .unset, .unset, .unset, .unset] [(.int (10 : Int32))])) rfl (hb hby at_12) rfl (by decide) (cap := 10) (by decide) (by decide) (by decide) (by decide)
  obtain ⟨b3, g3⟩ : ∃ z, z = TJ.heap.size := ⟨_, rfl⟩
  rw [← g3] at A3 st3
  have g_b3 : n0 ≤ b3 := Nat.le_trans (Nat.le_trans Z0 KJ.1) (Nat.le_of_eq g3.symm)
  have sz_b3 : h0.size ≤ b3 := Nat.le_trans KJ.1 (Nat.le_of_eq g3.symm)
  have K3 : Keep h0 h3 [] := KJ.ext E3
  have sy_b3 : TJ.heap.size ≤ b3 := Nat.le_trans KK0.1 (Nat.le_of_eq g3.symm)
  have KK3 : Keep TJ.heap h3 [] := KK0.ext E3
  have V3 : Arv Z h3 b3 k3 .long (10 : Int32) [(.long (0 : Int64)), (.long (0 : Int64)), (.long (0 : Int64)), (.long (0 : Int64)), (.long (0 : Int64)), (.long (0 : Int64)), (.long (0 : Int64)), (.long (0 : Int64)), (.long (0 : Int64)), (.long (0 : Int64))] (.long (0 : Int64)) := (Arv.new A3 (by decide)).pad (pad_rep [] (.long (0 : Int64)) 10)
  have R6 : Rch p e below (s₁.setTop (entryFrame m #[(.int i0)] maxLocals)) T3 (mkF m 17 #[.val (.int i0), .val (.int q0), .val (.ref st), .unset, .unset, .unset, .unset, .unset, .unset, .unset] [(.long (1 : Int64)), (.int (0 : Int32)), (.ref b3), (.ref b3)]) := fun t k => by
    refine R4 t ?_
    refine st3 _ ?_
    show Steps p.tables e below (T3.setTop (mkF m 14 #[.val (.int i0), .val (.int q0), .val (.ref st), .unset, .unset, .unset, .unset, .unset, .unset, .unset] [(.ref b3)])) t
    refine XS.dup X3.here hx rfl (hb hby at_14) rfl rfl ?_
    show Steps p.tables e below (T3.setTop (mkF m 15 #[.val (.int i0), .val (.int q0), .val (.ref st), .unset, .unset, .unset, .unset, .unset, .unset, .unset] [(.ref b3), (.ref b3)])) t
    refine XS.iconst X3.here hx rfl (hb hby at_15) ?_
    show Steps p.tables e below (T3.setTop (mkF m 16 #[.val (.int i0), .val (.int q0), .val (.ref st), .unset, .unset, .unset, .unset, .unset, .unset, .unset] [(.int (0 : Int32)), (.ref b3), (.ref b3)])) t
    refine XS.lconst X3.here hx rfl (hb hby at_16) ?_
    exact k
  obtain ⟨cl5, Ar5, q5, Sz5, N5_, Hs5, G5⟩ := id V3
  have hin5 : ¬ ((0 : Int32) < 0 ∨ cl5.slots.size ≤ ((0 : Int32)).toNatClampNeg) := inb_of Sz5 ⟨by decide, by decide⟩
  obtain ⟨T7, h7, X7, e7, W7, st7⟩ := stJ X3 hx hZ e3 Ar5 (j := (0 : Int32)) hin5 (g := (mkF m 17 #[.val (.int i0), .val (.int q0), .val (.ref st), .unset, .unset, .unset, .unset, .unset, .unset, .unset] [(.long (1 : Int64)), (.int (0 : Int32)), (.ref b3), (.ref b3)])) rfl rfl (hb hby at_17)
  have V7 : Arv Z h7 b3 k3 .long (10 : Int32) [(.long (1 : Int64)), (.long (0 : Int64)), (.long (0 : Int64)), (.long (0 : Int64)), (.long (0 : Int64)), (.long (0 : Int64)), (.long (0 : Int64)), (.long (0 : Int64)), (.long (0 : Int64)), (.long (0 : Int64))] (.long (0 : Int64)) := Arv.set Ar5 q5 Sz5 N5_ Hs5 G5 rfl W7 0 rfl (Nat.le_of_ble_eq_true rfl)
  have K7 : Keep h0 h7 [] := K3.wr W7 (Or.inr sz_b3)
  have N7 := Fr.snoc X7 NJ g_b3
  have KK7 : Keep TJ.heap h7 [] := KK3.wr W7 (Or.inr sy_b3)
  have R9 : Rch p e below (s₁.setTop (entryFrame m #[(.int i0)] maxLocals)) T7 (mkF m 23 #[.val (.int i0), .val (.int q0), .val (.ref st), .unset, .unset, .unset, .unset, .unset, .unset, .unset] [(.long (10 : Int64)), (.int (1 : Int32)), (.ref b3), (.ref b3)]) := fun t k => by
    refine R6 t ?_
    refine st7 _ ?_
    show Steps p.tables e below (T7.setTop (mkF m 18 #[.val (.int i0), .val (.int q0), .val (.ref st), .unset, .unset, .unset, .unset, .unset, .unset, .unset] [(.ref b3)])) t
    refine XS.dup X7.here hx rfl (hb hby at_18) rfl rfl ?_
    show Steps p.tables e below (T7.setTop (mkF m 19 #[.val (.int i0), .val (.int q0), .val (.ref st), .unset, .unset, .unset, .unset, .unset, .unset, .unset] [(.ref b3), (.ref b3)])) t
    refine XS.iconst X7.here hx rfl (hb hby at_19) ?_
    show Steps p.tables e below (T7.setTop (mkF m 20 #[.val (.int i0), .val (.int q0), .val (.ref st), .unset, .unset, .unset, .unset, .unset, .unset, .unset] [(.int (1 : Int32)), (.ref b3), (.ref b3)])) t
    refine X7.ldc2Long hx hown (mvT hZ (hw _ (List.mem_of_getElem? (i := 149) rfl))) (g := (mkF m 20 #[.val (.int i0), .val (.int q0), .val (.ref st), .unset, .unset, .unset, .unset, .unset, .unset, .unset] [(.int (1 : Int32)), (.ref b3), (.ref b3)])) rfl (hb hby at_20) _ ?_
    exact k
  obtain ⟨cl8, Ar8, q8, Sz8, N8_, Hs8, G8⟩ := id V7
  have hin8 : ¬ ((1 : Int32) < 0 ∨ cl8.slots.size ≤ ((1 : Int32)).toNatClampNeg) := inb_of Sz8 ⟨by decide, by decide⟩
  obtain ⟨T10, h10, X10, e10, W10, st10⟩ := stJ X7 hx hZ e7 Ar8 (j := (1 : Int32)) hin8 (g := (mkF m 23 #[.val (.int i0), .val (.int q0), .val (.ref st), .unset, .unset, .unset, .unset, .unset, .unset, .unset] [(.long (10 : Int64)), (.int (1 : Int32)), (.ref b3), (.ref b3)])) rfl rfl (hb hby at_23)
  have V10 : Arv Z h10 b3 k3 .long (10 : Int32) [(.long (1 : Int64)), (.long (10 : Int64)), (.long (0 : Int64)), (.long (0 : Int64)), (.long (0 : Int64)), (.long (0 : Int64)), (.long (0 : Int64)), (.long (0 : Int64)), (.long (0 : Int64)), (.long (0 : Int64))] (.long (0 : Int64)) := Arv.set Ar8 q8 Sz8 N8_ Hs8 G8 rfl W10 1 rfl (Nat.le_of_ble_eq_true rfl)
  have K10 : Keep h0 h10 [] := K7.wr W10 (Or.inr sz_b3)
  have N10 := Fr.snoc X10 N7 g_b3
  have KK10 : Keep TJ.heap h10 [] := KK7.wr W10 (Or.inr sy_b3)
  have R12 : Rch p e below (s₁.setTop (entryFrame m #[(.int i0)] maxLocals)) T10 (mkF m 29 #[.val (.int i0), .val (.int q0), .val (.ref st), .unset, .unset, .unset, .unset, .unset, .unset, .unset] [(.long (100 : Int64)), (.int (2 : Int32)), (.ref b3), (.ref b3)]) := fun t k => by
    refine R9 t ?_
    refine st10 _ ?_
    show Steps p.tables e below (T10.setTop (mkF m 24 #[.val (.int i0), .val (.int q0), .val (.ref st), .unset, .unset, .unset, .unset, .unset, .unset, .unset] [(.ref b3)])) t
    refine XS.dup X10.here hx rfl (hb hby at_24) rfl rfl ?_
    show Steps p.tables e below (T10.setTop (mkF m 25 #[.val (.int i0), .val (.int q0), .val (.ref st), .unset, .unset, .unset, .unset, .unset, .unset, .unset] [(.ref b3), (.ref b3)])) t
    refine XS.iconst X10.here hx rfl (hb hby at_25) ?_
    show Steps p.tables e below (T10.setTop (mkF m 26 #[.val (.int i0), .val (.int q0), .val (.ref st), .unset, .unset, .unset, .unset, .unset, .unset, .unset] [(.int (2 : Int32)), (.ref b3), (.ref b3)])) t
    refine X10.ldc2Long hx hown (mvT hZ (hw _ (List.mem_of_getElem? (i := 150) rfl))) (g := (mkF m 26 #[.val (.int i0), .val (.int q0), .val (.ref st), .unset, .unset, .unset, .unset, .unset, .unset, .unset] [(.int (2 : Int32)), (.ref b3), (.ref b3)])) rfl (hb hby at_26) _ ?_
    exact k
  obtain ⟨cl11, Ar11, q11, Sz11, N11_, Hs11, G11⟩ := id V10
  have hin11 : ¬ ((2 : Int32) < 0 ∨ cl11.slots.size ≤ ((2 : Int32)).toNatClampNeg) := inb_of Sz11 ⟨by decide, by decide⟩
  obtain ⟨T13, h13, X13, e13, W13, st13⟩ := stJ X10 hx hZ e10 Ar11 (j := (2 : Int32)) hin11 (g := (mkF m 29 #[.val (.int i0), .val (.int q0), .val (.ref st), .unset, .unset, .unset, .unset, .unset, .unset, .unset] [(.long (100 : Int64)), (.int (2 : Int32)), (.ref b3), (.ref b3)])) rfl rfl (hb hby at_29)
  have V13 : Arv Z h13 b3 k3 .long (10 : Int32) [(.long (1 : Int64)), (.long (10 : Int64)), (.long (100 : Int64)), (.long (0 : Int64)), (.long (0 : Int64)), (.long (0 : Int64)), (.long (0 : Int64)), (.long (0 : Int64)), (.long (0 : Int64)), (.long (0 : Int64))] (.long (0 : Int64)) := Arv.set Ar11 q11 Sz11 N11_ Hs11 G11 rfl W13 2 rfl (Nat.le_of_ble_eq_true rfl)
  have K13 : Keep h0 h13 [] := K10.wr W13 (Or.inr sz_b3)
  have N13 := Fr.snoc X13 N10 g_b3
  have KK13 : Keep TJ.heap h13 [] := KK10.wr W13 (Or.inr sy_b3)
  have R15 : Rch p e below (s₁.setTop (entryFrame m #[(.int i0)] maxLocals)) T13 (mkF m 35 #[.val (.int i0), .val (.int q0), .val (.ref st), .unset, .unset, .unset, .unset, .unset, .unset, .unset] [(.long (1000 : Int64)), (.int (3 : Int32)), (.ref b3), (.ref b3)]) := fun t k => by
    refine R12 t ?_
    refine st13 _ ?_
    show Steps p.tables e below (T13.setTop (mkF m 30 #[.val (.int i0), .val (.int q0), .val (.ref st), .unset, .unset, .unset, .unset, .unset, .unset, .unset] [(.ref b3)])) t
    refine XS.dup X13.here hx rfl (hb hby at_30) rfl rfl ?_
    show Steps p.tables e below (T13.setTop (mkF m 31 #[.val (.int i0), .val (.int q0), .val (.ref st), .unset, .unset, .unset, .unset, .unset, .unset, .unset] [(.ref b3), (.ref b3)])) t
    refine XS.iconst X13.here hx rfl (hb hby at_31) ?_
    show Steps p.tables e below (T13.setTop (mkF m 32 #[.val (.int i0), .val (.int q0), .val (.ref st), .unset, .unset, .unset, .unset, .unset, .unset, .unset] [(.int (3 : Int32)), (.ref b3), (.ref b3)])) t
    refine X13.ldc2Long hx hown (mvT hZ (hw _ (List.mem_of_getElem? (i := 151) rfl))) (g := (mkF m 32 #[.val (.int i0), .val (.int q0), .val (.ref st), .unset, .unset, .unset, .unset, .unset, .unset, .unset] [(.int (3 : Int32)), (.ref b3), (.ref b3)])) rfl (hb hby at_32) _ ?_
    exact k
  obtain ⟨cl14, Ar14, q14, Sz14, N14_, Hs14, G14⟩ := id V13
  have hin14 : ¬ ((3 : Int32) < 0 ∨ cl14.slots.size ≤ ((3 : Int32)).toNatClampNeg) := inb_of Sz14 ⟨by decide, by decide⟩
  obtain ⟨T16, h16, X16, e16, W16, st16⟩ := stJ X13 hx hZ e13 Ar14 (j := (3 : Int32)) hin14 (g := (mkF m 35 #[.val (.int i0), .val (.int q0), .val (.ref st), .unset, .unset, .unset, .unset, .unset, .unset, .unset] [(.long (1000 : Int64)), (.int (3 : Int32)), (.ref b3), (.ref b3)])) rfl rfl (hb hby at_35)
  have V16 : Arv Z h16 b3 k3 .long (10 : Int32) [(.long (1 : Int64)), (.long (10 : Int64)), (.long (100 : Int64)), (.long (1000 : Int64)), (.long (0 : Int64)), (.long (0 : Int64)), (.long (0 : Int64)), (.long (0 : Int64)), (.long (0 : Int64)), (.long (0 : Int64))] (.long (0 : Int64)) := Arv.set Ar14 q14 Sz14 N14_ Hs14 G14 rfl W16 3 rfl (Nat.le_of_ble_eq_true rfl)
  have K16 : Keep h0 h16 [] := K13.wr W16 (Or.inr sz_b3)
  have N16 := Fr.snoc X16 N13 g_b3
  have KK16 : Keep TJ.heap h16 [] := KK13.wr W16 (Or.inr sy_b3)
  have R18 : Rch p e below (s₁.setTop (entryFrame m #[(.int i0)] maxLocals)) T16 (mkF m 41 #[.val (.int i0), .val (.int q0), .val (.ref st), .unset, .unset, .unset, .unset, .unset, .unset, .unset] [(.long (10000 : Int64)), (.int (4 : Int32)), (.ref b3), (.ref b3)]) := fun t k => by
    refine R15 t ?_
    refine st16 _ ?_
    show Steps p.tables e below (T16.setTop (mkF m 36 #[.val (.int i0), .val (.int q0), .val (.ref st), .unset, .unset, .unset, .unset, .unset, .unset, .unset] [(.ref b3)])) t
    refine XS.dup X16.here hx rfl (hb hby at_36) rfl rfl ?_
    show Steps p.tables e below (T16.setTop (mkF m 37 #[.val (.int i0), .val (.int q0), .val (.ref st), .unset, .unset, .unset, .unset, .unset, .unset, .unset] [(.ref b3), (.ref b3)])) t
    refine XS.iconst X16.here hx rfl (hb hby at_37) ?_
    show Steps p.tables e below (T16.setTop (mkF m 38 #[.val (.int i0), .val (.int q0), .val (.ref st), .unset, .unset, .unset, .unset, .unset, .unset, .unset] [(.int (4 : Int32)), (.ref b3), (.ref b3)])) t
    refine X16.ldc2Long hx hown (mvT hZ (hw _ (List.mem_of_getElem? (i := 152) rfl))) (g := (mkF m 38 #[.val (.int i0), .val (.int q0), .val (.ref st), .unset, .unset, .unset, .unset, .unset, .unset, .unset] [(.int (4 : Int32)), (.ref b3), (.ref b3)])) rfl (hb hby at_38) _ ?_
    exact k
  obtain ⟨cl17, Ar17, q17, Sz17, N17_, Hs17, G17⟩ := id V16
  have hin17 : ¬ ((4 : Int32) < 0 ∨ cl17.slots.size ≤ ((4 : Int32)).toNatClampNeg) := inb_of Sz17 ⟨by decide, by decide⟩
  obtain ⟨T19, h19, X19, e19, W19, st19⟩ := stJ X16 hx hZ e16 Ar17 (j := (4 : Int32)) hin17 (g := (mkF m 41 #[.val (.int i0), .val (.int q0), .val (.ref st), .unset, .unset, .unset, .unset, .unset, .unset, .unset] [(.long (10000 : Int64)), (.int (4 : Int32)), (.ref b3), (.ref b3)])) rfl rfl (hb hby at_41)
  have V19 : Arv Z h19 b3 k3 .long (10 : Int32) [(.long (1 : Int64)), (.long (10 : Int64)), (.long (100 : Int64)), (.long (1000 : Int64)), (.long (10000 : Int64)), (.long (0 : Int64)), (.long (0 : Int64)), (.long (0 : Int64)), (.long (0 : Int64)), (.long (0 : Int64))] (.long (0 : Int64)) := Arv.set Ar17 q17 Sz17 N17_ Hs17 G17 rfl W19 4 rfl (Nat.le_of_ble_eq_true rfl)
  have K19 : Keep h0 h19 [] := K16.wr W19 (Or.inr sz_b3)
  have N19 := Fr.snoc X19 N16 g_b3
  have KK19 : Keep TJ.heap h19 [] := KK16.wr W19 (Or.inr sy_b3)
  have R21 : Rch p e below (s₁.setTop (entryFrame m #[(.int i0)] maxLocals)) T19 (mkF m 47 #[.val (.int i0), .val (.int q0), .val (.ref st), .unset, .unset, .unset, .unset, .unset, .unset, .unset] [(.long (100000 : Int64)), (.int (5 : Int32)), (.ref b3), (.ref b3)]) := fun t k => by
    refine R18 t ?_
    refine st19 _ ?_
    show Steps p.tables e below (T19.setTop (mkF m 42 #[.val (.int i0), .val (.int q0), .val (.ref st), .unset, .unset, .unset, .unset, .unset, .unset, .unset] [(.ref b3)])) t
    refine XS.dup X19.here hx rfl (hb hby at_42) rfl rfl ?_
    show Steps p.tables e below (T19.setTop (mkF m 43 #[.val (.int i0), .val (.int q0), .val (.ref st), .unset, .unset, .unset, .unset, .unset, .unset, .unset] [(.ref b3), (.ref b3)])) t
    refine XS.iconst X19.here hx rfl (hb hby at_43) ?_
    show Steps p.tables e below (T19.setTop (mkF m 44 #[.val (.int i0), .val (.int q0), .val (.ref st), .unset, .unset, .unset, .unset, .unset, .unset, .unset] [(.int (5 : Int32)), (.ref b3), (.ref b3)])) t
    refine X19.ldc2Long hx hown (mvT hZ (hw _ (List.mem_of_getElem? (i := 153) rfl))) (g := (mkF m 44 #[.val (.int i0), .val (.int q0), .val (.ref st), .unset, .unset, .unset, .unset, .unset, .unset, .unset] [(.int (5 : Int32)), (.ref b3), (.ref b3)])) rfl (hb hby at_44) _ ?_
    exact k
  obtain ⟨cl20, Ar20, q20, Sz20, N20_, Hs20, G20⟩ := id V19
  have hin20 : ¬ ((5 : Int32) < 0 ∨ cl20.slots.size ≤ ((5 : Int32)).toNatClampNeg) := inb_of Sz20 ⟨by decide, by decide⟩
  obtain ⟨T22, h22, X22, e22, W22, st22⟩ := stJ X19 hx hZ e19 Ar20 (j := (5 : Int32)) hin20 (g := (mkF m 47 #[.val (.int i0), .val (.int q0), .val (.ref st), .unset, .unset, .unset, .unset, .unset, .unset, .unset] [(.long (100000 : Int64)), (.int (5 : Int32)), (.ref b3), (.ref b3)])) rfl rfl (hb hby at_47)
  have V22 : Arv Z h22 b3 k3 .long (10 : Int32) [(.long (1 : Int64)), (.long (10 : Int64)), (.long (100 : Int64)), (.long (1000 : Int64)), (.long (10000 : Int64)), (.long (100000 : Int64)), (.long (0 : Int64)), (.long (0 : Int64)), (.long (0 : Int64)), (.long (0 : Int64))] (.long (0 : Int64)) := Arv.set Ar20 q20 Sz20 N20_ Hs20 G20 rfl W22 5 rfl (Nat.le_of_ble_eq_true rfl)
  have K22 : Keep h0 h22 [] := K19.wr W22 (Or.inr sz_b3)
  have N22 := Fr.snoc X22 N19 g_b3
  have KK22 : Keep TJ.heap h22 [] := KK19.wr W22 (Or.inr sy_b3)
  have R24 : Rch p e below (s₁.setTop (entryFrame m #[(.int i0)] maxLocals)) T22 (mkF m 54 #[.val (.int i0), .val (.int q0), .val (.ref st), .unset, .unset, .unset, .unset, .unset, .unset, .unset] [(.long (1000000 : Int64)), (.int (6 : Int32)), (.ref b3), (.ref b3)]) := fun t k => by
    refine R21 t ?_
    refine st22 _ ?_
    show Steps p.tables e below (T22.setTop (mkF m 48 #[.val (.int i0), .val (.int q0), .val (.ref st), .unset, .unset, .unset, .unset, .unset, .unset, .unset] [(.ref b3)])) t
    refine XS.dup X22.here hx rfl (hb hby at_48) rfl rfl ?_
    show Steps p.tables e below (T22.setTop (mkF m 49 #[.val (.int i0), .val (.int q0), .val (.ref st), .unset, .unset, .unset, .unset, .unset, .unset, .unset] [(.ref b3), (.ref b3)])) t
    refine XS.bipush X22.here hx rfl (hb hby at_49) ?_
    show Steps p.tables e below (T22.setTop (mkF m 51 #[.val (.int i0), .val (.int q0), .val (.ref st), .unset, .unset, .unset, .unset, .unset, .unset, .unset] [(.int (6 : Int32)), (.ref b3), (.ref b3)])) t
    refine X22.ldc2Long hx hown (mvT hZ (hw _ (List.mem_of_getElem? (i := 154) rfl))) (g := (mkF m 51 #[.val (.int i0), .val (.int q0), .val (.ref st), .unset, .unset, .unset, .unset, .unset, .unset, .unset] [(.int (6 : Int32)), (.ref b3), (.ref b3)])) rfl (hb hby at_51) _ ?_
    exact k
  obtain ⟨cl23, Ar23, q23, Sz23, N23_, Hs23, G23⟩ := id V22
  have hin23 : ¬ ((6 : Int32) < 0 ∨ cl23.slots.size ≤ ((6 : Int32)).toNatClampNeg) := inb_of Sz23 ⟨by decide, by decide⟩
  obtain ⟨T25, h25, X25, e25, W25, st25⟩ := stJ X22 hx hZ e22 Ar23 (j := (6 : Int32)) hin23 (g := (mkF m 54 #[.val (.int i0), .val (.int q0), .val (.ref st), .unset, .unset, .unset, .unset, .unset, .unset, .unset] [(.long (1000000 : Int64)), (.int (6 : Int32)), (.ref b3), (.ref b3)])) rfl rfl (hb hby at_54)
  have V25 : Arv Z h25 b3 k3 .long (10 : Int32) [(.long (1 : Int64)), (.long (10 : Int64)), (.long (100 : Int64)), (.long (1000 : Int64)), (.long (10000 : Int64)), (.long (100000 : Int64)), (.long (1000000 : Int64)), (.long (0 : Int64)), (.long (0 : Int64)), (.long (0 : Int64))] (.long (0 : Int64)) := Arv.set Ar23 q23 Sz23 N23_ Hs23 G23 rfl W25 6 rfl (Nat.le_of_ble_eq_true rfl)
  have K25 : Keep h0 h25 [] := K22.wr W25 (Or.inr sz_b3)
  have N25 := Fr.snoc X25 N22 g_b3
  have KK25 : Keep TJ.heap h25 [] := KK22.wr W25 (Or.inr sy_b3)
  have R27 : Rch p e below (s₁.setTop (entryFrame m #[(.int i0)] maxLocals)) T25 (mkF m 61 #[.val (.int i0), .val (.int q0), .val (.ref st), .unset, .unset, .unset, .unset, .unset, .unset, .unset] [(.long (10000000 : Int64)), (.int (7 : Int32)), (.ref b3), (.ref b3)]) := fun t k => by
    refine R24 t ?_
    refine st25 _ ?_
    show Steps p.tables e below (T25.setTop (mkF m 55 #[.val (.int i0), .val (.int q0), .val (.ref st), .unset, .unset, .unset, .unset, .unset, .unset, .unset] [(.ref b3)])) t
    refine XS.dup X25.here hx rfl (hb hby at_55) rfl rfl ?_
    show Steps p.tables e below (T25.setTop (mkF m 56 #[.val (.int i0), .val (.int q0), .val (.ref st), .unset, .unset, .unset, .unset, .unset, .unset, .unset] [(.ref b3), (.ref b3)])) t
    refine XS.bipush X25.here hx rfl (hb hby at_56) ?_
    show Steps p.tables e below (T25.setTop (mkF m 58 #[.val (.int i0), .val (.int q0), .val (.ref st), .unset, .unset, .unset, .unset, .unset, .unset, .unset] [(.int (7 : Int32)), (.ref b3), (.ref b3)])) t
    refine X25.ldc2Long hx hown (mvT hZ (hw _ (List.mem_of_getElem? (i := 155) rfl))) (g := (mkF m 58 #[.val (.int i0), .val (.int q0), .val (.ref st), .unset, .unset, .unset, .unset, .unset, .unset, .unset] [(.int (7 : Int32)), (.ref b3), (.ref b3)])) rfl (hb hby at_58) _ ?_
    exact k
  obtain ⟨cl26, Ar26, q26, Sz26, N26_, Hs26, G26⟩ := id V25
  have hin26 : ¬ ((7 : Int32) < 0 ∨ cl26.slots.size ≤ ((7 : Int32)).toNatClampNeg) := inb_of Sz26 ⟨by decide, by decide⟩
  obtain ⟨T28, h28, X28, e28, W28, st28⟩ := stJ X25 hx hZ e25 Ar26 (j := (7 : Int32)) hin26 (g := (mkF m 61 #[.val (.int i0), .val (.int q0), .val (.ref st), .unset, .unset, .unset, .unset, .unset, .unset, .unset] [(.long (10000000 : Int64)), (.int (7 : Int32)), (.ref b3), (.ref b3)])) rfl rfl (hb hby at_61)
  have V28 : Arv Z h28 b3 k3 .long (10 : Int32) [(.long (1 : Int64)), (.long (10 : Int64)), (.long (100 : Int64)), (.long (1000 : Int64)), (.long (10000 : Int64)), (.long (100000 : Int64)), (.long (1000000 : Int64)), (.long (10000000 : Int64)), (.long (0 : Int64)), (.long (0 : Int64))] (.long (0 : Int64)) := Arv.set Ar26 q26 Sz26 N26_ Hs26 G26 rfl W28 7 rfl (Nat.le_of_ble_eq_true rfl)
  have K28 : Keep h0 h28 [] := K25.wr W28 (Or.inr sz_b3)
  have N28 := Fr.snoc X28 N25 g_b3
  have KK28 : Keep TJ.heap h28 [] := KK25.wr W28 (Or.inr sy_b3)
  have R30 : Rch p e below (s₁.setTop (entryFrame m #[(.int i0)] maxLocals)) T28 (mkF m 68 #[.val (.int i0), .val (.int q0), .val (.ref st), .unset, .unset, .unset, .unset, .unset, .unset, .unset] [(.long (100000000 : Int64)), (.int (8 : Int32)), (.ref b3), (.ref b3)]) := fun t k => by
    refine R27 t ?_
    refine st28 _ ?_
    show Steps p.tables e below (T28.setTop (mkF m 62 #[.val (.int i0), .val (.int q0), .val (.ref st), .unset, .unset, .unset, .unset, .unset, .unset, .unset] [(.ref b3)])) t
    refine XS.dup X28.here hx rfl (hb hby at_62) rfl rfl ?_
    show Steps p.tables e below (T28.setTop (mkF m 63 #[.val (.int i0), .val (.int q0), .val (.ref st), .unset, .unset, .unset, .unset, .unset, .unset, .unset] [(.ref b3), (.ref b3)])) t
    refine XS.bipush X28.here hx rfl (hb hby at_63) ?_
    show Steps p.tables e below (T28.setTop (mkF m 65 #[.val (.int i0), .val (.int q0), .val (.ref st), .unset, .unset, .unset, .unset, .unset, .unset, .unset] [(.int (8 : Int32)), (.ref b3), (.ref b3)])) t
    refine X28.ldc2Long hx hown (mvT hZ (hw _ (List.mem_of_getElem? (i := 156) rfl))) (g := (mkF m 65 #[.val (.int i0), .val (.int q0), .val (.ref st), .unset, .unset, .unset, .unset, .unset, .unset, .unset] [(.int (8 : Int32)), (.ref b3), (.ref b3)])) rfl (hb hby at_65) _ ?_
    exact k
  obtain ⟨cl29, Ar29, q29, Sz29, N29_, Hs29, G29⟩ := id V28
  have hin29 : ¬ ((8 : Int32) < 0 ∨ cl29.slots.size ≤ ((8 : Int32)).toNatClampNeg) := inb_of Sz29 ⟨by decide, by decide⟩
  obtain ⟨T31, h31, X31, e31, W31, st31⟩ := stJ X28 hx hZ e28 Ar29 (j := (8 : Int32)) hin29 (g := (mkF m 68 #[.val (.int i0), .val (.int q0), .val (.ref st), .unset, .unset, .unset, .unset, .unset, .unset, .unset] [(.long (100000000 : Int64)), (.int (8 : Int32)), (.ref b3), (.ref b3)])) rfl rfl (hb hby at_68)
  have V31 : Arv Z h31 b3 k3 .long (10 : Int32) [(.long (1 : Int64)), (.long (10 : Int64)), (.long (100 : Int64)), (.long (1000 : Int64)), (.long (10000 : Int64)), (.long (100000 : Int64)), (.long (1000000 : Int64)), (.long (10000000 : Int64)), (.long (100000000 : Int64)), (.long (0 : Int64))] (.long (0 : Int64)) := Arv.set Ar29 q29 Sz29 N29_ Hs29 G29 rfl W31 8 rfl (Nat.le_of_ble_eq_true rfl)
  have K31 : Keep h0 h31 [] := K28.wr W31 (Or.inr sz_b3)
  have N31 := Fr.snoc X31 N28 g_b3
  have KK31 : Keep TJ.heap h31 [] := KK28.wr W31 (Or.inr sy_b3)
  have R33 : Rch p e below (s₁.setTop (entryFrame m #[(.int i0)] maxLocals)) T31 (mkF m 75 #[.val (.int i0), .val (.int q0), .val (.ref st), .unset, .unset, .unset, .unset, .unset, .unset, .unset] [(.long (1000000000 : Int64)), (.int (9 : Int32)), (.ref b3), (.ref b3)]) := fun t k => by
    refine R30 t ?_
    refine st31 _ ?_
    show Steps p.tables e below (T31.setTop (mkF m 69 #[.val (.int i0), .val (.int q0), .val (.ref st), .unset, .unset, .unset, .unset, .unset, .unset, .unset] [(.ref b3)])) t
    refine XS.dup X31.here hx rfl (hb hby at_69) rfl rfl ?_
    show Steps p.tables e below (T31.setTop (mkF m 70 #[.val (.int i0), .val (.int q0), .val (.ref st), .unset, .unset, .unset, .unset, .unset, .unset, .unset] [(.ref b3), (.ref b3)])) t
    refine XS.bipush X31.here hx rfl (hb hby at_70) ?_
    show Steps p.tables e below (T31.setTop (mkF m 72 #[.val (.int i0), .val (.int q0), .val (.ref st), .unset, .unset, .unset, .unset, .unset, .unset, .unset] [(.int (9 : Int32)), (.ref b3), (.ref b3)])) t
    refine X31.ldc2Long hx hown (mvT hZ (hw _ (List.mem_of_getElem? (i := 157) rfl))) (g := (mkF m 72 #[.val (.int i0), .val (.int q0), .val (.ref st), .unset, .unset, .unset, .unset, .unset, .unset, .unset] [(.int (9 : Int32)), (.ref b3), (.ref b3)])) rfl (hb hby at_72) _ ?_
    exact k
  obtain ⟨cl32, Ar32, q32, Sz32, N32_, Hs32, G32⟩ := id V31
  have hin32 : ¬ ((9 : Int32) < 0 ∨ cl32.slots.size ≤ ((9 : Int32)).toNatClampNeg) := inb_of Sz32 ⟨by decide, by decide⟩
  obtain ⟨T34, h34, X34, e34, W34, st34⟩ := stJ X31 hx hZ e31 Ar32 (j := (9 : Int32)) hin32 (g := (mkF m 75 #[.val (.int i0), .val (.int q0), .val (.ref st), .unset, .unset, .unset, .unset, .unset, .unset, .unset] [(.long (1000000000 : Int64)), (.int (9 : Int32)), (.ref b3), (.ref b3)])) rfl rfl (hb hby at_75)
  have V34 : Arv Z h34 b3 k3 .long (10 : Int32) [(.long (1 : Int64)), (.long (10 : Int64)), (.long (100 : Int64)), (.long (1000 : Int64)), (.long (10000 : Int64)), (.long (100000 : Int64)), (.long (1000000 : Int64)), (.long (10000000 : Int64)), (.long (100000000 : Int64)), (.long (1000000000 : Int64))] (.long (0 : Int64)) := Arv.set Ar32 q32 Sz32 N32_ Hs32 G32 rfl W34 9 rfl (Nat.le_of_ble_eq_true rfl)
  have K34 : Keep h0 h34 [] := K31.wr W34 (Or.inr sz_b3)
  have N34 := Fr.snoc X34 N31 g_b3
  have KK34 : Keep TJ.heap h34 [] := KK31.wr W34 (Or.inr sy_b3)
  have R36 : Rch p e below (s₁.setTop (entryFrame m #[(.int i0)] maxLocals)) T34 (mkF m 78 #[.val (.int i0), .val (.int q0), .val (.ref st), .val (.ref b3), .unset, .unset, .unset, .unset, .unset, .unset] [(.int q0)]) := fun t k => by
    refine R33 t ?_
    refine st34 _ ?_
    show Steps p.tables e below (T34.setTop (mkF m 76 #[.val (.int i0), .val (.int q0), .val (.ref st), .unset, .unset, .unset, .unset, .unset, .unset, .unset] [(.ref b3)])) t
    refine XS.astoreN X34.here hx rfl (hb hby at_76) rfl rfl (l' := #[.val (.int i0), .val (.int q0), .val (.ref st), .val (.ref b3), .unset, .unset, .unset, .unset, .unset, .unset]) rfl ?_
    show Steps p.tables e below (T34.setTop (mkF m 77 #[.val (.int i0), .val (.int q0), .val (.ref st), .val (.ref b3), .unset, .unset, .unset, .unset, .unset, .unset] [])) t
    refine XS.iloadN X34.here hx rfl (hb hby at_77) rfl ?_
    exact k
  obtain ⟨_, _, ⟨T35, L35, k35, n35⟩, -, X35, ⟨Lc35, hQ35, l35, y35, z35⟩, st35⟩ := Jvm.LawKit.callS X34 hx (y := (⟨"com/example/clausewright/clausewright/OrdinalPrintPinLaw", "digits", "(I)I"⟩ : MethodName)) hown (mvT hZ (hw _ (List.mem_of_getElem? (i := 158) rfl))) (mvT hZ (hw _ (List.mem_of_getElem? (i := 159) rfl))) (mvT hZ (hw _ (List.mem_of_getElem? (i := 160) rfl))) (mvT hZ (hw _ (List.mem_of_getElem? (i := 161) rfl))) (by decide) (backOf (W := 0) (rm_digits l Z a0 hw [] q0 h34 n0 (Nat.le_trans Z0 K34.1) ) hZ (hw _ (List.mem_of_getElem? (i := 161) rfl)) (hw _ (List.mem_of_getElem? (i := 160) rfl)) (by decide) (by decide)) (g := (mkF m 78 #[.val (.int i0), .val (.int q0), .val (.ref st), .val (.ref b3), .unset, .unset, .unset, .unset, .unset, .unset] [(.int q0)])) rfl (by rw [hml]; rfl) (argsL := [(.int q0)]) (rest := []) (lenOf pd_5 rfl) rfl (by show 2 * 0 + _ ≤ _; exact Nat.le_of_eq rfl) (hb hby at_78) (fun _ _ => ⟨rfl, e34, (by decide : 7 + 0 ≤ _), (by decide : 58 + 0 ≤ _)⟩)
  dsimp only [Pt.U, Pt.locs, Pt.cells, Pt.slots] at X35 l35 y35 z35 st35 hQ35
  obtain ⟨rfl, N35q, e35⟩ := hQ35
  have N35 := Fr.app N34 N35q
  have X35 : Stand p l e _ _ m _ below meth c T35 _ 7 58 := own_fold X35 l35 y35 z35
  have R38 : Rch p e below (s₁.setTop (entryFrame m #[(.int i0)] maxLocals)) T35 (mkF m 84 #[.val (.int i0), .val (.int q0), .val (.ref st), .val (.ref b3), .val (.int (own_dg q0)), .unset, .unset, .unset, .unset, .unset] [(.ref st)]) := fun t k => by
    refine R36 t ?_
    refine st35 _ ?_
    show Steps p.tables e below (T35.setTop (mkF m 81 #[.val (.int i0), .val (.int q0), .val (.ref st), .val (.ref b3), .unset, .unset, .unset, .unset, .unset, .unset] [(.int (own_dg q0))])) t
    refine XS.istore X35.here hx rfl (hb hby at_81) rfl (l' := #[.val (.int i0), .val (.int q0), .val (.ref st), .val (.ref b3), .val (.int (own_dg q0)), .unset, .unset, .unset, .unset, .unset]) rfl ?_
    show Steps p.tables e below (T35.setTop (mkF m 83 #[.val (.int i0), .val (.int q0), .val (.ref st), .val (.ref b3), .val (.int (own_dg q0)), .unset, .unset, .unset, .unset, .unset] [])) t
    refine XS.aloadN X35.here hx rfl (hb hby at_83) rfl rfl ?_
    exact k
  obtain ⟨cq37, kq37, q37a, q37b, q37c⟩ := isOf hZ e35 (((((((((((B1.ext E3).wr W7).wr W10).wr W13).wr W16).wr W19).wr W22).wr W25).wr W28).wr W31).wr W34)
  obtain ⟨_, _, ⟨T37, L37, k37, n37⟩, -, X37, ⟨Lc37, hQ37, l37, y37, z37⟩, st37⟩ := X35.virtualBack hx (y := (⟨"java/lang/String", "length", "()I"⟩ : MethodName)) (z := (⟨"java/lang/String", "length", "()I"⟩ : MethodName)) hown (mvT hZ (hw _ (List.mem_of_getElem? (i := 162) rfl))) (mvT hZ (hw _ (List.mem_of_getElem? (i := 73) rfl))) (notFace_of_selects (args := #[]) (mvT hZ (hw _ (List.mem_of_getElem? (i := 75) rfl)))) (mvT hZ (hw _ (List.mem_of_getElem? (i := 75) rfl))) (mvT hZ (hw _ (List.mem_of_getElem? (i := 74) rfl))) (by decide) (backOf (W := 0) (rm_length l Z a0 hw [] st cs sv ks ((own_dg q0) + (2 : Int32)) (own_txt q0 (own_dn q0) (own_s0 q0) (own_s1 q0)) h34 n0 (Nat.le_trans Z0 K34.1) (((((((((((B1.ext E3).wr W7).wr W10).wr W13).wr W16).wr W19).wr W22).wr W25).wr W28).wr W31).wr W34) (((((((((((B3.ext E3).other W7 (Or.inl (Nat.ne_of_lt (Nat.lt_of_lt_of_le B1.lt (Nat.le_of_eq g3.symm))))).other W10 (Or.inl (Nat.ne_of_lt (Nat.lt_of_lt_of_le B1.lt (Nat.le_of_eq g3.symm))))).other W13 (Or.inl (Nat.ne_of_lt (Nat.lt_of_lt_of_le B1.lt (Nat.le_of_eq g3.symm))))).other W16 (Or.inl (Nat.ne_of_lt (Nat.lt_of_lt_of_le B1.lt (Nat.le_of_eq g3.symm))))).other W19 (Or.inl (Nat.ne_of_lt (Nat.lt_of_lt_of_le B1.lt (Nat.le_of_eq g3.symm))))).other W22 (Or.inl (Nat.ne_of_lt (Nat.lt_of_lt_of_le B1.lt (Nat.le_of_eq g3.symm))))).other W25 (Or.inl (Nat.ne_of_lt (Nat.lt_of_lt_of_le B1.lt (Nat.le_of_eq g3.symm))))).other W28 (Or.inl (Nat.ne_of_lt (Nat.lt_of_lt_of_le B1.lt (Nat.le_of_eq g3.symm))))).other W31 (Or.inl (Nat.ne_of_lt (Nat.lt_of_lt_of_le B1.lt (Nat.le_of_eq g3.symm))))).other W34 (Or.inl (Nat.ne_of_lt (Nat.lt_of_lt_of_le B1.lt (Nat.le_of_eq g3.symm))))) (((((((((((B2.ext E3).other W7 (Or.inl (Nat.ne_of_lt (Nat.lt_of_lt_of_le B1.lt (Nat.le_of_eq g3.symm))))).other W10 (Or.inl (Nat.ne_of_lt (Nat.lt_of_lt_of_le B1.lt (Nat.le_of_eq g3.symm))))).other W13 (Or.inl (Nat.ne_of_lt (Nat.lt_of_lt_of_le B1.lt (Nat.le_of_eq g3.symm))))).other W16 (Or.inl (Nat.ne_of_lt (Nat.lt_of_lt_of_le B1.lt (Nat.le_of_eq g3.symm))))).other W19 (Or.inl (Nat.ne_of_lt (Nat.lt_of_lt_of_le B1.lt (Nat.le_of_eq g3.symm))))).other W22 (Or.inl (Nat.ne_of_lt (Nat.lt_of_lt_of_le B1.lt (Nat.le_of_eq g3.symm))))).other W25 (Or.inl (Nat.ne_of_lt (Nat.lt_of_lt_of_le B1.lt (Nat.le_of_eq g3.symm))))).other W28 (Or.inl (Nat.ne_of_lt (Nat.lt_of_lt_of_le B1.lt (Nat.le_of_eq g3.symm))))).other W31 (Or.inl (Nat.ne_of_lt (Nat.lt_of_lt_of_le B1.lt (Nat.le_of_eq g3.symm))))).other W34 (Or.inl (Nat.ne_of_lt (Nat.lt_of_lt_of_le B1.lt (Nat.le_of_eq g3.symm))))) (((((((((((B4.ext E3).other W7 (Nat.ne_of_lt (Nat.lt_of_lt_of_le B4.lt (Nat.le_of_eq g3.symm)))).other W10 (Nat.ne_of_lt (Nat.lt_of_lt_of_le B4.lt (Nat.le_of_eq g3.symm)))).other W13 (Nat.ne_of_lt (Nat.lt_of_lt_of_le B4.lt (Nat.le_of_eq g3.symm)))).other W16 (Nat.ne_of_lt (Nat.lt_of_lt_of_le B4.lt (Nat.le_of_eq g3.symm)))).other W19 (Nat.ne_of_lt (Nat.lt_of_lt_of_le B4.lt (Nat.le_of_eq g3.symm)))).other W22 (Nat.ne_of_lt (Nat.lt_of_lt_of_le B4.lt (Nat.le_of_eq g3.symm)))).other W25 (Nat.ne_of_lt (Nat.lt_of_lt_of_le B4.lt (Nat.le_of_eq g3.symm)))).other W28 (Nat.ne_of_lt (Nat.lt_of_lt_of_le B4.lt (Nat.le_of_eq g3.symm)))).other W31 (Nat.ne_of_lt (Nat.lt_of_lt_of_le B4.lt (Nat.le_of_eq g3.symm)))).other W34 (Nat.ne_of_lt (Nat.lt_of_lt_of_le B4.lt (Nat.le_of_eq g3.symm)))) ((((((((((((own_sta_keep pS KcJ all0).ext E3).wr W7).wr W10).wr W13).wr W16).wr W19).wr W22).wr W25).wr W28).wr W31).wr W34) pcs) hZ (hw _ (List.mem_of_getElem? (i := 76) rfl)) (hw _ (List.mem_of_getElem? (i := 6) rfl)) (by decide) (by decide)) q37a q37c (g := (mkF m 84 #[.val (.int i0), .val (.int q0), .val (.ref st), .val (.ref b3), .val (.int (own_dg q0)), .unset, .unset, .unset, .unset, .unset] [(.ref st)])) rfl (by rw [hml]; rfl) (Steps.refl _) (argsL := []) (rest := []) (lenOf pd_11 rfl) rfl (by show 2 * 0 + _ ≤ _; exact Nat.le_of_eq rfl) (hb hby at_84) (fun _ _ => ⟨rfl, e35, (by decide : 7 + 0 ≤ _), (by decide : 58 + 0 ≤ _)⟩)
  dsimp only [Pt.U, Pt.locs, Pt.cells, Pt.slots] at X37 l37 y37 z37 st37 hQ37
  obtain ⟨rfl, N37q, e37⟩ := hQ37
  have N37 := Fr.app N35 N37q
  have X37 : Stand p l e _ _ m _ below meth c T37 _ 7 58 := own_fold X37 l37 y37 z37
  have R40 : Rch p e below (s₁.setTop (entryFrame m #[(.int i0)] maxLocals)) T37 (mkF m 102 #[.val (.int i0), .val (.int q0), .val (.ref st), .val (.ref b3), .val (.int (own_dg q0)), .unset, .unset, .unset, .unset, .unset] [(.ref b3), (.int (0 : Int32)), (.int (own_dg q0)), (.int q0), (.ref st)]) := fun t k => by
    refine R38 t ?_
    refine st37.trans ?_
    show Steps p.tables e below (T37.setTop (mkF m 87 #[.val (.int i0), .val (.int q0), .val (.ref st), .val (.ref b3), .val (.int (own_dg q0)), .unset, .unset, .unset, .unset, .unset] [(.int ((own_dg q0) + (2 : Int32)))])) t
    refine XS.iload X37.here hx rfl (hb hby at_87) rfl ?_
    show Steps p.tables e below (T37.setTop (mkF m 89 #[.val (.int i0), .val (.int q0), .val (.ref st), .val (.ref b3), .val (.int (own_dg q0)), .unset, .unset, .unset, .unset, .unset] [(.int (own_dg q0)), (.int ((own_dg q0) + (2 : Int32)))])) t
    refine XS.iconst X37.here hx rfl (hb hby at_89) ?_
    show Steps p.tables e below (T37.setTop (mkF m 90 #[.val (.int i0), .val (.int q0), .val (.ref st), .val (.ref b3), .val (.int (own_dg q0)), .unset, .unset, .unset, .unset, .unset] [(.int (2 : Int32)), (.int (own_dg q0)), (.int ((own_dg q0) + (2 : Int32)))])) t
    refine XS.iadd X37.here hx rfl (hb hby at_90) rfl ?_
    show Steps p.tables e below (T37.setTop (mkF m 91 #[.val (.int i0), .val (.int q0), .val (.ref st), .val (.ref b3), .val (.int (own_dg q0)), .unset, .unset, .unset, .unset, .unset] [(.int ((own_dg q0) + (2 : Int32))), (.int ((own_dg q0) + (2 : Int32)))])) t
    refine XS.icmpYes X37.here hx rfl (pc0 := 91) (pc' := 96) rfl (hb hby at_91) rfl (teq rfl).1 (by decide) (by decide) ?_
    show Steps p.tables e below (T37.setTop (mkF m 96 #[.val (.int i0), .val (.int q0), .val (.ref st), .val (.ref b3), .val (.int (own_dg q0)), .unset, .unset, .unset, .unset, .unset] [])) t
    refine XS.aloadN X37.here hx rfl (hb hby at_96) rfl rfl ?_
    show Steps p.tables e below (T37.setTop (mkF m 97 #[.val (.int i0), .val (.int q0), .val (.ref st), .val (.ref b3), .val (.int (own_dg q0)), .unset, .unset, .unset, .unset, .unset] [(.ref st)])) t
    refine XS.iloadN X37.here hx rfl (hb hby at_97) rfl ?_
    show Steps p.tables e below (T37.setTop (mkF m 98 #[.val (.int i0), .val (.int q0), .val (.ref st), .val (.ref b3), .val (.int (own_dg q0)), .unset, .unset, .unset, .unset, .unset] [(.int q0), (.ref st)])) t
    refine XS.iload X37.here hx rfl (hb hby at_98) rfl ?_
    show Steps p.tables e below (T37.setTop (mkF m 100 #[.val (.int i0), .val (.int q0), .val (.ref st), .val (.ref b3), .val (.int (own_dg q0)), .unset, .unset, .unset, .unset, .unset] [(.int (own_dg q0)), (.int q0), (.ref st)])) t
    refine XS.iconst X37.here hx rfl (hb hby at_100) ?_
    show Steps p.tables e below (T37.setTop (mkF m 101 #[.val (.int i0), .val (.int q0), .val (.ref st), .val (.ref b3), .val (.int (own_dg q0)), .unset, .unset, .unset, .unset, .unset] [(.int (0 : Int32)), (.int (own_dg q0)), (.int q0), (.ref st)])) t
    refine XS.aloadN X37.here hx rfl (hb hby at_101) rfl rfl ?_
    exact k
  obtain ⟨_, _, ⟨T39, L39, k39, n39⟩, -, X39, ⟨Lc39, hQ39, l39, y39, z39⟩, st39⟩ := Jvm.LawKit.callS X37 hx (y := (⟨"com/example/clausewright/clausewright/OrdinalPrintPinLaw", "at", "(Ljava/lang/String;III[J)Z"⟩ : MethodName)) hown (mvT hZ (hw _ (List.mem_of_getElem? (i := 163) rfl))) (mvT hZ (hw _ (List.mem_of_getElem? (i := 164) rfl))) (mvT hZ (hw _ (List.mem_of_getElem? (i := 160) rfl))) (mvT hZ (hw _ (List.mem_of_getElem? (i := 165) rfl))) (by decide) (backOf (W := 0) (rm_at l Z a0 hw [] st cs sv ks q0 (0 : Int32) (own_s0 q0) (own_s1 q0) b3 k3 vv h34 n0 (Nat.le_trans Z0 K34.1) (((((((((((B1.ext E3).wr W7).wr W10).wr W13).wr W16).wr W19).wr W22).wr W25).wr W28).wr W31).wr W34) (((((((((((B3.ext E3).other W7 (Or.inl (Nat.ne_of_lt (Nat.lt_of_lt_of_le B1.lt (Nat.le_of_eq g3.symm))))).other W10 (Or.inl (Nat.ne_of_lt (Nat.lt_of_lt_of_le B1.lt (Nat.le_of_eq g3.symm))))).other W13 (Or.inl (Nat.ne_of_lt (Nat.lt_of_lt_of_le B1.lt (Nat.le_of_eq g3.symm))))).other W16 (Or.inl (Nat.ne_of_lt (Nat.lt_of_lt_of_le B1.lt (Nat.le_of_eq g3.symm))))).other W19 (Or.inl (Nat.ne_of_lt (Nat.lt_of_lt_of_le B1.lt (Nat.le_of_eq g3.symm))))).other W22 (Or.inl (Nat.ne_of_lt (Nat.lt_of_lt_of_le B1.lt (Nat.le_of_eq g3.symm))))).other W25 (Or.inl (Nat.ne_of_lt (Nat.lt_of_lt_of_le B1.lt (Nat.le_of_eq g3.symm))))).other W28 (Or.inl (Nat.ne_of_lt (Nat.lt_of_lt_of_le B1.lt (Nat.le_of_eq g3.symm))))).other W31 (Or.inl (Nat.ne_of_lt (Nat.lt_of_lt_of_le B1.lt (Nat.le_of_eq g3.symm))))).other W34 (Or.inl (Nat.ne_of_lt (Nat.lt_of_lt_of_le B1.lt (Nat.le_of_eq g3.symm))))) (((((((((((B2.ext E3).other W7 (Or.inl (Nat.ne_of_lt (Nat.lt_of_lt_of_le B1.lt (Nat.le_of_eq g3.symm))))).other W10 (Or.inl (Nat.ne_of_lt (Nat.lt_of_lt_of_le B1.lt (Nat.le_of_eq g3.symm))))).other W13 (Or.inl (Nat.ne_of_lt (Nat.lt_of_lt_of_le B1.lt (Nat.le_of_eq g3.symm))))).other W16 (Or.inl (Nat.ne_of_lt (Nat.lt_of_lt_of_le B1.lt (Nat.le_of_eq g3.symm))))).other W19 (Or.inl (Nat.ne_of_lt (Nat.lt_of_lt_of_le B1.lt (Nat.le_of_eq g3.symm))))).other W22 (Or.inl (Nat.ne_of_lt (Nat.lt_of_lt_of_le B1.lt (Nat.le_of_eq g3.symm))))).other W25 (Or.inl (Nat.ne_of_lt (Nat.lt_of_lt_of_le B1.lt (Nat.le_of_eq g3.symm))))).other W28 (Or.inl (Nat.ne_of_lt (Nat.lt_of_lt_of_le B1.lt (Nat.le_of_eq g3.symm))))).other W31 (Or.inl (Nat.ne_of_lt (Nat.lt_of_lt_of_le B1.lt (Nat.le_of_eq g3.symm))))).other W34 (Or.inl (Nat.ne_of_lt (Nat.lt_of_lt_of_le B1.lt (Nat.le_of_eq g3.symm))))) (((((((((((B4.ext E3).other W7 (Nat.ne_of_lt (Nat.lt_of_lt_of_le B4.lt (Nat.le_of_eq g3.symm)))).other W10 (Nat.ne_of_lt (Nat.lt_of_lt_of_le B4.lt (Nat.le_of_eq g3.symm)))).other W13 (Nat.ne_of_lt (Nat.lt_of_lt_of_le B4.lt (Nat.le_of_eq g3.symm)))).other W16 (Nat.ne_of_lt (Nat.lt_of_lt_of_le B4.lt (Nat.le_of_eq g3.symm)))).other W19 (Nat.ne_of_lt (Nat.lt_of_lt_of_le B4.lt (Nat.le_of_eq g3.symm)))).other W22 (Nat.ne_of_lt (Nat.lt_of_lt_of_le B4.lt (Nat.le_of_eq g3.symm)))).other W25 (Nat.ne_of_lt (Nat.lt_of_lt_of_le B4.lt (Nat.le_of_eq g3.symm)))).other W28 (Nat.ne_of_lt (Nat.lt_of_lt_of_le B4.lt (Nat.le_of_eq g3.symm)))).other W31 (Nat.ne_of_lt (Nat.lt_of_lt_of_le B4.lt (Nat.le_of_eq g3.symm)))).other W34 (Nat.ne_of_lt (Nat.lt_of_lt_of_le B4.lt (Nat.le_of_eq g3.symm)))) ((((((((((((own_sta_keep pS KcJ all0).ext E3).wr W7).wr W10).wr W13).wr W16).wr W19).wr W22).wr W25).wr W28).wr W31).wr W34) pcs ((((((((((((own_sta_keep pSF KcJ all0).ext E3).wr W7).wr W10).wr W13).wr W16).wr W19).wr W22).wr W25).wr W28).wr W31).wr W34) pvv hn V34 ⟨by decide, by decide⟩) hZ (hw _ (List.mem_of_getElem? (i := 165) rfl)) (hw _ (List.mem_of_getElem? (i := 160) rfl)) (by decide) (by decide)) (g := (mkF m 102 #[.val (.int i0), .val (.int q0), .val (.ref st), .val (.ref b3), .val (.int (own_dg q0)), .unset, .unset, .unset, .unset, .unset] [(.ref b3), (.int (0 : Int32)), (.int (own_dg q0)), (.int q0), (.ref st)])) rfl (by rw [hml]; rfl) (argsL := [(.ref st), (.int q0), (.int (own_dg q0)), (.int (0 : Int32)), (.ref b3)]) (rest := []) (lenOf pd_25 rfl) rfl (by show 2 * 0 + _ ≤ _; exact Nat.le_of_eq rfl) (hb hby at_102) (fun _ _ => ⟨rfl, e37, (by decide : 7 + 0 ≤ _), (by decide : 58 + 0 ≤ _)⟩)
  dsimp only [Pt.U, Pt.locs, Pt.cells, Pt.slots] at X39 l39 y39 z39 st39 hQ39
  obtain ⟨rfl, N39q, e39⟩ := hQ39
  have N39 := Fr.app N37 N39q
  have X39 : Stand p l e _ _ m _ below meth c T39 _ 7 58 := own_fold X39 l39 y39 z39
  have R42 : Rch p e below (s₁.setTop (entryFrame m #[(.int i0)] maxLocals)) T39 (mkF m 114 #[.val (.int i0), .val (.int q0), .val (.ref st), .val (.ref b3), .val (.int (own_dg q0)), .unset, .unset, .unset, .unset, .unset] [(.ref b3), (.int (1 : Int32)), (.int (own_dg q0)), (.int q0), (.ref st)]) := fun t k => by
    refine R40 t ?_
    refine st39 _ ?_
    show Steps p.tables e below (T39.setTop (mkF m 105 #[.val (.int i0), .val (.int q0), .val (.ref st), .val (.ref b3), .val (.int (own_dg q0)), .unset, .unset, .unset, .unset, .unset] [(.int (1 : Int32))])) t
    refine XS.ifNo X39.here hx rfl (hb hby at_105) rfl ((if0 _ _).trans (feq (by decide : ¬ ((1 : Int32) = (0 : Int32)))).1) ?_
    show Steps p.tables e below (T39.setTop (mkF m 108 #[.val (.int i0), .val (.int q0), .val (.ref st), .val (.ref b3), .val (.int (own_dg q0)), .unset, .unset, .unset, .unset, .unset] [])) t
    refine XS.aloadN X39.here hx rfl (hb hby at_108) rfl rfl ?_
    show Steps p.tables e below (T39.setTop (mkF m 109 #[.val (.int i0), .val (.int q0), .val (.ref st), .val (.ref b3), .val (.int (own_dg q0)), .unset, .unset, .unset, .unset, .unset] [(.ref st)])) t
    refine XS.iloadN X39.here hx rfl (hb hby at_109) rfl ?_
    show Steps p.tables e below (T39.setTop (mkF m 110 #[.val (.int i0), .val (.int q0), .val (.ref st), .val (.ref b3), .val (.int (own_dg q0)), .unset, .unset, .unset, .unset, .unset] [(.int q0), (.ref st)])) t
    refine XS.iload X39.here hx rfl (hb hby at_110) rfl ?_
    show Steps p.tables e below (T39.setTop (mkF m 112 #[.val (.int i0), .val (.int q0), .val (.ref st), .val (.ref b3), .val (.int (own_dg q0)), .unset, .unset, .unset, .unset, .unset] [(.int (own_dg q0)), (.int q0), (.ref st)])) t
    refine XS.iconst X39.here hx rfl (hb hby at_112) ?_
    show Steps p.tables e below (T39.setTop (mkF m 113 #[.val (.int i0), .val (.int q0), .val (.ref st), .val (.ref b3), .val (.int (own_dg q0)), .unset, .unset, .unset, .unset, .unset] [(.int (1 : Int32)), (.int (own_dg q0)), (.int q0), (.ref st)])) t
    refine XS.aloadN X39.here hx rfl (hb hby at_113) rfl rfl ?_
    exact k
  obtain ⟨_, _, ⟨T41, L41, k41, n41⟩, -, X41, ⟨Lc41, hQ41, l41, y41, z41⟩, st41⟩ := Jvm.LawKit.callS X39 hx (y := (⟨"com/example/clausewright/clausewright/OrdinalPrintPinLaw", "at", "(Ljava/lang/String;III[J)Z"⟩ : MethodName)) hown (mvT hZ (hw _ (List.mem_of_getElem? (i := 163) rfl))) (mvT hZ (hw _ (List.mem_of_getElem? (i := 164) rfl))) (mvT hZ (hw _ (List.mem_of_getElem? (i := 160) rfl))) (mvT hZ (hw _ (List.mem_of_getElem? (i := 165) rfl))) (by decide) (backOf (W := 0) (rm_at l Z a0 hw [] st cs sv ks q0 (1 : Int32) (own_s0 q0) (own_s1 q0) b3 k3 vv h34 n0 (Nat.le_trans Z0 K34.1) (((((((((((B1.ext E3).wr W7).wr W10).wr W13).wr W16).wr W19).wr W22).wr W25).wr W28).wr W31).wr W34) (((((((((((B3.ext E3).other W7 (Or.inl (Nat.ne_of_lt (Nat.lt_of_lt_of_le B1.lt (Nat.le_of_eq g3.symm))))).other W10 (Or.inl (Nat.ne_of_lt (Nat.lt_of_lt_of_le B1.lt (Nat.le_of_eq g3.symm))))).other W13 (Or.inl (Nat.ne_of_lt (Nat.lt_of_lt_of_le B1.lt (Nat.le_of_eq g3.symm))))).other W16 (Or.inl (Nat.ne_of_lt (Nat.lt_of_lt_of_le B1.lt (Nat.le_of_eq g3.symm))))).other W19 (Or.inl (Nat.ne_of_lt (Nat.lt_of_lt_of_le B1.lt (Nat.le_of_eq g3.symm))))).other W22 (Or.inl (Nat.ne_of_lt (Nat.lt_of_lt_of_le B1.lt (Nat.le_of_eq g3.symm))))).other W25 (Or.inl (Nat.ne_of_lt (Nat.lt_of_lt_of_le B1.lt (Nat.le_of_eq g3.symm))))).other W28 (Or.inl (Nat.ne_of_lt (Nat.lt_of_lt_of_le B1.lt (Nat.le_of_eq g3.symm))))).other W31 (Or.inl (Nat.ne_of_lt (Nat.lt_of_lt_of_le B1.lt (Nat.le_of_eq g3.symm))))).other W34 (Or.inl (Nat.ne_of_lt (Nat.lt_of_lt_of_le B1.lt (Nat.le_of_eq g3.symm))))) (((((((((((B2.ext E3).other W7 (Or.inl (Nat.ne_of_lt (Nat.lt_of_lt_of_le B1.lt (Nat.le_of_eq g3.symm))))).other W10 (Or.inl (Nat.ne_of_lt (Nat.lt_of_lt_of_le B1.lt (Nat.le_of_eq g3.symm))))).other W13 (Or.inl (Nat.ne_of_lt (Nat.lt_of_lt_of_le B1.lt (Nat.le_of_eq g3.symm))))).other W16 (Or.inl (Nat.ne_of_lt (Nat.lt_of_lt_of_le B1.lt (Nat.le_of_eq g3.symm))))).other W19 (Or.inl (Nat.ne_of_lt (Nat.lt_of_lt_of_le B1.lt (Nat.le_of_eq g3.symm))))).other W22 (Or.inl (Nat.ne_of_lt (Nat.lt_of_lt_of_le B1.lt (Nat.le_of_eq g3.symm))))).other W25 (Or.inl (Nat.ne_of_lt (Nat.lt_of_lt_of_le B1.lt (Nat.le_of_eq g3.symm))))).other W28 (Or.inl (Nat.ne_of_lt (Nat.lt_of_lt_of_le B1.lt (Nat.le_of_eq g3.symm))))).other W31 (Or.inl (Nat.ne_of_lt (Nat.lt_of_lt_of_le B1.lt (Nat.le_of_eq g3.symm))))).other W34 (Or.inl (Nat.ne_of_lt (Nat.lt_of_lt_of_le B1.lt (Nat.le_of_eq g3.symm))))) (((((((((((B4.ext E3).other W7 (Nat.ne_of_lt (Nat.lt_of_lt_of_le B4.lt (Nat.le_of_eq g3.symm)))).other W10 (Nat.ne_of_lt (Nat.lt_of_lt_of_le B4.lt (Nat.le_of_eq g3.symm)))).other W13 (Nat.ne_of_lt (Nat.lt_of_lt_of_le B4.lt (Nat.le_of_eq g3.symm)))).other W16 (Nat.ne_of_lt (Nat.lt_of_lt_of_le B4.lt (Nat.le_of_eq g3.symm)))).other W19 (Nat.ne_of_lt (Nat.lt_of_lt_of_le B4.lt (Nat.le_of_eq g3.symm)))).other W22 (Nat.ne_of_lt (Nat.lt_of_lt_of_le B4.lt (Nat.le_of_eq g3.symm)))).other W25 (Nat.ne_of_lt (Nat.lt_of_lt_of_le B4.lt (Nat.le_of_eq g3.symm)))).other W28 (Nat.ne_of_lt (Nat.lt_of_lt_of_le B4.lt (Nat.le_of_eq g3.symm)))).other W31 (Nat.ne_of_lt (Nat.lt_of_lt_of_le B4.lt (Nat.le_of_eq g3.symm)))).other W34 (Nat.ne_of_lt (Nat.lt_of_lt_of_le B4.lt (Nat.le_of_eq g3.symm)))) ((((((((((((own_sta_keep pS KcJ all0).ext E3).wr W7).wr W10).wr W13).wr W16).wr W19).wr W22).wr W25).wr W28).wr W31).wr W34) pcs ((((((((((((own_sta_keep pSF KcJ all0).ext E3).wr W7).wr W10).wr W13).wr W16).wr W19).wr W22).wr W25).wr W28).wr W31).wr W34) pvv hn V34 ⟨by decide, by decide⟩) hZ (hw _ (List.mem_of_getElem? (i := 165) rfl)) (hw _ (List.mem_of_getElem? (i := 160) rfl)) (by decide) (by decide)) (g := (mkF m 114 #[.val (.int i0), .val (.int q0), .val (.ref st), .val (.ref b3), .val (.int (own_dg q0)), .unset, .unset, .unset, .unset, .unset] [(.ref b3), (.int (1 : Int32)), (.int (own_dg q0)), (.int q0), (.ref st)])) rfl (by rw [hml]; rfl) (argsL := [(.ref st), (.int q0), (.int (own_dg q0)), (.int (1 : Int32)), (.ref b3)]) (rest := []) (lenOf pd_25 rfl) rfl (by show 2 * 0 + _ ≤ _; exact Nat.le_of_eq rfl) (hb hby at_114) (fun _ _ => ⟨rfl, e39, (by decide : 7 + 0 ≤ _), (by decide : 58 + 0 ≤ _)⟩)
  dsimp only [Pt.U, Pt.locs, Pt.cells, Pt.slots] at X41 l41 y41 z41 st41 hQ41
  obtain ⟨rfl, N41q, e41⟩ := hQ41
  have N41 := Fr.app N39 N41q
  have X41 : Stand p l e _ _ m _ below meth c T41 _ 7 58 := own_fold X41 l41 y41 z41
  have R44 : Rch p e below (s₁.setTop (entryFrame m #[(.int i0)] maxLocals)) T41 (mkF m 126 #[.val (.int i0), .val (.int q0), .val (.ref st), .val (.ref b3), .val (.int (own_dg q0)), .unset, .unset, .unset, .unset, .unset] [(.ref b3), (.int (2 : Int32)), (.int (own_dg q0)), (.int q0), (.ref st)]) := fun t k => by
    refine R42 t ?_
    refine st41 _ ?_
    show Steps p.tables e below (T41.setTop (mkF m 117 #[.val (.int i0), .val (.int q0), .val (.ref st), .val (.ref b3), .val (.int (own_dg q0)), .unset, .unset, .unset, .unset, .unset] [(.int (1 : Int32))])) t
    refine XS.ifNo X41.here hx rfl (hb hby at_117) rfl ((if0 _ _).trans (feq (by decide : ¬ ((1 : Int32) = (0 : Int32)))).1) ?_
    show Steps p.tables e below (T41.setTop (mkF m 120 #[.val (.int i0), .val (.int q0), .val (.ref st), .val (.ref b3), .val (.int (own_dg q0)), .unset, .unset, .unset, .unset, .unset] [])) t
    refine XS.aloadN X41.here hx rfl (hb hby at_120) rfl rfl ?_
    show Steps p.tables e below (T41.setTop (mkF m 121 #[.val (.int i0), .val (.int q0), .val (.ref st), .val (.ref b3), .val (.int (own_dg q0)), .unset, .unset, .unset, .unset, .unset] [(.ref st)])) t
    refine XS.iloadN X41.here hx rfl (hb hby at_121) rfl ?_
    show Steps p.tables e below (T41.setTop (mkF m 122 #[.val (.int i0), .val (.int q0), .val (.ref st), .val (.ref b3), .val (.int (own_dg q0)), .unset, .unset, .unset, .unset, .unset] [(.int q0), (.ref st)])) t
    refine XS.iload X41.here hx rfl (hb hby at_122) rfl ?_
    show Steps p.tables e below (T41.setTop (mkF m 124 #[.val (.int i0), .val (.int q0), .val (.ref st), .val (.ref b3), .val (.int (own_dg q0)), .unset, .unset, .unset, .unset, .unset] [(.int (own_dg q0)), (.int q0), (.ref st)])) t
    refine XS.iconst X41.here hx rfl (hb hby at_124) ?_
    show Steps p.tables e below (T41.setTop (mkF m 125 #[.val (.int i0), .val (.int q0), .val (.ref st), .val (.ref b3), .val (.int (own_dg q0)), .unset, .unset, .unset, .unset, .unset] [(.int (2 : Int32)), (.int (own_dg q0)), (.int q0), (.ref st)])) t
    refine XS.aloadN X41.here hx rfl (hb hby at_125) rfl rfl ?_
    exact k
  obtain ⟨_, _, ⟨T43, L43, k43, n43⟩, -, X43, ⟨Lc43, hQ43, l43, y43, z43⟩, st43⟩ := Jvm.LawKit.callS X41 hx (y := (⟨"com/example/clausewright/clausewright/OrdinalPrintPinLaw", "at", "(Ljava/lang/String;III[J)Z"⟩ : MethodName)) hown (mvT hZ (hw _ (List.mem_of_getElem? (i := 163) rfl))) (mvT hZ (hw _ (List.mem_of_getElem? (i := 164) rfl))) (mvT hZ (hw _ (List.mem_of_getElem? (i := 160) rfl))) (mvT hZ (hw _ (List.mem_of_getElem? (i := 165) rfl))) (by decide) (backOf (W := 0) (rm_at l Z a0 hw [] st cs sv ks q0 (2 : Int32) (own_s0 q0) (own_s1 q0) b3 k3 vv h34 n0 (Nat.le_trans Z0 K34.1) (((((((((((B1.ext E3).wr W7).wr W10).wr W13).wr W16).wr W19).wr W22).wr W25).wr W28).wr W31).wr W34) (((((((((((B3.ext E3).other W7 (Or.inl (Nat.ne_of_lt (Nat.lt_of_lt_of_le B1.lt (Nat.le_of_eq g3.symm))))).other W10 (Or.inl (Nat.ne_of_lt (Nat.lt_of_lt_of_le B1.lt (Nat.le_of_eq g3.symm))))).other W13 (Or.inl (Nat.ne_of_lt (Nat.lt_of_lt_of_le B1.lt (Nat.le_of_eq g3.symm))))).other W16 (Or.inl (Nat.ne_of_lt (Nat.lt_of_lt_of_le B1.lt (Nat.le_of_eq g3.symm))))).other W19 (Or.inl (Nat.ne_of_lt (Nat.lt_of_lt_of_le B1.lt (Nat.le_of_eq g3.symm))))).other W22 (Or.inl (Nat.ne_of_lt (Nat.lt_of_lt_of_le B1.lt (Nat.le_of_eq g3.symm))))).other W25 (Or.inl (Nat.ne_of_lt (Nat.lt_of_lt_of_le B1.lt (Nat.le_of_eq g3.symm))))).other W28 (Or.inl (Nat.ne_of_lt (Nat.lt_of_lt_of_le B1.lt (Nat.le_of_eq g3.symm))))).other W31 (Or.inl (Nat.ne_of_lt (Nat.lt_of_lt_of_le B1.lt (Nat.le_of_eq g3.symm))))).other W34 (Or.inl (Nat.ne_of_lt (Nat.lt_of_lt_of_le B1.lt (Nat.le_of_eq g3.symm))))) (((((((((((B2.ext E3).other W7 (Or.inl (Nat.ne_of_lt (Nat.lt_of_lt_of_le B1.lt (Nat.le_of_eq g3.symm))))).other W10 (Or.inl (Nat.ne_of_lt (Nat.lt_of_lt_of_le B1.lt (Nat.le_of_eq g3.symm))))).other W13 (Or.inl (Nat.ne_of_lt (Nat.lt_of_lt_of_le B1.lt (Nat.le_of_eq g3.symm))))).other W16 (Or.inl (Nat.ne_of_lt (Nat.lt_of_lt_of_le B1.lt (Nat.le_of_eq g3.symm))))).other W19 (Or.inl (Nat.ne_of_lt (Nat.lt_of_lt_of_le B1.lt (Nat.le_of_eq g3.symm))))).other W22 (Or.inl (Nat.ne_of_lt (Nat.lt_of_lt_of_le B1.lt (Nat.le_of_eq g3.symm))))).other W25 (Or.inl (Nat.ne_of_lt (Nat.lt_of_lt_of_le B1.lt (Nat.le_of_eq g3.symm))))).other W28 (Or.inl (Nat.ne_of_lt (Nat.lt_of_lt_of_le B1.lt (Nat.le_of_eq g3.symm))))).other W31 (Or.inl (Nat.ne_of_lt (Nat.lt_of_lt_of_le B1.lt (Nat.le_of_eq g3.symm))))).other W34 (Or.inl (Nat.ne_of_lt (Nat.lt_of_lt_of_le B1.lt (Nat.le_of_eq g3.symm))))) (((((((((((B4.ext E3).other W7 (Nat.ne_of_lt (Nat.lt_of_lt_of_le B4.lt (Nat.le_of_eq g3.symm)))).other W10 (Nat.ne_of_lt (Nat.lt_of_lt_of_le B4.lt (Nat.le_of_eq g3.symm)))).other W13 (Nat.ne_of_lt (Nat.lt_of_lt_of_le B4.lt (Nat.le_of_eq g3.symm)))).other W16 (Nat.ne_of_lt (Nat.lt_of_lt_of_le B4.lt (Nat.le_of_eq g3.symm)))).other W19 (Nat.ne_of_lt (Nat.lt_of_lt_of_le B4.lt (Nat.le_of_eq g3.symm)))).other W22 (Nat.ne_of_lt (Nat.lt_of_lt_of_le B4.lt (Nat.le_of_eq g3.symm)))).other W25 (Nat.ne_of_lt (Nat.lt_of_lt_of_le B4.lt (Nat.le_of_eq g3.symm)))).other W28 (Nat.ne_of_lt (Nat.lt_of_lt_of_le B4.lt (Nat.le_of_eq g3.symm)))).other W31 (Nat.ne_of_lt (Nat.lt_of_lt_of_le B4.lt (Nat.le_of_eq g3.symm)))).other W34 (Nat.ne_of_lt (Nat.lt_of_lt_of_le B4.lt (Nat.le_of_eq g3.symm)))) ((((((((((((own_sta_keep pS KcJ all0).ext E3).wr W7).wr W10).wr W13).wr W16).wr W19).wr W22).wr W25).wr W28).wr W31).wr W34) pcs ((((((((((((own_sta_keep pSF KcJ all0).ext E3).wr W7).wr W10).wr W13).wr W16).wr W19).wr W22).wr W25).wr W28).wr W31).wr W34) pvv hn V34 ⟨by decide, by decide⟩) hZ (hw _ (List.mem_of_getElem? (i := 165) rfl)) (hw _ (List.mem_of_getElem? (i := 160) rfl)) (by decide) (by decide)) (g := (mkF m 126 #[.val (.int i0), .val (.int q0), .val (.ref st), .val (.ref b3), .val (.int (own_dg q0)), .unset, .unset, .unset, .unset, .unset] [(.ref b3), (.int (2 : Int32)), (.int (own_dg q0)), (.int q0), (.ref st)])) rfl (by rw [hml]; rfl) (argsL := [(.ref st), (.int q0), (.int (own_dg q0)), (.int (2 : Int32)), (.ref b3)]) (rest := []) (lenOf pd_25 rfl) rfl (by show 2 * 0 + _ ≤ _; exact Nat.le_of_eq rfl) (hb hby at_126) (fun _ _ => ⟨rfl, e41, (by decide : 7 + 0 ≤ _), (by decide : 58 + 0 ≤ _)⟩)
  dsimp only [Pt.U, Pt.locs, Pt.cells, Pt.slots] at X43 l43 y43 z43 st43 hQ43
  obtain ⟨rfl, N43q, e43⟩ := hQ43
  have N43 := Fr.app N41 N43q
  have X43 : Stand p l e _ _ m _ below meth c T43 _ 7 58 := own_fold X43 l43 y43 z43
  have R46 : Rch p e below (s₁.setTop (entryFrame m #[(.int i0)] maxLocals)) T43 (mkF m 138 #[.val (.int i0), .val (.int q0), .val (.ref st), .val (.ref b3), .val (.int (own_dg q0)), .unset, .unset, .unset, .unset, .unset] [(.ref b3), (.int (3 : Int32)), (.int (own_dg q0)), (.int q0), (.ref st)]) := fun t k => by
    refine R44 t ?_
    refine st43 _ ?_
    show Steps p.tables e below (T43.setTop (mkF m 129 #[.val (.int i0), .val (.int q0), .val (.ref st), .val (.ref b3), .val (.int (own_dg q0)), .unset, .unset, .unset, .unset, .unset] [(.int (1 : Int32))])) t
    refine XS.ifNo X43.here hx rfl (hb hby at_129) rfl ((if0 _ _).trans (feq (by decide : ¬ ((1 : Int32) = (0 : Int32)))).1) ?_
    show Steps p.tables e below (T43.setTop (mkF m 132 #[.val (.int i0), .val (.int q0), .val (.ref st), .val (.ref b3), .val (.int (own_dg q0)), .unset, .unset, .unset, .unset, .unset] [])) t
    refine XS.aloadN X43.here hx rfl (hb hby at_132) rfl rfl ?_
    show Steps p.tables e below (T43.setTop (mkF m 133 #[.val (.int i0), .val (.int q0), .val (.ref st), .val (.ref b3), .val (.int (own_dg q0)), .unset, .unset, .unset, .unset, .unset] [(.ref st)])) t
    refine XS.iloadN X43.here hx rfl (hb hby at_133) rfl ?_
    show Steps p.tables e below (T43.setTop (mkF m 134 #[.val (.int i0), .val (.int q0), .val (.ref st), .val (.ref b3), .val (.int (own_dg q0)), .unset, .unset, .unset, .unset, .unset] [(.int q0), (.ref st)])) t
    refine XS.iload X43.here hx rfl (hb hby at_134) rfl ?_
    show Steps p.tables e below (T43.setTop (mkF m 136 #[.val (.int i0), .val (.int q0), .val (.ref st), .val (.ref b3), .val (.int (own_dg q0)), .unset, .unset, .unset, .unset, .unset] [(.int (own_dg q0)), (.int q0), (.ref st)])) t
    refine XS.iconst X43.here hx rfl (hb hby at_136) ?_
    show Steps p.tables e below (T43.setTop (mkF m 137 #[.val (.int i0), .val (.int q0), .val (.ref st), .val (.ref b3), .val (.int (own_dg q0)), .unset, .unset, .unset, .unset, .unset] [(.int (3 : Int32)), (.int (own_dg q0)), (.int q0), (.ref st)])) t
    refine XS.aloadN X43.here hx rfl (hb hby at_137) rfl rfl ?_
    exact k
  obtain ⟨_, _, ⟨T45, L45, k45, n45⟩, -, X45, ⟨Lc45, hQ45, l45, y45, z45⟩, st45⟩ := Jvm.LawKit.callS X43 hx (y := (⟨"com/example/clausewright/clausewright/OrdinalPrintPinLaw", "at", "(Ljava/lang/String;III[J)Z"⟩ : MethodName)) hown (mvT hZ (hw _ (List.mem_of_getElem? (i := 163) rfl))) (mvT hZ (hw _ (List.mem_of_getElem? (i := 164) rfl))) (mvT hZ (hw _ (List.mem_of_getElem? (i := 160) rfl))) (mvT hZ (hw _ (List.mem_of_getElem? (i := 165) rfl))) (by decide) (backOf (W := 0) (rm_at l Z a0 hw [] st cs sv ks q0 (3 : Int32) (own_s0 q0) (own_s1 q0) b3 k3 vv h34 n0 (Nat.le_trans Z0 K34.1) (((((((((((B1.ext E3).wr W7).wr W10).wr W13).wr W16).wr W19).wr W22).wr W25).wr W28).wr W31).wr W34) (((((((((((B3.ext E3).other W7 (Or.inl (Nat.ne_of_lt (Nat.lt_of_lt_of_le B1.lt (Nat.le_of_eq g3.symm))))).other W10 (Or.inl (Nat.ne_of_lt (Nat.lt_of_lt_of_le B1.lt (Nat.le_of_eq g3.symm))))).other W13 (Or.inl (Nat.ne_of_lt (Nat.lt_of_lt_of_le B1.lt (Nat.le_of_eq g3.symm))))).other W16 (Or.inl (Nat.ne_of_lt (Nat.lt_of_lt_of_le B1.lt (Nat.le_of_eq g3.symm))))).other W19 (Or.inl (Nat.ne_of_lt (Nat.lt_of_lt_of_le B1.lt (Nat.le_of_eq g3.symm))))).other W22 (Or.inl (Nat.ne_of_lt (Nat.lt_of_lt_of_le B1.lt (Nat.le_of_eq g3.symm))))).other W25 (Or.inl (Nat.ne_of_lt (Nat.lt_of_lt_of_le B1.lt (Nat.le_of_eq g3.symm))))).other W28 (Or.inl (Nat.ne_of_lt (Nat.lt_of_lt_of_le B1.lt (Nat.le_of_eq g3.symm))))).other W31 (Or.inl (Nat.ne_of_lt (Nat.lt_of_lt_of_le B1.lt (Nat.le_of_eq g3.symm))))).other W34 (Or.inl (Nat.ne_of_lt (Nat.lt_of_lt_of_le B1.lt (Nat.le_of_eq g3.symm))))) (((((((((((B2.ext E3).other W7 (Or.inl (Nat.ne_of_lt (Nat.lt_of_lt_of_le B1.lt (Nat.le_of_eq g3.symm))))).other W10 (Or.inl (Nat.ne_of_lt (Nat.lt_of_lt_of_le B1.lt (Nat.le_of_eq g3.symm))))).other W13 (Or.inl (Nat.ne_of_lt (Nat.lt_of_lt_of_le B1.lt (Nat.le_of_eq g3.symm))))).other W16 (Or.inl (Nat.ne_of_lt (Nat.lt_of_lt_of_le B1.lt (Nat.le_of_eq g3.symm))))).other W19 (Or.inl (Nat.ne_of_lt (Nat.lt_of_lt_of_le B1.lt (Nat.le_of_eq g3.symm))))).other W22 (Or.inl (Nat.ne_of_lt (Nat.lt_of_lt_of_le B1.lt (Nat.le_of_eq g3.symm))))).other W25 (Or.inl (Nat.ne_of_lt (Nat.lt_of_lt_of_le B1.lt (Nat.le_of_eq g3.symm))))).other W28 (Or.inl (Nat.ne_of_lt (Nat.lt_of_lt_of_le B1.lt (Nat.le_of_eq g3.symm))))).other W31 (Or.inl (Nat.ne_of_lt (Nat.lt_of_lt_of_le B1.lt (Nat.le_of_eq g3.symm))))).other W34 (Or.inl (Nat.ne_of_lt (Nat.lt_of_lt_of_le B1.lt (Nat.le_of_eq g3.symm))))) (((((((((((B4.ext E3).other W7 (Nat.ne_of_lt (Nat.lt_of_lt_of_le B4.lt (Nat.le_of_eq g3.symm)))).other W10 (Nat.ne_of_lt (Nat.lt_of_lt_of_le B4.lt (Nat.le_of_eq g3.symm)))).other W13 (Nat.ne_of_lt (Nat.lt_of_lt_of_le B4.lt (Nat.le_of_eq g3.symm)))).other W16 (Nat.ne_of_lt (Nat.lt_of_lt_of_le B4.lt (Nat.le_of_eq g3.symm)))).other W19 (Nat.ne_of_lt (Nat.lt_of_lt_of_le B4.lt (Nat.le_of_eq g3.symm)))).other W22 (Nat.ne_of_lt (Nat.lt_of_lt_of_le B4.lt (Nat.le_of_eq g3.symm)))).other W25 (Nat.ne_of_lt (Nat.lt_of_lt_of_le B4.lt (Nat.le_of_eq g3.symm)))).other W28 (Nat.ne_of_lt (Nat.lt_of_lt_of_le B4.lt (Nat.le_of_eq g3.symm)))).other W31 (Nat.ne_of_lt (Nat.lt_of_lt_of_le B4.lt (Nat.le_of_eq g3.symm)))).other W34 (Nat.ne_of_lt (Nat.lt_of_lt_of_le B4.lt (Nat.le_of_eq g3.symm)))) ((((((((((((own_sta_keep pS KcJ all0).ext E3).wr W7).wr W10).wr W13).wr W16).wr W19).wr W22).wr W25).wr W28).wr W31).wr W34) pcs ((((((((((((own_sta_keep pSF KcJ all0).ext E3).wr W7).wr W10).wr W13).wr W16).wr W19).wr W22).wr W25).wr W28).wr W31).wr W34) pvv hn V34 ⟨by decide, by decide⟩) hZ (hw _ (List.mem_of_getElem? (i := 165) rfl)) (hw _ (List.mem_of_getElem? (i := 160) rfl)) (by decide) (by decide)) (g := (mkF m 138 #[.val (.int i0), .val (.int q0), .val (.ref st), .val (.ref b3), .val (.int (own_dg q0)), .unset, .unset, .unset, .unset, .unset] [(.ref b3), (.int (3 : Int32)), (.int (own_dg q0)), (.int q0), (.ref st)])) rfl (by rw [hml]; rfl) (argsL := [(.ref st), (.int q0), (.int (own_dg q0)), (.int (3 : Int32)), (.ref b3)]) (rest := []) (lenOf pd_25 rfl) rfl (by show 2 * 0 + _ ≤ _; exact Nat.le_of_eq rfl) (hb hby at_138) (fun _ _ => ⟨rfl, e43, (by decide : 7 + 0 ≤ _), (by decide : 58 + 0 ≤ _)⟩)
  dsimp only [Pt.U, Pt.locs, Pt.cells, Pt.slots] at X45 l45 y45 z45 st45 hQ45
  obtain ⟨rfl, N45q, e45⟩ := hQ45
  have N45 := Fr.app N43 N45q
  have X45 : Stand p l e _ _ m _ below meth c T45 _ 7 58 := own_fold X45 l45 y45 z45
  have R48 : Rch p e below (s₁.setTop (entryFrame m #[(.int i0)] maxLocals)) T45 (mkF m 150 #[.val (.int i0), .val (.int q0), .val (.ref st), .val (.ref b3), .val (.int (own_dg q0)), .unset, .unset, .unset, .unset, .unset] [(.ref b3), (.int (4 : Int32)), (.int (own_dg q0)), (.int q0), (.ref st)]) := fun t k => by
    refine R46 t ?_
    refine st45 _ ?_
    show Steps p.tables e below (T45.setTop (mkF m 141 #[.val (.int i0), .val (.int q0), .val (.ref st), .val (.ref b3), .val (.int (own_dg q0)), .unset, .unset, .unset, .unset, .unset] [(.int (1 : Int32))])) t
    refine XS.ifNo X45.here hx rfl (hb hby at_141) rfl ((if0 _ _).trans (feq (by decide : ¬ ((1 : Int32) = (0 : Int32)))).1) ?_
    show Steps p.tables e below (T45.setTop (mkF m 144 #[.val (.int i0), .val (.int q0), .val (.ref st), .val (.ref b3), .val (.int (own_dg q0)), .unset, .unset, .unset, .unset, .unset] [])) t
    refine XS.aloadN X45.here hx rfl (hb hby at_144) rfl rfl ?_
    show Steps p.tables e below (T45.setTop (mkF m 145 #[.val (.int i0), .val (.int q0), .val (.ref st), .val (.ref b3), .val (.int (own_dg q0)), .unset, .unset, .unset, .unset, .unset] [(.ref st)])) t
    refine XS.iloadN X45.here hx rfl (hb hby at_145) rfl ?_
    show Steps p.tables e below (T45.setTop (mkF m 146 #[.val (.int i0), .val (.int q0), .val (.ref st), .val (.ref b3), .val (.int (own_dg q0)), .unset, .unset, .unset, .unset, .unset] [(.int q0), (.ref st)])) t
    refine XS.iload X45.here hx rfl (hb hby at_146) rfl ?_
    show Steps p.tables e below (T45.setTop (mkF m 148 #[.val (.int i0), .val (.int q0), .val (.ref st), .val (.ref b3), .val (.int (own_dg q0)), .unset, .unset, .unset, .unset, .unset] [(.int (own_dg q0)), (.int q0), (.ref st)])) t
    refine XS.iconst X45.here hx rfl (hb hby at_148) ?_
    show Steps p.tables e below (T45.setTop (mkF m 149 #[.val (.int i0), .val (.int q0), .val (.ref st), .val (.ref b3), .val (.int (own_dg q0)), .unset, .unset, .unset, .unset, .unset] [(.int (4 : Int32)), (.int (own_dg q0)), (.int q0), (.ref st)])) t
    refine XS.aloadN X45.here hx rfl (hb hby at_149) rfl rfl ?_
    exact k
  obtain ⟨_, _, ⟨T47, L47, k47, n47⟩, -, X47, ⟨Lc47, hQ47, l47, y47, z47⟩, st47⟩ := Jvm.LawKit.callS X45 hx (y := (⟨"com/example/clausewright/clausewright/OrdinalPrintPinLaw", "at", "(Ljava/lang/String;III[J)Z"⟩ : MethodName)) hown (mvT hZ (hw _ (List.mem_of_getElem? (i := 163) rfl))) (mvT hZ (hw _ (List.mem_of_getElem? (i := 164) rfl))) (mvT hZ (hw _ (List.mem_of_getElem? (i := 160) rfl))) (mvT hZ (hw _ (List.mem_of_getElem? (i := 165) rfl))) (by decide) (backOf (W := 0) (rm_at l Z a0 hw [] st cs sv ks q0 (4 : Int32) (own_s0 q0) (own_s1 q0) b3 k3 vv h34 n0 (Nat.le_trans Z0 K34.1) (((((((((((B1.ext E3).wr W7).wr W10).wr W13).wr W16).wr W19).wr W22).wr W25).wr W28).wr W31).wr W34) (((((((((((B3.ext E3).other W7 (Or.inl (Nat.ne_of_lt (Nat.lt_of_lt_of_le B1.lt (Nat.le_of_eq g3.symm))))).other W10 (Or.inl (Nat.ne_of_lt (Nat.lt_of_lt_of_le B1.lt (Nat.le_of_eq g3.symm))))).other W13 (Or.inl (Nat.ne_of_lt (Nat.lt_of_lt_of_le B1.lt (Nat.le_of_eq g3.symm))))).other W16 (Or.inl (Nat.ne_of_lt (Nat.lt_of_lt_of_le B1.lt (Nat.le_of_eq g3.symm))))).other W19 (Or.inl (Nat.ne_of_lt (Nat.lt_of_lt_of_le B1.lt (Nat.le_of_eq g3.symm))))).other W22 (Or.inl (Nat.ne_of_lt (Nat.lt_of_lt_of_le B1.lt (Nat.le_of_eq g3.symm))))).other W25 (Or.inl (Nat.ne_of_lt (Nat.lt_of_lt_of_le B1.lt (Nat.le_of_eq g3.symm))))).other W28 (Or.inl (Nat.ne_of_lt (Nat.lt_of_lt_of_le B1.lt (Nat.le_of_eq g3.symm))))).other W31 (Or.inl (Nat.ne_of_lt (Nat.lt_of_lt_of_le B1.lt (Nat.le_of_eq g3.symm))))).other W34 (Or.inl (Nat.ne_of_lt (Nat.lt_of_lt_of_le B1.lt (Nat.le_of_eq g3.symm))))) (((((((((((B2.ext E3).other W7 (Or.inl (Nat.ne_of_lt (Nat.lt_of_lt_of_le B1.lt (Nat.le_of_eq g3.symm))))).other W10 (Or.inl (Nat.ne_of_lt (Nat.lt_of_lt_of_le B1.lt (Nat.le_of_eq g3.symm))))).other W13 (Or.inl (Nat.ne_of_lt (Nat.lt_of_lt_of_le B1.lt (Nat.le_of_eq g3.symm))))).other W16 (Or.inl (Nat.ne_of_lt (Nat.lt_of_lt_of_le B1.lt (Nat.le_of_eq g3.symm))))).other W19 (Or.inl (Nat.ne_of_lt (Nat.lt_of_lt_of_le B1.lt (Nat.le_of_eq g3.symm))))).other W22 (Or.inl (Nat.ne_of_lt (Nat.lt_of_lt_of_le B1.lt (Nat.le_of_eq g3.symm))))).other W25 (Or.inl (Nat.ne_of_lt (Nat.lt_of_lt_of_le B1.lt (Nat.le_of_eq g3.symm))))).other W28 (Or.inl (Nat.ne_of_lt (Nat.lt_of_lt_of_le B1.lt (Nat.le_of_eq g3.symm))))).other W31 (Or.inl (Nat.ne_of_lt (Nat.lt_of_lt_of_le B1.lt (Nat.le_of_eq g3.symm))))).other W34 (Or.inl (Nat.ne_of_lt (Nat.lt_of_lt_of_le B1.lt (Nat.le_of_eq g3.symm))))) (((((((((((B4.ext E3).other W7 (Nat.ne_of_lt (Nat.lt_of_lt_of_le B4.lt (Nat.le_of_eq g3.symm)))).other W10 (Nat.ne_of_lt (Nat.lt_of_lt_of_le B4.lt (Nat.le_of_eq g3.symm)))).other W13 (Nat.ne_of_lt (Nat.lt_of_lt_of_le B4.lt (Nat.le_of_eq g3.symm)))).other W16 (Nat.ne_of_lt (Nat.lt_of_lt_of_le B4.lt (Nat.le_of_eq g3.symm)))).other W19 (Nat.ne_of_lt (Nat.lt_of_lt_of_le B4.lt (Nat.le_of_eq g3.symm)))).other W22 (Nat.ne_of_lt (Nat.lt_of_lt_of_le B4.lt (Nat.le_of_eq g3.symm)))).other W25 (Nat.ne_of_lt (Nat.lt_of_lt_of_le B4.lt (Nat.le_of_eq g3.symm)))).other W28 (Nat.ne_of_lt (Nat.lt_of_lt_of_le B4.lt (Nat.le_of_eq g3.symm)))).other W31 (Nat.ne_of_lt (Nat.lt_of_lt_of_le B4.lt (Nat.le_of_eq g3.symm)))).other W34 (Nat.ne_of_lt (Nat.lt_of_lt_of_le B4.lt (Nat.le_of_eq g3.symm)))) ((((((((((((own_sta_keep pS KcJ all0).ext E3).wr W7).wr W10).wr W13).wr W16).wr W19).wr W22).wr W25).wr W28).wr W31).wr W34) pcs ((((((((((((own_sta_keep pSF KcJ all0).ext E3).wr W7).wr W10).wr W13).wr W16).wr W19).wr W22).wr W25).wr W28).wr W31).wr W34) pvv hn V34 ⟨by decide, by decide⟩) hZ (hw _ (List.mem_of_getElem? (i := 165) rfl)) (hw _ (List.mem_of_getElem? (i := 160) rfl)) (by decide) (by decide)) (g := (mkF m 150 #[.val (.int i0), .val (.int q0), .val (.ref st), .val (.ref b3), .val (.int (own_dg q0)), .unset, .unset, .unset, .unset, .unset] [(.ref b3), (.int (4 : Int32)), (.int (own_dg q0)), (.int q0), (.ref st)])) rfl (by rw [hml]; rfl) (argsL := [(.ref st), (.int q0), (.int (own_dg q0)), (.int (4 : Int32)), (.ref b3)]) (rest := []) (lenOf pd_25 rfl) rfl (by show 2 * 0 + _ ≤ _; exact Nat.le_of_eq rfl) (hb hby at_150) (fun _ _ => ⟨rfl, e45, (by decide : 7 + 0 ≤ _), (by decide : 58 + 0 ≤ _)⟩)
  dsimp only [Pt.U, Pt.locs, Pt.cells, Pt.slots] at X47 l47 y47 z47 st47 hQ47
  obtain ⟨rfl, N47q, e47⟩ := hQ47
  have N47 := Fr.app N45 N47q
  have X47 : Stand p l e _ _ m _ below meth c T47 _ 7 58 := own_fold X47 l47 y47 z47
  have R50 : Rch p e below (s₁.setTop (entryFrame m #[(.int i0)] maxLocals)) T47 (mkF m 162 #[.val (.int i0), .val (.int q0), .val (.ref st), .val (.ref b3), .val (.int (own_dg q0)), .unset, .unset, .unset, .unset, .unset] [(.ref b3), (.int (5 : Int32)), (.int (own_dg q0)), (.int q0), (.ref st)]) := fun t k => by
    refine R48 t ?_
    refine st47 _ ?_
    show Steps p.tables e below (T47.setTop (mkF m 153 #[.val (.int i0), .val (.int q0), .val (.ref st), .val (.ref b3), .val (.int (own_dg q0)), .unset, .unset, .unset, .unset, .unset] [(.int (1 : Int32))])) t
    refine XS.ifNo X47.here hx rfl (hb hby at_153) rfl ((if0 _ _).trans (feq (by decide : ¬ ((1 : Int32) = (0 : Int32)))).1) ?_
    show Steps p.tables e below (T47.setTop (mkF m 156 #[.val (.int i0), .val (.int q0), .val (.ref st), .val (.ref b3), .val (.int (own_dg q0)), .unset, .unset, .unset, .unset, .unset] [])) t
    refine XS.aloadN X47.here hx rfl (hb hby at_156) rfl rfl ?_
    show Steps p.tables e below (T47.setTop (mkF m 157 #[.val (.int i0), .val (.int q0), .val (.ref st), .val (.ref b3), .val (.int (own_dg q0)), .unset, .unset, .unset, .unset, .unset] [(.ref st)])) t
    refine XS.iloadN X47.here hx rfl (hb hby at_157) rfl ?_
    show Steps p.tables e below (T47.setTop (mkF m 158 #[.val (.int i0), .val (.int q0), .val (.ref st), .val (.ref b3), .val (.int (own_dg q0)), .unset, .unset, .unset, .unset, .unset] [(.int q0), (.ref st)])) t
    refine XS.iload X47.here hx rfl (hb hby at_158) rfl ?_
    show Steps p.tables e below (T47.setTop (mkF m 160 #[.val (.int i0), .val (.int q0), .val (.ref st), .val (.ref b3), .val (.int (own_dg q0)), .unset, .unset, .unset, .unset, .unset] [(.int (own_dg q0)), (.int q0), (.ref st)])) t
    refine XS.iconst X47.here hx rfl (hb hby at_160) ?_
    show Steps p.tables e below (T47.setTop (mkF m 161 #[.val (.int i0), .val (.int q0), .val (.ref st), .val (.ref b3), .val (.int (own_dg q0)), .unset, .unset, .unset, .unset, .unset] [(.int (5 : Int32)), (.int (own_dg q0)), (.int q0), (.ref st)])) t
    refine XS.aloadN X47.here hx rfl (hb hby at_161) rfl rfl ?_
    exact k
  obtain ⟨_, _, ⟨T49, L49, k49, n49⟩, -, X49, ⟨Lc49, hQ49, l49, y49, z49⟩, st49⟩ := Jvm.LawKit.callS X47 hx (y := (⟨"com/example/clausewright/clausewright/OrdinalPrintPinLaw", "at", "(Ljava/lang/String;III[J)Z"⟩ : MethodName)) hown (mvT hZ (hw _ (List.mem_of_getElem? (i := 163) rfl))) (mvT hZ (hw _ (List.mem_of_getElem? (i := 164) rfl))) (mvT hZ (hw _ (List.mem_of_getElem? (i := 160) rfl))) (mvT hZ (hw _ (List.mem_of_getElem? (i := 165) rfl))) (by decide) (backOf (W := 0) (rm_at l Z a0 hw [] st cs sv ks q0 (5 : Int32) (own_s0 q0) (own_s1 q0) b3 k3 vv h34 n0 (Nat.le_trans Z0 K34.1) (((((((((((B1.ext E3).wr W7).wr W10).wr W13).wr W16).wr W19).wr W22).wr W25).wr W28).wr W31).wr W34) (((((((((((B3.ext E3).other W7 (Or.inl (Nat.ne_of_lt (Nat.lt_of_lt_of_le B1.lt (Nat.le_of_eq g3.symm))))).other W10 (Or.inl (Nat.ne_of_lt (Nat.lt_of_lt_of_le B1.lt (Nat.le_of_eq g3.symm))))).other W13 (Or.inl (Nat.ne_of_lt (Nat.lt_of_lt_of_le B1.lt (Nat.le_of_eq g3.symm))))).other W16 (Or.inl (Nat.ne_of_lt (Nat.lt_of_lt_of_le B1.lt (Nat.le_of_eq g3.symm))))).other W19 (Or.inl (Nat.ne_of_lt (Nat.lt_of_lt_of_le B1.lt (Nat.le_of_eq g3.symm))))).other W22 (Or.inl (Nat.ne_of_lt (Nat.lt_of_lt_of_le B1.lt (Nat.le_of_eq g3.symm))))).other W25 (Or.inl (Nat.ne_of_lt (Nat.lt_of_lt_of_le B1.lt (Nat.le_of_eq g3.symm))))).other W28 (Or.inl (Nat.ne_of_lt (Nat.lt_of_lt_of_le B1.lt (Nat.le_of_eq g3.symm))))).other W31 (Or.inl (Nat.ne_of_lt (Nat.lt_of_lt_of_le B1.lt (Nat.le_of_eq g3.symm))))).other W34 (Or.inl (Nat.ne_of_lt (Nat.lt_of_lt_of_le B1.lt (Nat.le_of_eq g3.symm))))) (((((((((((B2.ext E3).other W7 (Or.inl (Nat.ne_of_lt (Nat.lt_of_lt_of_le B1.lt (Nat.le_of_eq g3.symm))))).other W10 (Or.inl (Nat.ne_of_lt (Nat.lt_of_lt_of_le B1.lt (Nat.le_of_eq g3.symm))))).other W13 (Or.inl (Nat.ne_of_lt (Nat.lt_of_lt_of_le B1.lt (Nat.le_of_eq g3.symm))))).other W16 (Or.inl (Nat.ne_of_lt (Nat.lt_of_lt_of_le B1.lt (Nat.le_of_eq g3.symm))))).other W19 (Or.inl (Nat.ne_of_lt (Nat.lt_of_lt_of_le B1.lt (Nat.le_of_eq g3.symm))))).other W22 (Or.inl (Nat.ne_of_lt (Nat.lt_of_lt_of_le B1.lt (Nat.le_of_eq g3.symm))))).other W25 (Or.inl (Nat.ne_of_lt (Nat.lt_of_lt_of_le B1.lt (Nat.le_of_eq g3.symm))))).other W28 (Or.inl (Nat.ne_of_lt (Nat.lt_of_lt_of_le B1.lt (Nat.le_of_eq g3.symm))))).other W31 (Or.inl (Nat.ne_of_lt (Nat.lt_of_lt_of_le B1.lt (Nat.le_of_eq g3.symm))))).other W34 (Or.inl (Nat.ne_of_lt (Nat.lt_of_lt_of_le B1.lt (Nat.le_of_eq g3.symm))))) (((((((((((B4.ext E3).other W7 (Nat.ne_of_lt (Nat.lt_of_lt_of_le B4.lt (Nat.le_of_eq g3.symm)))).other W10 (Nat.ne_of_lt (Nat.lt_of_lt_of_le B4.lt (Nat.le_of_eq g3.symm)))).other W13 (Nat.ne_of_lt (Nat.lt_of_lt_of_le B4.lt (Nat.le_of_eq g3.symm)))).other W16 (Nat.ne_of_lt (Nat.lt_of_lt_of_le B4.lt (Nat.le_of_eq g3.symm)))).other W19 (Nat.ne_of_lt (Nat.lt_of_lt_of_le B4.lt (Nat.le_of_eq g3.symm)))).other W22 (Nat.ne_of_lt (Nat.lt_of_lt_of_le B4.lt (Nat.le_of_eq g3.symm)))).other W25 (Nat.ne_of_lt (Nat.lt_of_lt_of_le B4.lt (Nat.le_of_eq g3.symm)))).other W28 (Nat.ne_of_lt (Nat.lt_of_lt_of_le B4.lt (Nat.le_of_eq g3.symm)))).other W31 (Nat.ne_of_lt (Nat.lt_of_lt_of_le B4.lt (Nat.le_of_eq g3.symm)))).other W34 (Nat.ne_of_lt (Nat.lt_of_lt_of_le B4.lt (Nat.le_of_eq g3.symm)))) ((((((((((((own_sta_keep pS KcJ all0).ext E3).wr W7).wr W10).wr W13).wr W16).wr W19).wr W22).wr W25).wr W28).wr W31).wr W34) pcs ((((((((((((own_sta_keep pSF KcJ all0).ext E3).wr W7).wr W10).wr W13).wr W16).wr W19).wr W22).wr W25).wr W28).wr W31).wr W34) pvv hn V34 ⟨by decide, by decide⟩) hZ (hw _ (List.mem_of_getElem? (i := 165) rfl)) (hw _ (List.mem_of_getElem? (i := 160) rfl)) (by decide) (by decide)) (g := (mkF m 162 #[.val (.int i0), .val (.int q0), .val (.ref st), .val (.ref b3), .val (.int (own_dg q0)), .unset, .unset, .unset, .unset, .unset] [(.ref b3), (.int (5 : Int32)), (.int (own_dg q0)), (.int q0), (.ref st)])) rfl (by rw [hml]; rfl) (argsL := [(.ref st), (.int q0), (.int (own_dg q0)), (.int (5 : Int32)), (.ref b3)]) (rest := []) (lenOf pd_25 rfl) rfl (by show 2 * 0 + _ ≤ _; exact Nat.le_of_eq rfl) (hb hby at_162) (fun _ _ => ⟨rfl, e47, (by decide : 7 + 0 ≤ _), (by decide : 58 + 0 ≤ _)⟩)
  dsimp only [Pt.U, Pt.locs, Pt.cells, Pt.slots] at X49 l49 y49 z49 st49 hQ49
  obtain ⟨rfl, N49q, e49⟩ := hQ49
  have N49 := Fr.app N47 N49q
  have X49 : Stand p l e _ _ m _ below meth c T49 _ 7 58 := own_fold X49 l49 y49 z49
  have R52 : Rch p e below (s₁.setTop (entryFrame m #[(.int i0)] maxLocals)) T49 (mkF m 175 #[.val (.int i0), .val (.int q0), .val (.ref st), .val (.ref b3), .val (.int (own_dg q0)), .unset, .unset, .unset, .unset, .unset] [(.ref b3), (.int (6 : Int32)), (.int (own_dg q0)), (.int q0), (.ref st)]) := fun t k => by
    refine R50 t ?_
    refine st49 _ ?_
    show Steps p.tables e below (T49.setTop (mkF m 165 #[.val (.int i0), .val (.int q0), .val (.ref st), .val (.ref b3), .val (.int (own_dg q0)), .unset, .unset, .unset, .unset, .unset] [(.int (1 : Int32))])) t
    refine XS.ifNo X49.here hx rfl (hb hby at_165) rfl ((if0 _ _).trans (feq (by decide : ¬ ((1 : Int32) = (0 : Int32)))).1) ?_
    show Steps p.tables e below (T49.setTop (mkF m 168 #[.val (.int i0), .val (.int q0), .val (.ref st), .val (.ref b3), .val (.int (own_dg q0)), .unset, .unset, .unset, .unset, .unset] [])) t
    refine XS.aloadN X49.here hx rfl (hb hby at_168) rfl rfl ?_
    show Steps p.tables e below (T49.setTop (mkF m 169 #[.val (.int i0), .val (.int q0), .val (.ref st), .val (.ref b3), .val (.int (own_dg q0)), .unset, .unset, .unset, .unset, .unset] [(.ref st)])) t
    refine XS.iloadN X49.here hx rfl (hb hby at_169) rfl ?_
    show Steps p.tables e below (T49.setTop (mkF m 170 #[.val (.int i0), .val (.int q0), .val (.ref st), .val (.ref b3), .val (.int (own_dg q0)), .unset, .unset, .unset, .unset, .unset] [(.int q0), (.ref st)])) t
    refine XS.iload X49.here hx rfl (hb hby at_170) rfl ?_
    show Steps p.tables e below (T49.setTop (mkF m 172 #[.val (.int i0), .val (.int q0), .val (.ref st), .val (.ref b3), .val (.int (own_dg q0)), .unset, .unset, .unset, .unset, .unset] [(.int (own_dg q0)), (.int q0), (.ref st)])) t
    refine XS.bipush X49.here hx rfl (hb hby at_172) ?_
    show Steps p.tables e below (T49.setTop (mkF m 174 #[.val (.int i0), .val (.int q0), .val (.ref st), .val (.ref b3), .val (.int (own_dg q0)), .unset, .unset, .unset, .unset, .unset] [(.int (6 : Int32)), (.int (own_dg q0)), (.int q0), (.ref st)])) t
    refine XS.aloadN X49.here hx rfl (hb hby at_174) rfl rfl ?_
    exact k
  obtain ⟨_, _, ⟨T51, L51, k51, n51⟩, -, X51, ⟨Lc51, hQ51, l51, y51, z51⟩, st51⟩ := Jvm.LawKit.callS X49 hx (y := (⟨"com/example/clausewright/clausewright/OrdinalPrintPinLaw", "at", "(Ljava/lang/String;III[J)Z"⟩ : MethodName)) hown (mvT hZ (hw _ (List.mem_of_getElem? (i := 163) rfl))) (mvT hZ (hw _ (List.mem_of_getElem? (i := 164) rfl))) (mvT hZ (hw _ (List.mem_of_getElem? (i := 160) rfl))) (mvT hZ (hw _ (List.mem_of_getElem? (i := 165) rfl))) (by decide) (backOf (W := 0) (rm_at l Z a0 hw [] st cs sv ks q0 (6 : Int32) (own_s0 q0) (own_s1 q0) b3 k3 vv h34 n0 (Nat.le_trans Z0 K34.1) (((((((((((B1.ext E3).wr W7).wr W10).wr W13).wr W16).wr W19).wr W22).wr W25).wr W28).wr W31).wr W34) (((((((((((B3.ext E3).other W7 (Or.inl (Nat.ne_of_lt (Nat.lt_of_lt_of_le B1.lt (Nat.le_of_eq g3.symm))))).other W10 (Or.inl (Nat.ne_of_lt (Nat.lt_of_lt_of_le B1.lt (Nat.le_of_eq g3.symm))))).other W13 (Or.inl (Nat.ne_of_lt (Nat.lt_of_lt_of_le B1.lt (Nat.le_of_eq g3.symm))))).other W16 (Or.inl (Nat.ne_of_lt (Nat.lt_of_lt_of_le B1.lt (Nat.le_of_eq g3.symm))))).other W19 (Or.inl (Nat.ne_of_lt (Nat.lt_of_lt_of_le B1.lt (Nat.le_of_eq g3.symm))))).other W22 (Or.inl (Nat.ne_of_lt (Nat.lt_of_lt_of_le B1.lt (Nat.le_of_eq g3.symm))))).other W25 (Or.inl (Nat.ne_of_lt (Nat.lt_of_lt_of_le B1.lt (Nat.le_of_eq g3.symm))))).other W28 (Or.inl (Nat.ne_of_lt (Nat.lt_of_lt_of_le B1.lt (Nat.le_of_eq g3.symm))))).other W31 (Or.inl (Nat.ne_of_lt (Nat.lt_of_lt_of_le B1.lt (Nat.le_of_eq g3.symm))))).other W34 (Or.inl (Nat.ne_of_lt (Nat.lt_of_lt_of_le B1.lt (Nat.le_of_eq g3.symm))))) (((((((((((B2.ext E3).other W7 (Or.inl (Nat.ne_of_lt (Nat.lt_of_lt_of_le B1.lt (Nat.le_of_eq g3.symm))))).other W10 (Or.inl (Nat.ne_of_lt (Nat.lt_of_lt_of_le B1.lt (Nat.le_of_eq g3.symm))))).other W13 (Or.inl (Nat.ne_of_lt (Nat.lt_of_lt_of_le B1.lt (Nat.le_of_eq g3.symm))))).other W16 (Or.inl (Nat.ne_of_lt (Nat.lt_of_lt_of_le B1.lt (Nat.le_of_eq g3.symm))))).other W19 (Or.inl (Nat.ne_of_lt (Nat.lt_of_lt_of_le B1.lt (Nat.le_of_eq g3.symm))))).other W22 (Or.inl (Nat.ne_of_lt (Nat.lt_of_lt_of_le B1.lt (Nat.le_of_eq g3.symm))))).other W25 (Or.inl (Nat.ne_of_lt (Nat.lt_of_lt_of_le B1.lt (Nat.le_of_eq g3.symm))))).other W28 (Or.inl (Nat.ne_of_lt (Nat.lt_of_lt_of_le B1.lt (Nat.le_of_eq g3.symm))))).other W31 (Or.inl (Nat.ne_of_lt (Nat.lt_of_lt_of_le B1.lt (Nat.le_of_eq g3.symm))))).other W34 (Or.inl (Nat.ne_of_lt (Nat.lt_of_lt_of_le B1.lt (Nat.le_of_eq g3.symm))))) (((((((((((B4.ext E3).other W7 (Nat.ne_of_lt (Nat.lt_of_lt_of_le B4.lt (Nat.le_of_eq g3.symm)))).other W10 (Nat.ne_of_lt (Nat.lt_of_lt_of_le B4.lt (Nat.le_of_eq g3.symm)))).other W13 (Nat.ne_of_lt (Nat.lt_of_lt_of_le B4.lt (Nat.le_of_eq g3.symm)))).other W16 (Nat.ne_of_lt (Nat.lt_of_lt_of_le B4.lt (Nat.le_of_eq g3.symm)))).other W19 (Nat.ne_of_lt (Nat.lt_of_lt_of_le B4.lt (Nat.le_of_eq g3.symm)))).other W22 (Nat.ne_of_lt (Nat.lt_of_lt_of_le B4.lt (Nat.le_of_eq g3.symm)))).other W25 (Nat.ne_of_lt (Nat.lt_of_lt_of_le B4.lt (Nat.le_of_eq g3.symm)))).other W28 (Nat.ne_of_lt (Nat.lt_of_lt_of_le B4.lt (Nat.le_of_eq g3.symm)))).other W31 (Nat.ne_of_lt (Nat.lt_of_lt_of_le B4.lt (Nat.le_of_eq g3.symm)))).other W34 (Nat.ne_of_lt (Nat.lt_of_lt_of_le B4.lt (Nat.le_of_eq g3.symm)))) ((((((((((((own_sta_keep pS KcJ all0).ext E3).wr W7).wr W10).wr W13).wr W16).wr W19).wr W22).wr W25).wr W28).wr W31).wr W34) pcs ((((((((((((own_sta_keep pSF KcJ all0).ext E3).wr W7).wr W10).wr W13).wr W16).wr W19).wr W22).wr W25).wr W28).wr W31).wr W34) pvv hn V34 ⟨by decide, by decide⟩) hZ (hw _ (List.mem_of_getElem? (i := 165) rfl)) (hw _ (List.mem_of_getElem? (i := 160) rfl)) (by decide) (by decide)) (g := (mkF m 175 #[.val (.int i0), .val (.int q0), .val (.ref st), .val (.ref b3), .val (.int (own_dg q0)), .unset, .unset, .unset, .unset, .unset] [(.ref b3), (.int (6 : Int32)), (.int (own_dg q0)), (.int q0), (.ref st)])) rfl (by rw [hml]; rfl) (argsL := [(.ref st), (.int q0), (.int (own_dg q0)), (.int (6 : Int32)), (.ref b3)]) (rest := []) (lenOf pd_25 rfl) rfl (by show 2 * 0 + _ ≤ _; exact Nat.le_of_eq rfl) (hb hby at_175) (fun _ _ => ⟨rfl, e49, (by decide : 7 + 0 ≤ _), (by decide : 58 + 0 ≤ _)⟩)
  dsimp only [Pt.U, Pt.locs, Pt.cells, Pt.slots] at X51 l51 y51 z51 st51 hQ51
  obtain ⟨rfl, N51q, e51⟩ := hQ51
  have N51 := Fr.app N49 N51q
  have X51 : Stand p l e _ _ m _ below meth c T51 _ 7 58 := own_fold X51 l51 y51 z51
  have R54 : Rch p e below (s₁.setTop (entryFrame m #[(.int i0)] maxLocals)) T51 (mkF m 188 #[.val (.int i0), .val (.int q0), .val (.ref st), .val (.ref b3), .val (.int (own_dg q0)), .unset, .unset, .unset, .unset, .unset] [(.ref b3), (.int (7 : Int32)), (.int (own_dg q0)), (.int q0), (.ref st)]) := fun t k => by
    refine R52 t ?_
    refine st51 _ ?_
    show Steps p.tables e below (T51.setTop (mkF m 178 #[.val (.int i0), .val (.int q0), .val (.ref st), .val (.ref b3), .val (.int (own_dg q0)), .unset, .unset, .unset, .unset, .unset] [(.int (1 : Int32))])) t
    refine XS.ifNo X51.here hx rfl (hb hby at_178) rfl ((if0 _ _).trans (feq (by decide : ¬ ((1 : Int32) = (0 : Int32)))).1) ?_
    show Steps p.tables e below (T51.setTop (mkF m 181 #[.val (.int i0), .val (.int q0), .val (.ref st), .val (.ref b3), .val (.int (own_dg q0)), .unset, .unset, .unset, .unset, .unset] [])) t
    refine XS.aloadN X51.here hx rfl (hb hby at_181) rfl rfl ?_
    show Steps p.tables e below (T51.setTop (mkF m 182 #[.val (.int i0), .val (.int q0), .val (.ref st), .val (.ref b3), .val (.int (own_dg q0)), .unset, .unset, .unset, .unset, .unset] [(.ref st)])) t
    refine XS.iloadN X51.here hx rfl (hb hby at_182) rfl ?_
    show Steps p.tables e below (T51.setTop (mkF m 183 #[.val (.int i0), .val (.int q0), .val (.ref st), .val (.ref b3), .val (.int (own_dg q0)), .unset, .unset, .unset, .unset, .unset] [(.int q0), (.ref st)])) t
    refine XS.iload X51.here hx rfl (hb hby at_183) rfl ?_
    show Steps p.tables e below (T51.setTop (mkF m 185 #[.val (.int i0), .val (.int q0), .val (.ref st), .val (.ref b3), .val (.int (own_dg q0)), .unset, .unset, .unset, .unset, .unset] [(.int (own_dg q0)), (.int q0), (.ref st)])) t
    refine XS.bipush X51.here hx rfl (hb hby at_185) ?_
    show Steps p.tables e below (T51.setTop (mkF m 187 #[.val (.int i0), .val (.int q0), .val (.ref st), .val (.ref b3), .val (.int (own_dg q0)), .unset, .unset, .unset, .unset, .unset] [(.int (7 : Int32)), (.int (own_dg q0)), (.int q0), (.ref st)])) t
    refine XS.aloadN X51.here hx rfl (hb hby at_187) rfl rfl ?_
    exact k
  obtain ⟨_, _, ⟨T53, L53, k53, n53⟩, -, X53, ⟨Lc53, hQ53, l53, y53, z53⟩, st53⟩ := Jvm.LawKit.callS X51 hx (y := (⟨"com/example/clausewright/clausewright/OrdinalPrintPinLaw", "at", "(Ljava/lang/String;III[J)Z"⟩ : MethodName)) hown (mvT hZ (hw _ (List.mem_of_getElem? (i := 163) rfl))) (mvT hZ (hw _ (List.mem_of_getElem? (i := 164) rfl))) (mvT hZ (hw _ (List.mem_of_getElem? (i := 160) rfl))) (mvT hZ (hw _ (List.mem_of_getElem? (i := 165) rfl))) (by decide) (backOf (W := 0) (rm_at l Z a0 hw [] st cs sv ks q0 (7 : Int32) (own_s0 q0) (own_s1 q0) b3 k3 vv h34 n0 (Nat.le_trans Z0 K34.1) (((((((((((B1.ext E3).wr W7).wr W10).wr W13).wr W16).wr W19).wr W22).wr W25).wr W28).wr W31).wr W34) (((((((((((B3.ext E3).other W7 (Or.inl (Nat.ne_of_lt (Nat.lt_of_lt_of_le B1.lt (Nat.le_of_eq g3.symm))))).other W10 (Or.inl (Nat.ne_of_lt (Nat.lt_of_lt_of_le B1.lt (Nat.le_of_eq g3.symm))))).other W13 (Or.inl (Nat.ne_of_lt (Nat.lt_of_lt_of_le B1.lt (Nat.le_of_eq g3.symm))))).other W16 (Or.inl (Nat.ne_of_lt (Nat.lt_of_lt_of_le B1.lt (Nat.le_of_eq g3.symm))))).other W19 (Or.inl (Nat.ne_of_lt (Nat.lt_of_lt_of_le B1.lt (Nat.le_of_eq g3.symm))))).other W22 (Or.inl (Nat.ne_of_lt (Nat.lt_of_lt_of_le B1.lt (Nat.le_of_eq g3.symm))))).other W25 (Or.inl (Nat.ne_of_lt (Nat.lt_of_lt_of_le B1.lt (Nat.le_of_eq g3.symm))))).other W28 (Or.inl (Nat.ne_of_lt (Nat.lt_of_lt_of_le B1.lt (Nat.le_of_eq g3.symm))))).other W31 (Or.inl (Nat.ne_of_lt (Nat.lt_of_lt_of_le B1.lt (Nat.le_of_eq g3.symm))))).other W34 (Or.inl (Nat.ne_of_lt (Nat.lt_of_lt_of_le B1.lt (Nat.le_of_eq g3.symm))))) (((((((((((B2.ext E3).other W7 (Or.inl (Nat.ne_of_lt (Nat.lt_of_lt_of_le B1.lt (Nat.le_of_eq g3.symm))))).other W10 (Or.inl (Nat.ne_of_lt (Nat.lt_of_lt_of_le B1.lt (Nat.le_of_eq g3.symm))))).other W13 (Or.inl (Nat.ne_of_lt (Nat.lt_of_lt_of_le B1.lt (Nat.le_of_eq g3.symm))))).other W16 (Or.inl (Nat.ne_of_lt (Nat.lt_of_lt_of_le B1.lt (Nat.le_of_eq g3.symm))))).other W19 (Or.inl (Nat.ne_of_lt (Nat.lt_of_lt_of_le B1.lt (Nat.le_of_eq g3.symm))))).other W22 (Or.inl (Nat.ne_of_lt (Nat.lt_of_lt_of_le B1.lt (Nat.le_of_eq g3.symm))))).other W25 (Or.inl (Nat.ne_of_lt (Nat.lt_of_lt_of_le B1.lt (Nat.le_of_eq g3.symm))))).other W28 (Or.inl (Nat.ne_of_lt (Nat.lt_of_lt_of_le B1.lt (Nat.le_of_eq g3.symm))))).other W31 (Or.inl (Nat.ne_of_lt (Nat.lt_of_lt_of_le B1.lt (Nat.le_of_eq g3.symm))))).other W34 (Or.inl (Nat.ne_of_lt (Nat.lt_of_lt_of_le B1.lt (Nat.le_of_eq g3.symm))))) (((((((((((B4.ext E3).other W7 (Nat.ne_of_lt (Nat.lt_of_lt_of_le B4.lt (Nat.le_of_eq g3.symm)))).other W10 (Nat.ne_of_lt (Nat.lt_of_lt_of_le B4.lt (Nat.le_of_eq g3.symm)))).other W13 (Nat.ne_of_lt (Nat.lt_of_lt_of_le B4.lt (Nat.le_of_eq g3.symm)))).other W16 (Nat.ne_of_lt (Nat.lt_of_lt_of_le B4.lt (Nat.le_of_eq g3.symm)))).other W19 (Nat.ne_of_lt (Nat.lt_of_lt_of_le B4.lt (Nat.le_of_eq g3.symm)))).other W22 (Nat.ne_of_lt (Nat.lt_of_lt_of_le B4.lt (Nat.le_of_eq g3.symm)))).other W25 (Nat.ne_of_lt (Nat.lt_of_lt_of_le B4.lt (Nat.le_of_eq g3.symm)))).other W28 (Nat.ne_of_lt (Nat.lt_of_lt_of_le B4.lt (Nat.le_of_eq g3.symm)))).other W31 (Nat.ne_of_lt (Nat.lt_of_lt_of_le B4.lt (Nat.le_of_eq g3.symm)))).other W34 (Nat.ne_of_lt (Nat.lt_of_lt_of_le B4.lt (Nat.le_of_eq g3.symm)))) ((((((((((((own_sta_keep pS KcJ all0).ext E3).wr W7).wr W10).wr W13).wr W16).wr W19).wr W22).wr W25).wr W28).wr W31).wr W34) pcs ((((((((((((own_sta_keep pSF KcJ all0).ext E3).wr W7).wr W10).wr W13).wr W16).wr W19).wr W22).wr W25).wr W28).wr W31).wr W34) pvv hn V34 ⟨by decide, by decide⟩) hZ (hw _ (List.mem_of_getElem? (i := 165) rfl)) (hw _ (List.mem_of_getElem? (i := 160) rfl)) (by decide) (by decide)) (g := (mkF m 188 #[.val (.int i0), .val (.int q0), .val (.ref st), .val (.ref b3), .val (.int (own_dg q0)), .unset, .unset, .unset, .unset, .unset] [(.ref b3), (.int (7 : Int32)), (.int (own_dg q0)), (.int q0), (.ref st)])) rfl (by rw [hml]; rfl) (argsL := [(.ref st), (.int q0), (.int (own_dg q0)), (.int (7 : Int32)), (.ref b3)]) (rest := []) (lenOf pd_25 rfl) rfl (by show 2 * 0 + _ ≤ _; exact Nat.le_of_eq rfl) (hb hby at_188) (fun _ _ => ⟨rfl, e51, (by decide : 7 + 0 ≤ _), (by decide : 58 + 0 ≤ _)⟩)
  dsimp only [Pt.U, Pt.locs, Pt.cells, Pt.slots] at X53 l53 y53 z53 st53 hQ53
  obtain ⟨rfl, N53q, e53⟩ := hQ53
  have N53 := Fr.app N51 N53q
  have X53 : Stand p l e _ _ m _ below meth c T53 _ 7 58 := own_fold X53 l53 y53 z53
  have R56 : Rch p e below (s₁.setTop (entryFrame m #[(.int i0)] maxLocals)) T53 (mkF m 201 #[.val (.int i0), .val (.int q0), .val (.ref st), .val (.ref b3), .val (.int (own_dg q0)), .unset, .unset, .unset, .unset, .unset] [(.ref b3), (.int (8 : Int32)), (.int (own_dg q0)), (.int q0), (.ref st)]) := fun t k => by
    refine R54 t ?_
    refine st53 _ ?_
    show Steps p.tables e below (T53.setTop (mkF m 191 #[.val (.int i0), .val (.int q0), .val (.ref st), .val (.ref b3), .val (.int (own_dg q0)), .unset, .unset, .unset, .unset, .unset] [(.int (1 : Int32))])) t
    refine XS.ifNo X53.here hx rfl (hb hby at_191) rfl ((if0 _ _).trans (feq (by decide : ¬ ((1 : Int32) = (0 : Int32)))).1) ?_
    show Steps p.tables e below (T53.setTop (mkF m 194 #[.val (.int i0), .val (.int q0), .val (.ref st), .val (.ref b3), .val (.int (own_dg q0)), .unset, .unset, .unset, .unset, .unset] [])) t
    refine XS.aloadN X53.here hx rfl (hb hby at_194) rfl rfl ?_
    show Steps p.tables e below (T53.setTop (mkF m 195 #[.val (.int i0), .val (.int q0), .val (.ref st), .val (.ref b3), .val (.int (own_dg q0)), .unset, .unset, .unset, .unset, .unset] [(.ref st)])) t
    refine XS.iloadN X53.here hx rfl (hb hby at_195) rfl ?_
    show Steps p.tables e below (T53.setTop (mkF m 196 #[.val (.int i0), .val (.int q0), .val (.ref st), .val (.ref b3), .val (.int (own_dg q0)), .unset, .unset, .unset, .unset, .unset] [(.int q0), (.ref st)])) t
    refine XS.iload X53.here hx rfl (hb hby at_196) rfl ?_
    show Steps p.tables e below (T53.setTop (mkF m 198 #[.val (.int i0), .val (.int q0), .val (.ref st), .val (.ref b3), .val (.int (own_dg q0)), .unset, .unset, .unset, .unset, .unset] [(.int (own_dg q0)), (.int q0), (.ref st)])) t
    refine XS.bipush X53.here hx rfl (hb hby at_198) ?_
    show Steps p.tables e below (T53.setTop (mkF m 200 #[.val (.int i0), .val (.int q0), .val (.ref st), .val (.ref b3), .val (.int (own_dg q0)), .unset, .unset, .unset, .unset, .unset] [(.int (8 : Int32)), (.int (own_dg q0)), (.int q0), (.ref st)])) t
    refine XS.aloadN X53.here hx rfl (hb hby at_200) rfl rfl ?_
    exact k
  obtain ⟨_, _, ⟨T55, L55, k55, n55⟩, -, X55, ⟨Lc55, hQ55, l55, y55, z55⟩, st55⟩ := Jvm.LawKit.callS X53 hx (y := (⟨"com/example/clausewright/clausewright/OrdinalPrintPinLaw", "at", "(Ljava/lang/String;III[J)Z"⟩ : MethodName)) hown (mvT hZ (hw _ (List.mem_of_getElem? (i := 163) rfl))) (mvT hZ (hw _ (List.mem_of_getElem? (i := 164) rfl))) (mvT hZ (hw _ (List.mem_of_getElem? (i := 160) rfl))) (mvT hZ (hw _ (List.mem_of_getElem? (i := 165) rfl))) (by decide) (backOf (W := 0) (rm_at l Z a0 hw [] st cs sv ks q0 (8 : Int32) (own_s0 q0) (own_s1 q0) b3 k3 vv h34 n0 (Nat.le_trans Z0 K34.1) (((((((((((B1.ext E3).wr W7).wr W10).wr W13).wr W16).wr W19).wr W22).wr W25).wr W28).wr W31).wr W34) (((((((((((B3.ext E3).other W7 (Or.inl (Nat.ne_of_lt (Nat.lt_of_lt_of_le B1.lt (Nat.le_of_eq g3.symm))))).other W10 (Or.inl (Nat.ne_of_lt (Nat.lt_of_lt_of_le B1.lt (Nat.le_of_eq g3.symm))))).other W13 (Or.inl (Nat.ne_of_lt (Nat.lt_of_lt_of_le B1.lt (Nat.le_of_eq g3.symm))))).other W16 (Or.inl (Nat.ne_of_lt (Nat.lt_of_lt_of_le B1.lt (Nat.le_of_eq g3.symm))))).other W19 (Or.inl (Nat.ne_of_lt (Nat.lt_of_lt_of_le B1.lt (Nat.le_of_eq g3.symm))))).other W22 (Or.inl (Nat.ne_of_lt (Nat.lt_of_lt_of_le B1.lt (Nat.le_of_eq g3.symm))))).other W25 (Or.inl (Nat.ne_of_lt (Nat.lt_of_lt_of_le B1.lt (Nat.le_of_eq g3.symm))))).other W28 (Or.inl (Nat.ne_of_lt (Nat.lt_of_lt_of_le B1.lt (Nat.le_of_eq g3.symm))))).other W31 (Or.inl (Nat.ne_of_lt (Nat.lt_of_lt_of_le B1.lt (Nat.le_of_eq g3.symm))))).other W34 (Or.inl (Nat.ne_of_lt (Nat.lt_of_lt_of_le B1.lt (Nat.le_of_eq g3.symm))))) (((((((((((B2.ext E3).other W7 (Or.inl (Nat.ne_of_lt (Nat.lt_of_lt_of_le B1.lt (Nat.le_of_eq g3.symm))))).other W10 (Or.inl (Nat.ne_of_lt (Nat.lt_of_lt_of_le B1.lt (Nat.le_of_eq g3.symm))))).other W13 (Or.inl (Nat.ne_of_lt (Nat.lt_of_lt_of_le B1.lt (Nat.le_of_eq g3.symm))))).other W16 (Or.inl (Nat.ne_of_lt (Nat.lt_of_lt_of_le B1.lt (Nat.le_of_eq g3.symm))))).other W19 (Or.inl (Nat.ne_of_lt (Nat.lt_of_lt_of_le B1.lt (Nat.le_of_eq g3.symm))))).other W22 (Or.inl (Nat.ne_of_lt (Nat.lt_of_lt_of_le B1.lt (Nat.le_of_eq g3.symm))))).other W25 (Or.inl (Nat.ne_of_lt (Nat.lt_of_lt_of_le B1.lt (Nat.le_of_eq g3.symm))))).other W28 (Or.inl (Nat.ne_of_lt (Nat.lt_of_lt_of_le B1.lt (Nat.le_of_eq g3.symm))))).other W31 (Or.inl (Nat.ne_of_lt (Nat.lt_of_lt_of_le B1.lt (Nat.le_of_eq g3.symm))))).other W34 (Or.inl (Nat.ne_of_lt (Nat.lt_of_lt_of_le B1.lt (Nat.le_of_eq g3.symm))))) (((((((((((B4.ext E3).other W7 (Nat.ne_of_lt (Nat.lt_of_lt_of_le B4.lt (Nat.le_of_eq g3.symm)))).other W10 (Nat.ne_of_lt (Nat.lt_of_lt_of_le B4.lt (Nat.le_of_eq g3.symm)))).other W13 (Nat.ne_of_lt (Nat.lt_of_lt_of_le B4.lt (Nat.le_of_eq g3.symm)))).other W16 (Nat.ne_of_lt (Nat.lt_of_lt_of_le B4.lt (Nat.le_of_eq g3.symm)))).other W19 (Nat.ne_of_lt (Nat.lt_of_lt_of_le B4.lt (Nat.le_of_eq g3.symm)))).other W22 (Nat.ne_of_lt (Nat.lt_of_lt_of_le B4.lt (Nat.le_of_eq g3.symm)))).other W25 (Nat.ne_of_lt (Nat.lt_of_lt_of_le B4.lt (Nat.le_of_eq g3.symm)))).other W28 (Nat.ne_of_lt (Nat.lt_of_lt_of_le B4.lt (Nat.le_of_eq g3.symm)))).other W31 (Nat.ne_of_lt (Nat.lt_of_lt_of_le B4.lt (Nat.le_of_eq g3.symm)))).other W34 (Nat.ne_of_lt (Nat.lt_of_lt_of_le B4.lt (Nat.le_of_eq g3.symm)))) ((((((((((((own_sta_keep pS KcJ all0).ext E3).wr W7).wr W10).wr W13).wr W16).wr W19).wr W22).wr W25).wr W28).wr W31).wr W34) pcs ((((((((((((own_sta_keep pSF KcJ all0).ext E3).wr W7).wr W10).wr W13).wr W16).wr W19).wr W22).wr W25).wr W28).wr W31).wr W34) pvv hn V34 ⟨by decide, by decide⟩) hZ (hw _ (List.mem_of_getElem? (i := 165) rfl)) (hw _ (List.mem_of_getElem? (i := 160) rfl)) (by decide) (by decide)) (g := (mkF m 201 #[.val (.int i0), .val (.int q0), .val (.ref st), .val (.ref b3), .val (.int (own_dg q0)), .unset, .unset, .unset, .unset, .unset] [(.ref b3), (.int (8 : Int32)), (.int (own_dg q0)), (.int q0), (.ref st)])) rfl (by rw [hml]; rfl) (argsL := [(.ref st), (.int q0), (.int (own_dg q0)), (.int (8 : Int32)), (.ref b3)]) (rest := []) (lenOf pd_25 rfl) rfl (by show 2 * 0 + _ ≤ _; exact Nat.le_of_eq rfl) (hb hby at_201) (fun _ _ => ⟨rfl, e53, (by decide : 7 + 0 ≤ _), (by decide : 58 + 0 ≤ _)⟩)
  dsimp only [Pt.U, Pt.locs, Pt.cells, Pt.slots] at X55 l55 y55 z55 st55 hQ55
  obtain ⟨rfl, N55q, e55⟩ := hQ55
  have N55 := Fr.app N53 N55q
  have X55 : Stand p l e _ _ m _ below meth c T55 _ 7 58 := own_fold X55 l55 y55 z55
  have R58 : Rch p e below (s₁.setTop (entryFrame m #[(.int i0)] maxLocals)) T55 (mkF m 214 #[.val (.int i0), .val (.int q0), .val (.ref st), .val (.ref b3), .val (.int (own_dg q0)), .unset, .unset, .unset, .unset, .unset] [(.ref b3), (.int (9 : Int32)), (.int (own_dg q0)), (.int q0), (.ref st)]) := fun t k => by
    refine R56 t ?_
    refine st55 _ ?_
    show Steps p.tables e below (T55.setTop (mkF m 204 #[.val (.int i0), .val (.int q0), .val (.ref st), .val (.ref b3), .val (.int (own_dg q0)), .unset, .unset, .unset, .unset, .unset] [(.int (1 : Int32))])) t
    refine XS.ifNo X55.here hx rfl (hb hby at_204) rfl ((if0 _ _).trans (feq (by decide : ¬ ((1 : Int32) = (0 : Int32)))).1) ?_
    show Steps p.tables e below (T55.setTop (mkF m 207 #[.val (.int i0), .val (.int q0), .val (.ref st), .val (.ref b3), .val (.int (own_dg q0)), .unset, .unset, .unset, .unset, .unset] [])) t
    refine XS.aloadN X55.here hx rfl (hb hby at_207) rfl rfl ?_
    show Steps p.tables e below (T55.setTop (mkF m 208 #[.val (.int i0), .val (.int q0), .val (.ref st), .val (.ref b3), .val (.int (own_dg q0)), .unset, .unset, .unset, .unset, .unset] [(.ref st)])) t
    refine XS.iloadN X55.here hx rfl (hb hby at_208) rfl ?_
    show Steps p.tables e below (T55.setTop (mkF m 209 #[.val (.int i0), .val (.int q0), .val (.ref st), .val (.ref b3), .val (.int (own_dg q0)), .unset, .unset, .unset, .unset, .unset] [(.int q0), (.ref st)])) t
    refine XS.iload X55.here hx rfl (hb hby at_209) rfl ?_
    show Steps p.tables e below (T55.setTop (mkF m 211 #[.val (.int i0), .val (.int q0), .val (.ref st), .val (.ref b3), .val (.int (own_dg q0)), .unset, .unset, .unset, .unset, .unset] [(.int (own_dg q0)), (.int q0), (.ref st)])) t
    refine XS.bipush X55.here hx rfl (hb hby at_211) ?_
    show Steps p.tables e below (T55.setTop (mkF m 213 #[.val (.int i0), .val (.int q0), .val (.ref st), .val (.ref b3), .val (.int (own_dg q0)), .unset, .unset, .unset, .unset, .unset] [(.int (9 : Int32)), (.int (own_dg q0)), (.int q0), (.ref st)])) t
    refine XS.aloadN X55.here hx rfl (hb hby at_213) rfl rfl ?_
    exact k
  obtain ⟨_, _, ⟨T57, L57, k57, n57⟩, -, X57, ⟨Lc57, hQ57, l57, y57, z57⟩, st57⟩ := Jvm.LawKit.callS X55 hx (y := (⟨"com/example/clausewright/clausewright/OrdinalPrintPinLaw", "at", "(Ljava/lang/String;III[J)Z"⟩ : MethodName)) hown (mvT hZ (hw _ (List.mem_of_getElem? (i := 163) rfl))) (mvT hZ (hw _ (List.mem_of_getElem? (i := 164) rfl))) (mvT hZ (hw _ (List.mem_of_getElem? (i := 160) rfl))) (mvT hZ (hw _ (List.mem_of_getElem? (i := 165) rfl))) (by decide) (backOf (W := 0) (rm_at l Z a0 hw [] st cs sv ks q0 (9 : Int32) (own_s0 q0) (own_s1 q0) b3 k3 vv h34 n0 (Nat.le_trans Z0 K34.1) (((((((((((B1.ext E3).wr W7).wr W10).wr W13).wr W16).wr W19).wr W22).wr W25).wr W28).wr W31).wr W34) (((((((((((B3.ext E3).other W7 (Or.inl (Nat.ne_of_lt (Nat.lt_of_lt_of_le B1.lt (Nat.le_of_eq g3.symm))))).other W10 (Or.inl (Nat.ne_of_lt (Nat.lt_of_lt_of_le B1.lt (Nat.le_of_eq g3.symm))))).other W13 (Or.inl (Nat.ne_of_lt (Nat.lt_of_lt_of_le B1.lt (Nat.le_of_eq g3.symm))))).other W16 (Or.inl (Nat.ne_of_lt (Nat.lt_of_lt_of_le B1.lt (Nat.le_of_eq g3.symm))))).other W19 (Or.inl (Nat.ne_of_lt (Nat.lt_of_lt_of_le B1.lt (Nat.le_of_eq g3.symm))))).other W22 (Or.inl (Nat.ne_of_lt (Nat.lt_of_lt_of_le B1.lt (Nat.le_of_eq g3.symm))))).other W25 (Or.inl (Nat.ne_of_lt (Nat.lt_of_lt_of_le B1.lt (Nat.le_of_eq g3.symm))))).other W28 (Or.inl (Nat.ne_of_lt (Nat.lt_of_lt_of_le B1.lt (Nat.le_of_eq g3.symm))))).other W31 (Or.inl (Nat.ne_of_lt (Nat.lt_of_lt_of_le B1.lt (Nat.le_of_eq g3.symm))))).other W34 (Or.inl (Nat.ne_of_lt (Nat.lt_of_lt_of_le B1.lt (Nat.le_of_eq g3.symm))))) (((((((((((B2.ext E3).other W7 (Or.inl (Nat.ne_of_lt (Nat.lt_of_lt_of_le B1.lt (Nat.le_of_eq g3.symm))))).other W10 (Or.inl (Nat.ne_of_lt (Nat.lt_of_lt_of_le B1.lt (Nat.le_of_eq g3.symm))))).other W13 (Or.inl (Nat.ne_of_lt (Nat.lt_of_lt_of_le B1.lt (Nat.le_of_eq g3.symm))))).other W16 (Or.inl (Nat.ne_of_lt (Nat.lt_of_lt_of_le B1.lt (Nat.le_of_eq g3.symm))))).other W19 (Or.inl (Nat.ne_of_lt (Nat.lt_of_lt_of_le B1.lt (Nat.le_of_eq g3.symm))))).other W22 (Or.inl (Nat.ne_of_lt (Nat.lt_of_lt_of_le B1.lt (Nat.le_of_eq g3.symm))))).other W25 (Or.inl (Nat.ne_of_lt (Nat.lt_of_lt_of_le B1.lt (Nat.le_of_eq g3.symm))))).other W28 (Or.inl (Nat.ne_of_lt (Nat.lt_of_lt_of_le B1.lt (Nat.le_of_eq g3.symm))))).other W31 (Or.inl (Nat.ne_of_lt (Nat.lt_of_lt_of_le B1.lt (Nat.le_of_eq g3.symm))))).other W34 (Or.inl (Nat.ne_of_lt (Nat.lt_of_lt_of_le B1.lt (Nat.le_of_eq g3.symm))))) (((((((((((B4.ext E3).other W7 (Nat.ne_of_lt (Nat.lt_of_lt_of_le B4.lt (Nat.le_of_eq g3.symm)))).other W10 (Nat.ne_of_lt (Nat.lt_of_lt_of_le B4.lt (Nat.le_of_eq g3.symm)))).other W13 (Nat.ne_of_lt (Nat.lt_of_lt_of_le B4.lt (Nat.le_of_eq g3.symm)))).other W16 (Nat.ne_of_lt (Nat.lt_of_lt_of_le B4.lt (Nat.le_of_eq g3.symm)))).other W19 (Nat.ne_of_lt (Nat.lt_of_lt_of_le B4.lt (Nat.le_of_eq g3.symm)))).other W22 (Nat.ne_of_lt (Nat.lt_of_lt_of_le B4.lt (Nat.le_of_eq g3.symm)))).other W25 (Nat.ne_of_lt (Nat.lt_of_lt_of_le B4.lt (Nat.le_of_eq g3.symm)))).other W28 (Nat.ne_of_lt (Nat.lt_of_lt_of_le B4.lt (Nat.le_of_eq g3.symm)))).other W31 (Nat.ne_of_lt (Nat.lt_of_lt_of_le B4.lt (Nat.le_of_eq g3.symm)))).other W34 (Nat.ne_of_lt (Nat.lt_of_lt_of_le B4.lt (Nat.le_of_eq g3.symm)))) ((((((((((((own_sta_keep pS KcJ all0).ext E3).wr W7).wr W10).wr W13).wr W16).wr W19).wr W22).wr W25).wr W28).wr W31).wr W34) pcs ((((((((((((own_sta_keep pSF KcJ all0).ext E3).wr W7).wr W10).wr W13).wr W16).wr W19).wr W22).wr W25).wr W28).wr W31).wr W34) pvv hn V34 ⟨by decide, by decide⟩) hZ (hw _ (List.mem_of_getElem? (i := 165) rfl)) (hw _ (List.mem_of_getElem? (i := 160) rfl)) (by decide) (by decide)) (g := (mkF m 214 #[.val (.int i0), .val (.int q0), .val (.ref st), .val (.ref b3), .val (.int (own_dg q0)), .unset, .unset, .unset, .unset, .unset] [(.ref b3), (.int (9 : Int32)), (.int (own_dg q0)), (.int q0), (.ref st)])) rfl (by rw [hml]; rfl) (argsL := [(.ref st), (.int q0), (.int (own_dg q0)), (.int (9 : Int32)), (.ref b3)]) (rest := []) (lenOf pd_25 rfl) rfl (by show 2 * 0 + _ ≤ _; exact Nat.le_of_eq rfl) (hb hby at_214) (fun _ _ => ⟨rfl, e55, (by decide : 7 + 0 ≤ _), (by decide : 58 + 0 ≤ _)⟩)
  dsimp only [Pt.U, Pt.locs, Pt.cells, Pt.slots] at X57 l57 y57 z57 st57 hQ57
  obtain ⟨rfl, N57q, e57⟩ := hQ57
  have N57 := Fr.app N55 N57q
  have X57 : Stand p l e _ _ m _ below meth c T57 _ 7 58 := own_fold X57 l57 y57 z57
  have R59 : Rch p e below (s₁.setTop (entryFrame m #[(.int i0)] maxLocals)) T57 (mkF m 236 #[.val (.int i0), .val (.int q0), .val (.ref st), .val (.ref b3), .val (.int (own_dg q0)), .val (.int (1 : Int32)), .unset, .unset, .unset, .unset] [(.int (q0 - ((q0 / (10 : Int32)) * (10 : Int32))))]) := fun t k => by
    refine R58 t ?_
    refine st57 _ ?_
    show Steps p.tables e below (T57.setTop (mkF m 217 #[.val (.int i0), .val (.int q0), .val (.ref st), .val (.ref b3), .val (.int (own_dg q0)), .unset, .unset, .unset, .unset, .unset] [(.int (1 : Int32))])) t
    refine XS.ifNo X57.here hx rfl (hb hby at_217) rfl ((if0 _ _).trans (feq (by decide : ¬ ((1 : Int32) = (0 : Int32)))).1) ?_
    show Steps p.tables e below (T57.setTop (mkF m 220 #[.val (.int i0), .val (.int q0), .val (.ref st), .val (.ref b3), .val (.int (own_dg q0)), .unset, .unset, .unset, .unset, .unset] [])) t
    refine XS.iconst X57.here hx rfl (hb hby at_220) ?_
    show Steps p.tables e below (T57.setTop (mkF m 221 #[.val (.int i0), .val (.int q0), .val (.ref st), .val (.ref b3), .val (.int (own_dg q0)), .unset, .unset, .unset, .unset, .unset] [(.int (1 : Int32))])) t
    refine XS.goto X57.here hx rfl (pc0 := 221) (pc' := 225) rfl (hb hby at_221) (by decide) (by decide) ?_
    show Steps p.tables e below (T57.setTop (mkF m 225 #[.val (.int i0), .val (.int q0), .val (.ref st), .val (.ref b3), .val (.int (own_dg q0)), .unset, .unset, .unset, .unset, .unset] [(.int (1 : Int32))])) t
    refine XS.istore X57.here hx rfl (hb hby at_225) rfl (l' := #[.val (.int i0), .val (.int q0), .val (.ref st), .val (.ref b3), .val (.int (own_dg q0)), .val (.int (1 : Int32)), .unset, .unset, .unset, .unset]) rfl ?_
    show Steps p.tables e below (T57.setTop (mkF m 227 #[.val (.int i0), .val (.int q0), .val (.ref st), .val (.ref b3), .val (.int (own_dg q0)), .val (.int (1 : Int32)), .unset, .unset, .unset, .unset] [])) t
    refine XS.iloadN X57.here hx rfl (hb hby at_227) rfl ?_
    show Steps p.tables e below (T57.setTop (mkF m 228 #[.val (.int i0), .val (.int q0), .val (.ref st), .val (.ref b3), .val (.int (own_dg q0)), .val (.int (1 : Int32)), .unset, .unset, .unset, .unset] [(.int q0)])) t
    refine XS.iloadN X57.here hx rfl (hb hby at_228) rfl ?_
    show Steps p.tables e below (T57.setTop (mkF m 229 #[.val (.int i0), .val (.int q0), .val (.ref st), .val (.ref b3), .val (.int (own_dg q0)), .val (.int (1 : Int32)), .unset, .unset, .unset, .unset] [(.int q0), (.int q0)])) t
    refine XS.bipush X57.here hx rfl (hb hby at_229) ?_
    show Steps p.tables e below (T57.setTop (mkF m 231 #[.val (.int i0), .val (.int q0), .val (.ref st), .val (.ref b3), .val (.int (own_dg q0)), .val (.int (1 : Int32)), .unset, .unset, .unset, .unset] [(.int (10 : Int32)), (.int q0), (.int q0)])) t
    refine XS.idiv X57.here hx rfl (hb hby at_231) rfl (by decide) ?_
    show Steps p.tables e below (T57.setTop (mkF m 232 #[.val (.int i0), .val (.int q0), .val (.ref st), .val (.ref b3), .val (.int (own_dg q0)), .val (.int (1 : Int32)), .unset, .unset, .unset, .unset] [(.int (q0 / (10 : Int32))), (.int q0)])) t
    refine XS.bipush X57.here hx rfl (hb hby at_232) ?_
    show Steps p.tables e below (T57.setTop (mkF m 234 #[.val (.int i0), .val (.int q0), .val (.ref st), .val (.ref b3), .val (.int (own_dg q0)), .val (.int (1 : Int32)), .unset, .unset, .unset, .unset] [(.int (10 : Int32)), (.int (q0 / (10 : Int32))), (.int q0)])) t
    refine XS.imul X57.here hx rfl (hb hby at_234) rfl ?_
    show Steps p.tables e below (T57.setTop (mkF m 235 #[.val (.int i0), .val (.int q0), .val (.ref st), .val (.ref b3), .val (.int (own_dg q0)), .val (.int (1 : Int32)), .unset, .unset, .unset, .unset] [(.int ((q0 / (10 : Int32)) * (10 : Int32))), (.int q0)])) t
    refine XS.isub X57.here hx rfl (hb hby at_235) rfl ?_
    exact k
  rw [own_u hn] at R59
  have R61 : Rch p e below (s₁.setTop (entryFrame m #[(.int i0)] maxLocals)) T57 (mkF m 246 #[.val (.int i0), .val (.int q0), .val (.ref st), .val (.ref b3), .val (.int (own_dg q0)), .val (.int (1 : Int32)), .val (.int (q0 % (10 : Int32))), .unset, .unset, .unset] [(.int (1 : Int32)), (.int ((q0 / (10 : Int32)) % (10 : Int32)))]) := fun t k => by
    refine R59 t ?_
    refine XS.istore X57.here hx rfl (hb hby at_236) rfl (l' := #[.val (.int i0), .val (.int q0), .val (.ref st), .val (.ref b3), .val (.int (own_dg q0)), .val (.int (1 : Int32)), .val (.int (q0 % (10 : Int32))), .unset, .unset, .unset]) rfl ?_
    show Steps p.tables e below (T57.setTop (mkF m 238 #[.val (.int i0), .val (.int q0), .val (.ref st), .val (.ref b3), .val (.int (own_dg q0)), .val (.int (1 : Int32)), .val (.int (q0 % (10 : Int32))), .unset, .unset, .unset] [])) t
    refine XS.iloadN X57.here hx rfl (hb hby at_238) rfl ?_
    show Steps p.tables e below (T57.setTop (mkF m 239 #[.val (.int i0), .val (.int q0), .val (.ref st), .val (.ref b3), .val (.int (own_dg q0)), .val (.int (1 : Int32)), .val (.int (q0 % (10 : Int32))), .unset, .unset, .unset] [(.int q0)])) t
    refine XS.bipush X57.here hx rfl (hb hby at_239) ?_
    show Steps p.tables e below (T57.setTop (mkF m 241 #[.val (.int i0), .val (.int q0), .val (.ref st), .val (.ref b3), .val (.int (own_dg q0)), .val (.int (1 : Int32)), .val (.int (q0 % (10 : Int32))), .unset, .unset, .unset] [(.int (10 : Int32)), (.int q0)])) t
    refine XS.idiv X57.here hx rfl (hb hby at_241) rfl (by decide) ?_
    show Steps p.tables e below (T57.setTop (mkF m 242 #[.val (.int i0), .val (.int q0), .val (.ref st), .val (.ref b3), .val (.int (own_dg q0)), .val (.int (1 : Int32)), .val (.int (q0 % (10 : Int32))), .unset, .unset, .unset] [(.int (q0 / (10 : Int32)))])) t
    refine XS.bipush X57.here hx rfl (hb hby at_242) ?_
    show Steps p.tables e below (T57.setTop (mkF m 244 #[.val (.int i0), .val (.int q0), .val (.ref st), .val (.ref b3), .val (.int (own_dg q0)), .val (.int (1 : Int32)), .val (.int (q0 % (10 : Int32))), .unset, .unset, .unset] [(.int (10 : Int32)), (.int (q0 / (10 : Int32)))])) t
    refine iremM X57 hx rfl (hb hby at_244) rfl (by decide) ?_
    show Steps p.tables e below (T57.setTop (mkF m 245 #[.val (.int i0), .val (.int q0), .val (.ref st), .val (.ref b3), .val (.int (own_dg q0)), .val (.int (1 : Int32)), .val (.int (q0 % (10 : Int32))), .unset, .unset, .unset] [(.int ((q0 / (10 : Int32)) % (10 : Int32)))])) t
    refine XS.iconst X57.here hx rfl (hb hby at_245) ?_
    exact k
  by_cases hc246_60 : ((q0 / (10 : Int32)) % (10 : Int32)) = (1 : Int32)
  · have R63 : Rch p e below (s₁.setTop (entryFrame m #[(.int i0)] maxLocals)) T57 (mkF m 339 #[.val (.int i0), .val (.int q0), .val (.ref st), .val (.ref b3), .val (.int (own_dg q0)), .val (.int (1 : Int32)), .val (.int (q0 % (10 : Int32))), .val (.int (1 : Int32)), .val (.int (116 : Int32)), .val (.int (104 : Int32))] [(.int (own_dg q0)), (.ref st)]) := fun t k => by
      refine R61 t ?_
      refine XS.icmpNo X57.here hx rfl (hb hby at_246) rfl (teq hc246_60).2 ?_
      show Steps p.tables e below (T57.setTop (mkF m 249 #[.val (.int i0), .val (.int q0), .val (.ref st), .val (.ref b3), .val (.int (own_dg q0)), .val (.int (1 : Int32)), .val (.int (q0 % (10 : Int32))), .unset, .unset, .unset] [])) t
      refine XS.iconst X57.here hx rfl (hb hby at_249) ?_
      show Steps p.tables e below (T57.setTop (mkF m 250 #[.val (.int i0), .val (.int q0), .val (.ref st), .val (.ref b3), .val (.int (own_dg q0)), .val (.int (1 : Int32)), .val (.int (q0 % (10 : Int32))), .unset, .unset, .unset] [(.int (1 : Int32))])) t
      refine XS.goto X57.here hx rfl (pc0 := 250) (pc' := 254) rfl (hb hby at_250) (by decide) (by decide) ?_
      show Steps p.tables e below (T57.setTop (mkF m 254 #[.val (.int i0), .val (.int q0), .val (.ref st), .val (.ref b3), .val (.int (own_dg q0)), .val (.int (1 : Int32)), .val (.int (q0 % (10 : Int32))), .unset, .unset, .unset] [(.int (1 : Int32))])) t
      refine XS.istore X57.here hx rfl (hb hby at_254) rfl (l' := #[.val (.int i0), .val (.int q0), .val (.ref st), .val (.ref b3), .val (.int (own_dg q0)), .val (.int (1 : Int32)), .val (.int (q0 % (10 : Int32))), .val (.int (1 : Int32)), .unset, .unset]) rfl ?_
      show Steps p.tables e below (T57.setTop (mkF m 256 #[.val (.int i0), .val (.int q0), .val (.ref st), .val (.ref b3), .val (.int (own_dg q0)), .val (.int (1 : Int32)), .val (.int (q0 % (10 : Int32))), .val (.int (1 : Int32)), .unset, .unset] [])) t
      refine XS.iload X57.here hx rfl (hb hby at_256) rfl ?_
      show Steps p.tables e below (T57.setTop (mkF m 258 #[.val (.int i0), .val (.int q0), .val (.ref st), .val (.ref b3), .val (.int (own_dg q0)), .val (.int (1 : Int32)), .val (.int (q0 % (10 : Int32))), .val (.int (1 : Int32)), .unset, .unset] [(.int (1 : Int32))])) t
      refine XS.ifNo X57.here hx rfl (hb hby at_258) rfl ((if0 _ _).trans (feq (by decide : ¬ ((1 : Int32) = (0 : Int32)))).1) ?_
      show Steps p.tables e below (T57.setTop (mkF m 261 #[.val (.int i0), .val (.int q0), .val (.ref st), .val (.ref b3), .val (.int (own_dg q0)), .val (.int (1 : Int32)), .val (.int (q0 % (10 : Int32))), .val (.int (1 : Int32)), .unset, .unset] [])) t
      refine XS.bipush X57.here hx rfl (hb hby at_261) ?_
      show Steps p.tables e below (T57.setTop (mkF m 263 #[.val (.int i0), .val (.int q0), .val (.ref st), .val (.ref b3), .val (.int (own_dg q0)), .val (.int (1 : Int32)), .val (.int (q0 % (10 : Int32))), .val (.int (1 : Int32)), .unset, .unset] [(.int (116 : Int32))])) t
      refine XS.istore X57.here hx rfl (hb hby at_263) rfl (l' := #[.val (.int i0), .val (.int q0), .val (.ref st), .val (.ref b3), .val (.int (own_dg q0)), .val (.int (1 : Int32)), .val (.int (q0 % (10 : Int32))), .val (.int (1 : Int32)), .val (.int (116 : Int32)), .unset]) rfl ?_
      show Steps p.tables e below (T57.setTop (mkF m 265 #[.val (.int i0), .val (.int q0), .val (.ref st), .val (.ref b3), .val (.int (own_dg q0)), .val (.int (1 : Int32)), .val (.int (q0 % (10 : Int32))), .val (.int (1 : Int32)), .val (.int (116 : Int32)), .unset] [])) t
      refine XS.bipush X57.here hx rfl (hb hby at_265) ?_
      show Steps p.tables e below (T57.setTop (mkF m 267 #[.val (.int i0), .val (.int q0), .val (.ref st), .val (.ref b3), .val (.int (own_dg q0)), .val (.int (1 : Int32)), .val (.int (q0 % (10 : Int32))), .val (.int (1 : Int32)), .val (.int (116 : Int32)), .unset] [(.int (104 : Int32))])) t
      refine XS.istore X57.here hx rfl (hb hby at_267) rfl (l' := #[.val (.int i0), .val (.int q0), .val (.ref st), .val (.ref b3), .val (.int (own_dg q0)), .val (.int (1 : Int32)), .val (.int (q0 % (10 : Int32))), .val (.int (1 : Int32)), .val (.int (116 : Int32)), .val (.int (104 : Int32))]) rfl ?_
      show Steps p.tables e below (T57.setTop (mkF m 269 #[.val (.int i0), .val (.int q0), .val (.ref st), .val (.ref b3), .val (.int (own_dg q0)), .val (.int (1 : Int32)), .val (.int (q0 % (10 : Int32))), .val (.int (1 : Int32)), .val (.int (116 : Int32)), .val (.int (104 : Int32))] [])) t
      refine XS.goto X57.here hx rfl (pc0 := 269) (pc' := 331) rfl (hb hby at_269) (by decide) (by decide) ?_
      show Steps p.tables e below (T57.setTop (mkF m 331 #[.val (.int i0), .val (.int q0), .val (.ref st), .val (.ref b3), .val (.int (own_dg q0)), .val (.int (1 : Int32)), .val (.int (q0 % (10 : Int32))), .val (.int (1 : Int32)), .val (.int (116 : Int32)), .val (.int (104 : Int32))] [])) t
      refine XS.iload X57.here hx rfl (hb hby at_331) rfl ?_
      show Steps p.tables e below (T57.setTop (mkF m 333 #[.val (.int i0), .val (.int q0), .val (.ref st), .val (.ref b3), .val (.int (own_dg q0)), .val (.int (1 : Int32)), .val (.int (q0 % (10 : Int32))), .val (.int (1 : Int32)), .val (.int (116 : Int32)), .val (.int (104 : Int32))] [(.int (1 : Int32))])) t
      refine XS.ifNo X57.here hx rfl (hb hby at_333) rfl ((if0 _ _).trans (feq (by decide : ¬ ((1 : Int32) = (0 : Int32)))).1) ?_
      show Steps p.tables e below (T57.setTop (mkF m 336 #[.val (.int i0), .val (.int q0), .val (.ref st), .val (.ref b3), .val (.int (own_dg q0)), .val (.int (1 : Int32)), .val (.int (q0 % (10 : Int32))), .val (.int (1 : Int32)), .val (.int (116 : Int32)), .val (.int (104 : Int32))] [])) t
      refine XS.aloadN X57.here hx rfl (hb hby at_336) rfl rfl ?_
      show Steps p.tables e below (T57.setTop (mkF m 337 #[.val (.int i0), .val (.int q0), .val (.ref st), .val (.ref b3), .val (.int (own_dg q0)), .val (.int (1 : Int32)), .val (.int (q0 % (10 : Int32))), .val (.int (1 : Int32)), .val (.int (116 : Int32)), .val (.int (104 : Int32))] [(.ref st)])) t
      refine XS.iload X57.here hx rfl (hb hby at_337) rfl ?_
      exact k
    obtain ⟨cq62, kq62, q62a, q62b, q62c⟩ := isOf hZ e57 (((((((((((B1.ext E3).wr W7).wr W10).wr W13).wr W16).wr W19).wr W22).wr W25).wr W28).wr W31).wr W34)
    obtain ⟨_, _, ⟨T62, L62, k62, n62⟩, -, X62, ⟨Lc62, hQ62, l62, y62, z62⟩, st62⟩ := X57.virtualBack hx (y := (⟨"java/lang/String", "charAt", "(I)C"⟩ : MethodName)) (z := (⟨"java/lang/String", "charAt", "(I)C"⟩ : MethodName)) hown (mvT hZ (hw _ (List.mem_of_getElem? (i := 166) rfl))) (mvT hZ (hw _ (List.mem_of_getElem? (i := 167) rfl))) (notFace_of_selects (args := #[]) (mvT hZ (hw _ (List.mem_of_getElem? (i := 169) rfl)))) (mvT hZ (hw _ (List.mem_of_getElem? (i := 169) rfl))) (mvT hZ (hw _ (List.mem_of_getElem? (i := 168) rfl))) (by decide) (backOf (W := 0) (rm_cha l Z a0 hw [] st cs sv ks ((own_dg q0) + (2 : Int32)) (own_txt q0 (own_dn q0) (own_s0 q0) (own_s1 q0)) (own_dg q0) (own_s0 q0) vv h34 n0 (Nat.le_trans Z0 K34.1) (((((((((((B1.ext E3).wr W7).wr W10).wr W13).wr W16).wr W19).wr W22).wr W25).wr W28).wr W31).wr W34) (((((((((((B3.ext E3).other W7 (Or.inl (Nat.ne_of_lt (Nat.lt_of_lt_of_le B1.lt (Nat.le_of_eq g3.symm))))).other W10 (Or.inl (Nat.ne_of_lt (Nat.lt_of_lt_of_le B1.lt (Nat.le_of_eq g3.symm))))).other W13 (Or.inl (Nat.ne_of_lt (Nat.lt_of_lt_of_le B1.lt (Nat.le_of_eq g3.symm))))).other W16 (Or.inl (Nat.ne_of_lt (Nat.lt_of_lt_of_le B1.lt (Nat.le_of_eq g3.symm))))).other W19 (Or.inl (Nat.ne_of_lt (Nat.lt_of_lt_of_le B1.lt (Nat.le_of_eq g3.symm))))).other W22 (Or.inl (Nat.ne_of_lt (Nat.lt_of_lt_of_le B1.lt (Nat.le_of_eq g3.symm))))).other W25 (Or.inl (Nat.ne_of_lt (Nat.lt_of_lt_of_le B1.lt (Nat.le_of_eq g3.symm))))).other W28 (Or.inl (Nat.ne_of_lt (Nat.lt_of_lt_of_le B1.lt (Nat.le_of_eq g3.symm))))).other W31 (Or.inl (Nat.ne_of_lt (Nat.lt_of_lt_of_le B1.lt (Nat.le_of_eq g3.symm))))).other W34 (Or.inl (Nat.ne_of_lt (Nat.lt_of_lt_of_le B1.lt (Nat.le_of_eq g3.symm))))) (((((((((((B2.ext E3).other W7 (Or.inl (Nat.ne_of_lt (Nat.lt_of_lt_of_le B1.lt (Nat.le_of_eq g3.symm))))).other W10 (Or.inl (Nat.ne_of_lt (Nat.lt_of_lt_of_le B1.lt (Nat.le_of_eq g3.symm))))).other W13 (Or.inl (Nat.ne_of_lt (Nat.lt_of_lt_of_le B1.lt (Nat.le_of_eq g3.symm))))).other W16 (Or.inl (Nat.ne_of_lt (Nat.lt_of_lt_of_le B1.lt (Nat.le_of_eq g3.symm))))).other W19 (Or.inl (Nat.ne_of_lt (Nat.lt_of_lt_of_le B1.lt (Nat.le_of_eq g3.symm))))).other W22 (Or.inl (Nat.ne_of_lt (Nat.lt_of_lt_of_le B1.lt (Nat.le_of_eq g3.symm))))).other W25 (Or.inl (Nat.ne_of_lt (Nat.lt_of_lt_of_le B1.lt (Nat.le_of_eq g3.symm))))).other W28 (Or.inl (Nat.ne_of_lt (Nat.lt_of_lt_of_le B1.lt (Nat.le_of_eq g3.symm))))).other W31 (Or.inl (Nat.ne_of_lt (Nat.lt_of_lt_of_le B1.lt (Nat.le_of_eq g3.symm))))).other W34 (Or.inl (Nat.ne_of_lt (Nat.lt_of_lt_of_le B1.lt (Nat.le_of_eq g3.symm))))) ((((((((((((own_sta_keep pS KcJ all0).ext E3).wr W7).wr W10).wr W13).wr W16).wr W19).wr W22).wr W25).wr W28).wr W31).wr W34) pcs (((((((((((B4.ext E3).other W7 (Nat.ne_of_lt (Nat.lt_of_lt_of_le B4.lt (Nat.le_of_eq g3.symm)))).other W10 (Nat.ne_of_lt (Nat.lt_of_lt_of_le B4.lt (Nat.le_of_eq g3.symm)))).other W13 (Nat.ne_of_lt (Nat.lt_of_lt_of_le B4.lt (Nat.le_of_eq g3.symm)))).other W16 (Nat.ne_of_lt (Nat.lt_of_lt_of_le B4.lt (Nat.le_of_eq g3.symm)))).other W19 (Nat.ne_of_lt (Nat.lt_of_lt_of_le B4.lt (Nat.le_of_eq g3.symm)))).other W22 (Nat.ne_of_lt (Nat.lt_of_lt_of_le B4.lt (Nat.le_of_eq g3.symm)))).other W25 (Nat.ne_of_lt (Nat.lt_of_lt_of_le B4.lt (Nat.le_of_eq g3.symm)))).other W28 (Nat.ne_of_lt (Nat.lt_of_lt_of_le B4.lt (Nat.le_of_eq g3.symm)))).other W31 (Nat.ne_of_lt (Nat.lt_of_lt_of_le B4.lt (Nat.le_of_eq g3.symm)))).other W34 (Nat.ne_of_lt (Nat.lt_of_lt_of_le B4.lt (Nat.le_of_eq g3.symm)))) (own_at0 hn) (own_txt_t0 _ _ _ _) (own_s_asc q0).1 pvv ((((((((((((own_sta_keep pSF KcJ all0).ext E3).wr W7).wr W10).wr W13).wr W16).wr W19).wr W22).wr W25).wr W28).wr W31).wr W34)) hZ (hw _ (List.mem_of_getElem? (i := 170) rfl)) (hw _ (List.mem_of_getElem? (i := 6) rfl)) (by decide) (by decide)) q62a q62c (g := (mkF m 339 #[.val (.int i0), .val (.int q0), .val (.ref st), .val (.ref b3), .val (.int (own_dg q0)), .val (.int (1 : Int32)), .val (.int (q0 % (10 : Int32))), .val (.int (1 : Int32)), .val (.int (116 : Int32)), .val (.int (104 : Int32))] [(.int (own_dg q0)), (.ref st)])) rfl (by rw [hml]; rfl) (Steps.refl _) (argsL := [(.int (own_dg q0))]) (rest := []) (lenOf pd_19 rfl) rfl (by show 2 * 0 + _ ≤ _; exact Nat.le_of_eq rfl) (hb hby at_339) (fun _ _ => ⟨rfl, e57, (by decide : 7 + 0 ≤ _), (by decide : 58 + 0 ≤ _)⟩)
    dsimp only [Pt.U, Pt.locs, Pt.cells, Pt.slots] at X62 l62 y62 z62 st62 hQ62
    obtain ⟨rfl, N62q, e62⟩ := hQ62
    have N62 := Fr.app N57 N62q
    have X62 : Stand p l e _ _ m _ below meth c T62 _ 7 58 := own_fold X62 l62 y62 z62
    have R65 : Rch p e below (s₁.setTop (entryFrame m #[(.int i0)] maxLocals)) T62 (mkF m 352 #[.val (.int i0), .val (.int q0), .val (.ref st), .val (.ref b3), .val (.int (own_dg q0)), .val (.int (1 : Int32)), .val (.int (q0 % (10 : Int32))), .val (.int (1 : Int32)), .val (.int (116 : Int32)), .val (.int (104 : Int32))] [(.int ((own_dg q0) + (1 : Int32))), (.ref st)]) := fun t k => by
      refine R63 t ?_
      refine st62.trans ?_
      show Steps p.tables e below (T62.setTop (mkF m 342 #[.val (.int i0), .val (.int q0), .val (.ref st), .val (.ref b3), .val (.int (own_dg q0)), .val (.int (1 : Int32)), .val (.int (q0 % (10 : Int32))), .val (.int (1 : Int32)), .val (.int (116 : Int32)), .val (.int (104 : Int32))] [(.int (own_s0 q0))])) t
      refine XS.iload X62.here hx rfl (hb hby at_342) rfl ?_
      show Steps p.tables e below (T62.setTop (mkF m 344 #[.val (.int i0), .val (.int q0), .val (.ref st), .val (.ref b3), .val (.int (own_dg q0)), .val (.int (1 : Int32)), .val (.int (q0 % (10 : Int32))), .val (.int (1 : Int32)), .val (.int (116 : Int32)), .val (.int (104 : Int32))] [(.int (116 : Int32)), (.int (own_s0 q0))])) t
      refine XS.icmpNo X62.here hx rfl (hb hby at_344) rfl (teq ((own_sfx hn).1 hc246_60).1).2 ?_
      show Steps p.tables e below (T62.setTop (mkF m 347 #[.val (.int i0), .val (.int q0), .val (.ref st), .val (.ref b3), .val (.int (own_dg q0)), .val (.int (1 : Int32)), .val (.int (q0 % (10 : Int32))), .val (.int (1 : Int32)), .val (.int (116 : Int32)), .val (.int (104 : Int32))] [])) t
      refine XS.aloadN X62.here hx rfl (hb hby at_347) rfl rfl ?_
      show Steps p.tables e below (T62.setTop (mkF m 348 #[.val (.int i0), .val (.int q0), .val (.ref st), .val (.ref b3), .val (.int (own_dg q0)), .val (.int (1 : Int32)), .val (.int (q0 % (10 : Int32))), .val (.int (1 : Int32)), .val (.int (116 : Int32)), .val (.int (104 : Int32))] [(.ref st)])) t
      refine XS.iload X62.here hx rfl (hb hby at_348) rfl ?_
      show Steps p.tables e below (T62.setTop (mkF m 350 #[.val (.int i0), .val (.int q0), .val (.ref st), .val (.ref b3), .val (.int (own_dg q0)), .val (.int (1 : Int32)), .val (.int (q0 % (10 : Int32))), .val (.int (1 : Int32)), .val (.int (116 : Int32)), .val (.int (104 : Int32))] [(.int (own_dg q0)), (.ref st)])) t
      refine XS.iconst X62.here hx rfl (hb hby at_350) ?_
      show Steps p.tables e below (T62.setTop (mkF m 351 #[.val (.int i0), .val (.int q0), .val (.ref st), .val (.ref b3), .val (.int (own_dg q0)), .val (.int (1 : Int32)), .val (.int (q0 % (10 : Int32))), .val (.int (1 : Int32)), .val (.int (116 : Int32)), .val (.int (104 : Int32))] [(.int (1 : Int32)), (.int (own_dg q0)), (.ref st)])) t
      refine XS.iadd X62.here hx rfl (hb hby at_351) rfl ?_
      exact k
    obtain ⟨cq64, kq64, q64a, q64b, q64c⟩ := isOf hZ e62 (((((((((((B1.ext E3).wr W7).wr W10).wr W13).wr W16).wr W19).wr W22).wr W25).wr W28).wr W31).wr W34)
    obtain ⟨_, _, ⟨T64, L64, k64, n64⟩, -, X64, ⟨Lc64, hQ64, l64, y64, z64⟩, st64⟩ := X62.virtualBack hx (y := (⟨"java/lang/String", "charAt", "(I)C"⟩ : MethodName)) (z := (⟨"java/lang/String", "charAt", "(I)C"⟩ : MethodName)) hown (mvT hZ (hw _ (List.mem_of_getElem? (i := 166) rfl))) (mvT hZ (hw _ (List.mem_of_getElem? (i := 167) rfl))) (notFace_of_selects (args := #[]) (mvT hZ (hw _ (List.mem_of_getElem? (i := 169) rfl)))) (mvT hZ (hw _ (List.mem_of_getElem? (i := 169) rfl))) (mvT hZ (hw _ (List.mem_of_getElem? (i := 168) rfl))) (by decide) (backOf (W := 0) (rm_cha l Z a0 hw [] st cs sv ks ((own_dg q0) + (2 : Int32)) (own_txt q0 (own_dn q0) (own_s0 q0) (own_s1 q0)) ((own_dg q0) + (1 : Int32)) (own_s1 q0) vv h34 n0 (Nat.le_trans Z0 K34.1) (((((((((((B1.ext E3).wr W7).wr W10).wr W13).wr W16).wr W19).wr W22).wr W25).wr W28).wr W31).wr W34) (((((((((((B3.ext E3).other W7 (Or.inl (Nat.ne_of_lt (Nat.lt_of_lt_of_le B1.lt (Nat.le_of_eq g3.symm))))).other W10 (Or.inl (Nat.ne_of_lt (Nat.lt_of_lt_of_le B1.lt (Nat.le_of_eq g3.symm))))).other W13 (Or.inl (Nat.ne_of_lt (Nat.lt_of_lt_of_le B1.lt (Nat.le_of_eq g3.symm))))).other W16 (Or.inl (Nat.ne_of_lt (Nat.lt_of_lt_of_le B1.lt (Nat.le_of_eq g3.symm))))).other W19 (Or.inl (Nat.ne_of_lt (Nat.lt_of_lt_of_le B1.lt (Nat.le_of_eq g3.symm))))).other W22 (Or.inl (Nat.ne_of_lt (Nat.lt_of_lt_of_le B1.lt (Nat.le_of_eq g3.symm))))).other W25 (Or.inl (Nat.ne_of_lt (Nat.lt_of_lt_of_le B1.lt (Nat.le_of_eq g3.symm))))).other W28 (Or.inl (Nat.ne_of_lt (Nat.lt_of_lt_of_le B1.lt (Nat.le_of_eq g3.symm))))).other W31 (Or.inl (Nat.ne_of_lt (Nat.lt_of_lt_of_le B1.lt (Nat.le_of_eq g3.symm))))).other W34 (Or.inl (Nat.ne_of_lt (Nat.lt_of_lt_of_le B1.lt (Nat.le_of_eq g3.symm))))) (((((((((((B2.ext E3).other W7 (Or.inl (Nat.ne_of_lt (Nat.lt_of_lt_of_le B1.lt (Nat.le_of_eq g3.symm))))).other W10 (Or.inl (Nat.ne_of_lt (Nat.lt_of_lt_of_le B1.lt (Nat.le_of_eq g3.symm))))).other W13 (Or.inl (Nat.ne_of_lt (Nat.lt_of_lt_of_le B1.lt (Nat.le_of_eq g3.symm))))).other W16 (Or.inl (Nat.ne_of_lt (Nat.lt_of_lt_of_le B1.lt (Nat.le_of_eq g3.symm))))).other W19 (Or.inl (Nat.ne_of_lt (Nat.lt_of_lt_of_le B1.lt (Nat.le_of_eq g3.symm))))).other W22 (Or.inl (Nat.ne_of_lt (Nat.lt_of_lt_of_le B1.lt (Nat.le_of_eq g3.symm))))).other W25 (Or.inl (Nat.ne_of_lt (Nat.lt_of_lt_of_le B1.lt (Nat.le_of_eq g3.symm))))).other W28 (Or.inl (Nat.ne_of_lt (Nat.lt_of_lt_of_le B1.lt (Nat.le_of_eq g3.symm))))).other W31 (Or.inl (Nat.ne_of_lt (Nat.lt_of_lt_of_le B1.lt (Nat.le_of_eq g3.symm))))).other W34 (Or.inl (Nat.ne_of_lt (Nat.lt_of_lt_of_le B1.lt (Nat.le_of_eq g3.symm))))) ((((((((((((own_sta_keep pS KcJ all0).ext E3).wr W7).wr W10).wr W13).wr W16).wr W19).wr W22).wr W25).wr W28).wr W31).wr W34) pcs (((((((((((B4.ext E3).other W7 (Nat.ne_of_lt (Nat.lt_of_lt_of_le B4.lt (Nat.le_of_eq g3.symm)))).other W10 (Nat.ne_of_lt (Nat.lt_of_lt_of_le B4.lt (Nat.le_of_eq g3.symm)))).other W13 (Nat.ne_of_lt (Nat.lt_of_lt_of_le B4.lt (Nat.le_of_eq g3.symm)))).other W16 (Nat.ne_of_lt (Nat.lt_of_lt_of_le B4.lt (Nat.le_of_eq g3.symm)))).other W19 (Nat.ne_of_lt (Nat.lt_of_lt_of_le B4.lt (Nat.le_of_eq g3.symm)))).other W22 (Nat.ne_of_lt (Nat.lt_of_lt_of_le B4.lt (Nat.le_of_eq g3.symm)))).other W25 (Nat.ne_of_lt (Nat.lt_of_lt_of_le B4.lt (Nat.le_of_eq g3.symm)))).other W28 (Nat.ne_of_lt (Nat.lt_of_lt_of_le B4.lt (Nat.le_of_eq g3.symm)))).other W31 (Nat.ne_of_lt (Nat.lt_of_lt_of_le B4.lt (Nat.le_of_eq g3.symm)))).other W34 (Nat.ne_of_lt (Nat.lt_of_lt_of_le B4.lt (Nat.le_of_eq g3.symm)))) (own_at1 hn).1 (by rw [(own_at1 hn).2]; exact own_txt_t1 _ _ _ _) (own_s_asc q0).2 pvv ((((((((((((own_sta_keep pSF KcJ all0).ext E3).wr W7).wr W10).wr W13).wr W16).wr W19).wr W22).wr W25).wr W28).wr W31).wr W34)) hZ (hw _ (List.mem_of_getElem? (i := 170) rfl)) (hw _ (List.mem_of_getElem? (i := 6) rfl)) (by decide) (by decide)) q64a q64c (g := (mkF m 352 #[.val (.int i0), .val (.int q0), .val (.ref st), .val (.ref b3), .val (.int (own_dg q0)), .val (.int (1 : Int32)), .val (.int (q0 % (10 : Int32))), .val (.int (1 : Int32)), .val (.int (116 : Int32)), .val (.int (104 : Int32))] [(.int ((own_dg q0) + (1 : Int32))), (.ref st)])) rfl (by rw [hml]; rfl) (Steps.refl _) (argsL := [(.int ((own_dg q0) + (1 : Int32)))]) (rest := []) (lenOf pd_19 rfl) rfl (by show 2 * 0 + _ ≤ _; exact Nat.le_of_eq rfl) (hb hby at_352) (fun _ _ => ⟨rfl, e62, (by decide : 7 + 0 ≤ _), (by decide : 58 + 0 ≤ _)⟩)
    dsimp only [Pt.U, Pt.locs, Pt.cells, Pt.slots] at X64 l64 y64 z64 st64 hQ64
    obtain ⟨rfl, N64q, e64⟩ := hQ64
    have N64 := Fr.app N62 N64q
    have X64 : Stand p l e _ _ m _ below meth c T64 _ 7 58 := own_fold X64 l64 y64 z64
    have R66 : Rch p e below (s₁.setTop (entryFrame m #[(.int i0)] maxLocals)) T64 (mkF m 365 #[.val (.int i0), .val (.int q0), .val (.ref st), .val (.ref b3), .val (.int (own_dg q0)), .val (.int (1 : Int32)), .val (.int (q0 % (10 : Int32))), .val (.int (1 : Int32)), .val (.int (116 : Int32)), .val (.int (104 : Int32))] [(.int (1 : Int32))]) := fun t k => by
      refine R65 t ?_
      refine st64.trans ?_
      show Steps p.tables e below (T64.setTop (mkF m 355 #[.val (.int i0), .val (.int q0), .val (.ref st), .val (.ref b3), .val (.int (own_dg q0)), .val (.int (1 : Int32)), .val (.int (q0 % (10 : Int32))), .val (.int (1 : Int32)), .val (.int (116 : Int32)), .val (.int (104 : Int32))] [(.int (own_s1 q0))])) t
      refine XS.iload X64.here hx rfl (hb hby at_355) rfl ?_
      show Steps p.tables e below (T64.setTop (mkF m 357 #[.val (.int i0), .val (.int q0), .val (.ref st), .val (.ref b3), .val (.int (own_dg q0)), .val (.int (1 : Int32)), .val (.int (q0 % (10 : Int32))), .val (.int (1 : Int32)), .val (.int (116 : Int32)), .val (.int (104 : Int32))] [(.int (104 : Int32)), (.int (own_s1 q0))])) t
      refine XS.icmpNo X64.here hx rfl (hb hby at_357) rfl (teq ((own_sfx hn).1 hc246_60).2).2 ?_
      show Steps p.tables e below (T64.setTop (mkF m 360 #[.val (.int i0), .val (.int q0), .val (.ref st), .val (.ref b3), .val (.int (own_dg q0)), .val (.int (1 : Int32)), .val (.int (q0 % (10 : Int32))), .val (.int (1 : Int32)), .val (.int (116 : Int32)), .val (.int (104 : Int32))] [])) t
      refine XS.iconst X64.here hx rfl (hb hby at_360) ?_
      show Steps p.tables e below (T64.setTop (mkF m 361 #[.val (.int i0), .val (.int q0), .val (.ref st), .val (.ref b3), .val (.int (own_dg q0)), .val (.int (1 : Int32)), .val (.int (q0 % (10 : Int32))), .val (.int (1 : Int32)), .val (.int (116 : Int32)), .val (.int (104 : Int32))] [(.int (1 : Int32))])) t
      refine XS.goto X64.here hx rfl (pc0 := 361) (pc' := 365) rfl (hb hby at_361) (by decide) (by decide) ?_
      exact k
    obtain ⟨fs, hr, hrun, hended, hRW⟩ := Stand.leaveW (s := s) X64 SJ (by rw [e64]; exact KK34.1) (v := some (.int (1 : Int32))) (fun h => by rw [Bd.returns] at h; cases h) (BodyLoose.notSynchronized Bd)
    refine ⟨_, _, R66 _ ?_, hrun, hended, _, _, rfl, ?_, ?_, ⟨hRW.1, hRW.2.1, hRW.2.2.1, hRW.2.2.2.mono (by decide) (by decide)⟩⟩
    · exact retN X64 hx (t := .boolean) Bd.returns (by simp) (hb hby at_365) hr
    · show Q_rm_law Z i0 cs vv ta tb ka kt h0 n0 _ T64.heap _
      rw [e64]
      exact ⟨rfl, N64, K34⟩
    · show CHr Z consts_1 s.vm s.heap T64.vm T64.heap
      rw [e64]
      rw [hh]
      exact (CJ.trans (CHr.keep KK34 own_sf0 CJ.1)).trans (CHv.at X64 hZ hEL (CHr.keep KK34 own_sf0 CJ.1).1)
  · have R68 : Rch p e below (s₁.setTop (entryFrame m #[(.int i0)] maxLocals)) T57 (mkF m 275 #[.val (.int i0), .val (.int q0), .val (.ref st), .val (.ref b3), .val (.int (own_dg q0)), .val (.int (1 : Int32)), .val (.int (q0 % (10 : Int32))), .val (.int (0 : Int32)), .unset, .unset] [(.int (1 : Int32)), (.int (q0 % (10 : Int32)))]) := fun t k => by
      refine R61 t ?_
      refine XS.icmpYes X57.here hx rfl (pc0 := 246) (pc' := 253) rfl (hb hby at_246) rfl (feq hc246_60).2 (by decide) (by decide) ?_
      show Steps p.tables e below (T57.setTop (mkF m 253 #[.val (.int i0), .val (.int q0), .val (.ref st), .val (.ref b3), .val (.int (own_dg q0)), .val (.int (1 : Int32)), .val (.int (q0 % (10 : Int32))), .unset, .unset, .unset] [])) t
      refine XS.iconst X57.here hx rfl (hb hby at_253) ?_
      show Steps p.tables e below (T57.setTop (mkF m 254 #[.val (.int i0), .val (.int q0), .val (.ref st), .val (.ref b3), .val (.int (own_dg q0)), .val (.int (1 : Int32)), .val (.int (q0 % (10 : Int32))), .unset, .unset, .unset] [(.int (0 : Int32))])) t
      refine XS.istore X57.here hx rfl (hb hby at_254) rfl (l' := #[.val (.int i0), .val (.int q0), .val (.ref st), .val (.ref b3), .val (.int (own_dg q0)), .val (.int (1 : Int32)), .val (.int (q0 % (10 : Int32))), .val (.int (0 : Int32)), .unset, .unset]) rfl ?_
      show Steps p.tables e below (T57.setTop (mkF m 256 #[.val (.int i0), .val (.int q0), .val (.ref st), .val (.ref b3), .val (.int (own_dg q0)), .val (.int (1 : Int32)), .val (.int (q0 % (10 : Int32))), .val (.int (0 : Int32)), .unset, .unset] [])) t
      refine XS.iload X57.here hx rfl (hb hby at_256) rfl ?_
      show Steps p.tables e below (T57.setTop (mkF m 258 #[.val (.int i0), .val (.int q0), .val (.ref st), .val (.ref b3), .val (.int (own_dg q0)), .val (.int (1 : Int32)), .val (.int (q0 % (10 : Int32))), .val (.int (0 : Int32)), .unset, .unset] [(.int (0 : Int32))])) t
      refine XS.ifYes X57.here hx rfl (pc0 := 258) (pc' := 272) rfl (hb hby at_258) rfl ((if0 _ _).trans (teq (by decide : (0 : Int32) = (0 : Int32))).1) (by decide) (by decide) ?_
      show Steps p.tables e below (T57.setTop (mkF m 272 #[.val (.int i0), .val (.int q0), .val (.ref st), .val (.ref b3), .val (.int (own_dg q0)), .val (.int (1 : Int32)), .val (.int (q0 % (10 : Int32))), .val (.int (0 : Int32)), .unset, .unset] [])) t
      refine XS.iload X57.here hx rfl (hb hby at_272) rfl ?_
      show Steps p.tables e below (T57.setTop (mkF m 274 #[.val (.int i0), .val (.int q0), .val (.ref st), .val (.ref b3), .val (.int (own_dg q0)), .val (.int (1 : Int32)), .val (.int (q0 % (10 : Int32))), .val (.int (0 : Int32)), .unset, .unset] [(.int (q0 % (10 : Int32)))])) t
      refine XS.iconst X57.here hx rfl (hb hby at_274) ?_
      exact k
    by_cases hc275_67 : (q0 % (10 : Int32)) = (1 : Int32)
    · have R70 : Rch p e below (s₁.setTop (entryFrame m #[(.int i0)] maxLocals)) T57 (mkF m 339 #[.val (.int i0), .val (.int q0), .val (.ref st), .val (.ref b3), .val (.int (own_dg q0)), .val (.int (1 : Int32)), .val (.int (q0 % (10 : Int32))), .val (.int (0 : Int32)), .val (.int (115 : Int32)), .val (.int (116 : Int32))] [(.int (own_dg q0)), (.ref st)]) := fun t k => by
        refine R68 t ?_
        refine XS.icmpNo X57.here hx rfl (hb hby at_275) rfl (teq hc275_67).2 ?_
        show Steps p.tables e below (T57.setTop (mkF m 278 #[.val (.int i0), .val (.int q0), .val (.ref st), .val (.ref b3), .val (.int (own_dg q0)), .val (.int (1 : Int32)), .val (.int (q0 % (10 : Int32))), .val (.int (0 : Int32)), .unset, .unset] [])) t
        refine XS.bipush X57.here hx rfl (hb hby at_278) ?_
        show Steps p.tables e below (T57.setTop (mkF m 280 #[.val (.int i0), .val (.int q0), .val (.ref st), .val (.ref b3), .val (.int (own_dg q0)), .val (.int (1 : Int32)), .val (.int (q0 % (10 : Int32))), .val (.int (0 : Int32)), .unset, .unset] [(.int (115 : Int32))])) t
        refine XS.istore X57.here hx rfl (hb hby at_280) rfl (l' := #[.val (.int i0), .val (.int q0), .val (.ref st), .val (.ref b3), .val (.int (own_dg q0)), .val (.int (1 : Int32)), .val (.int (q0 % (10 : Int32))), .val (.int (0 : Int32)), .val (.int (115 : Int32)), .unset]) rfl ?_
        show Steps p.tables e below (T57.setTop (mkF m 282 #[.val (.int i0), .val (.int q0), .val (.ref st), .val (.ref b3), .val (.int (own_dg q0)), .val (.int (1 : Int32)), .val (.int (q0 % (10 : Int32))), .val (.int (0 : Int32)), .val (.int (115 : Int32)), .unset] [])) t
        refine XS.bipush X57.here hx rfl (hb hby at_282) ?_
        show Steps p.tables e below (T57.setTop (mkF m 284 #[.val (.int i0), .val (.int q0), .val (.ref st), .val (.ref b3), .val (.int (own_dg q0)), .val (.int (1 : Int32)), .val (.int (q0 % (10 : Int32))), .val (.int (0 : Int32)), .val (.int (115 : Int32)), .unset] [(.int (116 : Int32))])) t
        refine XS.istore X57.here hx rfl (hb hby at_284) rfl (l' := #[.val (.int i0), .val (.int q0), .val (.ref st), .val (.ref b3), .val (.int (own_dg q0)), .val (.int (1 : Int32)), .val (.int (q0 % (10 : Int32))), .val (.int (0 : Int32)), .val (.int (115 : Int32)), .val (.int (116 : Int32))]) rfl ?_
        show Steps p.tables e below (T57.setTop (mkF m 286 #[.val (.int i0), .val (.int q0), .val (.ref st), .val (.ref b3), .val (.int (own_dg q0)), .val (.int (1 : Int32)), .val (.int (q0 % (10 : Int32))), .val (.int (0 : Int32)), .val (.int (115 : Int32)), .val (.int (116 : Int32))] [])) t
        refine XS.goto X57.here hx rfl (pc0 := 286) (pc' := 331) rfl (hb hby at_286) (by decide) (by decide) ?_
        show Steps p.tables e below (T57.setTop (mkF m 331 #[.val (.int i0), .val (.int q0), .val (.ref st), .val (.ref b3), .val (.int (own_dg q0)), .val (.int (1 : Int32)), .val (.int (q0 % (10 : Int32))), .val (.int (0 : Int32)), .val (.int (115 : Int32)), .val (.int (116 : Int32))] [])) t
        refine XS.iload X57.here hx rfl (hb hby at_331) rfl ?_
        show Steps p.tables e below (T57.setTop (mkF m 333 #[.val (.int i0), .val (.int q0), .val (.ref st), .val (.ref b3), .val (.int (own_dg q0)), .val (.int (1 : Int32)), .val (.int (q0 % (10 : Int32))), .val (.int (0 : Int32)), .val (.int (115 : Int32)), .val (.int (116 : Int32))] [(.int (1 : Int32))])) t
        refine XS.ifNo X57.here hx rfl (hb hby at_333) rfl ((if0 _ _).trans (feq (by decide : ¬ ((1 : Int32) = (0 : Int32)))).1) ?_
        show Steps p.tables e below (T57.setTop (mkF m 336 #[.val (.int i0), .val (.int q0), .val (.ref st), .val (.ref b3), .val (.int (own_dg q0)), .val (.int (1 : Int32)), .val (.int (q0 % (10 : Int32))), .val (.int (0 : Int32)), .val (.int (115 : Int32)), .val (.int (116 : Int32))] [])) t
        refine XS.aloadN X57.here hx rfl (hb hby at_336) rfl rfl ?_
        show Steps p.tables e below (T57.setTop (mkF m 337 #[.val (.int i0), .val (.int q0), .val (.ref st), .val (.ref b3), .val (.int (own_dg q0)), .val (.int (1 : Int32)), .val (.int (q0 % (10 : Int32))), .val (.int (0 : Int32)), .val (.int (115 : Int32)), .val (.int (116 : Int32))] [(.ref st)])) t
        refine XS.iload X57.here hx rfl (hb hby at_337) rfl ?_
        exact k
      obtain ⟨cq69, kq69, q69a, q69b, q69c⟩ := isOf hZ e57 (((((((((((B1.ext E3).wr W7).wr W10).wr W13).wr W16).wr W19).wr W22).wr W25).wr W28).wr W31).wr W34)
      obtain ⟨_, _, ⟨T69, L69, k69, n69⟩, -, X69, ⟨Lc69, hQ69, l69, y69, z69⟩, st69⟩ := X57.virtualBack hx (y := (⟨"java/lang/String", "charAt", "(I)C"⟩ : MethodName)) (z := (⟨"java/lang/String", "charAt", "(I)C"⟩ : MethodName)) hown (mvT hZ (hw _ (List.mem_of_getElem? (i := 166) rfl))) (mvT hZ (hw _ (List.mem_of_getElem? (i := 167) rfl))) (notFace_of_selects (args := #[]) (mvT hZ (hw _ (List.mem_of_getElem? (i := 169) rfl)))) (mvT hZ (hw _ (List.mem_of_getElem? (i := 169) rfl))) (mvT hZ (hw _ (List.mem_of_getElem? (i := 168) rfl))) (by decide) (backOf (W := 0) (rm_cha l Z a0 hw [] st cs sv ks ((own_dg q0) + (2 : Int32)) (own_txt q0 (own_dn q0) (own_s0 q0) (own_s1 q0)) (own_dg q0) (own_s0 q0) vv h34 n0 (Nat.le_trans Z0 K34.1) (((((((((((B1.ext E3).wr W7).wr W10).wr W13).wr W16).wr W19).wr W22).wr W25).wr W28).wr W31).wr W34) (((((((((((B3.ext E3).other W7 (Or.inl (Nat.ne_of_lt (Nat.lt_of_lt_of_le B1.lt (Nat.le_of_eq g3.symm))))).other W10 (Or.inl (Nat.ne_of_lt (Nat.lt_of_lt_of_le B1.lt (Nat.le_of_eq g3.symm))))).other W13 (Or.inl (Nat.ne_of_lt (Nat.lt_of_lt_of_le B1.lt (Nat.le_of_eq g3.symm))))).other W16 (Or.inl (Nat.ne_of_lt (Nat.lt_of_lt_of_le B1.lt (Nat.le_of_eq g3.symm))))).other W19 (Or.inl (Nat.ne_of_lt (Nat.lt_of_lt_of_le B1.lt (Nat.le_of_eq g3.symm))))).other W22 (Or.inl (Nat.ne_of_lt (Nat.lt_of_lt_of_le B1.lt (Nat.le_of_eq g3.symm))))).other W25 (Or.inl (Nat.ne_of_lt (Nat.lt_of_lt_of_le B1.lt (Nat.le_of_eq g3.symm))))).other W28 (Or.inl (Nat.ne_of_lt (Nat.lt_of_lt_of_le B1.lt (Nat.le_of_eq g3.symm))))).other W31 (Or.inl (Nat.ne_of_lt (Nat.lt_of_lt_of_le B1.lt (Nat.le_of_eq g3.symm))))).other W34 (Or.inl (Nat.ne_of_lt (Nat.lt_of_lt_of_le B1.lt (Nat.le_of_eq g3.symm))))) (((((((((((B2.ext E3).other W7 (Or.inl (Nat.ne_of_lt (Nat.lt_of_lt_of_le B1.lt (Nat.le_of_eq g3.symm))))).other W10 (Or.inl (Nat.ne_of_lt (Nat.lt_of_lt_of_le B1.lt (Nat.le_of_eq g3.symm))))).other W13 (Or.inl (Nat.ne_of_lt (Nat.lt_of_lt_of_le B1.lt (Nat.le_of_eq g3.symm))))).other W16 (Or.inl (Nat.ne_of_lt (Nat.lt_of_lt_of_le B1.lt (Nat.le_of_eq g3.symm))))).other W19 (Or.inl (Nat.ne_of_lt (Nat.lt_of_lt_of_le B1.lt (Nat.le_of_eq g3.symm))))).other W22 (Or.inl (Nat.ne_of_lt (Nat.lt_of_lt_of_le B1.lt (Nat.le_of_eq g3.symm))))).other W25 (Or.inl (Nat.ne_of_lt (Nat.lt_of_lt_of_le B1.lt (Nat.le_of_eq g3.symm))))).other W28 (Or.inl (Nat.ne_of_lt (Nat.lt_of_lt_of_le B1.lt (Nat.le_of_eq g3.symm))))).other W31 (Or.inl (Nat.ne_of_lt (Nat.lt_of_lt_of_le B1.lt (Nat.le_of_eq g3.symm))))).other W34 (Or.inl (Nat.ne_of_lt (Nat.lt_of_lt_of_le B1.lt (Nat.le_of_eq g3.symm))))) ((((((((((((own_sta_keep pS KcJ all0).ext E3).wr W7).wr W10).wr W13).wr W16).wr W19).wr W22).wr W25).wr W28).wr W31).wr W34) pcs (((((((((((B4.ext E3).other W7 (Nat.ne_of_lt (Nat.lt_of_lt_of_le B4.lt (Nat.le_of_eq g3.symm)))).other W10 (Nat.ne_of_lt (Nat.lt_of_lt_of_le B4.lt (Nat.le_of_eq g3.symm)))).other W13 (Nat.ne_of_lt (Nat.lt_of_lt_of_le B4.lt (Nat.le_of_eq g3.symm)))).other W16 (Nat.ne_of_lt (Nat.lt_of_lt_of_le B4.lt (Nat.le_of_eq g3.symm)))).other W19 (Nat.ne_of_lt (Nat.lt_of_lt_of_le B4.lt (Nat.le_of_eq g3.symm)))).other W22 (Nat.ne_of_lt (Nat.lt_of_lt_of_le B4.lt (Nat.le_of_eq g3.symm)))).other W25 (Nat.ne_of_lt (Nat.lt_of_lt_of_le B4.lt (Nat.le_of_eq g3.symm)))).other W28 (Nat.ne_of_lt (Nat.lt_of_lt_of_le B4.lt (Nat.le_of_eq g3.symm)))).other W31 (Nat.ne_of_lt (Nat.lt_of_lt_of_le B4.lt (Nat.le_of_eq g3.symm)))).other W34 (Nat.ne_of_lt (Nat.lt_of_lt_of_le B4.lt (Nat.le_of_eq g3.symm)))) (own_at0 hn) (own_txt_t0 _ _ _ _) (own_s_asc q0).1 pvv ((((((((((((own_sta_keep pSF KcJ all0).ext E3).wr W7).wr W10).wr W13).wr W16).wr W19).wr W22).wr W25).wr W28).wr W31).wr W34)) hZ (hw _ (List.mem_of_getElem? (i := 170) rfl)) (hw _ (List.mem_of_getElem? (i := 6) rfl)) (by decide) (by decide)) q69a q69c (g := (mkF m 339 #[.val (.int i0), .val (.int q0), .val (.ref st), .val (.ref b3), .val (.int (own_dg q0)), .val (.int (1 : Int32)), .val (.int (q0 % (10 : Int32))), .val (.int (0 : Int32)), .val (.int (115 : Int32)), .val (.int (116 : Int32))] [(.int (own_dg q0)), (.ref st)])) rfl (by rw [hml]; rfl) (Steps.refl _) (argsL := [(.int (own_dg q0))]) (rest := []) (lenOf pd_19 rfl) rfl (by show 2 * 0 + _ ≤ _; exact Nat.le_of_eq rfl) (hb hby at_339) (fun _ _ => ⟨rfl, e57, (by decide : 7 + 0 ≤ _), (by decide : 58 + 0 ≤ _)⟩)
      dsimp only [Pt.U, Pt.locs, Pt.cells, Pt.slots] at X69 l69 y69 z69 st69 hQ69
      obtain ⟨rfl, N69q, e69⟩ := hQ69
      have N69 := Fr.app N57 N69q
      have X69 : Stand p l e _ _ m _ below meth c T69 _ 7 58 := own_fold X69 l69 y69 z69
      have R72 : Rch p e below (s₁.setTop (entryFrame m #[(.int i0)] maxLocals)) T69 (mkF m 352 #[.val (.int i0), .val (.int q0), .val (.ref st), .val (.ref b3), .val (.int (own_dg q0)), .val (.int (1 : Int32)), .val (.int (q0 % (10 : Int32))), .val (.int (0 : Int32)), .val (.int (115 : Int32)), .val (.int (116 : Int32))] [(.int ((own_dg q0) + (1 : Int32))), (.ref st)]) := fun t k => by
        refine R70 t ?_
        refine st69.trans ?_
        show Steps p.tables e below (T69.setTop (mkF m 342 #[.val (.int i0), .val (.int q0), .val (.ref st), .val (.ref b3), .val (.int (own_dg q0)), .val (.int (1 : Int32)), .val (.int (q0 % (10 : Int32))), .val (.int (0 : Int32)), .val (.int (115 : Int32)), .val (.int (116 : Int32))] [(.int (own_s0 q0))])) t
        refine XS.iload X69.here hx rfl (hb hby at_342) rfl ?_
        show Steps p.tables e below (T69.setTop (mkF m 344 #[.val (.int i0), .val (.int q0), .val (.ref st), .val (.ref b3), .val (.int (own_dg q0)), .val (.int (1 : Int32)), .val (.int (q0 % (10 : Int32))), .val (.int (0 : Int32)), .val (.int (115 : Int32)), .val (.int (116 : Int32))] [(.int (115 : Int32)), (.int (own_s0 q0))])) t
        refine XS.icmpNo X69.here hx rfl (hb hby at_344) rfl (teq (((own_sfx hn).2 hc246_60).1 hc275_67).1).2 ?_
        show Steps p.tables e below (T69.setTop (mkF m 347 #[.val (.int i0), .val (.int q0), .val (.ref st), .val (.ref b3), .val (.int (own_dg q0)), .val (.int (1 : Int32)), .val (.int (q0 % (10 : Int32))), .val (.int (0 : Int32)), .val (.int (115 : Int32)), .val (.int (116 : Int32))] [])) t
        refine XS.aloadN X69.here hx rfl (hb hby at_347) rfl rfl ?_
        show Steps p.tables e below (T69.setTop (mkF m 348 #[.val (.int i0), .val (.int q0), .val (.ref st), .val (.ref b3), .val (.int (own_dg q0)), .val (.int (1 : Int32)), .val (.int (q0 % (10 : Int32))), .val (.int (0 : Int32)), .val (.int (115 : Int32)), .val (.int (116 : Int32))] [(.ref st)])) t
        refine XS.iload X69.here hx rfl (hb hby at_348) rfl ?_
        show Steps p.tables e below (T69.setTop (mkF m 350 #[.val (.int i0), .val (.int q0), .val (.ref st), .val (.ref b3), .val (.int (own_dg q0)), .val (.int (1 : Int32)), .val (.int (q0 % (10 : Int32))), .val (.int (0 : Int32)), .val (.int (115 : Int32)), .val (.int (116 : Int32))] [(.int (own_dg q0)), (.ref st)])) t
        refine XS.iconst X69.here hx rfl (hb hby at_350) ?_
        show Steps p.tables e below (T69.setTop (mkF m 351 #[.val (.int i0), .val (.int q0), .val (.ref st), .val (.ref b3), .val (.int (own_dg q0)), .val (.int (1 : Int32)), .val (.int (q0 % (10 : Int32))), .val (.int (0 : Int32)), .val (.int (115 : Int32)), .val (.int (116 : Int32))] [(.int (1 : Int32)), (.int (own_dg q0)), (.ref st)])) t
        refine XS.iadd X69.here hx rfl (hb hby at_351) rfl ?_
        exact k
      obtain ⟨cq71, kq71, q71a, q71b, q71c⟩ := isOf hZ e69 (((((((((((B1.ext E3).wr W7).wr W10).wr W13).wr W16).wr W19).wr W22).wr W25).wr W28).wr W31).wr W34)
      obtain ⟨_, _, ⟨T71, L71, k71, n71⟩, -, X71, ⟨Lc71, hQ71, l71, y71, z71⟩, st71⟩ := X69.virtualBack hx (y := (⟨"java/lang/String", "charAt", "(I)C"⟩ : MethodName)) (z := (⟨"java/lang/String", "charAt", "(I)C"⟩ : MethodName)) hown (mvT hZ (hw _ (List.mem_of_getElem? (i := 166) rfl))) (mvT hZ (hw _ (List.mem_of_getElem? (i := 167) rfl))) (notFace_of_selects (args := #[]) (mvT hZ (hw _ (List.mem_of_getElem? (i := 169) rfl)))) (mvT hZ (hw _ (List.mem_of_getElem? (i := 169) rfl))) (mvT hZ (hw _ (List.mem_of_getElem? (i := 168) rfl))) (by decide) (backOf (W := 0) (rm_cha l Z a0 hw [] st cs sv ks ((own_dg q0) + (2 : Int32)) (own_txt q0 (own_dn q0) (own_s0 q0) (own_s1 q0)) ((own_dg q0) + (1 : Int32)) (own_s1 q0) vv h34 n0 (Nat.le_trans Z0 K34.1) (((((((((((B1.ext E3).wr W7).wr W10).wr W13).wr W16).wr W19).wr W22).wr W25).wr W28).wr W31).wr W34) (((((((((((B3.ext E3).other W7 (Or.inl (Nat.ne_of_lt (Nat.lt_of_lt_of_le B1.lt (Nat.le_of_eq g3.symm))))).other W10 (Or.inl (Nat.ne_of_lt (Nat.lt_of_lt_of_le B1.lt (Nat.le_of_eq g3.symm))))).other W13 (Or.inl (Nat.ne_of_lt (Nat.lt_of_lt_of_le B1.lt (Nat.le_of_eq g3.symm))))).other W16 (Or.inl (Nat.ne_of_lt (Nat.lt_of_lt_of_le B1.lt (Nat.le_of_eq g3.symm))))).other W19 (Or.inl (Nat.ne_of_lt (Nat.lt_of_lt_of_le B1.lt (Nat.le_of_eq g3.symm))))).other W22 (Or.inl (Nat.ne_of_lt (Nat.lt_of_lt_of_le B1.lt (Nat.le_of_eq g3.symm))))).other W25 (Or.inl (Nat.ne_of_lt (Nat.lt_of_lt_of_le B1.lt (Nat.le_of_eq g3.symm))))).other W28 (Or.inl (Nat.ne_of_lt (Nat.lt_of_lt_of_le B1.lt (Nat.le_of_eq g3.symm))))).other W31 (Or.inl (Nat.ne_of_lt (Nat.lt_of_lt_of_le B1.lt (Nat.le_of_eq g3.symm))))).other W34 (Or.inl (Nat.ne_of_lt (Nat.lt_of_lt_of_le B1.lt (Nat.le_of_eq g3.symm))))) (((((((((((B2.ext E3).other W7 (Or.inl (Nat.ne_of_lt (Nat.lt_of_lt_of_le B1.lt (Nat.le_of_eq g3.symm))))).other W10 (Or.inl (Nat.ne_of_lt (Nat.lt_of_lt_of_le B1.lt (Nat.le_of_eq g3.symm))))).other W13 (Or.inl (Nat.ne_of_lt (Nat.lt_of_lt_of_le B1.lt (Nat.le_of_eq g3.symm))))).other W16 (Or.inl (Nat.ne_of_lt (Nat.lt_of_lt_of_le B1.lt (Nat.le_of_eq g3.symm))))).other W19 (Or.inl (Nat.ne_of_lt (Nat.lt_of_lt_of_le B1.lt (Nat.le_of_eq g3.symm))))).other W22 (Or.inl (Nat.ne_of_lt (Nat.lt_of_lt_of_le B1.lt (Nat.le_of_eq g3.symm))))).other W25 (Or.inl (Nat.ne_of_lt (Nat.lt_of_lt_of_le B1.lt (Nat.le_of_eq g3.symm))))).other W28 (Or.inl (Nat.ne_of_lt (Nat.lt_of_lt_of_le B1.lt (Nat.le_of_eq g3.symm))))).other W31 (Or.inl (Nat.ne_of_lt (Nat.lt_of_lt_of_le B1.lt (Nat.le_of_eq g3.symm))))).other W34 (Or.inl (Nat.ne_of_lt (Nat.lt_of_lt_of_le B1.lt (Nat.le_of_eq g3.symm))))) ((((((((((((own_sta_keep pS KcJ all0).ext E3).wr W7).wr W10).wr W13).wr W16).wr W19).wr W22).wr W25).wr W28).wr W31).wr W34) pcs (((((((((((B4.ext E3).other W7 (Nat.ne_of_lt (Nat.lt_of_lt_of_le B4.lt (Nat.le_of_eq g3.symm)))).other W10 (Nat.ne_of_lt (Nat.lt_of_lt_of_le B4.lt (Nat.le_of_eq g3.symm)))).other W13 (Nat.ne_of_lt (Nat.lt_of_lt_of_le B4.lt (Nat.le_of_eq g3.symm)))).other W16 (Nat.ne_of_lt (Nat.lt_of_lt_of_le B4.lt (Nat.le_of_eq g3.symm)))).other W19 (Nat.ne_of_lt (Nat.lt_of_lt_of_le B4.lt (Nat.le_of_eq g3.symm)))).other W22 (Nat.ne_of_lt (Nat.lt_of_lt_of_le B4.lt (Nat.le_of_eq g3.symm)))).other W25 (Nat.ne_of_lt (Nat.lt_of_lt_of_le B4.lt (Nat.le_of_eq g3.symm)))).other W28 (Nat.ne_of_lt (Nat.lt_of_lt_of_le B4.lt (Nat.le_of_eq g3.symm)))).other W31 (Nat.ne_of_lt (Nat.lt_of_lt_of_le B4.lt (Nat.le_of_eq g3.symm)))).other W34 (Nat.ne_of_lt (Nat.lt_of_lt_of_le B4.lt (Nat.le_of_eq g3.symm)))) (own_at1 hn).1 (by rw [(own_at1 hn).2]; exact own_txt_t1 _ _ _ _) (own_s_asc q0).2 pvv ((((((((((((own_sta_keep pSF KcJ all0).ext E3).wr W7).wr W10).wr W13).wr W16).wr W19).wr W22).wr W25).wr W28).wr W31).wr W34)) hZ (hw _ (List.mem_of_getElem? (i := 170) rfl)) (hw _ (List.mem_of_getElem? (i := 6) rfl)) (by decide) (by decide)) q71a q71c (g := (mkF m 352 #[.val (.int i0), .val (.int q0), .val (.ref st), .val (.ref b3), .val (.int (own_dg q0)), .val (.int (1 : Int32)), .val (.int (q0 % (10 : Int32))), .val (.int (0 : Int32)), .val (.int (115 : Int32)), .val (.int (116 : Int32))] [(.int ((own_dg q0) + (1 : Int32))), (.ref st)])) rfl (by rw [hml]; rfl) (Steps.refl _) (argsL := [(.int ((own_dg q0) + (1 : Int32)))]) (rest := []) (lenOf pd_19 rfl) rfl (by show 2 * 0 + _ ≤ _; exact Nat.le_of_eq rfl) (hb hby at_352) (fun _ _ => ⟨rfl, e69, (by decide : 7 + 0 ≤ _), (by decide : 58 + 0 ≤ _)⟩)
      dsimp only [Pt.U, Pt.locs, Pt.cells, Pt.slots] at X71 l71 y71 z71 st71 hQ71
      obtain ⟨rfl, N71q, e71⟩ := hQ71
      have N71 := Fr.app N69 N71q
      have X71 : Stand p l e _ _ m _ below meth c T71 _ 7 58 := own_fold X71 l71 y71 z71
      have R73 : Rch p e below (s₁.setTop (entryFrame m #[(.int i0)] maxLocals)) T71 (mkF m 365 #[.val (.int i0), .val (.int q0), .val (.ref st), .val (.ref b3), .val (.int (own_dg q0)), .val (.int (1 : Int32)), .val (.int (q0 % (10 : Int32))), .val (.int (0 : Int32)), .val (.int (115 : Int32)), .val (.int (116 : Int32))] [(.int (1 : Int32))]) := fun t k => by
        refine R72 t ?_
        refine st71.trans ?_
        show Steps p.tables e below (T71.setTop (mkF m 355 #[.val (.int i0), .val (.int q0), .val (.ref st), .val (.ref b3), .val (.int (own_dg q0)), .val (.int (1 : Int32)), .val (.int (q0 % (10 : Int32))), .val (.int (0 : Int32)), .val (.int (115 : Int32)), .val (.int (116 : Int32))] [(.int (own_s1 q0))])) t
        refine XS.iload X71.here hx rfl (hb hby at_355) rfl ?_
        show Steps p.tables e below (T71.setTop (mkF m 357 #[.val (.int i0), .val (.int q0), .val (.ref st), .val (.ref b3), .val (.int (own_dg q0)), .val (.int (1 : Int32)), .val (.int (q0 % (10 : Int32))), .val (.int (0 : Int32)), .val (.int (115 : Int32)), .val (.int (116 : Int32))] [(.int (116 : Int32)), (.int (own_s1 q0))])) t
        refine XS.icmpNo X71.here hx rfl (hb hby at_357) rfl (teq (((own_sfx hn).2 hc246_60).1 hc275_67).2).2 ?_
        show Steps p.tables e below (T71.setTop (mkF m 360 #[.val (.int i0), .val (.int q0), .val (.ref st), .val (.ref b3), .val (.int (own_dg q0)), .val (.int (1 : Int32)), .val (.int (q0 % (10 : Int32))), .val (.int (0 : Int32)), .val (.int (115 : Int32)), .val (.int (116 : Int32))] [])) t
        refine XS.iconst X71.here hx rfl (hb hby at_360) ?_
        show Steps p.tables e below (T71.setTop (mkF m 361 #[.val (.int i0), .val (.int q0), .val (.ref st), .val (.ref b3), .val (.int (own_dg q0)), .val (.int (1 : Int32)), .val (.int (q0 % (10 : Int32))), .val (.int (0 : Int32)), .val (.int (115 : Int32)), .val (.int (116 : Int32))] [(.int (1 : Int32))])) t
        refine XS.goto X71.here hx rfl (pc0 := 361) (pc' := 365) rfl (hb hby at_361) (by decide) (by decide) ?_
        exact k
      obtain ⟨fs, hr, hrun, hended, hRW⟩ := Stand.leaveW (s := s) X71 SJ (by rw [e71]; exact KK34.1) (v := some (.int (1 : Int32))) (fun h => by rw [Bd.returns] at h; cases h) (BodyLoose.notSynchronized Bd)
      refine ⟨_, _, R73 _ ?_, hrun, hended, _, _, rfl, ?_, ?_, ⟨hRW.1, hRW.2.1, hRW.2.2.1, hRW.2.2.2.mono (by decide) (by decide)⟩⟩
      · exact retN X71 hx (t := .boolean) Bd.returns (by simp) (hb hby at_365) hr
      · show Q_rm_law Z i0 cs vv ta tb ka kt h0 n0 _ T71.heap _
        rw [e71]
        exact ⟨rfl, N71, K34⟩
      · show CHr Z consts_1 s.vm s.heap T71.vm T71.heap
        rw [e71]
        rw [hh]
        exact (CJ.trans (CHr.keep KK34 own_sf0 CJ.1)).trans (CHv.at X71 hZ hEL (CHr.keep KK34 own_sf0 CJ.1).1)
    · have R75 : Rch p e below (s₁.setTop (entryFrame m #[(.int i0)] maxLocals)) T57 (mkF m 292 #[.val (.int i0), .val (.int q0), .val (.ref st), .val (.ref b3), .val (.int (own_dg q0)), .val (.int (1 : Int32)), .val (.int (q0 % (10 : Int32))), .val (.int (0 : Int32)), .unset, .unset] [(.int (2 : Int32)), (.int (q0 % (10 : Int32)))]) := fun t k => by
        refine R68 t ?_
        refine XS.icmpYes X57.here hx rfl (pc0 := 275) (pc' := 289) rfl (hb hby at_275) rfl (feq hc275_67).2 (by decide) (by decide) ?_
        show Steps p.tables e below (T57.setTop (mkF m 289 #[.val (.int i0), .val (.int q0), .val (.ref st), .val (.ref b3), .val (.int (own_dg q0)), .val (.int (1 : Int32)), .val (.int (q0 % (10 : Int32))), .val (.int (0 : Int32)), .unset, .unset] [])) t
        refine XS.iload X57.here hx rfl (hb hby at_289) rfl ?_
        show Steps p.tables e below (T57.setTop (mkF m 291 #[.val (.int i0), .val (.int q0), .val (.ref st), .val (.ref b3), .val (.int (own_dg q0)), .val (.int (1 : Int32)), .val (.int (q0 % (10 : Int32))), .val (.int (0 : Int32)), .unset, .unset] [(.int (q0 % (10 : Int32)))])) t
        refine XS.iconst X57.here hx rfl (hb hby at_291) ?_
        exact k
      by_cases hc292_74 : (q0 % (10 : Int32)) = (2 : Int32)
      · have R77 : Rch p e below (s₁.setTop (entryFrame m #[(.int i0)] maxLocals)) T57 (mkF m 339 #[.val (.int i0), .val (.int q0), .val (.ref st), .val (.ref b3), .val (.int (own_dg q0)), .val (.int (1 : Int32)), .val (.int (q0 % (10 : Int32))), .val (.int (0 : Int32)), .val (.int (110 : Int32)), .val (.int (100 : Int32))] [(.int (own_dg q0)), (.ref st)]) := fun t k => by
          refine R75 t ?_
          refine XS.icmpNo X57.here hx rfl (hb hby at_292) rfl (teq hc292_74).2 ?_
          show Steps p.tables e below (T57.setTop (mkF m 295 #[.val (.int i0), .val (.int q0), .val (.ref st), .val (.ref b3), .val (.int (own_dg q0)), .val (.int (1 : Int32)), .val (.int (q0 % (10 : Int32))), .val (.int (0 : Int32)), .unset, .unset] [])) t
          refine XS.bipush X57.here hx rfl (hb hby at_295) ?_
          show Steps p.tables e below (T57.setTop (mkF m 297 #[.val (.int i0), .val (.int q0), .val (.ref st), .val (.ref b3), .val (.int (own_dg q0)), .val (.int (1 : Int32)), .val (.int (q0 % (10 : Int32))), .val (.int (0 : Int32)), .unset, .unset] [(.int (110 : Int32))])) t
          refine XS.istore X57.here hx rfl (hb hby at_297) rfl (l' := #[.val (.int i0), .val (.int q0), .val (.ref st), .val (.ref b3), .val (.int (own_dg q0)), .val (.int (1 : Int32)), .val (.int (q0 % (10 : Int32))), .val (.int (0 : Int32)), .val (.int (110 : Int32)), .unset]) rfl ?_
          show Steps p.tables e below (T57.setTop (mkF m 299 #[.val (.int i0), .val (.int q0), .val (.ref st), .val (.ref b3), .val (.int (own_dg q0)), .val (.int (1 : Int32)), .val (.int (q0 % (10 : Int32))), .val (.int (0 : Int32)), .val (.int (110 : Int32)), .unset] [])) t
          refine XS.bipush X57.here hx rfl (hb hby at_299) ?_
          show Steps p.tables e below (T57.setTop (mkF m 301 #[.val (.int i0), .val (.int q0), .val (.ref st), .val (.ref b3), .val (.int (own_dg q0)), .val (.int (1 : Int32)), .val (.int (q0 % (10 : Int32))), .val (.int (0 : Int32)), .val (.int (110 : Int32)), .unset] [(.int (100 : Int32))])) t
          refine XS.istore X57.here hx rfl (hb hby at_301) rfl (l' := #[.val (.int i0), .val (.int q0), .val (.ref st), .val (.ref b3), .val (.int (own_dg q0)), .val (.int (1 : Int32)), .val (.int (q0 % (10 : Int32))), .val (.int (0 : Int32)), .val (.int (110 : Int32)), .val (.int (100 : Int32))]) rfl ?_
          show Steps p.tables e below (T57.setTop (mkF m 303 #[.val (.int i0), .val (.int q0), .val (.ref st), .val (.ref b3), .val (.int (own_dg q0)), .val (.int (1 : Int32)), .val (.int (q0 % (10 : Int32))), .val (.int (0 : Int32)), .val (.int (110 : Int32)), .val (.int (100 : Int32))] [])) t
          refine XS.goto X57.here hx rfl (pc0 := 303) (pc' := 331) rfl (hb hby at_303) (by decide) (by decide) ?_
          show Steps p.tables e below (T57.setTop (mkF m 331 #[.val (.int i0), .val (.int q0), .val (.ref st), .val (.ref b3), .val (.int (own_dg q0)), .val (.int (1 : Int32)), .val (.int (q0 % (10 : Int32))), .val (.int (0 : Int32)), .val (.int (110 : Int32)), .val (.int (100 : Int32))] [])) t
          refine XS.iload X57.here hx rfl (hb hby at_331) rfl ?_
          show Steps p.tables e below (T57.setTop (mkF m 333 #[.val (.int i0), .val (.int q0), .val (.ref st), .val (.ref b3), .val (.int (own_dg q0)), .val (.int (1 : Int32)), .val (.int (q0 % (10 : Int32))), .val (.int (0 : Int32)), .val (.int (110 : Int32)), .val (.int (100 : Int32))] [(.int (1 : Int32))])) t
          refine XS.ifNo X57.here hx rfl (hb hby at_333) rfl ((if0 _ _).trans (feq (by decide : ¬ ((1 : Int32) = (0 : Int32)))).1) ?_
          show Steps p.tables e below (T57.setTop (mkF m 336 #[.val (.int i0), .val (.int q0), .val (.ref st), .val (.ref b3), .val (.int (own_dg q0)), .val (.int (1 : Int32)), .val (.int (q0 % (10 : Int32))), .val (.int (0 : Int32)), .val (.int (110 : Int32)), .val (.int (100 : Int32))] [])) t
          refine XS.aloadN X57.here hx rfl (hb hby at_336) rfl rfl ?_
          show Steps p.tables e below (T57.setTop (mkF m 337 #[.val (.int i0), .val (.int q0), .val (.ref st), .val (.ref b3), .val (.int (own_dg q0)), .val (.int (1 : Int32)), .val (.int (q0 % (10 : Int32))), .val (.int (0 : Int32)), .val (.int (110 : Int32)), .val (.int (100 : Int32))] [(.ref st)])) t
          refine XS.iload X57.here hx rfl (hb hby at_337) rfl ?_
          exact k
        obtain ⟨cq76, kq76, q76a, q76b, q76c⟩ := isOf hZ e57 (((((((((((B1.ext E3).wr W7).wr W10).wr W13).wr W16).wr W19).wr W22).wr W25).wr W28).wr W31).wr W34)
        obtain ⟨_, _, ⟨T76, L76, k76, n76⟩, -, X76, ⟨Lc76, hQ76, l76, y76, z76⟩, st76⟩ := X57.virtualBack hx (y := (⟨"java/lang/String", "charAt", "(I)C"⟩ : MethodName)) (z := (⟨"java/lang/String", "charAt", "(I)C"⟩ : MethodName)) hown (mvT hZ (hw _ (List.mem_of_getElem? (i := 166) rfl))) (mvT hZ (hw _ (List.mem_of_getElem? (i := 167) rfl))) (notFace_of_selects (args := #[]) (mvT hZ (hw _ (List.mem_of_getElem? (i := 169) rfl)))) (mvT hZ (hw _ (List.mem_of_getElem? (i := 169) rfl))) (mvT hZ (hw _ (List.mem_of_getElem? (i := 168) rfl))) (by decide) (backOf (W := 0) (rm_cha l Z a0 hw [] st cs sv ks ((own_dg q0) + (2 : Int32)) (own_txt q0 (own_dn q0) (own_s0 q0) (own_s1 q0)) (own_dg q0) (own_s0 q0) vv h34 n0 (Nat.le_trans Z0 K34.1) (((((((((((B1.ext E3).wr W7).wr W10).wr W13).wr W16).wr W19).wr W22).wr W25).wr W28).wr W31).wr W34) (((((((((((B3.ext E3).other W7 (Or.inl (Nat.ne_of_lt (Nat.lt_of_lt_of_le B1.lt (Nat.le_of_eq g3.symm))))).other W10 (Or.inl (Nat.ne_of_lt (Nat.lt_of_lt_of_le B1.lt (Nat.le_of_eq g3.symm))))).other W13 (Or.inl (Nat.ne_of_lt (Nat.lt_of_lt_of_le B1.lt (Nat.le_of_eq g3.symm))))).other W16 (Or.inl (Nat.ne_of_lt (Nat.lt_of_lt_of_le B1.lt (Nat.le_of_eq g3.symm))))).other W19 (Or.inl (Nat.ne_of_lt (Nat.lt_of_lt_of_le B1.lt (Nat.le_of_eq g3.symm))))).other W22 (Or.inl (Nat.ne_of_lt (Nat.lt_of_lt_of_le B1.lt (Nat.le_of_eq g3.symm))))).other W25 (Or.inl (Nat.ne_of_lt (Nat.lt_of_lt_of_le B1.lt (Nat.le_of_eq g3.symm))))).other W28 (Or.inl (Nat.ne_of_lt (Nat.lt_of_lt_of_le B1.lt (Nat.le_of_eq g3.symm))))).other W31 (Or.inl (Nat.ne_of_lt (Nat.lt_of_lt_of_le B1.lt (Nat.le_of_eq g3.symm))))).other W34 (Or.inl (Nat.ne_of_lt (Nat.lt_of_lt_of_le B1.lt (Nat.le_of_eq g3.symm))))) (((((((((((B2.ext E3).other W7 (Or.inl (Nat.ne_of_lt (Nat.lt_of_lt_of_le B1.lt (Nat.le_of_eq g3.symm))))).other W10 (Or.inl (Nat.ne_of_lt (Nat.lt_of_lt_of_le B1.lt (Nat.le_of_eq g3.symm))))).other W13 (Or.inl (Nat.ne_of_lt (Nat.lt_of_lt_of_le B1.lt (Nat.le_of_eq g3.symm))))).other W16 (Or.inl (Nat.ne_of_lt (Nat.lt_of_lt_of_le B1.lt (Nat.le_of_eq g3.symm))))).other W19 (Or.inl (Nat.ne_of_lt (Nat.lt_of_lt_of_le B1.lt (Nat.le_of_eq g3.symm))))).other W22 (Or.inl (Nat.ne_of_lt (Nat.lt_of_lt_of_le B1.lt (Nat.le_of_eq g3.symm))))).other W25 (Or.inl (Nat.ne_of_lt (Nat.lt_of_lt_of_le B1.lt (Nat.le_of_eq g3.symm))))).other W28 (Or.inl (Nat.ne_of_lt (Nat.lt_of_lt_of_le B1.lt (Nat.le_of_eq g3.symm))))).other W31 (Or.inl (Nat.ne_of_lt (Nat.lt_of_lt_of_le B1.lt (Nat.le_of_eq g3.symm))))).other W34 (Or.inl (Nat.ne_of_lt (Nat.lt_of_lt_of_le B1.lt (Nat.le_of_eq g3.symm))))) ((((((((((((own_sta_keep pS KcJ all0).ext E3).wr W7).wr W10).wr W13).wr W16).wr W19).wr W22).wr W25).wr W28).wr W31).wr W34) pcs (((((((((((B4.ext E3).other W7 (Nat.ne_of_lt (Nat.lt_of_lt_of_le B4.lt (Nat.le_of_eq g3.symm)))).other W10 (Nat.ne_of_lt (Nat.lt_of_lt_of_le B4.lt (Nat.le_of_eq g3.symm)))).other W13 (Nat.ne_of_lt (Nat.lt_of_lt_of_le B4.lt (Nat.le_of_eq g3.symm)))).other W16 (Nat.ne_of_lt (Nat.lt_of_lt_of_le B4.lt (Nat.le_of_eq g3.symm)))).other W19 (Nat.ne_of_lt (Nat.lt_of_lt_of_le B4.lt (Nat.le_of_eq g3.symm)))).other W22 (Nat.ne_of_lt (Nat.lt_of_lt_of_le B4.lt (Nat.le_of_eq g3.symm)))).other W25 (Nat.ne_of_lt (Nat.lt_of_lt_of_le B4.lt (Nat.le_of_eq g3.symm)))).other W28 (Nat.ne_of_lt (Nat.lt_of_lt_of_le B4.lt (Nat.le_of_eq g3.symm)))).other W31 (Nat.ne_of_lt (Nat.lt_of_lt_of_le B4.lt (Nat.le_of_eq g3.symm)))).other W34 (Nat.ne_of_lt (Nat.lt_of_lt_of_le B4.lt (Nat.le_of_eq g3.symm)))) (own_at0 hn) (own_txt_t0 _ _ _ _) (own_s_asc q0).1 pvv ((((((((((((own_sta_keep pSF KcJ all0).ext E3).wr W7).wr W10).wr W13).wr W16).wr W19).wr W22).wr W25).wr W28).wr W31).wr W34)) hZ (hw _ (List.mem_of_getElem? (i := 170) rfl)) (hw _ (List.mem_of_getElem? (i := 6) rfl)) (by decide) (by decide)) q76a q76c (g := (mkF m 339 #[.val (.int i0), .val (.int q0), .val (.ref st), .val (.ref b3), .val (.int (own_dg q0)), .val (.int (1 : Int32)), .val (.int (q0 % (10 : Int32))), .val (.int (0 : Int32)), .val (.int (110 : Int32)), .val (.int (100 : Int32))] [(.int (own_dg q0)), (.ref st)])) rfl (by rw [hml]; rfl) (Steps.refl _) (argsL := [(.int (own_dg q0))]) (rest := []) (lenOf pd_19 rfl) rfl (by show 2 * 0 + _ ≤ _; exact Nat.le_of_eq rfl) (hb hby at_339) (fun _ _ => ⟨rfl, e57, (by decide : 7 + 0 ≤ _), (by decide : 58 + 0 ≤ _)⟩)
        dsimp only [Pt.U, Pt.locs, Pt.cells, Pt.slots] at X76 l76 y76 z76 st76 hQ76
        obtain ⟨rfl, N76q, e76⟩ := hQ76
        have N76 := Fr.app N57 N76q
        have X76 : Stand p l e _ _ m _ below meth c T76 _ 7 58 := own_fold X76 l76 y76 z76
        have R79 : Rch p e below (s₁.setTop (entryFrame m #[(.int i0)] maxLocals)) T76 (mkF m 352 #[.val (.int i0), .val (.int q0), .val (.ref st), .val (.ref b3), .val (.int (own_dg q0)), .val (.int (1 : Int32)), .val (.int (q0 % (10 : Int32))), .val (.int (0 : Int32)), .val (.int (110 : Int32)), .val (.int (100 : Int32))] [(.int ((own_dg q0) + (1 : Int32))), (.ref st)]) := fun t k => by
          refine R77 t ?_
          refine st76.trans ?_
          show Steps p.tables e below (T76.setTop (mkF m 342 #[.val (.int i0), .val (.int q0), .val (.ref st), .val (.ref b3), .val (.int (own_dg q0)), .val (.int (1 : Int32)), .val (.int (q0 % (10 : Int32))), .val (.int (0 : Int32)), .val (.int (110 : Int32)), .val (.int (100 : Int32))] [(.int (own_s0 q0))])) t
          refine XS.iload X76.here hx rfl (hb hby at_342) rfl ?_
          show Steps p.tables e below (T76.setTop (mkF m 344 #[.val (.int i0), .val (.int q0), .val (.ref st), .val (.ref b3), .val (.int (own_dg q0)), .val (.int (1 : Int32)), .val (.int (q0 % (10 : Int32))), .val (.int (0 : Int32)), .val (.int (110 : Int32)), .val (.int (100 : Int32))] [(.int (110 : Int32)), (.int (own_s0 q0))])) t
          refine XS.icmpNo X76.here hx rfl (hb hby at_344) rfl (teq (((own_sfx hn).2 hc246_60).2.1 hc292_74).1).2 ?_
          show Steps p.tables e below (T76.setTop (mkF m 347 #[.val (.int i0), .val (.int q0), .val (.ref st), .val (.ref b3), .val (.int (own_dg q0)), .val (.int (1 : Int32)), .val (.int (q0 % (10 : Int32))), .val (.int (0 : Int32)), .val (.int (110 : Int32)), .val (.int (100 : Int32))] [])) t
          refine XS.aloadN X76.here hx rfl (hb hby at_347) rfl rfl ?_
          show Steps p.tables e below (T76.setTop (mkF m 348 #[.val (.int i0), .val (.int q0), .val (.ref st), .val (.ref b3), .val (.int (own_dg q0)), .val (.int (1 : Int32)), .val (.int (q0 % (10 : Int32))), .val (.int (0 : Int32)), .val (.int (110 : Int32)), .val (.int (100 : Int32))] [(.ref st)])) t
          refine XS.iload X76.here hx rfl (hb hby at_348) rfl ?_
          show Steps p.tables e below (T76.setTop (mkF m 350 #[.val (.int i0), .val (.int q0), .val (.ref st), .val (.ref b3), .val (.int (own_dg q0)), .val (.int (1 : Int32)), .val (.int (q0 % (10 : Int32))), .val (.int (0 : Int32)), .val (.int (110 : Int32)), .val (.int (100 : Int32))] [(.int (own_dg q0)), (.ref st)])) t
          refine XS.iconst X76.here hx rfl (hb hby at_350) ?_
          show Steps p.tables e below (T76.setTop (mkF m 351 #[.val (.int i0), .val (.int q0), .val (.ref st), .val (.ref b3), .val (.int (own_dg q0)), .val (.int (1 : Int32)), .val (.int (q0 % (10 : Int32))), .val (.int (0 : Int32)), .val (.int (110 : Int32)), .val (.int (100 : Int32))] [(.int (1 : Int32)), (.int (own_dg q0)), (.ref st)])) t
          refine XS.iadd X76.here hx rfl (hb hby at_351) rfl ?_
          exact k
        obtain ⟨cq78, kq78, q78a, q78b, q78c⟩ := isOf hZ e76 (((((((((((B1.ext E3).wr W7).wr W10).wr W13).wr W16).wr W19).wr W22).wr W25).wr W28).wr W31).wr W34)
        obtain ⟨_, _, ⟨T78, L78, k78, n78⟩, -, X78, ⟨Lc78, hQ78, l78, y78, z78⟩, st78⟩ := X76.virtualBack hx (y := (⟨"java/lang/String", "charAt", "(I)C"⟩ : MethodName)) (z := (⟨"java/lang/String", "charAt", "(I)C"⟩ : MethodName)) hown (mvT hZ (hw _ (List.mem_of_getElem? (i := 166) rfl))) (mvT hZ (hw _ (List.mem_of_getElem? (i := 167) rfl))) (notFace_of_selects (args := #[]) (mvT hZ (hw _ (List.mem_of_getElem? (i := 169) rfl)))) (mvT hZ (hw _ (List.mem_of_getElem? (i := 169) rfl))) (mvT hZ (hw _ (List.mem_of_getElem? (i := 168) rfl))) (by decide) (backOf (W := 0) (rm_cha l Z a0 hw [] st cs sv ks ((own_dg q0) + (2 : Int32)) (own_txt q0 (own_dn q0) (own_s0 q0) (own_s1 q0)) ((own_dg q0) + (1 : Int32)) (own_s1 q0) vv h34 n0 (Nat.le_trans Z0 K34.1) (((((((((((B1.ext E3).wr W7).wr W10).wr W13).wr W16).wr W19).wr W22).wr W25).wr W28).wr W31).wr W34) (((((((((((B3.ext E3).other W7 (Or.inl (Nat.ne_of_lt (Nat.lt_of_lt_of_le B1.lt (Nat.le_of_eq g3.symm))))).other W10 (Or.inl (Nat.ne_of_lt (Nat.lt_of_lt_of_le B1.lt (Nat.le_of_eq g3.symm))))).other W13 (Or.inl (Nat.ne_of_lt (Nat.lt_of_lt_of_le B1.lt (Nat.le_of_eq g3.symm))))).other W16 (Or.inl (Nat.ne_of_lt (Nat.lt_of_lt_of_le B1.lt (Nat.le_of_eq g3.symm))))).other W19 (Or.inl (Nat.ne_of_lt (Nat.lt_of_lt_of_le B1.lt (Nat.le_of_eq g3.symm))))).other W22 (Or.inl (Nat.ne_of_lt (Nat.lt_of_lt_of_le B1.lt (Nat.le_of_eq g3.symm))))).other W25 (Or.inl (Nat.ne_of_lt (Nat.lt_of_lt_of_le B1.lt (Nat.le_of_eq g3.symm))))).other W28 (Or.inl (Nat.ne_of_lt (Nat.lt_of_lt_of_le B1.lt (Nat.le_of_eq g3.symm))))).other W31 (Or.inl (Nat.ne_of_lt (Nat.lt_of_lt_of_le B1.lt (Nat.le_of_eq g3.symm))))).other W34 (Or.inl (Nat.ne_of_lt (Nat.lt_of_lt_of_le B1.lt (Nat.le_of_eq g3.symm))))) (((((((((((B2.ext E3).other W7 (Or.inl (Nat.ne_of_lt (Nat.lt_of_lt_of_le B1.lt (Nat.le_of_eq g3.symm))))).other W10 (Or.inl (Nat.ne_of_lt (Nat.lt_of_lt_of_le B1.lt (Nat.le_of_eq g3.symm))))).other W13 (Or.inl (Nat.ne_of_lt (Nat.lt_of_lt_of_le B1.lt (Nat.le_of_eq g3.symm))))).other W16 (Or.inl (Nat.ne_of_lt (Nat.lt_of_lt_of_le B1.lt (Nat.le_of_eq g3.symm))))).other W19 (Or.inl (Nat.ne_of_lt (Nat.lt_of_lt_of_le B1.lt (Nat.le_of_eq g3.symm))))).other W22 (Or.inl (Nat.ne_of_lt (Nat.lt_of_lt_of_le B1.lt (Nat.le_of_eq g3.symm))))).other W25 (Or.inl (Nat.ne_of_lt (Nat.lt_of_lt_of_le B1.lt (Nat.le_of_eq g3.symm))))).other W28 (Or.inl (Nat.ne_of_lt (Nat.lt_of_lt_of_le B1.lt (Nat.le_of_eq g3.symm))))).other W31 (Or.inl (Nat.ne_of_lt (Nat.lt_of_lt_of_le B1.lt (Nat.le_of_eq g3.symm))))).other W34 (Or.inl (Nat.ne_of_lt (Nat.lt_of_lt_of_le B1.lt (Nat.le_of_eq g3.symm))))) ((((((((((((own_sta_keep pS KcJ all0).ext E3).wr W7).wr W10).wr W13).wr W16).wr W19).wr W22).wr W25).wr W28).wr W31).wr W34) pcs (((((((((((B4.ext E3).other W7 (Nat.ne_of_lt (Nat.lt_of_lt_of_le B4.lt (Nat.le_of_eq g3.symm)))).other W10 (Nat.ne_of_lt (Nat.lt_of_lt_of_le B4.lt (Nat.le_of_eq g3.symm)))).other W13 (Nat.ne_of_lt (Nat.lt_of_lt_of_le B4.lt (Nat.le_of_eq g3.symm)))).other W16 (Nat.ne_of_lt (Nat.lt_of_lt_of_le B4.lt (Nat.le_of_eq g3.symm)))).other W19 (Nat.ne_of_lt (Nat.lt_of_lt_of_le B4.lt (Nat.le_of_eq g3.symm)))).other W22 (Nat.ne_of_lt (Nat.lt_of_lt_of_le B4.lt (Nat.le_of_eq g3.symm)))).other W25 (Nat.ne_of_lt (Nat.lt_of_lt_of_le B4.lt (Nat.le_of_eq g3.symm)))).other W28 (Nat.ne_of_lt (Nat.lt_of_lt_of_le B4.lt (Nat.le_of_eq g3.symm)))).other W31 (Nat.ne_of_lt (Nat.lt_of_lt_of_le B4.lt (Nat.le_of_eq g3.symm)))).other W34 (Nat.ne_of_lt (Nat.lt_of_lt_of_le B4.lt (Nat.le_of_eq g3.symm)))) (own_at1 hn).1 (by rw [(own_at1 hn).2]; exact own_txt_t1 _ _ _ _) (own_s_asc q0).2 pvv ((((((((((((own_sta_keep pSF KcJ all0).ext E3).wr W7).wr W10).wr W13).wr W16).wr W19).wr W22).wr W25).wr W28).wr W31).wr W34)) hZ (hw _ (List.mem_of_getElem? (i := 170) rfl)) (hw _ (List.mem_of_getElem? (i := 6) rfl)) (by decide) (by decide)) q78a q78c (g := (mkF m 352 #[.val (.int i0), .val (.int q0), .val (.ref st), .val (.ref b3), .val (.int (own_dg q0)), .val (.int (1 : Int32)), .val (.int (q0 % (10 : Int32))), .val (.int (0 : Int32)), .val (.int (110 : Int32)), .val (.int (100 : Int32))] [(.int ((own_dg q0) + (1 : Int32))), (.ref st)])) rfl (by rw [hml]; rfl) (Steps.refl _) (argsL := [(.int ((own_dg q0) + (1 : Int32)))]) (rest := []) (lenOf pd_19 rfl) rfl (by show 2 * 0 + _ ≤ _; exact Nat.le_of_eq rfl) (hb hby at_352) (fun _ _ => ⟨rfl, e76, (by decide : 7 + 0 ≤ _), (by decide : 58 + 0 ≤ _)⟩)
        dsimp only [Pt.U, Pt.locs, Pt.cells, Pt.slots] at X78 l78 y78 z78 st78 hQ78
        obtain ⟨rfl, N78q, e78⟩ := hQ78
        have N78 := Fr.app N76 N78q
        have X78 : Stand p l e _ _ m _ below meth c T78 _ 7 58 := own_fold X78 l78 y78 z78
        have R80 : Rch p e below (s₁.setTop (entryFrame m #[(.int i0)] maxLocals)) T78 (mkF m 365 #[.val (.int i0), .val (.int q0), .val (.ref st), .val (.ref b3), .val (.int (own_dg q0)), .val (.int (1 : Int32)), .val (.int (q0 % (10 : Int32))), .val (.int (0 : Int32)), .val (.int (110 : Int32)), .val (.int (100 : Int32))] [(.int (1 : Int32))]) := fun t k => by
          refine R79 t ?_
          refine st78.trans ?_
          show Steps p.tables e below (T78.setTop (mkF m 355 #[.val (.int i0), .val (.int q0), .val (.ref st), .val (.ref b3), .val (.int (own_dg q0)), .val (.int (1 : Int32)), .val (.int (q0 % (10 : Int32))), .val (.int (0 : Int32)), .val (.int (110 : Int32)), .val (.int (100 : Int32))] [(.int (own_s1 q0))])) t
          refine XS.iload X78.here hx rfl (hb hby at_355) rfl ?_
          show Steps p.tables e below (T78.setTop (mkF m 357 #[.val (.int i0), .val (.int q0), .val (.ref st), .val (.ref b3), .val (.int (own_dg q0)), .val (.int (1 : Int32)), .val (.int (q0 % (10 : Int32))), .val (.int (0 : Int32)), .val (.int (110 : Int32)), .val (.int (100 : Int32))] [(.int (100 : Int32)), (.int (own_s1 q0))])) t
          refine XS.icmpNo X78.here hx rfl (hb hby at_357) rfl (teq (((own_sfx hn).2 hc246_60).2.1 hc292_74).2).2 ?_
          show Steps p.tables e below (T78.setTop (mkF m 360 #[.val (.int i0), .val (.int q0), .val (.ref st), .val (.ref b3), .val (.int (own_dg q0)), .val (.int (1 : Int32)), .val (.int (q0 % (10 : Int32))), .val (.int (0 : Int32)), .val (.int (110 : Int32)), .val (.int (100 : Int32))] [])) t
          refine XS.iconst X78.here hx rfl (hb hby at_360) ?_
          show Steps p.tables e below (T78.setTop (mkF m 361 #[.val (.int i0), .val (.int q0), .val (.ref st), .val (.ref b3), .val (.int (own_dg q0)), .val (.int (1 : Int32)), .val (.int (q0 % (10 : Int32))), .val (.int (0 : Int32)), .val (.int (110 : Int32)), .val (.int (100 : Int32))] [(.int (1 : Int32))])) t
          refine XS.goto X78.here hx rfl (pc0 := 361) (pc' := 365) rfl (hb hby at_361) (by decide) (by decide) ?_
          exact k
        obtain ⟨fs, hr, hrun, hended, hRW⟩ := Stand.leaveW (s := s) X78 SJ (by rw [e78]; exact KK34.1) (v := some (.int (1 : Int32))) (fun h => by rw [Bd.returns] at h; cases h) (BodyLoose.notSynchronized Bd)
        refine ⟨_, _, R80 _ ?_, hrun, hended, _, _, rfl, ?_, ?_, ⟨hRW.1, hRW.2.1, hRW.2.2.1, hRW.2.2.2.mono (by decide) (by decide)⟩⟩
        · exact retN X78 hx (t := .boolean) Bd.returns (by simp) (hb hby at_365) hr
        · show Q_rm_law Z i0 cs vv ta tb ka kt h0 n0 _ T78.heap _
          rw [e78]
          exact ⟨rfl, N78, K34⟩
        · show CHr Z consts_1 s.vm s.heap T78.vm T78.heap
          rw [e78]
          rw [hh]
          exact (CJ.trans (CHr.keep KK34 own_sf0 CJ.1)).trans (CHv.at X78 hZ hEL (CHr.keep KK34 own_sf0 CJ.1).1)
      · have R82 : Rch p e below (s₁.setTop (entryFrame m #[(.int i0)] maxLocals)) T57 (mkF m 309 #[.val (.int i0), .val (.int q0), .val (.ref st), .val (.ref b3), .val (.int (own_dg q0)), .val (.int (1 : Int32)), .val (.int (q0 % (10 : Int32))), .val (.int (0 : Int32)), .unset, .unset] [(.int (3 : Int32)), (.int (q0 % (10 : Int32)))]) := fun t k => by
          refine R75 t ?_
          refine XS.icmpYes X57.here hx rfl (pc0 := 292) (pc' := 306) rfl (hb hby at_292) rfl (feq hc292_74).2 (by decide) (by decide) ?_
          show Steps p.tables e below (T57.setTop (mkF m 306 #[.val (.int i0), .val (.int q0), .val (.ref st), .val (.ref b3), .val (.int (own_dg q0)), .val (.int (1 : Int32)), .val (.int (q0 % (10 : Int32))), .val (.int (0 : Int32)), .unset, .unset] [])) t
          refine XS.iload X57.here hx rfl (hb hby at_306) rfl ?_
          show Steps p.tables e below (T57.setTop (mkF m 308 #[.val (.int i0), .val (.int q0), .val (.ref st), .val (.ref b3), .val (.int (own_dg q0)), .val (.int (1 : Int32)), .val (.int (q0 % (10 : Int32))), .val (.int (0 : Int32)), .unset, .unset] [(.int (q0 % (10 : Int32)))])) t
          refine XS.iconst X57.here hx rfl (hb hby at_308) ?_
          exact k
        by_cases hc309_81 : (q0 % (10 : Int32)) = (3 : Int32)
        · have R84 : Rch p e below (s₁.setTop (entryFrame m #[(.int i0)] maxLocals)) T57 (mkF m 339 #[.val (.int i0), .val (.int q0), .val (.ref st), .val (.ref b3), .val (.int (own_dg q0)), .val (.int (1 : Int32)), .val (.int (q0 % (10 : Int32))), .val (.int (0 : Int32)), .val (.int (114 : Int32)), .val (.int (100 : Int32))] [(.int (own_dg q0)), (.ref st)]) := fun t k => by
            refine R82 t ?_
            refine XS.icmpNo X57.here hx rfl (hb hby at_309) rfl (teq hc309_81).2 ?_
            show Steps p.tables e below (T57.setTop (mkF m 312 #[.val (.int i0), .val (.int q0), .val (.ref st), .val (.ref b3), .val (.int (own_dg q0)), .val (.int (1 : Int32)), .val (.int (q0 % (10 : Int32))), .val (.int (0 : Int32)), .unset, .unset] [])) t
            refine XS.bipush X57.here hx rfl (hb hby at_312) ?_
            show Steps p.tables e below (T57.setTop (mkF m 314 #[.val (.int i0), .val (.int q0), .val (.ref st), .val (.ref b3), .val (.int (own_dg q0)), .val (.int (1 : Int32)), .val (.int (q0 % (10 : Int32))), .val (.int (0 : Int32)), .unset, .unset] [(.int (114 : Int32))])) t
            refine XS.istore X57.here hx rfl (hb hby at_314) rfl (l' := #[.val (.int i0), .val (.int q0), .val (.ref st), .val (.ref b3), .val (.int (own_dg q0)), .val (.int (1 : Int32)), .val (.int (q0 % (10 : Int32))), .val (.int (0 : Int32)), .val (.int (114 : Int32)), .unset]) rfl ?_
            show Steps p.tables e below (T57.setTop (mkF m 316 #[.val (.int i0), .val (.int q0), .val (.ref st), .val (.ref b3), .val (.int (own_dg q0)), .val (.int (1 : Int32)), .val (.int (q0 % (10 : Int32))), .val (.int (0 : Int32)), .val (.int (114 : Int32)), .unset] [])) t
            refine XS.bipush X57.here hx rfl (hb hby at_316) ?_
            show Steps p.tables e below (T57.setTop (mkF m 318 #[.val (.int i0), .val (.int q0), .val (.ref st), .val (.ref b3), .val (.int (own_dg q0)), .val (.int (1 : Int32)), .val (.int (q0 % (10 : Int32))), .val (.int (0 : Int32)), .val (.int (114 : Int32)), .unset] [(.int (100 : Int32))])) t
            refine XS.istore X57.here hx rfl (hb hby at_318) rfl (l' := #[.val (.int i0), .val (.int q0), .val (.ref st), .val (.ref b3), .val (.int (own_dg q0)), .val (.int (1 : Int32)), .val (.int (q0 % (10 : Int32))), .val (.int (0 : Int32)), .val (.int (114 : Int32)), .val (.int (100 : Int32))]) rfl ?_
            show Steps p.tables e below (T57.setTop (mkF m 320 #[.val (.int i0), .val (.int q0), .val (.ref st), .val (.ref b3), .val (.int (own_dg q0)), .val (.int (1 : Int32)), .val (.int (q0 % (10 : Int32))), .val (.int (0 : Int32)), .val (.int (114 : Int32)), .val (.int (100 : Int32))] [])) t
            refine XS.goto X57.here hx rfl (pc0 := 320) (pc' := 331) rfl (hb hby at_320) (by decide) (by decide) ?_
            show Steps p.tables e below (T57.setTop (mkF m 331 #[.val (.int i0), .val (.int q0), .val (.ref st), .val (.ref b3), .val (.int (own_dg q0)), .val (.int (1 : Int32)), .val (.int (q0 % (10 : Int32))), .val (.int (0 : Int32)), .val (.int (114 : Int32)), .val (.int (100 : Int32))] [])) t
            refine XS.iload X57.here hx rfl (hb hby at_331) rfl ?_
            show Steps p.tables e below (T57.setTop (mkF m 333 #[.val (.int i0), .val (.int q0), .val (.ref st), .val (.ref b3), .val (.int (own_dg q0)), .val (.int (1 : Int32)), .val (.int (q0 % (10 : Int32))), .val (.int (0 : Int32)), .val (.int (114 : Int32)), .val (.int (100 : Int32))] [(.int (1 : Int32))])) t
            refine XS.ifNo X57.here hx rfl (hb hby at_333) rfl ((if0 _ _).trans (feq (by decide : ¬ ((1 : Int32) = (0 : Int32)))).1) ?_
            show Steps p.tables e below (T57.setTop (mkF m 336 #[.val (.int i0), .val (.int q0), .val (.ref st), .val (.ref b3), .val (.int (own_dg q0)), .val (.int (1 : Int32)), .val (.int (q0 % (10 : Int32))), .val (.int (0 : Int32)), .val (.int (114 : Int32)), .val (.int (100 : Int32))] [])) t
            refine XS.aloadN X57.here hx rfl (hb hby at_336) rfl rfl ?_
            show Steps p.tables e below (T57.setTop (mkF m 337 #[.val (.int i0), .val (.int q0), .val (.ref st), .val (.ref b3), .val (.int (own_dg q0)), .val (.int (1 : Int32)), .val (.int (q0 % (10 : Int32))), .val (.int (0 : Int32)), .val (.int (114 : Int32)), .val (.int (100 : Int32))] [(.ref st)])) t
            refine XS.iload X57.here hx rfl (hb hby at_337) rfl ?_
            exact k
          obtain ⟨cq83, kq83, q83a, q83b, q83c⟩ := isOf hZ e57 (((((((((((B1.ext E3).wr W7).wr W10).wr W13).wr W16).wr W19).wr W22).wr W25).wr W28).wr W31).wr W34)
          obtain ⟨_, _, ⟨T83, L83, k83, n83⟩, -, X83, ⟨Lc83, hQ83, l83, y83, z83⟩, st83⟩ := X57.virtualBack hx (y := (⟨"java/lang/String", "charAt", "(I)C"⟩ : MethodName)) (z := (⟨"java/lang/String", "charAt", "(I)C"⟩ : MethodName)) hown (mvT hZ (hw _ (List.mem_of_getElem? (i := 166) rfl))) (mvT hZ (hw _ (List.mem_of_getElem? (i := 167) rfl))) (notFace_of_selects (args := #[]) (mvT hZ (hw _ (List.mem_of_getElem? (i := 169) rfl)))) (mvT hZ (hw _ (List.mem_of_getElem? (i := 169) rfl))) (mvT hZ (hw _ (List.mem_of_getElem? (i := 168) rfl))) (by decide) (backOf (W := 0) (rm_cha l Z a0 hw [] st cs sv ks ((own_dg q0) + (2 : Int32)) (own_txt q0 (own_dn q0) (own_s0 q0) (own_s1 q0)) (own_dg q0) (own_s0 q0) vv h34 n0 (Nat.le_trans Z0 K34.1) (((((((((((B1.ext E3).wr W7).wr W10).wr W13).wr W16).wr W19).wr W22).wr W25).wr W28).wr W31).wr W34) (((((((((((B3.ext E3).other W7 (Or.inl (Nat.ne_of_lt (Nat.lt_of_lt_of_le B1.lt (Nat.le_of_eq g3.symm))))).other W10 (Or.inl (Nat.ne_of_lt (Nat.lt_of_lt_of_le B1.lt (Nat.le_of_eq g3.symm))))).other W13 (Or.inl (Nat.ne_of_lt (Nat.lt_of_lt_of_le B1.lt (Nat.le_of_eq g3.symm))))).other W16 (Or.inl (Nat.ne_of_lt (Nat.lt_of_lt_of_le B1.lt (Nat.le_of_eq g3.symm))))).other W19 (Or.inl (Nat.ne_of_lt (Nat.lt_of_lt_of_le B1.lt (Nat.le_of_eq g3.symm))))).other W22 (Or.inl (Nat.ne_of_lt (Nat.lt_of_lt_of_le B1.lt (Nat.le_of_eq g3.symm))))).other W25 (Or.inl (Nat.ne_of_lt (Nat.lt_of_lt_of_le B1.lt (Nat.le_of_eq g3.symm))))).other W28 (Or.inl (Nat.ne_of_lt (Nat.lt_of_lt_of_le B1.lt (Nat.le_of_eq g3.symm))))).other W31 (Or.inl (Nat.ne_of_lt (Nat.lt_of_lt_of_le B1.lt (Nat.le_of_eq g3.symm))))).other W34 (Or.inl (Nat.ne_of_lt (Nat.lt_of_lt_of_le B1.lt (Nat.le_of_eq g3.symm))))) (((((((((((B2.ext E3).other W7 (Or.inl (Nat.ne_of_lt (Nat.lt_of_lt_of_le B1.lt (Nat.le_of_eq g3.symm))))).other W10 (Or.inl (Nat.ne_of_lt (Nat.lt_of_lt_of_le B1.lt (Nat.le_of_eq g3.symm))))).other W13 (Or.inl (Nat.ne_of_lt (Nat.lt_of_lt_of_le B1.lt (Nat.le_of_eq g3.symm))))).other W16 (Or.inl (Nat.ne_of_lt (Nat.lt_of_lt_of_le B1.lt (Nat.le_of_eq g3.symm))))).other W19 (Or.inl (Nat.ne_of_lt (Nat.lt_of_lt_of_le B1.lt (Nat.le_of_eq g3.symm))))).other W22 (Or.inl (Nat.ne_of_lt (Nat.lt_of_lt_of_le B1.lt (Nat.le_of_eq g3.symm))))).other W25 (Or.inl (Nat.ne_of_lt (Nat.lt_of_lt_of_le B1.lt (Nat.le_of_eq g3.symm))))).other W28 (Or.inl (Nat.ne_of_lt (Nat.lt_of_lt_of_le B1.lt (Nat.le_of_eq g3.symm))))).other W31 (Or.inl (Nat.ne_of_lt (Nat.lt_of_lt_of_le B1.lt (Nat.le_of_eq g3.symm))))).other W34 (Or.inl (Nat.ne_of_lt (Nat.lt_of_lt_of_le B1.lt (Nat.le_of_eq g3.symm))))) ((((((((((((own_sta_keep pS KcJ all0).ext E3).wr W7).wr W10).wr W13).wr W16).wr W19).wr W22).wr W25).wr W28).wr W31).wr W34) pcs (((((((((((B4.ext E3).other W7 (Nat.ne_of_lt (Nat.lt_of_lt_of_le B4.lt (Nat.le_of_eq g3.symm)))).other W10 (Nat.ne_of_lt (Nat.lt_of_lt_of_le B4.lt (Nat.le_of_eq g3.symm)))).other W13 (Nat.ne_of_lt (Nat.lt_of_lt_of_le B4.lt (Nat.le_of_eq g3.symm)))).other W16 (Nat.ne_of_lt (Nat.lt_of_lt_of_le B4.lt (Nat.le_of_eq g3.symm)))).other W19 (Nat.ne_of_lt (Nat.lt_of_lt_of_le B4.lt (Nat.le_of_eq g3.symm)))).other W22 (Nat.ne_of_lt (Nat.lt_of_lt_of_le B4.lt (Nat.le_of_eq g3.symm)))).other W25 (Nat.ne_of_lt (Nat.lt_of_lt_of_le B4.lt (Nat.le_of_eq g3.symm)))).other W28 (Nat.ne_of_lt (Nat.lt_of_lt_of_le B4.lt (Nat.le_of_eq g3.symm)))).other W31 (Nat.ne_of_lt (Nat.lt_of_lt_of_le B4.lt (Nat.le_of_eq g3.symm)))).other W34 (Nat.ne_of_lt (Nat.lt_of_lt_of_le B4.lt (Nat.le_of_eq g3.symm)))) (own_at0 hn) (own_txt_t0 _ _ _ _) (own_s_asc q0).1 pvv ((((((((((((own_sta_keep pSF KcJ all0).ext E3).wr W7).wr W10).wr W13).wr W16).wr W19).wr W22).wr W25).wr W28).wr W31).wr W34)) hZ (hw _ (List.mem_of_getElem? (i := 170) rfl)) (hw _ (List.mem_of_getElem? (i := 6) rfl)) (by decide) (by decide)) q83a q83c (g := (mkF m 339 #[.val (.int i0), .val (.int q0), .val (.ref st), .val (.ref b3), .val (.int (own_dg q0)), .val (.int (1 : Int32)), .val (.int (q0 % (10 : Int32))), .val (.int (0 : Int32)), .val (.int (114 : Int32)), .val (.int (100 : Int32))] [(.int (own_dg q0)), (.ref st)])) rfl (by rw [hml]; rfl) (Steps.refl _) (argsL := [(.int (own_dg q0))]) (rest := []) (lenOf pd_19 rfl) rfl (by show 2 * 0 + _ ≤ _; exact Nat.le_of_eq rfl) (hb hby at_339) (fun _ _ => ⟨rfl, e57, (by decide : 7 + 0 ≤ _), (by decide : 58 + 0 ≤ _)⟩)
          dsimp only [Pt.U, Pt.locs, Pt.cells, Pt.slots] at X83 l83 y83 z83 st83 hQ83
          obtain ⟨rfl, N83q, e83⟩ := hQ83
          have N83 := Fr.app N57 N83q
          have X83 : Stand p l e _ _ m _ below meth c T83 _ 7 58 := own_fold X83 l83 y83 z83
          have R86 : Rch p e below (s₁.setTop (entryFrame m #[(.int i0)] maxLocals)) T83 (mkF m 352 #[.val (.int i0), .val (.int q0), .val (.ref st), .val (.ref b3), .val (.int (own_dg q0)), .val (.int (1 : Int32)), .val (.int (q0 % (10 : Int32))), .val (.int (0 : Int32)), .val (.int (114 : Int32)), .val (.int (100 : Int32))] [(.int ((own_dg q0) + (1 : Int32))), (.ref st)]) := fun t k => by
            refine R84 t ?_
            refine st83.trans ?_
            show Steps p.tables e below (T83.setTop (mkF m 342 #[.val (.int i0), .val (.int q0), .val (.ref st), .val (.ref b3), .val (.int (own_dg q0)), .val (.int (1 : Int32)), .val (.int (q0 % (10 : Int32))), .val (.int (0 : Int32)), .val (.int (114 : Int32)), .val (.int (100 : Int32))] [(.int (own_s0 q0))])) t
            refine XS.iload X83.here hx rfl (hb hby at_342) rfl ?_
            show Steps p.tables e below (T83.setTop (mkF m 344 #[.val (.int i0), .val (.int q0), .val (.ref st), .val (.ref b3), .val (.int (own_dg q0)), .val (.int (1 : Int32)), .val (.int (q0 % (10 : Int32))), .val (.int (0 : Int32)), .val (.int (114 : Int32)), .val (.int (100 : Int32))] [(.int (114 : Int32)), (.int (own_s0 q0))])) t
            refine XS.icmpNo X83.here hx rfl (hb hby at_344) rfl (teq (((own_sfx hn).2 hc246_60).2.2.1 hc309_81).1).2 ?_
            show Steps p.tables e below (T83.setTop (mkF m 347 #[.val (.int i0), .val (.int q0), .val (.ref st), .val (.ref b3), .val (.int (own_dg q0)), .val (.int (1 : Int32)), .val (.int (q0 % (10 : Int32))), .val (.int (0 : Int32)), .val (.int (114 : Int32)), .val (.int (100 : Int32))] [])) t
            refine XS.aloadN X83.here hx rfl (hb hby at_347) rfl rfl ?_
            show Steps p.tables e below (T83.setTop (mkF m 348 #[.val (.int i0), .val (.int q0), .val (.ref st), .val (.ref b3), .val (.int (own_dg q0)), .val (.int (1 : Int32)), .val (.int (q0 % (10 : Int32))), .val (.int (0 : Int32)), .val (.int (114 : Int32)), .val (.int (100 : Int32))] [(.ref st)])) t
            refine XS.iload X83.here hx rfl (hb hby at_348) rfl ?_
            show Steps p.tables e below (T83.setTop (mkF m 350 #[.val (.int i0), .val (.int q0), .val (.ref st), .val (.ref b3), .val (.int (own_dg q0)), .val (.int (1 : Int32)), .val (.int (q0 % (10 : Int32))), .val (.int (0 : Int32)), .val (.int (114 : Int32)), .val (.int (100 : Int32))] [(.int (own_dg q0)), (.ref st)])) t
            refine XS.iconst X83.here hx rfl (hb hby at_350) ?_
            show Steps p.tables e below (T83.setTop (mkF m 351 #[.val (.int i0), .val (.int q0), .val (.ref st), .val (.ref b3), .val (.int (own_dg q0)), .val (.int (1 : Int32)), .val (.int (q0 % (10 : Int32))), .val (.int (0 : Int32)), .val (.int (114 : Int32)), .val (.int (100 : Int32))] [(.int (1 : Int32)), (.int (own_dg q0)), (.ref st)])) t
            refine XS.iadd X83.here hx rfl (hb hby at_351) rfl ?_
            exact k
          obtain ⟨cq85, kq85, q85a, q85b, q85c⟩ := isOf hZ e83 (((((((((((B1.ext E3).wr W7).wr W10).wr W13).wr W16).wr W19).wr W22).wr W25).wr W28).wr W31).wr W34)
          obtain ⟨_, _, ⟨T85, L85, k85, n85⟩, -, X85, ⟨Lc85, hQ85, l85, y85, z85⟩, st85⟩ := X83.virtualBack hx (y := (⟨"java/lang/String", "charAt", "(I)C"⟩ : MethodName)) (z := (⟨"java/lang/String", "charAt", "(I)C"⟩ : MethodName)) hown (mvT hZ (hw _ (List.mem_of_getElem? (i := 166) rfl))) (mvT hZ (hw _ (List.mem_of_getElem? (i := 167) rfl))) (notFace_of_selects (args := #[]) (mvT hZ (hw _ (List.mem_of_getElem? (i := 169) rfl)))) (mvT hZ (hw _ (List.mem_of_getElem? (i := 169) rfl))) (mvT hZ (hw _ (List.mem_of_getElem? (i := 168) rfl))) (by decide) (backOf (W := 0) (rm_cha l Z a0 hw [] st cs sv ks ((own_dg q0) + (2 : Int32)) (own_txt q0 (own_dn q0) (own_s0 q0) (own_s1 q0)) ((own_dg q0) + (1 : Int32)) (own_s1 q0) vv h34 n0 (Nat.le_trans Z0 K34.1) (((((((((((B1.ext E3).wr W7).wr W10).wr W13).wr W16).wr W19).wr W22).wr W25).wr W28).wr W31).wr W34) (((((((((((B3.ext E3).other W7 (Or.inl (Nat.ne_of_lt (Nat.lt_of_lt_of_le B1.lt (Nat.le_of_eq g3.symm))))).other W10 (Or.inl (Nat.ne_of_lt (Nat.lt_of_lt_of_le B1.lt (Nat.le_of_eq g3.symm))))).other W13 (Or.inl (Nat.ne_of_lt (Nat.lt_of_lt_of_le B1.lt (Nat.le_of_eq g3.symm))))).other W16 (Or.inl (Nat.ne_of_lt (Nat.lt_of_lt_of_le B1.lt (Nat.le_of_eq g3.symm))))).other W19 (Or.inl (Nat.ne_of_lt (Nat.lt_of_lt_of_le B1.lt (Nat.le_of_eq g3.symm))))).other W22 (Or.inl (Nat.ne_of_lt (Nat.lt_of_lt_of_le B1.lt (Nat.le_of_eq g3.symm))))).other W25 (Or.inl (Nat.ne_of_lt (Nat.lt_of_lt_of_le B1.lt (Nat.le_of_eq g3.symm))))).other W28 (Or.inl (Nat.ne_of_lt (Nat.lt_of_lt_of_le B1.lt (Nat.le_of_eq g3.symm))))).other W31 (Or.inl (Nat.ne_of_lt (Nat.lt_of_lt_of_le B1.lt (Nat.le_of_eq g3.symm))))).other W34 (Or.inl (Nat.ne_of_lt (Nat.lt_of_lt_of_le B1.lt (Nat.le_of_eq g3.symm))))) (((((((((((B2.ext E3).other W7 (Or.inl (Nat.ne_of_lt (Nat.lt_of_lt_of_le B1.lt (Nat.le_of_eq g3.symm))))).other W10 (Or.inl (Nat.ne_of_lt (Nat.lt_of_lt_of_le B1.lt (Nat.le_of_eq g3.symm))))).other W13 (Or.inl (Nat.ne_of_lt (Nat.lt_of_lt_of_le B1.lt (Nat.le_of_eq g3.symm))))).other W16 (Or.inl (Nat.ne_of_lt (Nat.lt_of_lt_of_le B1.lt (Nat.le_of_eq g3.symm))))).other W19 (Or.inl (Nat.ne_of_lt (Nat.lt_of_lt_of_le B1.lt (Nat.le_of_eq g3.symm))))).other W22 (Or.inl (Nat.ne_of_lt (Nat.lt_of_lt_of_le B1.lt (Nat.le_of_eq g3.symm))))).other W25 (Or.inl (Nat.ne_of_lt (Nat.lt_of_lt_of_le B1.lt (Nat.le_of_eq g3.symm))))).other W28 (Or.inl (Nat.ne_of_lt (Nat.lt_of_lt_of_le B1.lt (Nat.le_of_eq g3.symm))))).other W31 (Or.inl (Nat.ne_of_lt (Nat.lt_of_lt_of_le B1.lt (Nat.le_of_eq g3.symm))))).other W34 (Or.inl (Nat.ne_of_lt (Nat.lt_of_lt_of_le B1.lt (Nat.le_of_eq g3.symm))))) ((((((((((((own_sta_keep pS KcJ all0).ext E3).wr W7).wr W10).wr W13).wr W16).wr W19).wr W22).wr W25).wr W28).wr W31).wr W34) pcs (((((((((((B4.ext E3).other W7 (Nat.ne_of_lt (Nat.lt_of_lt_of_le B4.lt (Nat.le_of_eq g3.symm)))).other W10 (Nat.ne_of_lt (Nat.lt_of_lt_of_le B4.lt (Nat.le_of_eq g3.symm)))).other W13 (Nat.ne_of_lt (Nat.lt_of_lt_of_le B4.lt (Nat.le_of_eq g3.symm)))).other W16 (Nat.ne_of_lt (Nat.lt_of_lt_of_le B4.lt (Nat.le_of_eq g3.symm)))).other W19 (Nat.ne_of_lt (Nat.lt_of_lt_of_le B4.lt (Nat.le_of_eq g3.symm)))).other W22 (Nat.ne_of_lt (Nat.lt_of_lt_of_le B4.lt (Nat.le_of_eq g3.symm)))).other W25 (Nat.ne_of_lt (Nat.lt_of_lt_of_le B4.lt (Nat.le_of_eq g3.symm)))).other W28 (Nat.ne_of_lt (Nat.lt_of_lt_of_le B4.lt (Nat.le_of_eq g3.symm)))).other W31 (Nat.ne_of_lt (Nat.lt_of_lt_of_le B4.lt (Nat.le_of_eq g3.symm)))).other W34 (Nat.ne_of_lt (Nat.lt_of_lt_of_le B4.lt (Nat.le_of_eq g3.symm)))) (own_at1 hn).1 (by rw [(own_at1 hn).2]; exact own_txt_t1 _ _ _ _) (own_s_asc q0).2 pvv ((((((((((((own_sta_keep pSF KcJ all0).ext E3).wr W7).wr W10).wr W13).wr W16).wr W19).wr W22).wr W25).wr W28).wr W31).wr W34)) hZ (hw _ (List.mem_of_getElem? (i := 170) rfl)) (hw _ (List.mem_of_getElem? (i := 6) rfl)) (by decide) (by decide)) q85a q85c (g := (mkF m 352 #[.val (.int i0), .val (.int q0), .val (.ref st), .val (.ref b3), .val (.int (own_dg q0)), .val (.int (1 : Int32)), .val (.int (q0 % (10 : Int32))), .val (.int (0 : Int32)), .val (.int (114 : Int32)), .val (.int (100 : Int32))] [(.int ((own_dg q0) + (1 : Int32))), (.ref st)])) rfl (by rw [hml]; rfl) (Steps.refl _) (argsL := [(.int ((own_dg q0) + (1 : Int32)))]) (rest := []) (lenOf pd_19 rfl) rfl (by show 2 * 0 + _ ≤ _; exact Nat.le_of_eq rfl) (hb hby at_352) (fun _ _ => ⟨rfl, e83, (by decide : 7 + 0 ≤ _), (by decide : 58 + 0 ≤ _)⟩)
          dsimp only [Pt.U, Pt.locs, Pt.cells, Pt.slots] at X85 l85 y85 z85 st85 hQ85
          obtain ⟨rfl, N85q, e85⟩ := hQ85
          have N85 := Fr.app N83 N85q
          have X85 : Stand p l e _ _ m _ below meth c T85 _ 7 58 := own_fold X85 l85 y85 z85
          have R87 : Rch p e below (s₁.setTop (entryFrame m #[(.int i0)] maxLocals)) T85 (mkF m 365 #[.val (.int i0), .val (.int q0), .val (.ref st), .val (.ref b3), .val (.int (own_dg q0)), .val (.int (1 : Int32)), .val (.int (q0 % (10 : Int32))), .val (.int (0 : Int32)), .val (.int (114 : Int32)), .val (.int (100 : Int32))] [(.int (1 : Int32))]) := fun t k => by
            refine R86 t ?_
            refine st85.trans ?_
            show Steps p.tables e below (T85.setTop (mkF m 355 #[.val (.int i0), .val (.int q0), .val (.ref st), .val (.ref b3), .val (.int (own_dg q0)), .val (.int (1 : Int32)), .val (.int (q0 % (10 : Int32))), .val (.int (0 : Int32)), .val (.int (114 : Int32)), .val (.int (100 : Int32))] [(.int (own_s1 q0))])) t
            refine XS.iload X85.here hx rfl (hb hby at_355) rfl ?_
            show Steps p.tables e below (T85.setTop (mkF m 357 #[.val (.int i0), .val (.int q0), .val (.ref st), .val (.ref b3), .val (.int (own_dg q0)), .val (.int (1 : Int32)), .val (.int (q0 % (10 : Int32))), .val (.int (0 : Int32)), .val (.int (114 : Int32)), .val (.int (100 : Int32))] [(.int (100 : Int32)), (.int (own_s1 q0))])) t
            refine XS.icmpNo X85.here hx rfl (hb hby at_357) rfl (teq (((own_sfx hn).2 hc246_60).2.2.1 hc309_81).2).2 ?_
            show Steps p.tables e below (T85.setTop (mkF m 360 #[.val (.int i0), .val (.int q0), .val (.ref st), .val (.ref b3), .val (.int (own_dg q0)), .val (.int (1 : Int32)), .val (.int (q0 % (10 : Int32))), .val (.int (0 : Int32)), .val (.int (114 : Int32)), .val (.int (100 : Int32))] [])) t
            refine XS.iconst X85.here hx rfl (hb hby at_360) ?_
            show Steps p.tables e below (T85.setTop (mkF m 361 #[.val (.int i0), .val (.int q0), .val (.ref st), .val (.ref b3), .val (.int (own_dg q0)), .val (.int (1 : Int32)), .val (.int (q0 % (10 : Int32))), .val (.int (0 : Int32)), .val (.int (114 : Int32)), .val (.int (100 : Int32))] [(.int (1 : Int32))])) t
            refine XS.goto X85.here hx rfl (pc0 := 361) (pc' := 365) rfl (hb hby at_361) (by decide) (by decide) ?_
            exact k
          obtain ⟨fs, hr, hrun, hended, hRW⟩ := Stand.leaveW (s := s) X85 SJ (by rw [e85]; exact KK34.1) (v := some (.int (1 : Int32))) (fun h => by rw [Bd.returns] at h; cases h) (BodyLoose.notSynchronized Bd)
          refine ⟨_, _, R87 _ ?_, hrun, hended, _, _, rfl, ?_, ?_, ⟨hRW.1, hRW.2.1, hRW.2.2.1, hRW.2.2.2.mono (by decide) (by decide)⟩⟩
          · exact retN X85 hx (t := .boolean) Bd.returns (by simp) (hb hby at_365) hr
          · show Q_rm_law Z i0 cs vv ta tb ka kt h0 n0 _ T85.heap _
            rw [e85]
            exact ⟨rfl, N85, K34⟩
          · show CHr Z consts_1 s.vm s.heap T85.vm T85.heap
            rw [e85]
            rw [hh]
            exact (CJ.trans (CHr.keep KK34 own_sf0 CJ.1)).trans (CHv.at X85 hZ hEL (CHr.keep KK34 own_sf0 CJ.1).1)
        · have R89 : Rch p e below (s₁.setTop (entryFrame m #[(.int i0)] maxLocals)) T57 (mkF m 339 #[.val (.int i0), .val (.int q0), .val (.ref st), .val (.ref b3), .val (.int (own_dg q0)), .val (.int (1 : Int32)), .val (.int (q0 % (10 : Int32))), .val (.int (0 : Int32)), .val (.int (116 : Int32)), .val (.int (104 : Int32))] [(.int (own_dg q0)), (.ref st)]) := fun t k => by
            refine R82 t ?_
            refine XS.icmpYes X57.here hx rfl (pc0 := 309) (pc' := 323) rfl (hb hby at_309) rfl (feq hc309_81).2 (by decide) (by decide) ?_
            show Steps p.tables e below (T57.setTop (mkF m 323 #[.val (.int i0), .val (.int q0), .val (.ref st), .val (.ref b3), .val (.int (own_dg q0)), .val (.int (1 : Int32)), .val (.int (q0 % (10 : Int32))), .val (.int (0 : Int32)), .unset, .unset] [])) t
            refine XS.bipush X57.here hx rfl (hb hby at_323) ?_
            show Steps p.tables e below (T57.setTop (mkF m 325 #[.val (.int i0), .val (.int q0), .val (.ref st), .val (.ref b3), .val (.int (own_dg q0)), .val (.int (1 : Int32)), .val (.int (q0 % (10 : Int32))), .val (.int (0 : Int32)), .unset, .unset] [(.int (116 : Int32))])) t
            refine XS.istore X57.here hx rfl (hb hby at_325) rfl (l' := #[.val (.int i0), .val (.int q0), .val (.ref st), .val (.ref b3), .val (.int (own_dg q0)), .val (.int (1 : Int32)), .val (.int (q0 % (10 : Int32))), .val (.int (0 : Int32)), .val (.int (116 : Int32)), .unset]) rfl ?_
            show Steps p.tables e below (T57.setTop (mkF m 327 #[.val (.int i0), .val (.int q0), .val (.ref st), .val (.ref b3), .val (.int (own_dg q0)), .val (.int (1 : Int32)), .val (.int (q0 % (10 : Int32))), .val (.int (0 : Int32)), .val (.int (116 : Int32)), .unset] [])) t
            refine XS.bipush X57.here hx rfl (hb hby at_327) ?_
            show Steps p.tables e below (T57.setTop (mkF m 329 #[.val (.int i0), .val (.int q0), .val (.ref st), .val (.ref b3), .val (.int (own_dg q0)), .val (.int (1 : Int32)), .val (.int (q0 % (10 : Int32))), .val (.int (0 : Int32)), .val (.int (116 : Int32)), .unset] [(.int (104 : Int32))])) t
            refine XS.istore X57.here hx rfl (hb hby at_329) rfl (l' := #[.val (.int i0), .val (.int q0), .val (.ref st), .val (.ref b3), .val (.int (own_dg q0)), .val (.int (1 : Int32)), .val (.int (q0 % (10 : Int32))), .val (.int (0 : Int32)), .val (.int (116 : Int32)), .val (.int (104 : Int32))]) rfl ?_
            show Steps p.tables e below (T57.setTop (mkF m 331 #[.val (.int i0), .val (.int q0), .val (.ref st), .val (.ref b3), .val (.int (own_dg q0)), .val (.int (1 : Int32)), .val (.int (q0 % (10 : Int32))), .val (.int (0 : Int32)), .val (.int (116 : Int32)), .val (.int (104 : Int32))] [])) t
            refine XS.iload X57.here hx rfl (hb hby at_331) rfl ?_
            show Steps p.tables e below (T57.setTop (mkF m 333 #[.val (.int i0), .val (.int q0), .val (.ref st), .val (.ref b3), .val (.int (own_dg q0)), .val (.int (1 : Int32)), .val (.int (q0 % (10 : Int32))), .val (.int (0 : Int32)), .val (.int (116 : Int32)), .val (.int (104 : Int32))] [(.int (1 : Int32))])) t
            refine XS.ifNo X57.here hx rfl (hb hby at_333) rfl ((if0 _ _).trans (feq (by decide : ¬ ((1 : Int32) = (0 : Int32)))).1) ?_
            show Steps p.tables e below (T57.setTop (mkF m 336 #[.val (.int i0), .val (.int q0), .val (.ref st), .val (.ref b3), .val (.int (own_dg q0)), .val (.int (1 : Int32)), .val (.int (q0 % (10 : Int32))), .val (.int (0 : Int32)), .val (.int (116 : Int32)), .val (.int (104 : Int32))] [])) t
            refine XS.aloadN X57.here hx rfl (hb hby at_336) rfl rfl ?_
            show Steps p.tables e below (T57.setTop (mkF m 337 #[.val (.int i0), .val (.int q0), .val (.ref st), .val (.ref b3), .val (.int (own_dg q0)), .val (.int (1 : Int32)), .val (.int (q0 % (10 : Int32))), .val (.int (0 : Int32)), .val (.int (116 : Int32)), .val (.int (104 : Int32))] [(.ref st)])) t
            refine XS.iload X57.here hx rfl (hb hby at_337) rfl ?_
            exact k
          obtain ⟨cq88, kq88, q88a, q88b, q88c⟩ := isOf hZ e57 (((((((((((B1.ext E3).wr W7).wr W10).wr W13).wr W16).wr W19).wr W22).wr W25).wr W28).wr W31).wr W34)
          obtain ⟨_, _, ⟨T88, L88, k88, n88⟩, -, X88, ⟨Lc88, hQ88, l88, y88, z88⟩, st88⟩ := X57.virtualBack hx (y := (⟨"java/lang/String", "charAt", "(I)C"⟩ : MethodName)) (z := (⟨"java/lang/String", "charAt", "(I)C"⟩ : MethodName)) hown (mvT hZ (hw _ (List.mem_of_getElem? (i := 166) rfl))) (mvT hZ (hw _ (List.mem_of_getElem? (i := 167) rfl))) (notFace_of_selects (args := #[]) (mvT hZ (hw _ (List.mem_of_getElem? (i := 169) rfl)))) (mvT hZ (hw _ (List.mem_of_getElem? (i := 169) rfl))) (mvT hZ (hw _ (List.mem_of_getElem? (i := 168) rfl))) (by decide) (backOf (W := 0) (rm_cha l Z a0 hw [] st cs sv ks ((own_dg q0) + (2 : Int32)) (own_txt q0 (own_dn q0) (own_s0 q0) (own_s1 q0)) (own_dg q0) (own_s0 q0) vv h34 n0 (Nat.le_trans Z0 K34.1) (((((((((((B1.ext E3).wr W7).wr W10).wr W13).wr W16).wr W19).wr W22).wr W25).wr W28).wr W31).wr W34) (((((((((((B3.ext E3).other W7 (Or.inl (Nat.ne_of_lt (Nat.lt_of_lt_of_le B1.lt (Nat.le_of_eq g3.symm))))).other W10 (Or.inl (Nat.ne_of_lt (Nat.lt_of_lt_of_le B1.lt (Nat.le_of_eq g3.symm))))).other W13 (Or.inl (Nat.ne_of_lt (Nat.lt_of_lt_of_le B1.lt (Nat.le_of_eq g3.symm))))).other W16 (Or.inl (Nat.ne_of_lt (Nat.lt_of_lt_of_le B1.lt (Nat.le_of_eq g3.symm))))).other W19 (Or.inl (Nat.ne_of_lt (Nat.lt_of_lt_of_le B1.lt (Nat.le_of_eq g3.symm))))).other W22 (Or.inl (Nat.ne_of_lt (Nat.lt_of_lt_of_le B1.lt (Nat.le_of_eq g3.symm))))).other W25 (Or.inl (Nat.ne_of_lt (Nat.lt_of_lt_of_le B1.lt (Nat.le_of_eq g3.symm))))).other W28 (Or.inl (Nat.ne_of_lt (Nat.lt_of_lt_of_le B1.lt (Nat.le_of_eq g3.symm))))).other W31 (Or.inl (Nat.ne_of_lt (Nat.lt_of_lt_of_le B1.lt (Nat.le_of_eq g3.symm))))).other W34 (Or.inl (Nat.ne_of_lt (Nat.lt_of_lt_of_le B1.lt (Nat.le_of_eq g3.symm))))) (((((((((((B2.ext E3).other W7 (Or.inl (Nat.ne_of_lt (Nat.lt_of_lt_of_le B1.lt (Nat.le_of_eq g3.symm))))).other W10 (Or.inl (Nat.ne_of_lt (Nat.lt_of_lt_of_le B1.lt (Nat.le_of_eq g3.symm))))).other W13 (Or.inl (Nat.ne_of_lt (Nat.lt_of_lt_of_le B1.lt (Nat.le_of_eq g3.symm))))).other W16 (Or.inl (Nat.ne_of_lt (Nat.lt_of_lt_of_le B1.lt (Nat.le_of_eq g3.symm))))).other W19 (Or.inl (Nat.ne_of_lt (Nat.lt_of_lt_of_le B1.lt (Nat.le_of_eq g3.symm))))).other W22 (Or.inl (Nat.ne_of_lt (Nat.lt_of_lt_of_le B1.lt (Nat.le_of_eq g3.symm))))).other W25 (Or.inl (Nat.ne_of_lt (Nat.lt_of_lt_of_le B1.lt (Nat.le_of_eq g3.symm))))).other W28 (Or.inl (Nat.ne_of_lt (Nat.lt_of_lt_of_le B1.lt (Nat.le_of_eq g3.symm))))).other W31 (Or.inl (Nat.ne_of_lt (Nat.lt_of_lt_of_le B1.lt (Nat.le_of_eq g3.symm))))).other W34 (Or.inl (Nat.ne_of_lt (Nat.lt_of_lt_of_le B1.lt (Nat.le_of_eq g3.symm))))) ((((((((((((own_sta_keep pS KcJ all0).ext E3).wr W7).wr W10).wr W13).wr W16).wr W19).wr W22).wr W25).wr W28).wr W31).wr W34) pcs (((((((((((B4.ext E3).other W7 (Nat.ne_of_lt (Nat.lt_of_lt_of_le B4.lt (Nat.le_of_eq g3.symm)))).other W10 (Nat.ne_of_lt (Nat.lt_of_lt_of_le B4.lt (Nat.le_of_eq g3.symm)))).other W13 (Nat.ne_of_lt (Nat.lt_of_lt_of_le B4.lt (Nat.le_of_eq g3.symm)))).other W16 (Nat.ne_of_lt (Nat.lt_of_lt_of_le B4.lt (Nat.le_of_eq g3.symm)))).other W19 (Nat.ne_of_lt (Nat.lt_of_lt_of_le B4.lt (Nat.le_of_eq g3.symm)))).other W22 (Nat.ne_of_lt (Nat.lt_of_lt_of_le B4.lt (Nat.le_of_eq g3.symm)))).other W25 (Nat.ne_of_lt (Nat.lt_of_lt_of_le B4.lt (Nat.le_of_eq g3.symm)))).other W28 (Nat.ne_of_lt (Nat.lt_of_lt_of_le B4.lt (Nat.le_of_eq g3.symm)))).other W31 (Nat.ne_of_lt (Nat.lt_of_lt_of_le B4.lt (Nat.le_of_eq g3.symm)))).other W34 (Nat.ne_of_lt (Nat.lt_of_lt_of_le B4.lt (Nat.le_of_eq g3.symm)))) (own_at0 hn) (own_txt_t0 _ _ _ _) (own_s_asc q0).1 pvv ((((((((((((own_sta_keep pSF KcJ all0).ext E3).wr W7).wr W10).wr W13).wr W16).wr W19).wr W22).wr W25).wr W28).wr W31).wr W34)) hZ (hw _ (List.mem_of_getElem? (i := 170) rfl)) (hw _ (List.mem_of_getElem? (i := 6) rfl)) (by decide) (by decide)) q88a q88c (g := (mkF m 339 #[.val (.int i0), .val (.int q0), .val (.ref st), .val (.ref b3), .val (.int (own_dg q0)), .val (.int (1 : Int32)), .val (.int (q0 % (10 : Int32))), .val (.int (0 : Int32)), .val (.int (116 : Int32)), .val (.int (104 : Int32))] [(.int (own_dg q0)), (.ref st)])) rfl (by rw [hml]; rfl) (Steps.refl _) (argsL := [(.int (own_dg q0))]) (rest := []) (lenOf pd_19 rfl) rfl (by show 2 * 0 + _ ≤ _; exact Nat.le_of_eq rfl) (hb hby at_339) (fun _ _ => ⟨rfl, e57, (by decide : 7 + 0 ≤ _), (by decide : 58 + 0 ≤ _)⟩)
          dsimp only [Pt.U, Pt.locs, Pt.cells, Pt.slots] at X88 l88 y88 z88 st88 hQ88
          obtain ⟨rfl, N88q, e88⟩ := hQ88
          have N88 := Fr.app N57 N88q
          have X88 : Stand p l e _ _ m _ below meth c T88 _ 7 58 := own_fold X88 l88 y88 z88
          have R91 : Rch p e below (s₁.setTop (entryFrame m #[(.int i0)] maxLocals)) T88 (mkF m 352 #[.val (.int i0), .val (.int q0), .val (.ref st), .val (.ref b3), .val (.int (own_dg q0)), .val (.int (1 : Int32)), .val (.int (q0 % (10 : Int32))), .val (.int (0 : Int32)), .val (.int (116 : Int32)), .val (.int (104 : Int32))] [(.int ((own_dg q0) + (1 : Int32))), (.ref st)]) := fun t k => by
            refine R89 t ?_
            refine st88.trans ?_
            show Steps p.tables e below (T88.setTop (mkF m 342 #[.val (.int i0), .val (.int q0), .val (.ref st), .val (.ref b3), .val (.int (own_dg q0)), .val (.int (1 : Int32)), .val (.int (q0 % (10 : Int32))), .val (.int (0 : Int32)), .val (.int (116 : Int32)), .val (.int (104 : Int32))] [(.int (own_s0 q0))])) t
            refine XS.iload X88.here hx rfl (hb hby at_342) rfl ?_
            show Steps p.tables e below (T88.setTop (mkF m 344 #[.val (.int i0), .val (.int q0), .val (.ref st), .val (.ref b3), .val (.int (own_dg q0)), .val (.int (1 : Int32)), .val (.int (q0 % (10 : Int32))), .val (.int (0 : Int32)), .val (.int (116 : Int32)), .val (.int (104 : Int32))] [(.int (116 : Int32)), (.int (own_s0 q0))])) t
            refine XS.icmpNo X88.here hx rfl (hb hby at_344) rfl (teq (((own_sfx hn).2 hc246_60).2.2.2 hc275_67 hc292_74 hc309_81).1).2 ?_
            show Steps p.tables e below (T88.setTop (mkF m 347 #[.val (.int i0), .val (.int q0), .val (.ref st), .val (.ref b3), .val (.int (own_dg q0)), .val (.int (1 : Int32)), .val (.int (q0 % (10 : Int32))), .val (.int (0 : Int32)), .val (.int (116 : Int32)), .val (.int (104 : Int32))] [])) t
            refine XS.aloadN X88.here hx rfl (hb hby at_347) rfl rfl ?_
            show Steps p.tables e below (T88.setTop (mkF m 348 #[.val (.int i0), .val (.int q0), .val (.ref st), .val (.ref b3), .val (.int (own_dg q0)), .val (.int (1 : Int32)), .val (.int (q0 % (10 : Int32))), .val (.int (0 : Int32)), .val (.int (116 : Int32)), .val (.int (104 : Int32))] [(.ref st)])) t
            refine XS.iload X88.here hx rfl (hb hby at_348) rfl ?_
            show Steps p.tables e below (T88.setTop (mkF m 350 #[.val (.int i0), .val (.int q0), .val (.ref st), .val (.ref b3), .val (.int (own_dg q0)), .val (.int (1 : Int32)), .val (.int (q0 % (10 : Int32))), .val (.int (0 : Int32)), .val (.int (116 : Int32)), .val (.int (104 : Int32))] [(.int (own_dg q0)), (.ref st)])) t
            refine XS.iconst X88.here hx rfl (hb hby at_350) ?_
            show Steps p.tables e below (T88.setTop (mkF m 351 #[.val (.int i0), .val (.int q0), .val (.ref st), .val (.ref b3), .val (.int (own_dg q0)), .val (.int (1 : Int32)), .val (.int (q0 % (10 : Int32))), .val (.int (0 : Int32)), .val (.int (116 : Int32)), .val (.int (104 : Int32))] [(.int (1 : Int32)), (.int (own_dg q0)), (.ref st)])) t
            refine XS.iadd X88.here hx rfl (hb hby at_351) rfl ?_
            exact k
          obtain ⟨cq90, kq90, q90a, q90b, q90c⟩ := isOf hZ e88 (((((((((((B1.ext E3).wr W7).wr W10).wr W13).wr W16).wr W19).wr W22).wr W25).wr W28).wr W31).wr W34)
          obtain ⟨_, _, ⟨T90, L90, k90, n90⟩, -, X90, ⟨Lc90, hQ90, l90, y90, z90⟩, st90⟩ := X88.virtualBack hx (y := (⟨"java/lang/String", "charAt", "(I)C"⟩ : MethodName)) (z := (⟨"java/lang/String", "charAt", "(I)C"⟩ : MethodName)) hown (mvT hZ (hw _ (List.mem_of_getElem? (i := 166) rfl))) (mvT hZ (hw _ (List.mem_of_getElem? (i := 167) rfl))) (notFace_of_selects (args := #[]) (mvT hZ (hw _ (List.mem_of_getElem? (i := 169) rfl)))) (mvT hZ (hw _ (List.mem_of_getElem? (i := 169) rfl))) (mvT hZ (hw _ (List.mem_of_getElem? (i := 168) rfl))) (by decide) (backOf (W := 0) (rm_cha l Z a0 hw [] st cs sv ks ((own_dg q0) + (2 : Int32)) (own_txt q0 (own_dn q0) (own_s0 q0) (own_s1 q0)) ((own_dg q0) + (1 : Int32)) (own_s1 q0) vv h34 n0 (Nat.le_trans Z0 K34.1) (((((((((((B1.ext E3).wr W7).wr W10).wr W13).wr W16).wr W19).wr W22).wr W25).wr W28).wr W31).wr W34) (((((((((((B3.ext E3).other W7 (Or.inl (Nat.ne_of_lt (Nat.lt_of_lt_of_le B1.lt (Nat.le_of_eq g3.symm))))).other W10 (Or.inl (Nat.ne_of_lt (Nat.lt_of_lt_of_le B1.lt (Nat.le_of_eq g3.symm))))).other W13 (Or.inl (Nat.ne_of_lt (Nat.lt_of_lt_of_le B1.lt (Nat.le_of_eq g3.symm))))).other W16 (Or.inl (Nat.ne_of_lt (Nat.lt_of_lt_of_le B1.lt (Nat.le_of_eq g3.symm))))).other W19 (Or.inl (Nat.ne_of_lt (Nat.lt_of_lt_of_le B1.lt (Nat.le_of_eq g3.symm))))).other W22 (Or.inl (Nat.ne_of_lt (Nat.lt_of_lt_of_le B1.lt (Nat.le_of_eq g3.symm))))).other W25 (Or.inl (Nat.ne_of_lt (Nat.lt_of_lt_of_le B1.lt (Nat.le_of_eq g3.symm))))).other W28 (Or.inl (Nat.ne_of_lt (Nat.lt_of_lt_of_le B1.lt (Nat.le_of_eq g3.symm))))).other W31 (Or.inl (Nat.ne_of_lt (Nat.lt_of_lt_of_le B1.lt (Nat.le_of_eq g3.symm))))).other W34 (Or.inl (Nat.ne_of_lt (Nat.lt_of_lt_of_le B1.lt (Nat.le_of_eq g3.symm))))) (((((((((((B2.ext E3).other W7 (Or.inl (Nat.ne_of_lt (Nat.lt_of_lt_of_le B1.lt (Nat.le_of_eq g3.symm))))).other W10 (Or.inl (Nat.ne_of_lt (Nat.lt_of_lt_of_le B1.lt (Nat.le_of_eq g3.symm))))).other W13 (Or.inl (Nat.ne_of_lt (Nat.lt_of_lt_of_le B1.lt (Nat.le_of_eq g3.symm))))).other W16 (Or.inl (Nat.ne_of_lt (Nat.lt_of_lt_of_le B1.lt (Nat.le_of_eq g3.symm))))).other W19 (Or.inl (Nat.ne_of_lt (Nat.lt_of_lt_of_le B1.lt (Nat.le_of_eq g3.symm))))).other W22 (Or.inl (Nat.ne_of_lt (Nat.lt_of_lt_of_le B1.lt (Nat.le_of_eq g3.symm))))).other W25 (Or.inl (Nat.ne_of_lt (Nat.lt_of_lt_of_le B1.lt (Nat.le_of_eq g3.symm))))).other W28 (Or.inl (Nat.ne_of_lt (Nat.lt_of_lt_of_le B1.lt (Nat.le_of_eq g3.symm))))).other W31 (Or.inl (Nat.ne_of_lt (Nat.lt_of_lt_of_le B1.lt (Nat.le_of_eq g3.symm))))).other W34 (Or.inl (Nat.ne_of_lt (Nat.lt_of_lt_of_le B1.lt (Nat.le_of_eq g3.symm))))) ((((((((((((own_sta_keep pS KcJ all0).ext E3).wr W7).wr W10).wr W13).wr W16).wr W19).wr W22).wr W25).wr W28).wr W31).wr W34) pcs (((((((((((B4.ext E3).other W7 (Nat.ne_of_lt (Nat.lt_of_lt_of_le B4.lt (Nat.le_of_eq g3.symm)))).other W10 (Nat.ne_of_lt (Nat.lt_of_lt_of_le B4.lt (Nat.le_of_eq g3.symm)))).other W13 (Nat.ne_of_lt (Nat.lt_of_lt_of_le B4.lt (Nat.le_of_eq g3.symm)))).other W16 (Nat.ne_of_lt (Nat.lt_of_lt_of_le B4.lt (Nat.le_of_eq g3.symm)))).other W19 (Nat.ne_of_lt (Nat.lt_of_lt_of_le B4.lt (Nat.le_of_eq g3.symm)))).other W22 (Nat.ne_of_lt (Nat.lt_of_lt_of_le B4.lt (Nat.le_of_eq g3.symm)))).other W25 (Nat.ne_of_lt (Nat.lt_of_lt_of_le B4.lt (Nat.le_of_eq g3.symm)))).other W28 (Nat.ne_of_lt (Nat.lt_of_lt_of_le B4.lt (Nat.le_of_eq g3.symm)))).other W31 (Nat.ne_of_lt (Nat.lt_of_lt_of_le B4.lt (Nat.le_of_eq g3.symm)))).other W34 (Nat.ne_of_lt (Nat.lt_of_lt_of_le B4.lt (Nat.le_of_eq g3.symm)))) (own_at1 hn).1 (by rw [(own_at1 hn).2]; exact own_txt_t1 _ _ _ _) (own_s_asc q0).2 pvv ((((((((((((own_sta_keep pSF KcJ all0).ext E3).wr W7).wr W10).wr W13).wr W16).wr W19).wr W22).wr W25).wr W28).wr W31).wr W34)) hZ (hw _ (List.mem_of_getElem? (i := 170) rfl)) (hw _ (List.mem_of_getElem? (i := 6) rfl)) (by decide) (by decide)) q90a q90c (g := (mkF m 352 #[.val (.int i0), .val (.int q0), .val (.ref st), .val (.ref b3), .val (.int (own_dg q0)), .val (.int (1 : Int32)), .val (.int (q0 % (10 : Int32))), .val (.int (0 : Int32)), .val (.int (116 : Int32)), .val (.int (104 : Int32))] [(.int ((own_dg q0) + (1 : Int32))), (.ref st)])) rfl (by rw [hml]; rfl) (Steps.refl _) (argsL := [(.int ((own_dg q0) + (1 : Int32)))]) (rest := []) (lenOf pd_19 rfl) rfl (by show 2 * 0 + _ ≤ _; exact Nat.le_of_eq rfl) (hb hby at_352) (fun _ _ => ⟨rfl, e88, (by decide : 7 + 0 ≤ _), (by decide : 58 + 0 ≤ _)⟩)
          dsimp only [Pt.U, Pt.locs, Pt.cells, Pt.slots] at X90 l90 y90 z90 st90 hQ90
          obtain ⟨rfl, N90q, e90⟩ := hQ90
          have N90 := Fr.app N88 N90q
          have X90 : Stand p l e _ _ m _ below meth c T90 _ 7 58 := own_fold X90 l90 y90 z90
          have R92 : Rch p e below (s₁.setTop (entryFrame m #[(.int i0)] maxLocals)) T90 (mkF m 365 #[.val (.int i0), .val (.int q0), .val (.ref st), .val (.ref b3), .val (.int (own_dg q0)), .val (.int (1 : Int32)), .val (.int (q0 % (10 : Int32))), .val (.int (0 : Int32)), .val (.int (116 : Int32)), .val (.int (104 : Int32))] [(.int (1 : Int32))]) := fun t k => by
            refine R91 t ?_
            refine st90.trans ?_
            show Steps p.tables e below (T90.setTop (mkF m 355 #[.val (.int i0), .val (.int q0), .val (.ref st), .val (.ref b3), .val (.int (own_dg q0)), .val (.int (1 : Int32)), .val (.int (q0 % (10 : Int32))), .val (.int (0 : Int32)), .val (.int (116 : Int32)), .val (.int (104 : Int32))] [(.int (own_s1 q0))])) t
            refine XS.iload X90.here hx rfl (hb hby at_355) rfl ?_
            show Steps p.tables e below (T90.setTop (mkF m 357 #[.val (.int i0), .val (.int q0), .val (.ref st), .val (.ref b3), .val (.int (own_dg q0)), .val (.int (1 : Int32)), .val (.int (q0 % (10 : Int32))), .val (.int (0 : Int32)), .val (.int (116 : Int32)), .val (.int (104 : Int32))] [(.int (104 : Int32)), (.int (own_s1 q0))])) t
            refine XS.icmpNo X90.here hx rfl (hb hby at_357) rfl (teq (((own_sfx hn).2 hc246_60).2.2.2 hc275_67 hc292_74 hc309_81).2).2 ?_
            show Steps p.tables e below (T90.setTop (mkF m 360 #[.val (.int i0), .val (.int q0), .val (.ref st), .val (.ref b3), .val (.int (own_dg q0)), .val (.int (1 : Int32)), .val (.int (q0 % (10 : Int32))), .val (.int (0 : Int32)), .val (.int (116 : Int32)), .val (.int (104 : Int32))] [])) t
            refine XS.iconst X90.here hx rfl (hb hby at_360) ?_
            show Steps p.tables e below (T90.setTop (mkF m 361 #[.val (.int i0), .val (.int q0), .val (.ref st), .val (.ref b3), .val (.int (own_dg q0)), .val (.int (1 : Int32)), .val (.int (q0 % (10 : Int32))), .val (.int (0 : Int32)), .val (.int (116 : Int32)), .val (.int (104 : Int32))] [(.int (1 : Int32))])) t
            refine XS.goto X90.here hx rfl (pc0 := 361) (pc' := 365) rfl (hb hby at_361) (by decide) (by decide) ?_
            exact k
          obtain ⟨fs, hr, hrun, hended, hRW⟩ := Stand.leaveW (s := s) X90 SJ (by rw [e90]; exact KK34.1) (v := some (.int (1 : Int32))) (fun h => by rw [Bd.returns] at h; cases h) (BodyLoose.notSynchronized Bd)
          refine ⟨_, _, R92 _ ?_, hrun, hended, _, _, rfl, ?_, ?_, ⟨hRW.1, hRW.2.1, hRW.2.2.1, hRW.2.2.2.mono (by decide) (by decide)⟩⟩
          · exact retN X90 hx (t := .boolean) Bd.returns (by simp) (hb hby at_365) hr
          · show Q_rm_law Z i0 cs vv ta tb ka kt h0 n0 _ T90.heap _
            rw [e90]
            exact ⟨rfl, N90, K34⟩
          · show CHr Z consts_1 s.vm s.heap T90.vm T90.heap
            rw [e90]
            rw [hh]
            exact (CJ.trans (CHr.keep KK34 own_sf0 CJ.1)).trans (CHv.at X90 hZ hEL (CHr.keep KK34 own_sf0 CJ.1).1)
set_option maxRecDepth 65536 in
set_option maxHeartbeats 40000000 in
theorem comes_1 {Post : Tables → Env → Array Value → State → Outcome → State → Prop} (hpost : ∀ tb e args s v u, (limb_1_1.after args s (.returned v) u = true ∧ limb_1_2.after args s (.returned v) u = true ∧ True) → FramedW s (.returned v) u (Jvm.fieldLocs frame_1_writes args s ++ Jvm.arrayLocs frame_1_arrays args s ++ Jvm.staticLocs frame_1_statics s) 32 4288 → Post tb e args s (.returned v) u) :
    ArmFor flags0 classFile x code maxLocals ret World_1 tables_1 room_1 Calls_1 rest_1 Pre_1 Post := by
  intro l hfl _ _ p e ha hc hk s m args below hf hA hF happ hP
  obtain ⟨hcalls, hrest, hpre⟩ := hP
  obtain ⟨-, -, -, hnamed, -, -, -, hat⟩ := (Spec.applies_iff hf).mp happ
  obtain ⟨hg, hn⟩ := and_e (Cond.before_iff.mp (show (Jvm.Cond.and given_1 narrow_1).before args s = true from hpre))
  obtain ⟨g0, g1⟩ := and_e hg
  obtain ⟨w0, rfl⟩ : ∃ w0 : Value, args = #[w0] := by
    have hs : args.size = 1 := by simpa [Cond.value, given_1] using g0
    obtain ⟨L⟩ := args
    match L, hs with
    | [w0], _ => exact ⟨w0, rfl⟩
  have hw := fun d (hd : d ∈ tables_1) => atoms_spec (ws := Jvm.Cond.code x code maxLocals ret :: tables_1) hat d (List.mem_cons_of_mem _ hd)
  obtain ⟨hsets, hown0⟩ := atoms_of _ (rest_1_c_eq ▸ (show rest_1_c.before _ s = true from hrest))
  obtain ⟨i0, ei0⟩ := is_v g1
  obtain rfl : w0 = (.int i0) := Option.some.inj ei0
  obtain ⟨cs, ecs⟩ := is_v (Cond.before_iff.mp (hsets _ (List.mem_of_getElem? (i := 1) rfl)))
  have S_cs : Sta s s.heap "java/lang/String" "COMPACT_STRINGS" "Z" (.int cs) := Sta.start ecs (Or.inl (hsets _ (List.mem_of_getElem? (i := 0) rfl)))
  have pcs : ¬ (cs = (0 : Int32)) := gotF (Cond.eq_ints ecs (Term.int_eval (0))) (not_v (Cond.before_iff.mp (hsets _ (List.mem_of_getElem? (i := 2) rfl))))
  obtain ⟨vv, evv, pvv⟩ := isR_v (Cond.before_iff.mp (hsets _ (List.mem_of_getElem? (i := 8) rfl)))
  have S_vv : Sta s s.heap "jdk/internal/util/Preconditions" "SIOOBE_FORMATTER" "Ljava/util/function/BiFunction;" vv := Sta.start evv (Or.inl (hsets _ (List.mem_of_getElem? (i := 7) rfl)))
  obtain ⟨ta, ka, eta, V_ta⟩ := own_tab (hw _ (List.mem_of_getElem? (i := 8) rfl)) (hsets _ (List.mem_of_getElem? (i := 12) rfl)) (hsets _ (List.mem_of_getElem? (i := 13) rfl)) (hsets _ (List.mem_of_getElem? (i := 14) rfl)) own_ones_f (fun i hi => own_fit_n _ (by omega))
  have S_ta : Sta s s.heap "java/lang/Integer" "DigitOnes" "[B" (.ref ta) := Sta.start eta (Or.inl (hsets _ (List.mem_of_getElem? (i := 11) rfl)))
  obtain ⟨tb, kt, etb, V_tb⟩ := own_tab (hw _ (List.mem_of_getElem? (i := 8) rfl)) (hsets _ (List.mem_of_getElem? (i := 17) rfl)) (hsets _ (List.mem_of_getElem? (i := 18) rfl)) (hsets _ (List.mem_of_getElem? (i := 19) rfl)) own_tens_f (fun i hi => own_fit_n _ (by omega))
  have S_tb : Sta s s.heap "java/lang/Integer" "DigitTens" "[B" (.ref tb) := Sta.start etb (Or.inl (hsets _ (List.mem_of_getElem? (i := 16) rfl)))
  have hCH : CHv s consts_1 s.vm s.heap := CHv.start (own_EL hw) (fun q hq => hcalls.1 q hq) (hsets _ (List.mem_of_getElem? (i := 2) rfl)) (hw _ (List.mem_of_getElem? (i := 8) rfl)) (hw _ (List.mem_of_getElem? (i := 7) rfl))
  obtain ⟨n, o, h1, h2, h3, _, L, rfl, ⟨rfl, N, -⟩, -, hq⟩ := rm_law l s _ hw tables_1 i0 cs vv ta tb ka kt s.heap s.heap.size (Nat.le_refl _) S_cs pcs S_vv pvv S_ta S_tb V_ta V_tb p e ha hc hk s m _ below hf ((Spec.applies_iff_loose hf).mp happ).1 ⟨rfl, State.Warmed39.refl s, rfl, hCH⟩ trivial
  refine ⟨n, _, h1, h2, h3, hpost _ _ _ _ _ _ ⟨Cond.after_iff.mpr rfl, Cond.after_iff.mpr (eq_i res_at (Term.int_eval (1)) rfl), trivial⟩ ⟨hq.1, hq.2.1, hq.2.2.1, (hq.2.2.2.sift fun y hy => Or.inr (N y hy)).mono (by decide) (by decide)⟩⟩
theorem main_1_1 : Claimed_1_1 := comes_1 fun _ _ _ _ _ _ h hF => ⟨h.1, hF⟩
theorem main_1_2 : Claimed_1_2 := comes_1 fun _ _ _ _ _ _ h hF => ⟨h.2.1, hF⟩
end Jvm.Pilot.@@N@@
namespace Jvm.Pilot.@@N@@
open Jvm Jvm.ClassFile Sem Op Lib Jvm.Free Jvm.Stand Jvm.Pilot.@@N@@.Jvm.D
/-! MADE BY PROGRAM (witnessworld.py) out of the Statement's table words and the real class files: 27 classes; the members and pool entries that the words name. The judged class is class 1, her method 3. -/
namespace start1
open Jvm.ClassFile
def u (s : String) : CpInfo := .utf8 (stringToUtf16 s)
/-- a pool by its gaps: so many unusable entries, then the entry; so many at the end -/
def gap : Nat → List CpInfo → List CpInfo
  | 0, r => r
  | n + 1, r => .unusable :: gap n r
def poolList (es : List (Nat × CpInfo)) (last : Nat) : List CpInfo := es.foldr (fun e r => gap e.1 (e.2 :: r)) (gap last [])
def pool (es : List (Nat × CpInfo)) (last : Nat) : Array CpInfo := ⟨poolList es last⟩
def fileOf (pool : Array CpInfo) (this : Nat) (attrs : Array Attribute := #[]) (ms : Array MethodInfo := #[]) (fl : Nat := 33) (sup : Nat := 0) (ifs : Array Nat := #[]) (fds : Array FieldInfo := #[]) : ClassFile where
  minorVersion := 0
  majorVersion := 65
  constantPool := pool
  accessFlags := fl
  thisClass := this
  superClass := sup
  interfaces := ifs
  fields := fds
  methods := ms
  attributes := attrs
def plain (name : String) (sup : Option ClassId) : Class where
  name := name
  kind := .ordinary
  loader := none
  accessFlags := 33
  super := sup
  interfaces := #[]
  cf := none
  fields := #[]
  methods := #[]
  instanceTypes := #[]
  staticTypes := #[]
  resolved := #[]
  callSites := []
  init := .initialized
  statics := none
  mirror := none

def pool0 : Array CpInfo := pool [(5, u "<init>"), (0, u "()V"), (1, .class_ 10), (1, u "java/lang/Object")] 113

def k0c0 : Code := { maxStack := 0, maxLocals := 1, code := object_method_1_code, exceptionTable := #[], attributes := #[] }
def k0m0 : Method := { name := "<init>", desc := "()V", sig := { parameters := [], returnType := none }, accessFlags := 1, code := some k0c0 }
/-- java/lang/Object -/
def k0 : Class := { plain "java/lang/Object" none with
  accessFlags := 33
  interfaces := #[]
  cf := some (fileOf pool0 8 #[] #[{ accessFlags := 1, nameIndex := 5, descriptorIndex := 6, attributes := #[] }] 33 0 #[] #[])
  fields := #[]
  methods := #[k0m0]
  instanceTypes := #[]
  staticTypes := #[]
  resolved := Array.replicate 124 none
  statics := none }

def pool1 : Array CpInfo := pool [(2, .class_ 4), (1, u "java/lang/Object"), (0, u "<init>"), (0, u "()V"), (0, .integer 100000), (0, .integer 1000000), (0, .integer 10000000), (0, .integer 100000000), (0, .integer 1000000000), (0, .methodref 13 14), (0, .class_ 15), (0, .nameAndType 16 17), (0, u "java/lang/String"), (0, u "charAt"), (0, u "(I)C"), (0, .long 10), (1, .integer 2147483647), (0, .methodref 22 23), (0, .class_ 24), (0, .nameAndType 25 26), (0, u "com/example/clausewright/clausewright/Ordinal"), (0, u "print"), (0, u "(I)Ljava/lang/String;"), (0, .long 100), (1, .long 1000), (1, .long 10000), (1, .long 100000), (1, .long 1000000), (1, .long 10000000), (1, .long 100000000), (1, .long 1000000000), (1, .methodref 44 45), (0, .class_ 46), (0, .nameAndType 47 48), (0, u "com/example/clausewright/clausewright/OrdinalPrintPinLaw"), (0, u "digits"), (0, u "(I)I"), (0, .methodref 13 50), (0, .nameAndType 51 52), (0, u "length"), (0, u "()I"), (0, .methodref 44 54), (0, .nameAndType 55 56), (0, u "at"), (0, u "(Ljava/lang/String;III[J)Z"), (3, u "law"), (0, u "(I)Z")] 4

def k1m0 : Method := { name := "<init>", desc := "()V", sig := { parameters := [], returnType := none }, accessFlags := 2, code := none }
def k1c1 : Code := { maxStack := 2, maxLocals := 1, code := method_2_code, exceptionTable := #[], attributes := #[] }
def k1m1 : Method := { name := "digits", desc := "(I)I", sig := { parameters := [.int], returnType := some .int }, accessFlags := 10, code := some k1c1 }
def k1c2 : Code := { maxStack := 6, maxLocals := 7, code := method_3_code, exceptionTable := #[], attributes := #[] }
def k1m2 : Method := { name := "at", desc := "(Ljava/lang/String;III[J)Z", sig := { parameters := [(.object "java/lang/String"), .int, .int, .int, (.array .long)], returnType := some .boolean }, accessFlags := 10, code := some k1c2 }
def k1c3 : Code := { maxStack := 5, maxLocals := 10, code := code, exceptionTable := #[], attributes := #[] }
def k1m3 : Method := { name := "law", desc := "(I)Z", sig := { parameters := [.int], returnType := some .boolean }, accessFlags := 9, code := some k1c3 }
/-- com/example/clausewright/clausewright/OrdinalPrintPinLaw -/
def k1 : Class := { plain "com/example/clausewright/clausewright/OrdinalPrintPinLaw" (some 0) with
  accessFlags := 49
  interfaces := #[]
  cf := some (fileOf pool1 44 #[] #[{ accessFlags := 2, nameIndex := 5, descriptorIndex := 6, attributes := #[] }, { accessFlags := 10, nameIndex := 47, descriptorIndex := 48, attributes := #[] }, { accessFlags := 10, nameIndex := 55, descriptorIndex := 56, attributes := #[] }, { accessFlags := 9, nameIndex := 60, descriptorIndex := 61, attributes := #[] }] 49 2 #[] #[])
  fields := #[]
  methods := #[k1m0, k1m1, k1m2, k1m3]
  instanceTypes := #[]
  staticTypes := #[]
  resolved := Array.replicate 66 none
  statics := none }

def pool2 : Array CpInfo := pool [(2, .class_ 4), (0, .nameAndType 5 6), (0, u "java/lang/Object"), (0, u "<init>"), (0, u "()V"), (27, .class_ 36), (1, u "com/example/clausewright/clausewright/Ordinal"), (0, u "WORDS"), (0, u "Ljava/util/List;"), (6, .string 46), (0, u "th"), (0, .string 48), (0, u "st"), (0, .string 50), (0, u "nd"), (0, .string 52), (0, u "rd"), (0, .class_ 54), (0, u "java/lang/StringBuilder"), (0, .methodref 53 3), (0, .methodref 53 57), (0, .nameAndType 58 59), (0, u "append"), (0, u "(I)Ljava/lang/StringBuilder;"), (0, .methodref 53 61), (0, .nameAndType 58 62), (0, u "(Ljava/lang/String;)Ljava/lang/StringBuilder;"), (0, .methodref 53 64), (0, .nameAndType 65 66), (0, u "toString"), (0, u "()Ljava/lang/String;"), (24, u "PRINTED"), (0, u "Ljava/lang/String;"), (9, u "print"), (0, u "(I)Ljava/lang/String;")] 3

def k2m0 : Method := { name := "<init>", desc := "()V", sig := { parameters := [], returnType := none }, accessFlags := 2, code := none }
def k2c1 : Code := { maxStack := 2, maxLocals := 4, code := prog_6_method_3_code, exceptionTable := #[], attributes := #[] }
def k2m1 : Method := { name := "print", desc := "(I)Ljava/lang/String;", sig := { parameters := [.int], returnType := some (.object "java/lang/String") }, accessFlags := 8, code := some k2c1 }
/-- com/example/clausewright/clausewright/Ordinal -/
def k2 : Class := { plain "com/example/clausewright/clausewright/Ordinal" (some 0) with
  accessFlags := 48
  interfaces := #[]
  cf := some (fileOf pool2 34 #[] #[{ accessFlags := 2, nameIndex := 5, descriptorIndex := 6, attributes := #[] }, { accessFlags := 8, nameIndex := 102, descriptorIndex := 103, attributes := #[] }] 48 2 #[] #[{ accessFlags := 24, nameIndex := 91, descriptorIndex := 92, attributes := #[] }, { accessFlags := 26, nameIndex := 37, descriptorIndex := 38, attributes := #[] }])
  fields := #[{ name := "PRINTED", type := (.object "java/lang/String"), accessFlags := 24, slot := 0, constantValue := 0 }, { name := "WORDS", type := (.object "java/util/List"), accessFlags := 26, slot := 1, constantValue := 0 }]
  methods := #[k2m0, k2m1]
  instanceTypes := #[]
  staticTypes := #[(.object "java/lang/String"), (.object "java/util/List")]
  resolved := Array.replicate 107 none
  statics := none }

def pool3 : Array CpInfo := pool [(1, .class_ 2), (0, u "java/io/Serializable"), (0, .class_ 4), (0, u "java/lang/Object")] 2

/-- java/io/Serializable -/
def k3 : Class := { plain "java/io/Serializable" (some 0) with
  accessFlags := 1537
  interfaces := #[]
  cf := some (fileOf pool3 1 #[] #[] 1537 3 #[] #[])
  fields := #[]
  methods := #[]
  instanceTypes := #[]
  staticTypes := #[]
  resolved := Array.replicate 7 none
  statics := none }

def pool4 : Array CpInfo := pool [(1, .class_ 2), (0, u "java/lang/Comparable"), (0, .class_ 4), (0, u "java/lang/Object")] 7

/-- java/lang/Comparable -/
def k4 : Class := { plain "java/lang/Comparable" (some 0) with
  accessFlags := 1537
  interfaces := #[]
  cf := some (fileOf pool4 1 #[] #[] 1537 3 #[] #[])
  fields := #[]
  methods := #[]
  instanceTypes := #[]
  staticTypes := #[]
  resolved := Array.replicate 12 none
  statics := none }

def pool5 : Array CpInfo := pool [(2, .class_ 4), (1, u "java/lang/CharSequence"), (42, .class_ 48), (0, u "java/lang/CharSequence$1CodePointIterator"), (10, .class_ 60), (0, u "java/lang/CharSequence$1CharIterator"), (5, .class_ 67), (0, u "java/lang/Object")] 63

/-- java/lang/CharSequence -/
def k5 : Class := { plain "java/lang/CharSequence" (some 0) with
  accessFlags := 1537
  interfaces := #[]
  cf := some (fileOf pool5 2 #[.nestMembers #[47, 59]] #[] 1537 66 #[] #[])
  fields := #[]
  methods := #[]
  instanceTypes := #[]
  staticTypes := #[]
  resolved := Array.replicate 131 none
  statics := none }

def pool6 : Array CpInfo := pool [(1, .class_ 2), (0, u "java/lang/constant/Constable"), (0, .class_ 4), (0, u "java/lang/Object")] 6

/-- java/lang/constant/Constable -/
def k6 : Class := { plain "java/lang/constant/Constable" (some 0) with
  accessFlags := 1537
  interfaces := #[]
  cf := some (fileOf pool6 1 #[] #[] 1537 3 #[] #[])
  fields := #[]
  methods := #[]
  instanceTypes := #[]
  staticTypes := #[]
  resolved := Array.replicate 11 none
  statics := none }

def pool7 : Array CpInfo := pool [(1, .class_ 2), (0, u "java/lang/constant/ConstantDesc"), (0, .class_ 4), (0, u "java/lang/Object")] 32

/-- java/lang/constant/ConstantDesc -/
def k7 : Class := { plain "java/lang/constant/ConstantDesc" (some 0) with
  accessFlags := 1537
  interfaces := #[]
  cf := some (fileOf pool7 1 #[] #[] 1537 3 #[] #[])
  fields := #[]
  methods := #[]
  instanceTypes := #[]
  staticTypes := #[]
  resolved := Array.replicate 37 none
  statics := none }

def pool8 : Array CpInfo := pool [(1, .methodref 2 3), (0, .class_ 4), (0, .nameAndType 5 6), (0, u "java/lang/Object"), (0, u "<init>"), (0, u "()V"), (2, .fieldref 10 11), (0, .class_ 12), (0, .nameAndType 13 14), (0, u "java/lang/String"), (0, u "value"), (0, u "[B"), (0, .fieldref 10 16), (0, .nameAndType 17 18), (0, u "coder"), (0, u "B"), (2, u "hash"), (0, u "I"), (2, u "hashIsZero"), (0, u "Z"), (11, .fieldref 10 39), (0, .nameAndType 40 26), (0, u "COMPACT_STRINGS"), (13, .methodref 55 56), (0, .class_ 57), (0, .nameAndType 58 59), (0, u "java/util/Arrays"), (0, u "copyOfRange"), (0, u "([BII)[B"), (47, .class_ 109), (1, u "java/lang/StringLatin1"), (32, u "()Z"), (50, .class_ 195), (1, u "java/lang/System"), (16, .methodref 193 213), (0, .nameAndType 214 215), (0, u "arraycopy"), (0, u "(Ljava/lang/Object;ILjava/lang/Object;II)V"), (118, u "()I"), (0, .methodref 10 336), (0, .nameAndType 17 337), (0, u "()B"), (2, u "()[B"), (22, u "([BI)C"), (27, u "(II)V"), (35, u "(I)C"), (61, .methodref 10 490), (0, .nameAndType 5 491), (0, u "(Ljava/lang/AbstractStringBuilder;Ljava/lang/Void;)V"), (0, .methodref 10 493), (0, .nameAndType 494 142), (0, u "isLatin1"), (0, .methodref 107 496), (0, .nameAndType 497 363), (0, u "charAt"), (3, u "checkIndex"), (4, .nameAndType 507 334), (0, u "length"), (24, u "getBytes"), (16, .methodref 550 506), (0, .class_ 551), (0, u "java/lang/AbstractStringBuilder"), (0, .methodref 550 553), (0, .nameAndType 554 340), (0, u "getValue"), (20, .class_ 576), (0, u "java/lang/CharSequence"), (22, u "CASE_INSENSITIVE_ORDER"), (0, u "Ljava/util/Comparator;"), (220, u "([BIB)V"), (225, .methodref 550 493), (5, .fieldref 1054 1055), (0, .class_ 1056), (0, .nameAndType 1057 1058), (0, u "jdk/internal/util/Preconditions"), (0, u "SIOOBE_FORMATTER"), (0, u "Ljava/util/function/BiFunction;"), (0, .methodref 1054 1060), (0, .nameAndType 501 1061), (0, u "(IILjava/util/function/BiFunction;)I"), (39, u "serialPersistentFields"), (0, u "[Ljava/io/ObjectStreamField;"), (0, .class_ 1104), (0, u "java/lang/String$CaseInsensitiveComparator"), (1, .class_ 1107), (0, u "java/io/Serializable"), (0, .class_ 1109), (0, u "java/lang/Comparable"), (0, .class_ 1111), (0, u "java/lang/constant/Constable"), (0, .class_ 1113), (0, u "java/lang/constant/ConstantDesc"), (2, u "serialVersionUID"), (0, u "J"), (3, u "REPL"), (0, u "C"), (2, u "LATIN1"), (1, u "UTF16"), (105, u "(Ljava/lang/StringBuilder;)V")] 217

def k8m0 : Method := { name := "<init>", desc := "()V", sig := { parameters := [], returnType := none }, accessFlags := 1, code := none }
def k8c1 : Code := { maxStack := 3, maxLocals := 2, code := jdk_42_method_53_code, exceptionTable := #[], attributes := #[] }
def k8m1 : Method := { name := "<init>", desc := "(Ljava/lang/StringBuilder;)V", sig := { parameters := [(.object "java/lang/StringBuilder")], returnType := none }, accessFlags := 1, code := some k8c1 }
def k8c2 : Code := { maxStack := 2, maxLocals := 1, code := jdk_42_method_54_code, exceptionTable := #[], attributes := #[] }
def k8m2 : Method := { name := "length", desc := "()I", sig := { parameters := [], returnType := some .int }, accessFlags := 1, code := some k8c2 }
def k8c3 : Code := { maxStack := 2, maxLocals := 2, code := jdk_42_method_56_code, exceptionTable := #[], attributes := #[] }
def k8m3 : Method := { name := "charAt", desc := "(I)C", sig := { parameters := [.int], returnType := some .char }, accessFlags := 1, code := some k8c3 }
def k8c4 : Code := { maxStack := 5, maxLocals := 4, code := jdk_42_method_147_code, exceptionTable := #[], attributes := #[] }
def k8m4 : Method := { name := "getBytes", desc := "([BIB)V", sig := { parameters := [(.array .byte), .int, .byte], returnType := none }, accessFlags := 0, code := some k8c4 }
def k8c5 : Code := { maxStack := 5, maxLocals := 5, code := jdk_42_method_150_code, exceptionTable := #[], attributes := #[] }
def k8m5 : Method := { name := "<init>", desc := "(Ljava/lang/AbstractStringBuilder;Ljava/lang/Void;)V", sig := { parameters := [(.object "java/lang/AbstractStringBuilder"), (.object "java/lang/Void")], returnType := none }, accessFlags := 0, code := some k8c5 }
def k8c6 : Code := { maxStack := 1, maxLocals := 1, code := jdk_42_method_152_code, exceptionTable := #[], attributes := #[] }
def k8m6 : Method := { name := "coder", desc := "()B", sig := { parameters := [], returnType := some .byte }, accessFlags := 0, code := some k8c6 }
def k8c7 : Code := { maxStack := 1, maxLocals := 1, code := jdk_42_method_154_code, exceptionTable := #[], attributes := #[] }
def k8m7 : Method := { name := "isLatin1", desc := "()Z", sig := { parameters := [], returnType := some .boolean }, accessFlags := 0, code := some k8c7 }
def k8c8 : Code := { maxStack := 3, maxLocals := 2, code := jdk_42_method_155_code, exceptionTable := #[], attributes := #[] }
def k8m8 : Method := { name := "checkIndex", desc := "(II)V", sig := { parameters := [.int, .int], returnType := none }, accessFlags := 8, code := some k8c8 }
/-- java/lang/String -/
def k8 : Class := { plain "java/lang/String" (some 0) with
  accessFlags := 49
  interfaces := #[3, 4, 5, 6, 7]
  cf := some (fileOf pool8 10 #[.nestMembers #[1103]] #[{ accessFlags := 1, nameIndex := 5, descriptorIndex := 6, attributes := #[] }, { accessFlags := 1, nameIndex := 5, descriptorIndex := 1233, attributes := #[] }, { accessFlags := 1, nameIndex := 507, descriptorIndex := 334, attributes := #[] }, { accessFlags := 1, nameIndex := 497, descriptorIndex := 427, attributes := #[] }, { accessFlags := 0, nameIndex := 532, descriptorIndex := 821, attributes := #[] }, { accessFlags := 0, nameIndex := 5, descriptorIndex := 491, attributes := #[] }, { accessFlags := 0, nameIndex := 17, descriptorIndex := 337, attributes := #[] }, { accessFlags := 0, nameIndex := 494, descriptorIndex := 142, attributes := #[] }, { accessFlags := 8, nameIndex := 501, descriptorIndex := 391, attributes := #[] }] 49 2 #[1106, 1108, 575, 1110, 1112] #[{ accessFlags := 18, nameIndex := 13, descriptorIndex := 14, attributes := #[] }, { accessFlags := 18, nameIndex := 17, descriptorIndex := 18, attributes := #[] }, { accessFlags := 2, nameIndex := 21, descriptorIndex := 22, attributes := #[] }, { accessFlags := 2, nameIndex := 25, descriptorIndex := 26, attributes := #[] }, { accessFlags := 26, nameIndex := 1116, descriptorIndex := 1117, attributes := #[] }, { accessFlags := 24, nameIndex := 40, descriptorIndex := 26, attributes := #[] }, { accessFlags := 26, nameIndex := 1101, descriptorIndex := 1102, attributes := #[] }, { accessFlags := 26, nameIndex := 1121, descriptorIndex := 1122, attributes := #[] }, { accessFlags := 25, nameIndex := 599, descriptorIndex := 600, attributes := #[] }, { accessFlags := 24, nameIndex := 1125, descriptorIndex := 18, attributes := #[] }, { accessFlags := 24, nameIndex := 1127, descriptorIndex := 18, attributes := #[] }])
  fields := #[{ name := "value", type := (.array .byte), accessFlags := 18, slot := 0, constantValue := 0 }, { name := "coder", type := .byte, accessFlags := 18, slot := 1, constantValue := 0 }, { name := "hash", type := .int, accessFlags := 2, slot := 2, constantValue := 0 }, { name := "hashIsZero", type := .boolean, accessFlags := 2, slot := 3, constantValue := 0 }, { name := "serialVersionUID", type := .long, accessFlags := 26, slot := 0, constantValue := 0 }, { name := "COMPACT_STRINGS", type := .boolean, accessFlags := 24, slot := 1, constantValue := 0 }, { name := "serialPersistentFields", type := (.array (.object "java/io/ObjectStreamField")), accessFlags := 26, slot := 2, constantValue := 0 }, { name := "REPL", type := .char, accessFlags := 26, slot := 3, constantValue := 0 }, { name := "CASE_INSENSITIVE_ORDER", type := (.object "java/util/Comparator"), accessFlags := 25, slot := 4, constantValue := 0 }, { name := "LATIN1", type := .byte, accessFlags := 24, slot := 5, constantValue := 0 }, { name := "UTF16", type := .byte, accessFlags := 24, slot := 6, constantValue := 0 }]
  methods := #[k8m0, k8m1, k8m2, k8m3, k8m4, k8m5, k8m6, k8m7, k8m8]
  instanceTypes := #[(.array .byte), .byte, .int, .boolean]
  staticTypes := #[.long, .boolean, (.array (.object "java/io/ObjectStreamField")), .char, (.object "java/util/Comparator"), .byte, .byte]
  resolved := Array.replicate 1451 none
  statics := some 0 }

def pool9 : Array CpInfo := pool [(1, .class_ 2), (0, u "java/lang/Appendable"), (0, .class_ 4), (0, u "java/lang/Object")] 9

/-- java/lang/Appendable -/
def k9 : Class := { plain "java/lang/Appendable" (some 0) with
  accessFlags := 1537
  interfaces := #[]
  cf := some (fileOf pool9 1 #[] #[] 1537 3 #[] #[])
  fields := #[]
  methods := #[]
  instanceTypes := #[]
  staticTypes := #[]
  resolved := Array.replicate 14 none
  statics := none }

def pool10 : Array CpInfo := pool [(1, .class_ 2), (0, u "java/lang/String"), (0, .methodref 4 5), (0, .class_ 6), (0, .nameAndType 7 8), (0, u "java/lang/Object"), (0, u "<init>"), (0, u "()V"), (1, .class_ 12), (1, u "java/lang/AbstractStringBuilder"), (0, u "EMPTYVALUE"), (0, u "[B"), (0, .fieldref 10 16), (0, .nameAndType 17 14), (0, u "value"), (0, .fieldref 1 19), (0, .nameAndType 20 21), (0, u "COMPACT_STRINGS"), (0, u "Z"), (0, .fieldref 10 23), (0, .nameAndType 24 25), (0, u "coder"), (0, u "B"), (6, .methodref 1 33), (0, .nameAndType 34 35), (0, u "length"), (0, u "()I"), (0, .class_ 37), (0, u "java/lang/Integer"), (2, .methodref 1 41), (0, .nameAndType 24 42), (0, u "()B"), (2, u "append"), (0, u "(Ljava/lang/String;)Ljava/lang/AbstractStringBuilder;"), (1, .class_ 49), (0, u "java/lang/CharSequence"), (19, u "(Ljava/lang/String;)V"), (5, u "maybeLatin1"), (3, .fieldref 10 80), (0, .nameAndType 81 82), (0, u "count"), (0, u "I"), (0, .methodref 10 84), (0, .nameAndType 85 86), (0, u "isLatin1"), (0, u "()Z"), (13, .methodref 10 101), (0, .nameAndType 102 103), (0, u "ensureCapacityInternal"), (0, u "(I)V"), (3, u "(I)I"), (80, u "getChars"), (19, .methodref 10 209), (0, .nameAndType 210 211), (0, u "putStringAt"), (0, u "(ILjava/lang/String;)V"), (5, u "inflateIfNeededFor"), (2, .nameAndType 221 222), (0, u "getBytes"), (0, u "([BIB)V"), (22, .methodref 36 246), (0, .nameAndType 247 107), (0, u "stringSize"), (0, .methodref 36 249), (0, .nameAndType 188 250), (0, u "(II[B)I"), (146, .methodref 10 398), (0, .nameAndType 217 69), (0, .methodref 1 220), (3, u "()[B"), (40, .class_ 445), (0, u "java/lang/Appendable"), (65, u "(I)Ljava/lang/AbstractStringBuilder;"), (40, u "getValue")] 56

def k10m0 : Method := { name := "<init>", desc := "()V", sig := { parameters := [], returnType := none }, accessFlags := 0, code := none }
def k10c1 : Code := { maxStack := 2, maxLocals := 2, code := jdk_68_method_2_code, exceptionTable := #[], attributes := #[] }
def k10m1 : Method := { name := "<init>", desc := "(I)V", sig := { parameters := [.int], returnType := none }, accessFlags := 0, code := some k10c1 }
def k10c2 : Code := { maxStack := 1, maxLocals := 1, code := jdk_68_method_6_code, exceptionTable := #[], attributes := #[] }
def k10m2 : Method := { name := "length", desc := "()I", sig := { parameters := [], returnType := some .int }, accessFlags := 1, code := some k10c2 }
def k10c3 : Code := { maxStack := 4, maxLocals := 3, code := jdk_68_method_9_code, exceptionTable := #[], attributes := #[] }
def k10m3 : Method := { name := "ensureCapacityInternal", desc := "(I)V", sig := { parameters := [.int], returnType := none }, accessFlags := 2, code := some k10c3 }
def k10c4 : Code := { maxStack := 3, maxLocals := 3, code := jdk_68_method_22_code, exceptionTable := #[], attributes := #[] }
def k10m4 : Method := { name := "append", desc := "(Ljava/lang/String;)Ljava/lang/AbstractStringBuilder;", sig := { parameters := [(.object "java/lang/String")], returnType := some (.object "java/lang/AbstractStringBuilder") }, accessFlags := 1, code := some k10c4 }
def k10c5 : Code := { maxStack := 4, maxLocals := 4, code := jdk_68_method_32_code, exceptionTable := #[], attributes := #[] }
def k10m5 : Method := { name := "append", desc := "(I)Ljava/lang/AbstractStringBuilder;", sig := { parameters := [.int], returnType := some (.object "java/lang/AbstractStringBuilder") }, accessFlags := 1, code := some k10c5 }
def k10c6 : Code := { maxStack := 1, maxLocals := 1, code := jdk_68_method_64_code, exceptionTable := #[], attributes := #[] }
def k10m6 : Method := { name := "getValue", desc := "()[B", sig := { parameters := [], returnType := some (.array .byte) }, accessFlags := 16, code := some k10c6 }
def k10c7 : Code := { maxStack := 1, maxLocals := 1, code := jdk_68_method_68_code, exceptionTable := #[], attributes := #[] }
def k10m7 : Method := { name := "isLatin1", desc := "()Z", sig := { parameters := [], returnType := some .boolean }, accessFlags := 16, code := some k10c7 }
def k10c8 : Code := { maxStack := 2, maxLocals := 2, code := jdk_68_method_71_code, exceptionTable := #[], attributes := #[] }
def k10m8 : Method := { name := "inflateIfNeededFor", desc := "(Ljava/lang/String;)V", sig := { parameters := [(.object "java/lang/String")], returnType := none }, accessFlags := 2, code := some k10c8 }
def k10c9 : Code := { maxStack := 4, maxLocals := 3, code := jdk_68_method_73_code, exceptionTable := #[], attributes := #[] }
def k10m9 : Method := { name := "putStringAt", desc := "(ILjava/lang/String;)V", sig := { parameters := [.int, (.object "java/lang/String")], returnType := none }, accessFlags := 2, code := some k10c9 }
/-- java/lang/AbstractStringBuilder -/
def k10 : Class := { plain "java/lang/AbstractStringBuilder" (some 0) with
  accessFlags := 1056
  interfaces := #[9, 5]
  cf := some (fileOf pool10 10 #[] #[{ accessFlags := 0, nameIndex := 7, descriptorIndex := 8, attributes := #[] }, { accessFlags := 0, nameIndex := 7, descriptorIndex := 103, attributes := #[] }, { accessFlags := 1, nameIndex := 34, descriptorIndex := 35, attributes := #[] }, { accessFlags := 2, nameIndex := 102, descriptorIndex := 103, attributes := #[] }, { accessFlags := 1, nameIndex := 45, descriptorIndex := 46, attributes := #[] }, { accessFlags := 1, nameIndex := 45, descriptorIndex := 511, attributes := #[] }, { accessFlags := 16, nameIndex := 552, descriptorIndex := 403, attributes := #[] }, { accessFlags := 16, nameIndex := 85, descriptorIndex := 86, attributes := #[] }, { accessFlags := 2, nameIndex := 217, descriptorIndex := 69, attributes := #[] }, { accessFlags := 2, nameIndex := 210, descriptorIndex := 211, attributes := #[] }] 1056 4 #[444, 48] #[{ accessFlags := 0, nameIndex := 17, descriptorIndex := 14, attributes := #[] }, { accessFlags := 0, nameIndex := 24, descriptorIndex := 25, attributes := #[] }, { accessFlags := 0, nameIndex := 75, descriptorIndex := 21, attributes := #[] }, { accessFlags := 0, nameIndex := 81, descriptorIndex := 82, attributes := #[] }, { accessFlags := 26, nameIndex := 13, descriptorIndex := 14, attributes := #[] }])
  fields := #[{ name := "value", type := (.array .byte), accessFlags := 0, slot := 0, constantValue := 0 }, { name := "coder", type := .byte, accessFlags := 0, slot := 1, constantValue := 0 }, { name := "maybeLatin1", type := .boolean, accessFlags := 0, slot := 2, constantValue := 0 }, { name := "count", type := .int, accessFlags := 0, slot := 3, constantValue := 0 }, { name := "EMPTYVALUE", type := (.array .byte), accessFlags := 26, slot := 0, constantValue := 0 }]
  methods := #[k10m0, k10m1, k10m2, k10m3, k10m4, k10m5, k10m6, k10m7, k10m8, k10m9]
  instanceTypes := #[(.array .byte), .byte, .boolean, .int]
  staticTypes := #[(.array .byte)]
  resolved := Array.replicate 609 none
  statics := none }

def pool11 : Array CpInfo := pool [(1, .methodref 2 3), (0, .class_ 4), (0, .nameAndType 5 6), (0, u "java/lang/AbstractStringBuilder"), (0, u "<init>"), (0, u "(I)V"), (11, .class_ 20), (1, u "java/lang/String"), (3, .class_ 26), (1, u "java/lang/StringBuilder"), (0, u "append"), (0, u "(Ljava/lang/String;)Ljava/lang/StringBuilder;"), (0, .methodref 2 30), (0, .nameAndType 27 31), (0, u "(Ljava/lang/String;)Ljava/lang/AbstractStringBuilder;"), (21, .methodref 2 54), (0, .nameAndType 27 55), (0, u "(I)Ljava/lang/AbstractStringBuilder;"), (81, .methodref 18 138), (0, .nameAndType 5 139), (0, u "(Ljava/lang/StringBuilder;)V"), (5, u "()V"), (10, u "()I"), (111, u "(I)Ljava/lang/StringBuilder;"), (74, .methodref 2 344), (0, .nameAndType 345 156), (0, u "length"), (3, .class_ 350), (0, u "java/lang/Appendable"), (0, .class_ 352), (0, u "java/io/Serializable"), (0, .class_ 354), (0, u "java/lang/Comparable"), (0, .class_ 356), (0, u "java/lang/CharSequence"), (0, u "serialVersionUID"), (0, u "J"), (40, u "toString"), (0, u "()Ljava/lang/String;")] 21

def k11c0 : Code := { maxStack := 2, maxLocals := 1, code := jdk_67_method_1_code, exceptionTable := #[], attributes := #[] }
def k11m0 : Method := { name := "<init>", desc := "()V", sig := { parameters := [], returnType := none }, accessFlags := 1, code := some k11c0 }
def k11c1 : Code := { maxStack := 2, maxLocals := 2, code := jdk_67_method_7_code, exceptionTable := #[], attributes := #[] }
def k11m1 : Method := { name := "append", desc := "(Ljava/lang/String;)Ljava/lang/StringBuilder;", sig := { parameters := [(.object "java/lang/String")], returnType := some (.object "java/lang/StringBuilder") }, accessFlags := 1, code := some k11c1 }
def k11c2 : Code := { maxStack := 2, maxLocals := 2, code := jdk_67_method_15_code, exceptionTable := #[], attributes := #[] }
def k11m2 : Method := { name := "append", desc := "(I)Ljava/lang/StringBuilder;", sig := { parameters := [.int], returnType := some (.object "java/lang/StringBuilder") }, accessFlags := 1, code := some k11c2 }
def k11c3 : Code := { maxStack := 3, maxLocals := 1, code := jdk_67_method_42_code, exceptionTable := #[], attributes := #[] }
def k11m3 : Method := { name := "toString", desc := "()Ljava/lang/String;", sig := { parameters := [], returnType := some (.object "java/lang/String") }, accessFlags := 1, code := some k11c3 }
def k11c4 : Code := { maxStack := 1, maxLocals := 1, code := jdk_67_method_93_code, exceptionTable := #[], attributes := #[] }
def k11m4 : Method := { name := "length", desc := "()I", sig := { parameters := [], returnType := some .int }, accessFlags := 4161, code := some k11c4 }
/-- java/lang/StringBuilder -/
def k11 : Class := { plain "java/lang/StringBuilder" (some 10) with
  accessFlags := 49
  interfaces := #[9, 3, 4, 5]
  cf := some (fileOf pool11 24 #[] #[{ accessFlags := 1, nameIndex := 5, descriptorIndex := 145, attributes := #[] }, { accessFlags := 1, nameIndex := 27, descriptorIndex := 28, attributes := #[] }, { accessFlags := 1, nameIndex := 27, descriptorIndex := 268, attributes := #[] }, { accessFlags := 1, nameIndex := 399, descriptorIndex := 400, attributes := #[] }, { accessFlags := 4161, nameIndex := 345, descriptorIndex := 156, attributes := #[] }] 49 2 #[349, 351, 353, 355] #[{ accessFlags := 24, nameIndex := 357, descriptorIndex := 358, attributes := #[] }])
  fields := #[{ name := "serialVersionUID", type := .long, accessFlags := 24, slot := 0, constantValue := 0 }]
  methods := #[k11m0, k11m1, k11m2, k11m3, k11m4]
  instanceTypes := #[(.array .byte), .byte, .boolean, .int]
  staticTypes := #[.long]
  resolved := Array.replicate 422 none
  statics := none }

def pool12 : Array CpInfo := pool [(2, .class_ 4), (1, u "java/lang/Object"), (0, u "<init>"), (0, u "()V"), (1, .class_ 10), (1, u "java/lang/Number"), (2, .class_ 14), (0, u "java/io/Serializable"), (0, u "serialVersionUID"), (0, u "J")] 20

def k12m0 : Method := { name := "<init>", desc := "()V", sig := { parameters := [], returnType := none }, accessFlags := 1, code := none }
/-- java/lang/Number -/
def k12 : Class := { plain "java/lang/Number" (some 0) with
  accessFlags := 1057
  interfaces := #[3]
  cf := some (fileOf pool12 8 #[] #[{ accessFlags := 1, nameIndex := 5, descriptorIndex := 6, attributes := #[] }] 1057 2 #[13] #[{ accessFlags := 26, nameIndex := 15, descriptorIndex := 16, attributes := #[] }])
  fields := #[{ name := "serialVersionUID", type := .long, accessFlags := 26, slot := 0, constantValue := 0 }]
  methods := #[k12m0]
  instanceTypes := #[]
  staticTypes := #[.long]
  resolved := Array.replicate 37 none
  statics := none }

def pool13 : Array CpInfo := pool [(1, .class_ 2), (0, u "java/lang/Integer"), (16, u "digits"), (0, u "[C"), (33, u "(I)I"), (19, u "stringSize"), (2, u "getChars"), (0, u "(II[B)I"), (4, .fieldref 1 84), (0, .nameAndType 85 86), (0, u "DigitOnes"), (0, u "[B"), (0, .fieldref 1 88), (0, .nameAndType 89 86), (0, u "DigitTens"), (99, .class_ 190), (0, u "java/lang/Integer$IntegerCache"), (3, u "I"), (8, .class_ 204), (0, u "java/lang/Number"), (2, u "value"), (94, u "TYPE"), (0, u "Ljava/lang/Class;"), (0, .class_ 305), (0, u "java/lang/Comparable"), (0, .class_ 307), (0, u "java/lang/constant/Constable"), (0, .class_ 309), (0, u "java/lang/constant/ConstantDesc"), (0, u "MIN_VALUE"), (1, u "MAX_VALUE"), (3, u "SIZE"), (1, u "BYTES"), (1, u "serialVersionUID"), (0, u "J")] 131

def k13c0 : Code := { maxStack := 4, maxLocals := 7, code := jdk_33_method_12_code, exceptionTable := #[], attributes := #[] }
def k13m0 : Method := { name := "getChars", desc := "(II[B)I", sig := { parameters := [.int, .int, (.array .byte)], returnType := some .int }, accessFlags := 8, code := some k13c0 }
def k13c1 : Code := { maxStack := 2, maxLocals := 4, code := jdk_33_method_13_code, exceptionTable := #[], attributes := #[] }
def k13m1 : Method := { name := "stringSize", desc := "(I)I", sig := { parameters := [.int], returnType := some .int }, accessFlags := 8, code := some k13c1 }
/-- java/lang/Integer -/
def k13 : Class := { plain "java/lang/Integer" (some 12) with
  accessFlags := 49
  interfaces := #[4, 6, 7]
  cf := some (fileOf pool13 1 #[.nestMembers #[189]] #[{ accessFlags := 8, nameIndex := 77, descriptorIndex := 78, attributes := #[] }, { accessFlags := 8, nameIndex := 74, descriptorIndex := 54, attributes := #[] }] 49 203 #[304, 306, 308] #[{ accessFlags := 25, nameIndex := 310, descriptorIndex := 194, attributes := #[] }, { accessFlags := 25, nameIndex := 312, descriptorIndex := 194, attributes := #[] }, { accessFlags := 25, nameIndex := 302, descriptorIndex := 303, attributes := #[] }, { accessFlags := 24, nameIndex := 19, descriptorIndex := 20, attributes := #[] }, { accessFlags := 24, nameIndex := 89, descriptorIndex := 86, attributes := #[] }, { accessFlags := 24, nameIndex := 85, descriptorIndex := 86, attributes := #[] }, { accessFlags := 18, nameIndex := 207, descriptorIndex := 194, attributes := #[] }, { accessFlags := 25, nameIndex := 316, descriptorIndex := 194, attributes := #[] }, { accessFlags := 25, nameIndex := 318, descriptorIndex := 194, attributes := #[] }, { accessFlags := 26, nameIndex := 320, descriptorIndex := 321, attributes := #[] }])
  fields := #[{ name := "MIN_VALUE", type := .int, accessFlags := 25, slot := 0, constantValue := 0 }, { name := "MAX_VALUE", type := .int, accessFlags := 25, slot := 1, constantValue := 0 }, { name := "TYPE", type := (.object "java/lang/Class"), accessFlags := 25, slot := 2, constantValue := 0 }, { name := "digits", type := (.array .char), accessFlags := 24, slot := 3, constantValue := 0 }, { name := "DigitTens", type := (.array .byte), accessFlags := 24, slot := 4, constantValue := 0 }, { name := "DigitOnes", type := (.array .byte), accessFlags := 24, slot := 5, constantValue := 0 }, { name := "value", type := .int, accessFlags := 18, slot := 0, constantValue := 0 }, { name := "SIZE", type := .int, accessFlags := 25, slot := 6, constantValue := 0 }, { name := "BYTES", type := .int, accessFlags := 25, slot := 7, constantValue := 0 }, { name := "serialVersionUID", type := .long, accessFlags := 26, slot := 8, constantValue := 0 }]
  methods := #[k13m0, k13m1]
  instanceTypes := #[.int]
  staticTypes := #[.int, .int, (.object "java/lang/Class"), (.array .char), (.array .byte), (.array .byte), .int, .int, .long]
  resolved := Array.replicate 453 none
  statics := some 1 }

def pool14 : Array CpInfo := pool [(2, .class_ 4), (1, u "java/lang/Object"), (0, u "<init>"), (0, u "()V"), (1, .class_ 10), (1, u "java/lang/System"), (0, u "allowSecurityManager"), (0, u "I"), (16, u "cons"), (0, u "Ljava/io/Console;"), (77, .class_ 110), (1, u "java/lang/System$CallersHolder"), (43, u "initialErrStream"), (0, u "Ljava/io/PrintStream;"), (19, u "security"), (0, u "Ljava/lang/SecurityManager;"), (31, .class_ 209), (0, u "java/lang/System$1"), (7, u "props"), (0, u "Ljava/util/Properties;"), (2, u "lineSeparator"), (0, u "Ljava/lang/String;"), (96, .class_ 321), (1, u "java/lang/System$LoggerFinder"), (5, .class_ 328), (0, u "java/lang/System$Logger"), (67, u "err"), (2, u "out"), (91, u "notSupportedJnuEncoding"), (15, u "in"), (17, u "initialIn"), (0, u "Ljava/io/InputStream;"), (35, u "bootLayer"), (0, u "Ljava/lang/ModuleLayer;"), (99, .class_ 664), (0, u "java/lang/System$2"), (9, u "NEVER"), (2, u "MAYBE"), (49, u "arraycopy"), (0, u "(Ljava/lang/Object;ILjava/lang/Object;II)V"), (72, .class_ 802), (0, u "java/lang/System$Logger$Level")] 31

def k14m0 : Method := { name := "<init>", desc := "()V", sig := { parameters := [], returnType := none }, accessFlags := 2, code := none }
def k14m1 : Method := { name := "arraycopy", desc := "(Ljava/lang/Object;ILjava/lang/Object;II)V", sig := { parameters := [(.object "java/lang/Object"), .int, (.object "java/lang/Object"), .int, .int], returnType := none }, accessFlags := 265, code := none }
/-- java/lang/System -/
def k14 : Class := { plain "java/lang/System" (some 0) with
  accessFlags := 49
  interfaces := #[]
  cf := some (fileOf pool14 8 #[.nestMembers #[319, 327, 801, 108, 663, 208]] #[{ accessFlags := 2, nameIndex := 5, descriptorIndex := 6, attributes := #[] }, { accessFlags := 265, nameIndex := 727, descriptorIndex := 728, attributes := #[] }] 49 2 #[] #[{ accessFlags := 25, nameIndex := 507, descriptorIndex := 526, attributes := #[] }, { accessFlags := 25, nameIndex := 399, descriptorIndex := 155, attributes := #[] }, { accessFlags := 25, nameIndex := 396, descriptorIndex := 155, attributes := #[] }, { accessFlags := 10, nameIndex := 525, descriptorIndex := 526, attributes := #[] }, { accessFlags := 26, nameIndex := 674, descriptorIndex := 12, attributes := #[] }, { accessFlags := 26, nameIndex := 677, descriptorIndex := 12, attributes := #[] }, { accessFlags := 10, nameIndex := 11, descriptorIndex := 12, attributes := #[] }, { accessFlags := 74, nameIndex := 175, descriptorIndex := 176, attributes := #[] }, { accessFlags := 10, nameIndex := 491, descriptorIndex := 222, attributes := #[] }, { accessFlags := 74, nameIndex := 29, descriptorIndex := 30, attributes := #[] }, { accessFlags := 74, nameIndex := 154, descriptorIndex := 155, attributes := #[] }, { accessFlags := 10, nameIndex := 217, descriptorIndex := 218, attributes := #[] }, { accessFlags := 10, nameIndex := 221, descriptorIndex := 222, attributes := #[] }, { accessFlags := 8, nameIndex := 562, descriptorIndex := 563, attributes := #[] }])
  fields := #[{ name := "in", type := (.object "java/io/InputStream"), accessFlags := 25, slot := 0, constantValue := 0 }, { name := "out", type := (.object "java/io/PrintStream"), accessFlags := 25, slot := 1, constantValue := 0 }, { name := "err", type := (.object "java/io/PrintStream"), accessFlags := 25, slot := 2, constantValue := 0 }, { name := "initialIn", type := (.object "java/io/InputStream"), accessFlags := 10, slot := 3, constantValue := 0 }, { name := "NEVER", type := .int, accessFlags := 26, slot := 4, constantValue := 0 }, { name := "MAYBE", type := .int, accessFlags := 26, slot := 5, constantValue := 0 }, { name := "allowSecurityManager", type := .int, accessFlags := 10, slot := 6, constantValue := 0 }, { name := "security", type := (.object "java/lang/SecurityManager"), accessFlags := 74, slot := 7, constantValue := 0 }, { name := "notSupportedJnuEncoding", type := (.object "java/lang/String"), accessFlags := 10, slot := 8, constantValue := 0 }, { name := "cons", type := (.object "java/io/Console"), accessFlags := 74, slot := 9, constantValue := 0 }, { name := "initialErrStream", type := (.object "java/io/PrintStream"), accessFlags := 74, slot := 10, constantValue := 0 }, { name := "props", type := (.object "java/util/Properties"), accessFlags := 10, slot := 11, constantValue := 0 }, { name := "lineSeparator", type := (.object "java/lang/String"), accessFlags := 10, slot := 12, constantValue := 0 }, { name := "bootLayer", type := (.object "java/lang/ModuleLayer"), accessFlags := 8, slot := 13, constantValue := 0 }]
  methods := #[k14m0, k14m1]
  instanceTypes := #[]
  staticTypes := #[(.object "java/io/InputStream"), (.object "java/io/PrintStream"), (.object "java/io/PrintStream"), (.object "java/io/InputStream"), .int, .int, .int, (.object "java/lang/SecurityManager"), (.object "java/lang/String"), (.object "java/io/Console"), (.object "java/io/PrintStream"), (.object "java/util/Properties"), (.object "java/lang/String"), (.object "java/lang/ModuleLayer")]
  resolved := Array.replicate 834 none
  statics := none }

def pool15 : Array CpInfo := pool [(2, .class_ 4), (1, u "java/lang/Object"), (0, u "<init>"), (0, u "()V"), (7, .class_ 16), (1, u "java/util/Arrays"), (57, .class_ 76), (1, u "java/util/Arrays$NaturalOrder"), (36, .class_ 115), (1, u "java/util/Arrays$LegacyMergeSort"), (1, u "Z"), (21, u "copyOfRange"), (10, .methodref 151 152), (0, .class_ 153), (0, .nameAndType 154 155), (0, u "java/lang/System"), (0, u "arraycopy"), (0, u "(Ljava/lang/Object;ILjava/lang/Object;II)V"), (148, .methodref 305 306), (0, .class_ 307), (0, .nameAndType 308 309), (0, u "java/lang/Math"), (0, u "min"), (0, u "(II)I"), (29, .methodref 14 340), (0, .nameAndType 341 342), (0, u "copyOfRangeByte"), (0, u "([BII)[B"), (0, .methodref 14 344), (0, .nameAndType 345 346), (0, u "checkLength"), (0, u "(II)V"), (28, .class_ 376), (0, u "java/util/Arrays$ArrayList"), (68, u "$assertionsDisabled"), (269, u "MIN_ARRAY_SORT_GRAN"), (0, u "I"), (2, u "INSERTIONSORT_THRESHOLD"), (255, .class_ 976), (0, u "java/util/Arrays$ArrayItr")] 52

def k15m0 : Method := { name := "<init>", desc := "()V", sig := { parameters := [], returnType := none }, accessFlags := 2, code := none }
def k15c1 : Code := { maxStack := 4, maxLocals := 2, code := jdk_65_method_131_code, exceptionTable := #[], attributes := #[] }
def k15m1 : Method := { name := "checkLength", desc := "(II)V", sig := { parameters := [.int, .int], returnType := none }, accessFlags := 10, code := some k15c1 }
def k15c2 : Code := { maxStack := 3, maxLocals := 3, code := jdk_65_method_132_code, exceptionTable := #[], attributes := #[] }
def k15m2 : Method := { name := "copyOfRange", desc := "([BII)[B", sig := { parameters := [(.array .byte), .int, .int], returnType := some (.array .byte) }, accessFlags := 9, code := some k15c2 }
def k15c3 : Code := { maxStack := 6, maxLocals := 5, code := jdk_65_method_133_code, exceptionTable := #[], attributes := #[] }
def k15m3 : Method := { name := "copyOfRangeByte", desc := "([BII)[B", sig := { parameters := [(.array .byte), .int, .int], returnType := some (.array .byte) }, accessFlags := 10, code := some k15c3 }
/-- java/util/Arrays -/
def k15 : Class := { plain "java/util/Arrays" (some 0) with
  accessFlags := 49
  interfaces := #[]
  cf := some (fileOf pool15 14 #[.nestMembers #[975, 375, 113, 74]] #[{ accessFlags := 2, nameIndex := 5, descriptorIndex := 6, attributes := #[] }, { accessFlags := 10, nameIndex := 345, descriptorIndex := 346, attributes := #[] }, { accessFlags := 9, nameIndex := 139, descriptorIndex := 342, attributes := #[] }, { accessFlags := 10, nameIndex := 341, descriptorIndex := 342, attributes := #[] }] 49 2 #[] #[{ accessFlags := 26, nameIndex := 715, descriptorIndex := 716, attributes := #[] }, { accessFlags := 26, nameIndex := 719, descriptorIndex := 716, attributes := #[] }, { accessFlags := 4120, nameIndex := 445, descriptorIndex := 117, attributes := #[] }])
  fields := #[{ name := "MIN_ARRAY_SORT_GRAN", type := .int, accessFlags := 26, slot := 0, constantValue := 0 }, { name := "INSERTIONSORT_THRESHOLD", type := .int, accessFlags := 26, slot := 1, constantValue := 0 }, { name := "$assertionsDisabled", type := .boolean, accessFlags := 4120, slot := 2, constantValue := 0 }]
  methods := #[k15m0, k15m1, k15m2, k15m3]
  instanceTypes := #[]
  staticTypes := #[.int, .int, .boolean]
  resolved := Array.replicate 1029 none
  statics := none }

def pool16 : Array CpInfo := pool [(1, .class_ 2), (0, u "java/lang/Math"), (1, .class_ 6), (1, u "java/lang/Object"), (0, u "<init>"), (0, u "()V"), (89, .class_ 100), (1, u "java/lang/Math$RandomNumberGeneratorHolder"), (71, u "negativeZeroFloatBits"), (0, u "J"), (2, u "negativeZeroDoubleBits"), (24, u "min"), (43, u "$assertionsDisabled"), (0, u "Z"), (88, u "(II)I"), (2, u "twoToTheDoubleScaleDown"), (0, u "D"), (4, u "twoToTheDoubleScaleUp"), (9, u "E"), (3, u "PI"), (2, u "TAU"), (2, u "DEGREES_TO_RADIANS"), (0, u "RADIANS_TO_DEGREES")] 94

def k16m0 : Method := { name := "<init>", desc := "()V", sig := { parameters := [], returnType := none }, accessFlags := 2, code := none }
def k16c1 : Code := { maxStack := 2, maxLocals := 2, code := jdk_29_method_69_code, exceptionTable := #[], attributes := #[] }
def k16m1 : Method := { name := "min", desc := "(II)I", sig := { parameters := [.int, .int], returnType := some .int }, accessFlags := 9, code := some k16c1 }
/-- java/lang/Math -/
def k16 : Class := { plain "java/lang/Math" (some 0) with
  accessFlags := 49
  interfaces := #[]
  cf := some (fileOf pool16 1 #[.nestMembers #[98]] #[{ accessFlags := 2, nameIndex := 7, descriptorIndex := 8, attributes := #[] }, { accessFlags := 9, nameIndex := 201, descriptorIndex := 335, attributes := #[] }] 49 4 #[] #[{ accessFlags := 25, nameIndex := 354, descriptorIndex := 339, attributes := #[] }, { accessFlags := 25, nameIndex := 358, descriptorIndex := 339, attributes := #[] }, { accessFlags := 25, nameIndex := 361, descriptorIndex := 339, attributes := #[] }, { accessFlags := 26, nameIndex := 364, descriptorIndex := 339, attributes := #[] }, { accessFlags := 26, nameIndex := 365, descriptorIndex := 339, attributes := #[] }, { accessFlags := 26, nameIndex := 172, descriptorIndex := 173, attributes := #[] }, { accessFlags := 26, nameIndex := 176, descriptorIndex := 173, attributes := #[] }, { accessFlags := 8, nameIndex := 344, descriptorIndex := 339, attributes := #[] }, { accessFlags := 8, nameIndex := 338, descriptorIndex := 339, attributes := #[] }, { accessFlags := 4120, nameIndex := 245, descriptorIndex := 246, attributes := #[] }])
  fields := #[{ name := "E", type := .double, accessFlags := 25, slot := 0, constantValue := 0 }, { name := "PI", type := .double, accessFlags := 25, slot := 1, constantValue := 0 }, { name := "TAU", type := .double, accessFlags := 25, slot := 2, constantValue := 0 }, { name := "DEGREES_TO_RADIANS", type := .double, accessFlags := 26, slot := 3, constantValue := 0 }, { name := "RADIANS_TO_DEGREES", type := .double, accessFlags := 26, slot := 4, constantValue := 0 }, { name := "negativeZeroFloatBits", type := .long, accessFlags := 26, slot := 5, constantValue := 0 }, { name := "negativeZeroDoubleBits", type := .long, accessFlags := 26, slot := 6, constantValue := 0 }, { name := "twoToTheDoubleScaleUp", type := .double, accessFlags := 8, slot := 7, constantValue := 0 }, { name := "twoToTheDoubleScaleDown", type := .double, accessFlags := 8, slot := 8, constantValue := 0 }, { name := "$assertionsDisabled", type := .boolean, accessFlags := 4120, slot := 9, constantValue := 0 }]
  methods := #[k16m0, k16m1]
  instanceTypes := #[]
  staticTypes := #[.double, .double, .double, .double, .double, .long, .long, .double, .double, .boolean]
  resolved := Array.replicate 460 none
  statics := none }

def pool17 : Array CpInfo := pool [(1, .class_ 2), (0, u "java/lang/String"), (1, .class_ 6), (1, u "java/lang/Object"), (0, u "<init>"), (0, u "()V"), (0, .methodref 1 10), (0, .nameAndType 11 12), (0, u "checkIndex"), (0, u "(II)V"), (1, .class_ 16), (1, u "java/lang/StringLatin1"), (36, u "([BI)C"), (67, u "$assertionsDisabled"), (0, u "Z"), (98, .class_ 223), (1, u "java/lang/StringLatin1$LinesSpliterator"), (28, u "charAt"), (137, .class_ 391), (0, u "java/lang/StringLatin1$CharsSpliterator")] 3

def k17m0 : Method := { name := "<init>", desc := "()V", sig := { parameters := [], returnType := none }, accessFlags := 0, code := none }
def k17c1 : Code := { maxStack := 2, maxLocals := 2, code := jdk_43_method_2_code, exceptionTable := #[], attributes := #[] }
def k17m1 : Method := { name := "charAt", desc := "([BI)C", sig := { parameters := [(.array .byte), .int], returnType := some .char }, accessFlags := 9, code := some k17c1 }
/-- java/lang/StringLatin1 -/
def k17 : Class := { plain "java/lang/StringLatin1" (some 0) with
  accessFlags := 48
  interfaces := #[]
  cf := some (fileOf pool17 14 #[.nestMembers #[390, 221]] #[{ accessFlags := 0, nameIndex := 7, descriptorIndex := 8, attributes := #[] }, { accessFlags := 9, nameIndex := 252, descriptorIndex := 53, attributes := #[] }] 48 4 #[] #[{ accessFlags := 4120, nameIndex := 121, descriptorIndex := 122, attributes := #[] }])
  fields := #[{ name := "$assertionsDisabled", type := .boolean, accessFlags := 4120, slot := 0, constantValue := 0 }]
  methods := #[k17m0, k17m1]
  instanceTypes := #[]
  staticTypes := #[.boolean]
  resolved := Array.replicate 395 none
  statics := none }

def pool18 : Array CpInfo := pool [(2, .class_ 4), (1, u "java/lang/Object"), (0, u "<init>"), (0, u "()V"), (17, .class_ 26), (1, u "jdk/internal/util/Preconditions"), (6, u "checkIndex"), (21, .class_ 56), (0, u "jdk/internal/util/Preconditions$4"), (57, .class_ 115), (0, u "jdk/internal/util/Preconditions$1"), (7, u "SIOOBE_FORMATTER"), (0, u "Ljava/util/function/BiFunction;"), (0, .class_ 126), (0, u "jdk/internal/util/Preconditions$2"), (3, u "AIOOBE_FORMATTER"), (0, .class_ 132), (0, u "jdk/internal/util/Preconditions$3"), (3, u "IOOBE_FORMATTER"), (41, u "(IILjava/util/function/BiFunction;)I")] 15

def k18m0 : Method := { name := "<init>", desc := "()V", sig := { parameters := [], returnType := none }, accessFlags := 1, code := none }
def k18c1 : Code := { maxStack := 3, maxLocals := 3, code := jdk_41_method_11_code, exceptionTable := #[], attributes := #[] }
def k18m1 : Method := { name := "checkIndex", desc := "(IILjava/util/function/BiFunction;)I", sig := { parameters := [.int, .int, (.object "java/util/function/BiFunction")], returnType := some .int }, accessFlags := 9, code := some k18c1 }
/-- jdk/internal/util/Preconditions -/
def k18 : Class := { plain "jdk/internal/util/Preconditions" (some 0) with
  accessFlags := 33
  interfaces := #[]
  cf := some (fileOf pool18 24 #[.nestMembers #[55, 131, 125, 114]] #[{ accessFlags := 1, nameIndex := 5, descriptorIndex := 6, attributes := #[] }, { accessFlags := 9, nameIndex := 33, descriptorIndex := 178, attributes := #[] }] 33 2 #[] #[{ accessFlags := 25, nameIndex := 123, descriptorIndex := 124, attributes := #[] }, { accessFlags := 25, nameIndex := 130, descriptorIndex := 124, attributes := #[] }, { accessFlags := 25, nameIndex := 136, descriptorIndex := 124, attributes := #[] }])
  fields := #[{ name := "SIOOBE_FORMATTER", type := (.object "java/util/function/BiFunction"), accessFlags := 25, slot := 0, constantValue := 0 }, { name := "AIOOBE_FORMATTER", type := (.object "java/util/function/BiFunction"), accessFlags := 25, slot := 1, constantValue := 0 }, { name := "IOOBE_FORMATTER", type := (.object "java/util/function/BiFunction"), accessFlags := 25, slot := 2, constantValue := 0 }]
  methods := #[k18m0, k18m1]
  instanceTypes := #[]
  staticTypes := #[(.object "java/util/function/BiFunction"), (.object "java/util/function/BiFunction"), (.object "java/util/function/BiFunction")]
  resolved := Array.replicate 194 none
  statics := some 2 }

def pool19 : Array CpInfo := pool [(9, u "<init>"), (6, .class_ 18), (1, u "java/lang/Object"), (0, u "()V"), (1, .class_ 23), (1, u "jdk/internal/util/ArraysSupport"), (0, u "LOG2_ARRAY_LONG_INDEX_SCALE"), (0, u "I"), (2, u "U"), (0, u "Ljdk/internal/misc/Unsafe;"), (8, u "BIG_ENDIAN"), (0, u "Z"), (8, u "LOG2_BYTE_BIT_SIZE"), (4, u "LOG2_ARRAY_INT_INDEX_SCALE"), (54, u "JLA"), (0, u "Ljdk/internal/access/JavaLangAccess;"), (11, u "LOG2_ARRAY_BOOLEAN_INDEX_SCALE"), (9, u "LOG2_ARRAY_BYTE_INDEX_SCALE"), (5, u "LOG2_ARRAY_CHAR_INDEX_SCALE"), (5, u "LOG2_ARRAY_SHORT_INDEX_SCALE"), (18, u "LOG2_ARRAY_FLOAT_INDEX_SCALE"), (24, u "LOG2_ARRAY_DOUBLE_INDEX_SCALE"), (89, u "T_BOOLEAN"), (2, u "T_CHAR"), (1, u "T_FLOAT"), (1, u "T_DOUBLE"), (1, u "T_BYTE"), (1, u "T_SHORT"), (1, u "T_INT"), (1, u "T_LONG"), (1, u "SOFT_MAX_ARRAY_LENGTH")] 83

def k19m0 : Method := { name := "<init>", desc := "()V", sig := { parameters := [], returnType := none }, accessFlags := 2, code := none }
/-- jdk/internal/util/ArraysSupport -/
def k19 : Class := { plain "jdk/internal/util/ArraysSupport" (some 0) with
  accessFlags := 33
  interfaces := #[]
  cf := some (fileOf pool19 21 #[] #[{ accessFlags := 2, nameIndex := 9, descriptorIndex := 19, attributes := #[] }] 33 16 #[] #[{ accessFlags := 24, nameIndex := 28, descriptorIndex := 29, attributes := #[] }, { accessFlags := 26, nameIndex := 38, descriptorIndex := 39, attributes := #[] }, { accessFlags := 25, nameIndex := 121, descriptorIndex := 25, attributes := #[] }, { accessFlags := 25, nameIndex := 131, descriptorIndex := 25, attributes := #[] }, { accessFlags := 25, nameIndex := 137, descriptorIndex := 25, attributes := #[] }, { accessFlags := 25, nameIndex := 143, descriptorIndex := 25, attributes := #[] }, { accessFlags := 25, nameIndex := 53, descriptorIndex := 25, attributes := #[] }, { accessFlags := 25, nameIndex := 24, descriptorIndex := 25, attributes := #[] }, { accessFlags := 25, nameIndex := 162, descriptorIndex := 25, attributes := #[] }, { accessFlags := 25, nameIndex := 187, descriptorIndex := 25, attributes := #[] }, { accessFlags := 26, nameIndex := 48, descriptorIndex := 25, attributes := #[] }, { accessFlags := 25, nameIndex := 277, descriptorIndex := 25, attributes := #[] }, { accessFlags := 25, nameIndex := 280, descriptorIndex := 25, attributes := #[] }, { accessFlags := 25, nameIndex := 282, descriptorIndex := 25, attributes := #[] }, { accessFlags := 25, nameIndex := 284, descriptorIndex := 25, attributes := #[] }, { accessFlags := 25, nameIndex := 286, descriptorIndex := 25, attributes := #[] }, { accessFlags := 25, nameIndex := 288, descriptorIndex := 25, attributes := #[] }, { accessFlags := 25, nameIndex := 290, descriptorIndex := 25, attributes := #[] }, { accessFlags := 25, nameIndex := 292, descriptorIndex := 25, attributes := #[] }, { accessFlags := 26, nameIndex := 108, descriptorIndex := 109, attributes := #[] }, { accessFlags := 25, nameIndex := 294, descriptorIndex := 25, attributes := #[] }])
  fields := #[{ name := "U", type := (.object "jdk/internal/misc/Unsafe"), accessFlags := 24, slot := 0, constantValue := 0 }, { name := "BIG_ENDIAN", type := .boolean, accessFlags := 26, slot := 1, constantValue := 0 }, { name := "LOG2_ARRAY_BOOLEAN_INDEX_SCALE", type := .int, accessFlags := 25, slot := 2, constantValue := 0 }, { name := "LOG2_ARRAY_BYTE_INDEX_SCALE", type := .int, accessFlags := 25, slot := 3, constantValue := 0 }, { name := "LOG2_ARRAY_CHAR_INDEX_SCALE", type := .int, accessFlags := 25, slot := 4, constantValue := 0 }, { name := "LOG2_ARRAY_SHORT_INDEX_SCALE", type := .int, accessFlags := 25, slot := 5, constantValue := 0 }, { name := "LOG2_ARRAY_INT_INDEX_SCALE", type := .int, accessFlags := 25, slot := 6, constantValue := 0 }, { name := "LOG2_ARRAY_LONG_INDEX_SCALE", type := .int, accessFlags := 25, slot := 7, constantValue := 0 }, { name := "LOG2_ARRAY_FLOAT_INDEX_SCALE", type := .int, accessFlags := 25, slot := 8, constantValue := 0 }, { name := "LOG2_ARRAY_DOUBLE_INDEX_SCALE", type := .int, accessFlags := 25, slot := 9, constantValue := 0 }, { name := "LOG2_BYTE_BIT_SIZE", type := .int, accessFlags := 26, slot := 10, constantValue := 0 }, { name := "T_BOOLEAN", type := .int, accessFlags := 25, slot := 11, constantValue := 0 }, { name := "T_CHAR", type := .int, accessFlags := 25, slot := 12, constantValue := 0 }, { name := "T_FLOAT", type := .int, accessFlags := 25, slot := 13, constantValue := 0 }, { name := "T_DOUBLE", type := .int, accessFlags := 25, slot := 14, constantValue := 0 }, { name := "T_BYTE", type := .int, accessFlags := 25, slot := 15, constantValue := 0 }, { name := "T_SHORT", type := .int, accessFlags := 25, slot := 16, constantValue := 0 }, { name := "T_INT", type := .int, accessFlags := 25, slot := 17, constantValue := 0 }, { name := "T_LONG", type := .int, accessFlags := 25, slot := 18, constantValue := 0 }, { name := "JLA", type := (.object "jdk/internal/access/JavaLangAccess"), accessFlags := 26, slot := 19, constantValue := 0 }, { name := "SOFT_MAX_ARRAY_LENGTH", type := .int, accessFlags := 25, slot := 20, constantValue := 0 }]
  methods := #[k19m0]
  instanceTypes := #[]
  staticTypes := #[(.object "jdk/internal/misc/Unsafe"), .boolean, .int, .int, .int, .int, .int, .int, .int, .int, .int, .int, .int, .int, .int, .int, .int, .int, .int, (.object "jdk/internal/access/JavaLangAccess"), .int]
  resolved := Array.replicate 378 none
  statics := none }

def pool20 : Array CpInfo := pool [(1, u "java/lang/Cloneable"), (0, .class_ 1), (0, u "java/lang/Object"), (0, .class_ 3)] 3

/-- java/lang/Cloneable -/
def k20 : Class := { plain "java/lang/Cloneable" (some 0) with
  accessFlags := 1537
  interfaces := #[]
  cf := some (fileOf pool20 2 #[] #[] 1537 4 #[] #[])
  fields := #[]
  methods := #[]
  instanceTypes := #[]
  staticTypes := #[]
  resolved := Array.replicate 8 none
  statics := none }

/-- the primitive byte -/
def k21 : Class := { plain "byte" none with kind := .primitive 'B', accessFlags := 0x411 }
/-- [B -/
def k22 : Class := { plain "[B" (some 0) with kind := .array 21 .byte, interfaces := #[20, 3], accessFlags := 1041 }

/-- the primitive int -/
def k23 : Class := { plain "int" none with kind := .primitive 'I', accessFlags := 0x411 }
/-- [I -/
def k24 : Class := { plain "[I" (some 0) with kind := .array 23 .int, interfaces := #[20, 3], accessFlags := 1041 }

/-- the primitive long -/
def k25 : Class := { plain "long" none with kind := .primitive 'J', accessFlags := 0x411 }
/-- [J -/
def k26 : Class := { plain "[J" (some 0) with kind := .array 25 .long, interfaces := #[20, 3], accessFlags := 1041 }

def heap : Heap := #[{ cls := 8, slots := #[.long 0, .int 1, .null, .int 0, .null, .int 0, .int 0], vm := .statics 8 },
  { cls := 13, slots := #[.int 0, .int 0, .null, .null, .ref 4, .ref 3, .int 0, .int 0, .long 0], vm := .statics 13 },
  { cls := 18, slots := #[.null, .null, .null], vm := .statics 18 },
  { cls := 22, slots := #[.int 48, .int 49, .int 50, .int 51, .int 52, .int 53, .int 54, .int 55, .int 56, .int 57, .int 48, .int 49, .int 50, .int 51, .int 52, .int 53, .int 54, .int 55, .int 56, .int 57, .int 48, .int 49, .int 50, .int 51, .int 52, .int 53, .int 54, .int 55, .int 56, .int 57, .int 48, .int 49, .int 50, .int 51, .int 52, .int 53, .int 54, .int 55, .int 56, .int 57, .int 48, .int 49, .int 50, .int 51, .int 52, .int 53, .int 54, .int 55, .int 56, .int 57, .int 48, .int 49, .int 50, .int 51, .int 52, .int 53, .int 54, .int 55, .int 56, .int 57, .int 48, .int 49, .int 50, .int 51, .int 52, .int 53, .int 54, .int 55, .int 56, .int 57, .int 48, .int 49, .int 50, .int 51, .int 52, .int 53, .int 54, .int 55, .int 56, .int 57, .int 48, .int 49, .int 50, .int 51, .int 52, .int 53, .int 54, .int 55, .int 56, .int 57, .int 48, .int 49, .int 50, .int 51, .int 52, .int 53, .int 54, .int 55, .int 56, .int 57], vm := .none },
  { cls := 22, slots := #[.int 48, .int 48, .int 48, .int 48, .int 48, .int 48, .int 48, .int 48, .int 48, .int 48, .int 49, .int 49, .int 49, .int 49, .int 49, .int 49, .int 49, .int 49, .int 49, .int 49, .int 50, .int 50, .int 50, .int 50, .int 50, .int 50, .int 50, .int 50, .int 50, .int 50, .int 51, .int 51, .int 51, .int 51, .int 51, .int 51, .int 51, .int 51, .int 51, .int 51, .int 52, .int 52, .int 52, .int 52, .int 52, .int 52, .int 52, .int 52, .int 52, .int 52, .int 53, .int 53, .int 53, .int 53, .int 53, .int 53, .int 53, .int 53, .int 53, .int 53, .int 54, .int 54, .int 54, .int 54, .int 54, .int 54, .int 54, .int 54, .int 54, .int 54, .int 55, .int 55, .int 55, .int 55, .int 55, .int 55, .int 55, .int 55, .int 55, .int 55, .int 56, .int 56, .int 56, .int 56, .int 56, .int 56, .int 56, .int 56, .int 56, .int 56, .int 57, .int 57, .int 57, .int 57, .int 57, .int 57, .int 57, .int 57, .int 57, .int 57], vm := .none }]
def classes : Array Class := #[k0, k1, k2, k3, k4, k5, k6, k7, k8, k9, k10, k11, k12, k13, k14, k15, k16, k17, k18, k19, k20, k21, k22, k23, k24, k25, k26]
def interned : List (Array UInt16 × Addr) := []
def slotsUsed : Nat := 219
def theMethod : MethodId := ⟨1, 3⟩
def args0 : Array Value := #[.int 5]
def aboutOver (below : List Frame) : State where
  vm := { classes := classes, interned := interned.toArray }
  heap := heap
  slotsUsed := slotsUsed
  threads := #[{ frames := .invoking theMethod args0 :: below }]
def below0 : List Frame := [.native { method := ⟨0, 0⟩, args := #[] }]
def about1 : State := aboutOver below0
def p0 : Program := .bare "" "" ""
def e0 : Env := launch0.env 0 0 0
theorem w_frames : about1.frames = Frame.invoking theMethod args0 :: below0 := rfl
set_option maxRecDepth 65536 in
theorem w_args : argsFit about1.vm theMethod args0 = true := by decide +kernel
set_option maxRecDepth 65536 in
theorem w_heap : heapFits about1 = true := by decide +kernel
set_option maxRecDepth 65536 in
theorem w_runnable : about1.curStatus? = some .runnable := by decide +kernel
set_option maxRecDepth 65536 in
theorem w_alone : about1.alone = true := by decide +kernel
set_option maxRecDepth 65536 in
theorem w_named : about1.methodNamed? x = some theMethod := by decide +kernel
set_option maxRecDepth 65536 in
theorem w_hears : about1.hears theMethod below0 = true := by decide +kernel
set_option maxRecDepth 65536 in
theorem w_ripe : about1.ripe theMethod args0 below0 = true := by decide +kernel
theorem w_running : about1.status = .running := rfl
set_option maxRecDepth 65536 in
theorem w_room : about1.hasRoom e0.platform room_1 = true :=
  launch0.hasRoom_least _ room_1 (by decide +kernel) (by decide +kernel) (by decide +kernel) (by decide +kernel) (by decide +kernel) (by decide +kernel)
theorem allAtoms_all (ts : List Jvm.Cond) (a : Array Jvm.Value) (st : Jvm.State) : (allAtoms ts).before a st = ts.all (fun c => c.before a st) := by
  induction ts with
  | nil => rfl
  | cons c t ih =>
    show (Jvm.Cond.and c (allAtoms t)).before a st = _
    rw [Jvm.Cond.before_and, ih, List.all_cons]
def words1 : List Jvm.Cond := Jvm.Cond.code x code maxLocals ret :: tables_1
/-- a 'code' word, met by the world's own term for the bytes: nothing is compared byte by byte -/
theorem code_word {y : MethodName} {bytes : ByteArray} {mx : Nat} {rt : Option FieldType} {a : Array Value} {s : State} {m : MethodId} {meth : Method} {c : Code} (h1 : s.methodNamed? y = some m) (h2 : s.vm.method? m = some meth) (h3 : meth.code = some c) (h4 : c.code = bytes)
    (h5 : (c.maxLocals == mx && c.exceptionTable.isEmpty && decide (c.maxStack ≤ mostOperands) && decide (meth.sig.returnType = rt) && !meth.locks && decide (parseMethodDescriptor y.desc = some meth.sig)) = true) : (Jvm.Cond.code y bytes mx rt).before a s = true := by
  simp only [Bool.and_eq_true, beq_iff_eq, Bool.not_eq_true', decide_eq_true_eq] at h5
  obtain ⟨⟨⟨⟨⟨g1, g2⟩, g3⟩, g4⟩, g5⟩, g6⟩ := h5
  simp [Cond.before, Cond.holds, Cond.value, h1, h2, h3, h4, g1, g2, g3, g4, g5, g6]
def isCode : Jvm.Cond → Bool
  | .code _ _ _ _ => true
  | _ => false
theorem all_split {L : List Jvm.Cond} {P : Jvm.Cond → Bool} (h1 : L.all (fun c => isCode c || P c) = true) (h2 : ∀ c ∈ L.filter isCode, P c = true) : L.all P = true := by
  refine List.all_eq_true.mpr fun c hc => ?_
  have h := List.all_eq_true.mp h1 c hc
  rcases Bool.eq_false_or_eq_true (isCode c) with hi | hi
  · exact h2 c (List.mem_filter.mpr ⟨hc, hi⟩)
  · simpa [hi] using h
set_option maxRecDepth 65536 in
theorem w_c0 : (Jvm.Cond.code x code maxLocals ret).before args0 about1 = true := code_word (m := ⟨1, 3⟩) (meth := k1m3) (c := k1c3) (by decide +kernel) rfl rfl rfl (by decide +kernel)
set_option maxRecDepth 65536 in
theorem w_c1 : (Jvm.Cond.code ({ cls := "com/example/clausewright/clausewright/Ordinal", name := "print", desc := "(I)Ljava/lang/String;" } : Jvm.MethodName) prog_6_method_3_code (4 : Nat) (Option.some (Jvm.ClassFile.FieldType.object "java/lang/String"))).before args0 about1 = true := code_word (m := ⟨2, 1⟩) (meth := k2m1) (c := k2c1) (by decide +kernel) rfl rfl rfl (by decide +kernel)
set_option maxRecDepth 65536 in
theorem w_c2 : (Jvm.Cond.code ({ cls := "java/lang/StringBuilder", name := "<init>", desc := "()V" } : Jvm.MethodName) jdk_67_method_1_code (1 : Nat) (Option.none : Option Jvm.ClassFile.FieldType)).before args0 about1 = true := code_word (m := ⟨11, 0⟩) (meth := k11m0) (c := k11c0) (by decide +kernel) rfl rfl rfl (by decide +kernel)
set_option maxRecDepth 65536 in
theorem w_c3 : (Jvm.Cond.code ({ cls := "java/lang/AbstractStringBuilder", name := "<init>", desc := "(I)V" } : Jvm.MethodName) jdk_68_method_2_code (2 : Nat) (Option.none : Option Jvm.ClassFile.FieldType)).before args0 about1 = true := code_word (m := ⟨10, 1⟩) (meth := k10m1) (c := k10c1) (by decide +kernel) rfl rfl rfl (by decide +kernel)
set_option maxRecDepth 65536 in
theorem w_c4 : (Jvm.Cond.code ({ cls := "java/lang/Object", name := "<init>", desc := "()V" } : Jvm.MethodName) object_method_1_code (1 : Nat) (Option.none : Option Jvm.ClassFile.FieldType)).before args0 about1 = true := code_word (m := ⟨0, 0⟩) (meth := k0m0) (c := k0c0) (by decide +kernel) rfl rfl rfl (by decide +kernel)
set_option maxRecDepth 65536 in
theorem w_c5 : (Jvm.Cond.code ({ cls := "java/lang/StringBuilder", name := "append", desc := "(I)Ljava/lang/StringBuilder;" } : Jvm.MethodName) jdk_67_method_15_code (2 : Nat) (Option.some (Jvm.ClassFile.FieldType.object "java/lang/StringBuilder"))).before args0 about1 = true := code_word (m := ⟨11, 2⟩) (meth := k11m2) (c := k11c2) (by decide +kernel) rfl rfl rfl (by decide +kernel)
set_option maxRecDepth 65536 in
theorem w_c6 : (Jvm.Cond.code ({ cls := "java/lang/AbstractStringBuilder", name := "append", desc := "(I)Ljava/lang/AbstractStringBuilder;" } : Jvm.MethodName) jdk_68_method_32_code (4 : Nat) (Option.some (Jvm.ClassFile.FieldType.object "java/lang/AbstractStringBuilder"))).before args0 about1 = true := code_word (m := ⟨10, 5⟩) (meth := k10m5) (c := k10c5) (by decide +kernel) rfl rfl rfl (by decide +kernel)
set_option maxRecDepth 65536 in
theorem w_c7 : (Jvm.Cond.code ({ cls := "java/lang/Integer", name := "stringSize", desc := "(I)I" } : Jvm.MethodName) jdk_33_method_13_code (4 : Nat) (Option.some Jvm.ClassFile.FieldType.int)).before args0 about1 = true := code_word (m := ⟨13, 1⟩) (meth := k13m1) (c := k13c1) (by decide +kernel) rfl rfl rfl (by decide +kernel)
set_option maxRecDepth 65536 in
theorem w_c8 : (Jvm.Cond.code ({ cls := "java/lang/AbstractStringBuilder", name := "ensureCapacityInternal", desc := "(I)V" } : Jvm.MethodName) jdk_68_method_9_code (3 : Nat) (Option.none : Option Jvm.ClassFile.FieldType)).before args0 about1 = true := code_word (m := ⟨10, 3⟩) (meth := k10m3) (c := k10c3) (by decide +kernel) rfl rfl rfl (by decide +kernel)
set_option maxRecDepth 65536 in
theorem w_c9 : (Jvm.Cond.code ({ cls := "java/lang/AbstractStringBuilder", name := "isLatin1", desc := "()Z" } : Jvm.MethodName) jdk_68_method_68_code (1 : Nat) (Option.some Jvm.ClassFile.FieldType.boolean)).before args0 about1 = true := code_word (m := ⟨10, 7⟩) (meth := k10m7) (c := k10c7) (by decide +kernel) rfl rfl rfl (by decide +kernel)
set_option maxRecDepth 65536 in
theorem w_c10 : (Jvm.Cond.code ({ cls := "java/lang/Integer", name := "getChars", desc := "(II[B)I" } : Jvm.MethodName) jdk_33_method_12_code (7 : Nat) (Option.some Jvm.ClassFile.FieldType.int)).before args0 about1 = true := code_word (m := ⟨13, 0⟩) (meth := k13m0) (c := k13c0) (by decide +kernel) rfl rfl rfl (by decide +kernel)
set_option maxRecDepth 65536 in
theorem w_c11 : (Jvm.Cond.code ({ cls := "java/lang/StringBuilder", name := "append", desc := "(Ljava/lang/String;)Ljava/lang/StringBuilder;" } : Jvm.MethodName) jdk_67_method_7_code (2 : Nat) (Option.some (Jvm.ClassFile.FieldType.object "java/lang/StringBuilder"))).before args0 about1 = true := code_word (m := ⟨11, 1⟩) (meth := k11m1) (c := k11c1) (by decide +kernel) rfl rfl rfl (by decide +kernel)
set_option maxRecDepth 65536 in
theorem w_c12 : (Jvm.Cond.code ({ cls := "java/lang/AbstractStringBuilder", name := "append", desc := "(Ljava/lang/String;)Ljava/lang/AbstractStringBuilder;" } : Jvm.MethodName) jdk_68_method_22_code (3 : Nat) (Option.some (Jvm.ClassFile.FieldType.object "java/lang/AbstractStringBuilder"))).before args0 about1 = true := code_word (m := ⟨10, 4⟩) (meth := k10m4) (c := k10c4) (by decide +kernel) rfl rfl rfl (by decide +kernel)
set_option maxRecDepth 65536 in
theorem w_c13 : (Jvm.Cond.code ({ cls := "java/lang/String", name := "length", desc := "()I" } : Jvm.MethodName) jdk_42_method_54_code (1 : Nat) (Option.some Jvm.ClassFile.FieldType.int)).before args0 about1 = true := code_word (m := ⟨8, 2⟩) (meth := k8m2) (c := k8c2) (by decide +kernel) rfl rfl rfl (by decide +kernel)
set_option maxRecDepth 65536 in
theorem w_c14 : (Jvm.Cond.code ({ cls := "java/lang/String", name := "coder", desc := "()B" } : Jvm.MethodName) jdk_42_method_152_code (1 : Nat) (Option.some Jvm.ClassFile.FieldType.byte)).before args0 about1 = true := code_word (m := ⟨8, 6⟩) (meth := k8m6) (c := k8c6) (by decide +kernel) rfl rfl rfl (by decide +kernel)
set_option maxRecDepth 65536 in
theorem w_c15 : (Jvm.Cond.code ({ cls := "java/lang/AbstractStringBuilder", name := "putStringAt", desc := "(ILjava/lang/String;)V" } : Jvm.MethodName) jdk_68_method_73_code (3 : Nat) (Option.none : Option Jvm.ClassFile.FieldType)).before args0 about1 = true := code_word (m := ⟨10, 9⟩) (meth := k10m9) (c := k10c9) (by decide +kernel) rfl rfl rfl (by decide +kernel)
set_option maxRecDepth 65536 in
theorem w_c16 : (Jvm.Cond.code ({ cls := "java/lang/AbstractStringBuilder", name := "inflateIfNeededFor", desc := "(Ljava/lang/String;)V" } : Jvm.MethodName) jdk_68_method_71_code (2 : Nat) (Option.none : Option Jvm.ClassFile.FieldType)).before args0 about1 = true := code_word (m := ⟨10, 8⟩) (meth := k10m8) (c := k10c8) (by decide +kernel) rfl rfl rfl (by decide +kernel)
set_option maxRecDepth 65536 in
theorem w_c17 : (Jvm.Cond.code ({ cls := "java/lang/String", name := "getBytes", desc := "([BIB)V" } : Jvm.MethodName) jdk_42_method_147_code (4 : Nat) (Option.none : Option Jvm.ClassFile.FieldType)).before args0 about1 = true := code_word (m := ⟨8, 4⟩) (meth := k8m4) (c := k8c4) (by decide +kernel) rfl rfl rfl (by decide +kernel)
set_option maxRecDepth 65536 in
theorem w_c18 : (Jvm.Cond.code ({ cls := "java/lang/StringBuilder", name := "toString", desc := "()Ljava/lang/String;" } : Jvm.MethodName) jdk_67_method_42_code (1 : Nat) (Option.some (Jvm.ClassFile.FieldType.object "java/lang/String"))).before args0 about1 = true := code_word (m := ⟨11, 3⟩) (meth := k11m3) (c := k11c3) (by decide +kernel) rfl rfl rfl (by decide +kernel)
set_option maxRecDepth 65536 in
theorem w_c19 : (Jvm.Cond.code ({ cls := "java/lang/String", name := "<init>", desc := "(Ljava/lang/StringBuilder;)V" } : Jvm.MethodName) jdk_42_method_53_code (2 : Nat) (Option.none : Option Jvm.ClassFile.FieldType)).before args0 about1 = true := code_word (m := ⟨8, 1⟩) (meth := k8m1) (c := k8c1) (by decide +kernel) rfl rfl rfl (by decide +kernel)
set_option maxRecDepth 65536 in
theorem w_c20 : (Jvm.Cond.code ({ cls := "java/lang/String", name := "<init>", desc := "(Ljava/lang/AbstractStringBuilder;Ljava/lang/Void;)V" } : Jvm.MethodName) jdk_42_method_150_code (5 : Nat) (Option.none : Option Jvm.ClassFile.FieldType)).before args0 about1 = true := code_word (m := ⟨8, 5⟩) (meth := k8m5) (c := k8c5) (by decide +kernel) rfl rfl rfl (by decide +kernel)
set_option maxRecDepth 65536 in
theorem w_c21 : (Jvm.Cond.code ({ cls := "java/lang/AbstractStringBuilder", name := "getValue", desc := "()[B" } : Jvm.MethodName) jdk_68_method_64_code (1 : Nat) (Option.some (Jvm.ClassFile.FieldType.array Jvm.ClassFile.FieldType.byte))).before args0 about1 = true := code_word (m := ⟨10, 6⟩) (meth := k10m6) (c := k10c6) (by decide +kernel) rfl rfl rfl (by decide +kernel)
set_option maxRecDepth 65536 in
theorem w_c22 : (Jvm.Cond.code ({ cls := "java/lang/StringBuilder", name := "length", desc := "()I" } : Jvm.MethodName) jdk_67_method_93_code (1 : Nat) (Option.some Jvm.ClassFile.FieldType.int)).before args0 about1 = true := code_word (m := ⟨11, 4⟩) (meth := k11m4) (c := k11c4) (by decide +kernel) rfl rfl rfl (by decide +kernel)
set_option maxRecDepth 65536 in
theorem w_c23 : (Jvm.Cond.code ({ cls := "java/lang/AbstractStringBuilder", name := "length", desc := "()I" } : Jvm.MethodName) jdk_68_method_6_code (1 : Nat) (Option.some Jvm.ClassFile.FieldType.int)).before args0 about1 = true := code_word (m := ⟨10, 2⟩) (meth := k10m2) (c := k10c2) (by decide +kernel) rfl rfl rfl (by decide +kernel)
set_option maxRecDepth 65536 in
theorem w_c24 : (Jvm.Cond.code ({ cls := "java/util/Arrays", name := "copyOfRange", desc := "([BII)[B" } : Jvm.MethodName) jdk_65_method_132_code (3 : Nat) (Option.some (Jvm.ClassFile.FieldType.array Jvm.ClassFile.FieldType.byte))).before args0 about1 = true := code_word (m := ⟨15, 2⟩) (meth := k15m2) (c := k15c2) (by decide +kernel) rfl rfl rfl (by decide +kernel)
set_option maxRecDepth 65536 in
theorem w_c25 : (Jvm.Cond.code ({ cls := "java/util/Arrays", name := "copyOfRangeByte", desc := "([BII)[B" } : Jvm.MethodName) jdk_65_method_133_code (5 : Nat) (Option.some (Jvm.ClassFile.FieldType.array Jvm.ClassFile.FieldType.byte))).before args0 about1 = true := code_word (m := ⟨15, 3⟩) (meth := k15m3) (c := k15c3) (by decide +kernel) rfl rfl rfl (by decide +kernel)
set_option maxRecDepth 65536 in
theorem w_c26 : (Jvm.Cond.code ({ cls := "java/util/Arrays", name := "checkLength", desc := "(II)V" } : Jvm.MethodName) jdk_65_method_131_code (2 : Nat) (Option.none : Option Jvm.ClassFile.FieldType)).before args0 about1 = true := code_word (m := ⟨15, 1⟩) (meth := k15m1) (c := k15c1) (by decide +kernel) rfl rfl rfl (by decide +kernel)
set_option maxRecDepth 65536 in
theorem w_c27 : (Jvm.Cond.code ({ cls := "java/lang/Math", name := "min", desc := "(II)I" } : Jvm.MethodName) jdk_29_method_69_code (2 : Nat) (Option.some Jvm.ClassFile.FieldType.int)).before args0 about1 = true := code_word (m := ⟨16, 1⟩) (meth := k16m1) (c := k16c1) (by decide +kernel) rfl rfl rfl (by decide +kernel)
set_option maxRecDepth 65536 in
theorem w_c28 : (Jvm.Cond.code ({ cls := "com/example/clausewright/clausewright/OrdinalPrintPinLaw", name := "digits", desc := "(I)I" } : Jvm.MethodName) method_2_code (1 : Nat) (Option.some Jvm.ClassFile.FieldType.int)).before args0 about1 = true := code_word (m := ⟨1, 1⟩) (meth := k1m1) (c := k1c1) (by decide +kernel) rfl rfl rfl (by decide +kernel)
set_option maxRecDepth 65536 in
theorem w_c29 : (Jvm.Cond.code ({ cls := "com/example/clausewright/clausewright/OrdinalPrintPinLaw", name := "at", desc := "(Ljava/lang/String;III[J)Z" } : Jvm.MethodName) method_3_code (7 : Nat) (Option.some Jvm.ClassFile.FieldType.boolean)).before args0 about1 = true := code_word (m := ⟨1, 2⟩) (meth := k1m2) (c := k1c2) (by decide +kernel) rfl rfl rfl (by decide +kernel)
set_option maxRecDepth 65536 in
theorem w_c30 : (Jvm.Cond.code ({ cls := "java/lang/String", name := "charAt", desc := "(I)C" } : Jvm.MethodName) jdk_42_method_56_code (2 : Nat) (Option.some Jvm.ClassFile.FieldType.char)).before args0 about1 = true := code_word (m := ⟨8, 3⟩) (meth := k8m3) (c := k8c3) (by decide +kernel) rfl rfl rfl (by decide +kernel)
set_option maxRecDepth 65536 in
theorem w_c31 : (Jvm.Cond.code ({ cls := "java/lang/String", name := "isLatin1", desc := "()Z" } : Jvm.MethodName) jdk_42_method_154_code (1 : Nat) (Option.some Jvm.ClassFile.FieldType.boolean)).before args0 about1 = true := code_word (m := ⟨8, 7⟩) (meth := k8m7) (c := k8c7) (by decide +kernel) rfl rfl rfl (by decide +kernel)
set_option maxRecDepth 65536 in
theorem w_c32 : (Jvm.Cond.code ({ cls := "java/lang/StringLatin1", name := "charAt", desc := "([BI)C" } : Jvm.MethodName) jdk_43_method_2_code (2 : Nat) (Option.some Jvm.ClassFile.FieldType.char)).before args0 about1 = true := code_word (m := ⟨17, 1⟩) (meth := k17m1) (c := k17c1) (by decide +kernel) rfl rfl rfl (by decide +kernel)
set_option maxRecDepth 65536 in
theorem w_c33 : (Jvm.Cond.code ({ cls := "java/lang/String", name := "checkIndex", desc := "(II)V" } : Jvm.MethodName) jdk_42_method_155_code (2 : Nat) (Option.none : Option Jvm.ClassFile.FieldType)).before args0 about1 = true := code_word (m := ⟨8, 8⟩) (meth := k8m8) (c := k8c8) (by decide +kernel) rfl rfl rfl (by decide +kernel)
set_option maxRecDepth 65536 in
theorem w_c34 : (Jvm.Cond.code ({ cls := "jdk/internal/util/Preconditions", name := "checkIndex", desc := "(IILjava/util/function/BiFunction;)I" } : Jvm.MethodName) jdk_41_method_11_code (3 : Nat) (Option.some Jvm.ClassFile.FieldType.int)).before args0 about1 = true := code_word (m := ⟨18, 1⟩) (meth := k18m1) (c := k18c1) (by decide +kernel) rfl rfl rfl (by decide +kernel)
def codes1 : List Jvm.Cond := [Jvm.Cond.code x code maxLocals ret, Jvm.Cond.code ({ cls := "com/example/clausewright/clausewright/Ordinal", name := "print", desc := "(I)Ljava/lang/String;" } : Jvm.MethodName) prog_6_method_3_code (4 : Nat) (Option.some (Jvm.ClassFile.FieldType.object "java/lang/String")), Jvm.Cond.code ({ cls := "java/lang/StringBuilder", name := "<init>", desc := "()V" } : Jvm.MethodName) jdk_67_method_1_code (1 : Nat) (Option.none : Option Jvm.ClassFile.FieldType), Jvm.Cond.code ({ cls := "java/lang/AbstractStringBuilder", name := "<init>", desc := "(I)V" } : Jvm.MethodName) jdk_68_method_2_code (2 : Nat) (Option.none : Option Jvm.ClassFile.FieldType), Jvm.Cond.code ({ cls := "java/lang/Object", name := "<init>", desc := "()V" } : Jvm.MethodName) object_method_1_code (1 : Nat) (Option.none : Option Jvm.ClassFile.FieldType), Jvm.Cond.code ({ cls := "java/lang/StringBuilder", name := "append", desc := "(I)Ljava/lang/StringBuilder;" } : Jvm.MethodName) jdk_67_method_15_code (2 : Nat) (Option.some (Jvm.ClassFile.FieldType.object "java/lang/StringBuilder")), Jvm.Cond.code ({ cls := "java/lang/AbstractStringBuilder", name := "append", desc := "(I)Ljava/lang/AbstractStringBuilder;" } : Jvm.MethodName) jdk_68_method_32_code (4 : Nat) (Option.some (Jvm.ClassFile.FieldType.object "java/lang/AbstractStringBuilder")), Jvm.Cond.code ({ cls := "java/lang/Integer", name := "stringSize", desc := "(I)I" } : Jvm.MethodName) jdk_33_method_13_code (4 : Nat) (Option.some Jvm.ClassFile.FieldType.int), Jvm.Cond.code ({ cls := "java/lang/AbstractStringBuilder", name := "ensureCapacityInternal", desc := "(I)V" } : Jvm.MethodName) jdk_68_method_9_code (3 : Nat) (Option.none : Option Jvm.ClassFile.FieldType), Jvm.Cond.code ({ cls := "java/lang/AbstractStringBuilder", name := "isLatin1", desc := "()Z" } : Jvm.MethodName) jdk_68_method_68_code (1 : Nat) (Option.some Jvm.ClassFile.FieldType.boolean), Jvm.Cond.code ({ cls := "java/lang/Integer", name := "getChars", desc := "(II[B)I" } : Jvm.MethodName) jdk_33_method_12_code (7 : Nat) (Option.some Jvm.ClassFile.FieldType.int), Jvm.Cond.code ({ cls := "java/lang/StringBuilder", name := "append", desc := "(Ljava/lang/String;)Ljava/lang/StringBuilder;" } : Jvm.MethodName) jdk_67_method_7_code (2 : Nat) (Option.some (Jvm.ClassFile.FieldType.object "java/lang/StringBuilder")), Jvm.Cond.code ({ cls := "java/lang/AbstractStringBuilder", name := "append", desc := "(Ljava/lang/String;)Ljava/lang/AbstractStringBuilder;" } : Jvm.MethodName) jdk_68_method_22_code (3 : Nat) (Option.some (Jvm.ClassFile.FieldType.object "java/lang/AbstractStringBuilder")), Jvm.Cond.code ({ cls := "java/lang/String", name := "length", desc := "()I" } : Jvm.MethodName) jdk_42_method_54_code (1 : Nat) (Option.some Jvm.ClassFile.FieldType.int), Jvm.Cond.code ({ cls := "java/lang/String", name := "coder", desc := "()B" } : Jvm.MethodName) jdk_42_method_152_code (1 : Nat) (Option.some Jvm.ClassFile.FieldType.byte), Jvm.Cond.code ({ cls := "java/lang/AbstractStringBuilder", name := "putStringAt", desc := "(ILjava/lang/String;)V" } : Jvm.MethodName) jdk_68_method_73_code (3 : Nat) (Option.none : Option Jvm.ClassFile.FieldType), Jvm.Cond.code ({ cls := "java/lang/AbstractStringBuilder", name := "inflateIfNeededFor", desc := "(Ljava/lang/String;)V" } : Jvm.MethodName) jdk_68_method_71_code (2 : Nat) (Option.none : Option Jvm.ClassFile.FieldType), Jvm.Cond.code ({ cls := "java/lang/String", name := "getBytes", desc := "([BIB)V" } : Jvm.MethodName) jdk_42_method_147_code (4 : Nat) (Option.none : Option Jvm.ClassFile.FieldType), Jvm.Cond.code ({ cls := "java/lang/StringBuilder", name := "toString", desc := "()Ljava/lang/String;" } : Jvm.MethodName) jdk_67_method_42_code (1 : Nat) (Option.some (Jvm.ClassFile.FieldType.object "java/lang/String")), Jvm.Cond.code ({ cls := "java/lang/String", name := "<init>", desc := "(Ljava/lang/StringBuilder;)V" } : Jvm.MethodName) jdk_42_method_53_code (2 : Nat) (Option.none : Option Jvm.ClassFile.FieldType), Jvm.Cond.code ({ cls := "java/lang/String", name := "<init>", desc := "(Ljava/lang/AbstractStringBuilder;Ljava/lang/Void;)V" } : Jvm.MethodName) jdk_42_method_150_code (5 : Nat) (Option.none : Option Jvm.ClassFile.FieldType), Jvm.Cond.code ({ cls := "java/lang/AbstractStringBuilder", name := "getValue", desc := "()[B" } : Jvm.MethodName) jdk_68_method_64_code (1 : Nat) (Option.some (Jvm.ClassFile.FieldType.array Jvm.ClassFile.FieldType.byte)), Jvm.Cond.code ({ cls := "java/lang/StringBuilder", name := "length", desc := "()I" } : Jvm.MethodName) jdk_67_method_93_code (1 : Nat) (Option.some Jvm.ClassFile.FieldType.int), Jvm.Cond.code ({ cls := "java/lang/AbstractStringBuilder", name := "length", desc := "()I" } : Jvm.MethodName) jdk_68_method_6_code (1 : Nat) (Option.some Jvm.ClassFile.FieldType.int), Jvm.Cond.code ({ cls := "java/util/Arrays", name := "copyOfRange", desc := "([BII)[B" } : Jvm.MethodName) jdk_65_method_132_code (3 : Nat) (Option.some (Jvm.ClassFile.FieldType.array Jvm.ClassFile.FieldType.byte)), Jvm.Cond.code ({ cls := "java/util/Arrays", name := "copyOfRangeByte", desc := "([BII)[B" } : Jvm.MethodName) jdk_65_method_133_code (5 : Nat) (Option.some (Jvm.ClassFile.FieldType.array Jvm.ClassFile.FieldType.byte)), Jvm.Cond.code ({ cls := "java/util/Arrays", name := "checkLength", desc := "(II)V" } : Jvm.MethodName) jdk_65_method_131_code (2 : Nat) (Option.none : Option Jvm.ClassFile.FieldType), Jvm.Cond.code ({ cls := "java/lang/Math", name := "min", desc := "(II)I" } : Jvm.MethodName) jdk_29_method_69_code (2 : Nat) (Option.some Jvm.ClassFile.FieldType.int), Jvm.Cond.code ({ cls := "com/example/clausewright/clausewright/OrdinalPrintPinLaw", name := "digits", desc := "(I)I" } : Jvm.MethodName) method_2_code (1 : Nat) (Option.some Jvm.ClassFile.FieldType.int), Jvm.Cond.code ({ cls := "com/example/clausewright/clausewright/OrdinalPrintPinLaw", name := "at", desc := "(Ljava/lang/String;III[J)Z" } : Jvm.MethodName) method_3_code (7 : Nat) (Option.some Jvm.ClassFile.FieldType.boolean), Jvm.Cond.code ({ cls := "java/lang/String", name := "charAt", desc := "(I)C" } : Jvm.MethodName) jdk_42_method_56_code (2 : Nat) (Option.some Jvm.ClassFile.FieldType.char), Jvm.Cond.code ({ cls := "java/lang/String", name := "isLatin1", desc := "()Z" } : Jvm.MethodName) jdk_42_method_154_code (1 : Nat) (Option.some Jvm.ClassFile.FieldType.boolean), Jvm.Cond.code ({ cls := "java/lang/StringLatin1", name := "charAt", desc := "([BI)C" } : Jvm.MethodName) jdk_43_method_2_code (2 : Nat) (Option.some Jvm.ClassFile.FieldType.char), Jvm.Cond.code ({ cls := "java/lang/String", name := "checkIndex", desc := "(II)V" } : Jvm.MethodName) jdk_42_method_155_code (2 : Nat) (Option.none : Option Jvm.ClassFile.FieldType), Jvm.Cond.code ({ cls := "jdk/internal/util/Preconditions", name := "checkIndex", desc := "(IILjava/util/function/BiFunction;)I" } : Jvm.MethodName) jdk_41_method_11_code (3 : Nat) (Option.some Jvm.ClassFile.FieldType.int)]
set_option maxRecDepth 65536 in
theorem codes_eq : words1.filter isCode = codes1 := rfl
theorem w_codes : ∀ c ∈ words1.filter isCode, c.before args0 about1 = true := by
  rw [codes_eq]
  intro c hc
  simp only [codes1, List.mem_cons, List.not_mem_nil, or_false] at hc
  rcases hc with rfl | rfl | rfl | rfl | rfl | rfl | rfl | rfl | rfl | rfl | rfl | rfl | rfl | rfl | rfl | rfl | rfl | rfl | rfl | rfl | rfl | rfl | rfl | rfl | rfl | rfl | rfl | rfl | rfl | rfl | rfl | rfl | rfl | rfl | rfl
  · exact w_c0
  · exact w_c1
  · exact w_c2
  · exact w_c3
  · exact w_c4
  · exact w_c5
  · exact w_c6
  · exact w_c7
  · exact w_c8
  · exact w_c9
  · exact w_c10
  · exact w_c11
  · exact w_c12
  · exact w_c13
  · exact w_c14
  · exact w_c15
  · exact w_c16
  · exact w_c17
  · exact w_c18
  · exact w_c19
  · exact w_c20
  · exact w_c21
  · exact w_c22
  · exact w_c23
  · exact w_c24
  · exact w_c25
  · exact w_c26
  · exact w_c27
  · exact w_c28
  · exact w_c29
  · exact w_c30
  · exact w_c31
  · exact w_c32
  · exact w_c33
  · exact w_c34
set_option maxRecDepth 65536 in
theorem w_t1 : (words1.take 24).all (fun c => isCode c || c.before args0 about1) = true := by decide +kernel
set_option maxRecDepth 65536 in
theorem w_t2 : ((words1.drop 24).take 24).all (fun c => isCode c || c.before args0 about1) = true := by decide +kernel
set_option maxRecDepth 65536 in
theorem w_t3 : (((words1.drop 24).drop 24).take 24).all (fun c => isCode c || c.before args0 about1) = true := by decide +kernel
set_option maxRecDepth 65536 in
theorem w_t4 : ((((words1.drop 24).drop 24).drop 24).take 24).all (fun c => isCode c || c.before args0 about1) = true := by decide +kernel
set_option maxRecDepth 65536 in
theorem w_t5 : (((((words1.drop 24).drop 24).drop 24).drop 24).take 24).all (fun c => isCode c || c.before args0 about1) = true := by decide +kernel
set_option maxRecDepth 65536 in
theorem w_t6 : ((((((words1.drop 24).drop 24).drop 24).drop 24).drop 24).take 24).all (fun c => isCode c || c.before args0 about1) = true := by decide +kernel
set_option maxRecDepth 65536 in
theorem w_t7 : (((((((words1.drop 24).drop 24).drop 24).drop 24).drop 24).drop 24).take 24).all (fun c => isCode c || c.before args0 about1) = true := by decide +kernel
set_option maxRecDepth 65536 in
theorem w_t8 : ((((((((words1.drop 24).drop 24).drop 24).drop 24).drop 24).drop 24).drop 24).take 24).all (fun c => isCode c || c.before args0 about1) = true := by decide +kernel
set_option maxRecDepth 65536 in
theorem w_t9 : ((((((((words1.drop 24).drop 24).drop 24).drop 24).drop 24).drop 24).drop 24).drop 24).all (fun c => isCode c || c.before args0 about1) = true := by decide +kernel
theorem w_tables : (allAtoms (Jvm.Cond.code x code maxLocals ret :: tables_1)).before args0 about1 = true := by
  rw [allAtoms_all]
  show words1.all (fun c => c.before args0 about1) = true
  refine all_split ?_ w_codes
  rw [← List.take_append_drop 24 words1, List.all_append, w_t1, ← List.take_append_drop 24 (words1.drop 24), List.all_append, w_t2, ← List.take_append_drop 24 ((words1.drop 24).drop 24), List.all_append, w_t3, ← List.take_append_drop 24 (((words1.drop 24).drop 24).drop 24), List.all_append, w_t4, ← List.take_append_drop 24 ((((words1.drop 24).drop 24).drop 24).drop 24), List.all_append, w_t5, ← List.take_append_drop 24 (((((words1.drop 24).drop 24).drop 24).drop 24).drop 24), List.all_append, w_t6, ← List.take_append_drop 24 ((((((words1.drop 24).drop 24).drop 24).drop 24).drop 24).drop 24), List.all_append, w_t7, ← List.take_append_drop 24 (((((((words1.drop 24).drop 24).drop 24).drop 24).drop 24).drop 24).drop 24), List.all_append, w_t8, w_t9]
  rfl
set_option maxRecDepth 65536 in
theorem w_rest : rest_1_c.before args0 about1 = true := by decide +kernel
set_option maxRecDepth 65536 in
theorem w_case : (Jvm.Cond.and given_1 narrow_1).before args0 about1 = true := by decide +kernel
set_option maxRecDepth 65536 in
theorem w_consts : constsHeld consts_1 about1 := Jvm.Lit.constsHeldB_iff.mp (by decide +kernel)
theorem w_applies : (headSpec (Jvm.Cond.code x code maxLocals ret :: tables_1) room_1).applies x e0.platform about1 = true :=
  (Spec.applies_iff w_frames).mpr ⟨w_running, w_runnable, w_alone, w_named, w_hears, w_ripe, w_room, w_tables⟩
theorem atStart : AtStart classFile x code maxLocals ret World_1 tables_1 room_1 Calls_1 rest_1 Pre_1 launch0 p0 e0 about1 theMethod args0 below0 :=
  ⟨lists_1, trivial, launch0.admits_env _ _ _, launch0.least_env, fairChoices_fair.cas, fairChoices_fair.clock, w_frames, w_args, w_heap, w_applies, ⟨w_consts, trivial⟩, w_rest, w_case⟩
end start1
theorem witness_1 : WitnessClaimed_1 := ⟨start1.p0, start1.e0, start1.about1, start1.theMethod, start1.args0, start1.below0, start1.atStart⟩
end Jvm.Pilot.@@N@@
