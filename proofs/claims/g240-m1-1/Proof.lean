import JvmDerived
import JvmDerived.Pilot.@@N@@Statement
import JvmDerived.Pilot.@@N@@Code
set_option linter.unusedVariables false
set_option linter.unusedSimpArgs false
namespace Jvm.RoadKit
open Sem ClassFile Op Lib Jvm.Stand Jvm.Free Jvm.LawKit
section New
variable {p : Program} {l : Launch} {e : Env} {R : Room} {s : State} {m : MethodId} {args : Array Value} {below : List Frame} {meth : Method} {c : Code} {T : State} {locs : List Loc} {cells slots : Nat}
theorem retI (X : Stand p l e R s m args below meth c T locs cells slots) (hx : p.tables.exec = Jvm.exec) {pc : Nat} {Ls : Array Slot} {z : Int32} {rest : List Value} (hret : meth.sig.returnType = some .int) (hd : decode c.code pc = .ok (.ireturn, 1)) {fs : List Frame}
    (hl : ∀ (f : JFrame) (acts : List Action), f.method = m → f.locked = none → f.entered = [] → (doReturn e (T.setTop f) acts (some (.int z))).1 = T.setFrames fs) : Steps p.tables e below (T.setTop (mkF m pc Ls (.int z :: rest))) (T.setFrames fs) := by
  have hm' : T.vm.method? m = some meth := X.method'
  have hn : narrow .int (.int z) = .int z := rfl
  show Steps p.tables e below (T.setTop { method := m, pc := pc, locals := Ls, stack := _ :: rest, locked := none }) _
  jvm_step X.here [X.here.top, hx, hd, hm', hret, hn]
  first | (intro acts; rw [hl _ acts rfl rfl rfl]) | rw [hl _ _ rfl rfl rfl]
  exact Steps.refl _
end New
end Jvm.RoadKit
namespace Jvm.Pilot.@@N@@
open Jvm Jvm.ClassFile Sem Op Lib Jvm.Free Jvm.Stand Jvm.LawKit Jvm.RoadKit Bundle Jvm.Pilot.@@N@@.Jvm.D
/-- the road so far: whoever comes from T with the frame g comes from S -/
def Rch (p : Program) (e : Env) (below : List Frame) (S T : State) (g : JFrame) : Prop := ∀ t, Steps p.tables e below (T.setTop g) t → Steps p.tables e below S t
theorem own_sta_keep {Z : State} {h h' : Heap} {C n d : String} {v : Value} {ws : List Addr} (F : Sta Z h C n d v) (K : Keep h h' ws) (q : ∀ x ∈ ws, ∀ cell : Cell, h[x]? = some cell → cell.vm.isStatics = false) : Sta Z h' C n d v := by
  obtain ⟨cf, i, k, f, st, cell, h1, h2, h3, h4, h5, h6, h7⟩ := F
  exact ⟨cf, i, k, f, st, cell, h1, h2, h3, h4, K.2.1 _ _ h5 (fun hm => by rw [q st hm cell h5] at h6; cases h6), h6, h7⟩
theorem own_selp {Z s : State} {a0 args : Array Value} {y : MethodName} {n : Nat} (hZ : Z.Warmed39 s.vm) (wi : (Jvm.Cond.instantiable y.cls n).before a0 Z = true) (wp : (Jvm.Cond.privateMethod y).before a0 Z = true) (wm : (Jvm.Cond.instanceMethod y).before a0 Z = true) (hy : y.cls ≠ "java/lang/invoke/MethodHandle" ∧ y.cls ≠ "java/lang/invoke/VarHandle") : (Jvm.Cond.selects y.cls y y).before args s = true := by
  have wi' : (Jvm.Cond.instantiable y.cls n).before args s = true := mvT hZ wi
  obtain ⟨c, k, h1, h2, h3, h4, -⟩ := Cond.instantiable_spec wi'
  exact selects_self_of_private h1 h2 (Bool.or_eq_false_iff.mp h4).1 (Cond.privateMethod_at (mvP hZ wp (args := #[]))) (mvT hZ wm) hy
theorem own_eq_int {args : Array Value} {s : State} {a : Term} {k : Int32} (h : (Jvm.Cond.eq a (Term.int k)).value args s none s [] = some true) : a.eval args s none [] s = some (.int k) := by
  simp only [Cond.value, Term.eval] at h
  cases ha : a.eval args s none [] s with
  | none => simp [ha] at h
  | some x => cases x <;> simp [ha] at h ⊢; exact h
theorem own_eq_ref {args : Array Value} {s : State} {a b : Term} {y : Addr} (h : (Jvm.Cond.eq a b).value args s none s [] = some true) (hb : b.eval args s none [] s = some (.ref y)) : a.eval args s none [] s = some (.ref y) := by
  simp only [Cond.value] at h
  cases ha : a.eval args s none [] s with
  | none => simp [ha] at h
  | some x => cases x <;> simp [ha, hb] at h ⊢; exact h
theorem own_i {a b : Int32} (h : a = b) : some (Value.int a) = some (Value.int b) := by rw [h]
theorem own_v {a b : Addr} (h : a = b) : some (Value.ref a) = some (Value.ref b) := by rw [h]
def own_isPal (z : Int32) : Prop := z = -17 ∨ z = -69 ∨ z = -65 ∨ z = 93 ∨ z = 120 ∨ z = 91 ∨ z = 34 ∨ z = 48
def own_pal (q : Int32) : Int32 := if q &&& 7 = 0 then -17 else if q &&& 7 = 1 then -69 else if q &&& 7 = 2 then -65 else if q &&& 7 = 3 then 93 else if q &&& 7 = 4 then 120 else if q &&& 7 = 5 then 91 else if q &&& 7 = 6 then 34 else 48
theorem own_pal_is (q : Int32) : own_isPal (own_pal q) := by
  unfold own_pal
  repeat' split
  all_goals simp [own_isPal]
theorem own_pal_nar (q : Int32) : nar .byte (own_pal q) = own_pal q := by
  rcases own_pal_is q with h | h | h | h | h | h | h | h <;> rw [h] <;> decide
def own_at (vs : List Value) (j : Int32) : Int32 := match vs.getD j.toNatClampNeg (.int 0) with | .int z => z | _ => 0
def own_Pal (vs : List Value) : Prop := vs.length = 8 ∧ ∀ i, i < 8 → ∃ z, own_isPal z ∧ vs.getD i (.int 0) = .int z
theorem own_Pal_mk {z0 z1 z2 z3 z4 z5 z6 z7 : Int32} (h0 : own_isPal z0) (h1 : own_isPal z1) (h2 : own_isPal z2) (h3 : own_isPal z3) (h4 : own_isPal z4) (h5 : own_isPal z5) (h6 : own_isPal z6) (h7 : own_isPal z7) : own_Pal [.int z0, .int z1, .int z2, .int z3, .int z4, .int z5, .int z6, .int z7] := by
  refine ⟨rfl, fun i hi => ?_⟩
  match i, hi with
  | 0, _ => exact ⟨_, h0, rfl⟩
  | 1, _ => exact ⟨_, h1, rfl⟩
  | 2, _ => exact ⟨_, h2, rfl⟩
  | 3, _ => exact ⟨_, h3, rfl⟩
  | 4, _ => exact ⟨_, h4, rfl⟩
  | 5, _ => exact ⟨_, h5, rfl⟩
  | 6, _ => exact ⟨_, h6, rfl⟩
  | 7, _ => exact ⟨_, h7, rfl⟩
theorem own_Pal_set {vs : List Value} (P : own_Pal vs) (k : Nat) {z : Int32} (hz : own_isPal z) : own_Pal (vs.set k (.int z)) := by
  refine ⟨by rw [List.length_set]; exact P.1, fun i hi => ?_⟩
  by_cases e : k = i
  · subst e
    exact ⟨z, hz, by simp [List.getD, List.getElem?_set, P.1, hi]⟩
  · obtain ⟨y, h1, h2⟩ := P.2 i hi
    exact ⟨y, h1, by rw [← h2]; simp [List.getD, List.getElem?_set, e]⟩
def own_rd (vs : List Value) (dv : Value) (nn j : Int32) : Prop := (¬ j < 0 ∧ j < nn) ∧ vs.getD j.toNatClampNeg dv = .int (own_at vs j)
def own_nsp (z : Int32) : Prop := ¬ z = 32 ∧ ¬ z = 9 ∧ ¬ z = 10 ∧ ¬ z = 13
theorem own_nsp_pal {z : Int32} (h : own_isPal z) : own_nsp z := by
  rcases h with rfl | rfl | rfl | rfl | rfl | rfl | rfl | rfl <;> simp [own_nsp]
theorem own_nat {j : Int32} (h0 : 0 ≤ j.toInt) : (j.toNatClampNeg : Int) = j.toInt := by
  have hj : ¬ j < 0 := fun q => by
    rw [Int32.lt_iff_toInt_lt] at q
    have e : (0 : Int32).toInt = 0 := by decide
    omega
  exact (nat_of hj).symm
theorem own_inb {j : Int32} (h0 : 0 ≤ j.toInt) (h1 : j.toInt < 8) : ¬ j < 0 ∧ j < (8 : Int32) := by
  have e0 : (0 : Int32).toInt = 0 := by decide
  have e8 : (8 : Int32).toInt = 8 := by decide
  constructor
  · intro q; rw [Int32.lt_iff_toInt_lt] at q; omega
  · rw [Int32.lt_iff_toInt_lt]; omega
theorem own_rd_pal {vs : List Value} (P : own_Pal vs) {j : Int32} (h0 : 0 ≤ j.toInt) (h1 : j.toInt < 8) : own_rd vs (.int (0 : Int32)) 8 j ∧ own_isPal (own_at vs j) := by
  have hj := own_nat h0
  obtain ⟨z, hz, e⟩ := P.2 j.toNatClampNeg (by omega)
  have ea : own_at vs j = z := by simp only [own_at, e]
  exact ⟨⟨own_inb h0 h1, by rw [ea]; exact e⟩, by rw [ea]; exact hz⟩
theorem own_rd1 : own_rd [.int (91 : Int32)] (.int (0 : Int32)) 1 0 := ⟨by decide, by decide⟩
theorem own_nsp1 : own_nsp (own_at [.int (91 : Int32)] 0) := ⟨by decide, by decide, by decide, by decide⟩
theorem own_add {x k : Int32} (h0 : -2147483648 ≤ x.toInt + k.toInt) (h1 : x.toInt + k.toInt < 2147483648) : (x + k).toInt = x.toInt + k.toInt := by
  have h := c_iadd x k
  have r := rng32 (x + k)
  omega
def own_first (vs : List Value) (off len : Int32) : Int32 := if len < 3 then off else if own_at vs off = -17 then (if own_at vs (off + 1) = -69 then (if own_at vs (off + 2) = -65 then off + 3 else off) else off) else off
theorem own_first_cases (vs : List Value) (off len : Int32) : own_first vs off len = off ∨ own_first vs off len = off + 3 := by
  unfold own_first
  repeat' split
  all_goals simp
def own_item (vs : List Value) (f e : Int32) : Int32 := if f < e then (if own_at vs f = 93 then 0 else 1) else 1
theorem own_item_nar (vs : List Value) (f e : Int32) : nar .boolean (own_item vs f e) = own_item vs f e := by
  unfold own_item
  repeat' split
  all_goals decide
theorem own_off (q : Int32) : 0 ≤ (q &&& 3).toInt ∧ (q &&& 3).toInt ≤ 3 := c_and q 3 (by decide)
theorem own_nine {off : Int32} (h : 0 ≤ off.toInt ∧ off.toInt ≤ 3) : (9 - off).toInt = 9 - off.toInt := by
  have h1 := c_isub 9 off
  have h2 := rng32 (9 - off)
  have e : (9 : Int32).toInt = 9 := by decide
  omega
theorem own_nz {off : Int32} (h : 0 ≤ off.toInt ∧ off.toInt ≤ 3) : ¬ (9 - off = 0) := fun q => by
  have h1 := own_nine h
  rw [q] at h1
  have e : (0 : Int32).toInt = 0 := by decide
  omega
theorem own_len {off : Int32} (q : Int32) (h : 0 ≤ off.toInt ∧ off.toInt ≤ 3) : 0 ≤ ((q &&& 2147483647) % (9 - off)).toInt ∧ ((q &&& 2147483647) % (9 - off)).toInt ≤ 8 - off.toInt := by
  have h1 := c_and q 2147483647 (by decide)
  have h2 := (c_irem (q &&& 2147483647) (9 - off) _ (own_nine h)).1 h1.1
  rw [h2]
  have h3 := Int.emod_nonneg (q &&& 2147483647).toInt (b := 9 - off.toInt) (by omega)
  have h4 := Int.emod_lt_of_pos (q &&& 2147483647).toInt (b := 9 - off.toInt) (by omega)
  omega
theorem own_lt {x y : Int32} : x < y ↔ x.toInt < y.toInt := Int32.lt_iff_toInt_lt
theorem own_one : (1 : Int32).toInt = 1 := by decide
theorem own_two : (2 : Int32).toInt = 2 := by decide
theorem own_three : (3 : Int32).toInt = 3 := by decide
theorem own_found {Z : State} {a0 : Array Value} {own K : String} {i : Nat} (w : (Jvm.Cond.classLink own i K).before a0 Z = true) : ∃ t, Z.vm.findClass K = some t := by
  cases hk : Z.vm.findClass K with
  | some t => exact ⟨t, rfl⟩
  | none =>
    exfalso
    cases hd : Z.vm.findClass own with
    | some d =>
      obtain ⟨c, h, -⟩ := Cond.classLink_spec hd w {} rfl
      rw [hk] at h
      cases h
    | none => simp [Cond.before, Cond.holds, Cond.value, State.classLinks, hd] at w
theorem own_rr {Z : State} {h : Heap} {a : Addr} {C K own : String} {i : Nat} {a0 : Array Value} (emp : Addr) (E : Exa Z h a C) (w : (Jvm.Cond.classLink own i K).before a0 Z = true) : ∃ rr, (Ins Z h a K true ∧ rr = a) ∨ (Ins Z h a K false ∧ rr = emp) := by
  obtain ⟨t, ht⟩ := own_found w
  obtain ⟨cell, k, h1, -⟩ := E
  cases hb : (!cell.vm.isStatics && Z.vm.assignable cell.cls t) with
  | true => exact ⟨a, Or.inl ⟨⟨cell, t, h1, ht, hb⟩, rfl⟩⟩
  | false => exact ⟨emp, Or.inr ⟨⟨cell, t, h1, ht, hb⟩, rfl⟩⟩
theorem d1_0 : decode method_2_code 0 = .ok (.iload_n 0, 1) := by decide +kernel
theorem d1_1 : decode method_2_code 1 = .ok (.bipush 7, 2) := by decide +kernel
theorem d1_3 : decode method_2_code 3 = .ok (.iand, 1) := by decide +kernel
theorem d1_4 : decode method_2_code 4 = .ok (.istore_n 1, 1) := by decide +kernel
theorem d1_5 : decode method_2_code 5 = .ok (.iload_n 1, 1) := by decide +kernel
theorem d1_6 : decode method_2_code 6 = .ok (.ifCond .ne 6, 3) := by decide +kernel
theorem d1_9 : decode method_2_code 9 = .ok (.bipush (-17), 2) := by decide +kernel
theorem d1_11 : decode method_2_code 11 = .ok (.ireturn, 1) := by decide +kernel
theorem d1_12 : decode method_2_code 12 = .ok (.iload_n 1, 1) := by decide +kernel
theorem d1_13 : decode method_2_code 13 = .ok (.iconst 1, 1) := by decide +kernel
theorem d1_14 : decode method_2_code 14 = .ok (.if_icmp .ne 6, 3) := by decide +kernel
theorem d1_17 : decode method_2_code 17 = .ok (.bipush (-69), 2) := by decide +kernel
theorem d1_19 : decode method_2_code 19 = .ok (.ireturn, 1) := by decide +kernel
theorem d1_20 : decode method_2_code 20 = .ok (.iload_n 1, 1) := by decide +kernel
theorem d1_21 : decode method_2_code 21 = .ok (.iconst 2, 1) := by decide +kernel
theorem d1_22 : decode method_2_code 22 = .ok (.if_icmp .ne 6, 3) := by decide +kernel
theorem d1_25 : decode method_2_code 25 = .ok (.bipush (-65), 2) := by decide +kernel
theorem d1_27 : decode method_2_code 27 = .ok (.ireturn, 1) := by decide +kernel
theorem d1_28 : decode method_2_code 28 = .ok (.iload_n 1, 1) := by decide +kernel
theorem d1_29 : decode method_2_code 29 = .ok (.iconst 3, 1) := by decide +kernel
theorem d1_30 : decode method_2_code 30 = .ok (.if_icmp .ne 6, 3) := by decide +kernel
theorem d1_33 : decode method_2_code 33 = .ok (.bipush 93, 2) := by decide +kernel
theorem d1_35 : decode method_2_code 35 = .ok (.ireturn, 1) := by decide +kernel
theorem d1_36 : decode method_2_code 36 = .ok (.iload_n 1, 1) := by decide +kernel
theorem d1_37 : decode method_2_code 37 = .ok (.iconst 4, 1) := by decide +kernel
theorem d1_38 : decode method_2_code 38 = .ok (.if_icmp .ne 6, 3) := by decide +kernel
theorem d1_41 : decode method_2_code 41 = .ok (.bipush 120, 2) := by decide +kernel
theorem d1_43 : decode method_2_code 43 = .ok (.ireturn, 1) := by decide +kernel
theorem d1_44 : decode method_2_code 44 = .ok (.iload_n 1, 1) := by decide +kernel
theorem d1_45 : decode method_2_code 45 = .ok (.iconst 5, 1) := by decide +kernel
theorem d1_46 : decode method_2_code 46 = .ok (.if_icmp .ne 6, 3) := by decide +kernel
theorem d1_49 : decode method_2_code 49 = .ok (.bipush 91, 2) := by decide +kernel
theorem d1_51 : decode method_2_code 51 = .ok (.ireturn, 1) := by decide +kernel
theorem d1_52 : decode method_2_code 52 = .ok (.iload_n 1, 1) := by decide +kernel
theorem d1_53 : decode method_2_code 53 = .ok (.bipush 6, 2) := by decide +kernel
theorem d1_55 : decode method_2_code 55 = .ok (.if_icmp .ne 6, 3) := by decide +kernel
theorem d1_58 : decode method_2_code 58 = .ok (.bipush 34, 2) := by decide +kernel
theorem d1_60 : decode method_2_code 60 = .ok (.ireturn, 1) := by decide +kernel
theorem d1_61 : decode method_2_code 61 = .ok (.bipush 48, 2) := by decide +kernel
theorem d1_63 : decode method_2_code 63 = .ok (.ireturn, 1) := by decide +kernel
theorem ef_rm_pal (m : MethodId) (x0 : Int32) : entryFrame m #[(.int x0)] 2 = mkF m 0 #[.val (.int x0), .unset] [] := by first | (simp [entryFrame, mkF, argsToLocals, Value.category]; done) | rfl
theorem pn_0 : plainName "com/example/vestwork/vestwork/io/JsonScannerResetPinLaw" = true := by first | (simp [plainName, overriddenIn]; done) | decide +kernel
def Q_rm_pal (Z : State) (q0 : Int32) (h0 : Heap) (n0 : Nat) (v : Option Value) (h : Heap) (L : List Loc) : Prop := (v = some (.int (own_pal q0))) ∧ (Fr n0 L) ∧ (h = h0)
set_option maxRecDepth 65536 in
set_option maxHeartbeats 40000000 in
theorem rm_pal (l : Launch) (Z : State) (a0 : Array Value) (hw : ∀ d ∈ tables_1, d.before a0 Z = true) (ws : List Jvm.Cond) (q0 : Int32) (h0 : Heap) (n0 : Nat) (Z0 : n0 ≤ h0.size)  :
    MetFree l (⟨"com/example/vestwork/vestwork/io/JsonScannerResetPinLaw", "pal", "(I)B"⟩ : MethodName) (head1 (Jvm.Cond.code (⟨"com/example/vestwork/vestwork/io/JsonScannerResetPinLaw", "pal", "(I)B"⟩ : MethodName) method_2_code 2 (some .byte) :: ws) ({ frames := 0, cells := 0, slots := 0, locals := 0 } : Room)) (fun a U => a = #[(.int q0)] ∧ Z.Warmed39 U.vm ∧ U.heap = h0) (fun _ _ _ _ _ => True) (fun _ U o U' => ∃ v L, o = .returned v ∧ Q_rm_pal Z q0 h0 n0 v U'.heap L ∧ FrameEnd U o U' L ({ frames := 0, cells := 0, slots := 0, locals := 0 } : Room).cells ({ frames := 0, cells := 0, slots := 0, locals := 0 } : Room).slots) := by
  refine MetFree.of_bodySF (plainFor_of_name pn_0) hisR ?_
  intro p e s m args below meth c s₁ Bd hml0 hP hK
  obtain ⟨rfl, hZ, hh⟩ := hP
  have hx := Bd.exec
  have hby := Bd.bytes
  have hml : c.maxLocals = 2 := hml0
  have hown : s.vm.findClass "com/example/vestwork/vestwork/io/JsonScannerResetPinLaw" = some m.cls := findClass_of_methodNamed Bd.named
  have hnm := (name_of_methodNamed Bd.named Bd.method).1
  have X0 : Stand p l e ({ frames := 0, cells := 0, slots := 0, locals := 0 } : Room) s m #[(.int q0)] below meth c s₁ [] 0 0 := Stand.of_body Bd
  have e0 : s₁.heap = h0 := by rw [← hh, Bd.state]; rfl
  have N0 := Fr.nil n0
  have K0 : Keep h0 h0 [] := Keep.refl _ _
  have R0 : Rch p e below (s₁.setTop (entryFrame m #[(.int q0)] 2)) s₁ (mkF m 0 #[.val (.int q0), .unset] []) := fun t k => castTop (ef_rm_pal m q0) k
  have R2 : Rch p e below (s₁.setTop (entryFrame m #[(.int q0)] 2)) s₁ (mkF m 6 #[.val (.int q0), .val (.int (q0 &&& (7 : Int32)))] [(.int (q0 &&& (7 : Int32)))]) := fun t k => by
    refine R0 t ?_
    refine XS.iloadN X0.here hx rfl (hb hby d1_0) rfl ?_
    show Steps p.tables e below (s₁.setTop (mkF m 1 #[.val (.int q0), .unset] [(.int q0)])) t
    refine XS.bipush X0.here hx rfl (hb hby d1_1) ?_
    show Steps p.tables e below (s₁.setTop (mkF m 3 #[.val (.int q0), .unset] [(.int (7 : Int32)), (.int q0)])) t
    refine XS.iand X0.here hx rfl (hb hby d1_3) rfl ?_
    show Steps p.tables e below (s₁.setTop (mkF m 4 #[.val (.int q0), .unset] [(.int (q0 &&& (7 : Int32)))])) t
    refine XS.istoreN X0.here hx rfl (hb hby d1_4) rfl (l' := #[.val (.int q0), .val (.int (q0 &&& (7 : Int32)))]) rfl ?_
    show Steps p.tables e below (s₁.setTop (mkF m 5 #[.val (.int q0), .val (.int (q0 &&& (7 : Int32)))] [])) t
    refine XS.iloadN X0.here hx rfl (hb hby d1_5) rfl ?_
    exact k
  by_cases hc6_1 : (q0 &&& (7 : Int32)) = (0 : Int32)
  · have R3 : Rch p e below (s₁.setTop (entryFrame m #[(.int q0)] 2)) s₁ (mkF m 11 #[.val (.int q0), .val (.int (q0 &&& (7 : Int32)))] [(.int (-17 : Int32))]) := fun t k => by
      refine R2 t ?_
      refine XS.ifNo X0.here hx rfl (hb hby d1_6) rfl ((if0 _ _).trans (teq hc6_1).2) ?_
      show Steps p.tables e below (s₁.setTop (mkF m 9 #[.val (.int q0), .val (.int (q0 &&& (7 : Int32)))] [])) t
      refine XS.bipush X0.here hx rfl (hb hby d1_9) ?_
      exact k
    obtain ⟨fs, hr, hrun, hended, hW, hsame⟩ := X0.leave (v := some (.int (-17 : Int32))) (fun h => by rw [Bd.returns] at h; cases h)
    refine ⟨_, _, R3 _ ?_, hrun, hended, _, _, rfl, ?_, ⟨_, rfl⟩, hW, hsame.mono (by decide) (by decide)⟩
    · exact retN X0 hx (t := .byte) Bd.returns (by simp) (hb hby d1_11) hr
    · show Q_rm_pal Z q0 h0 n0 _ s₁.heap _
      rw [e0]
      exact ⟨own_i (by simp [own_pal, hc6_1]), N0, rfl⟩
  · have R5 : Rch p e below (s₁.setTop (entryFrame m #[(.int q0)] 2)) s₁ (mkF m 14 #[.val (.int q0), .val (.int (q0 &&& (7 : Int32)))] [(.int (1 : Int32)), (.int (q0 &&& (7 : Int32)))]) := fun t k => by
      refine R2 t ?_
      refine XS.ifYes X0.here hx rfl (pc0 := 6) (pc' := 12) rfl (hb hby d1_6) rfl ((if0 _ _).trans (feq hc6_1).2) (by decide) (by decide) ?_
      show Steps p.tables e below (s₁.setTop (mkF m 12 #[.val (.int q0), .val (.int (q0 &&& (7 : Int32)))] [])) t
      refine XS.iloadN X0.here hx rfl (hb hby d1_12) rfl ?_
      show Steps p.tables e below (s₁.setTop (mkF m 13 #[.val (.int q0), .val (.int (q0 &&& (7 : Int32)))] [(.int (q0 &&& (7 : Int32)))])) t
      refine XS.iconst X0.here hx rfl (hb hby d1_13) ?_
      exact k
    by_cases hc14_4 : (q0 &&& (7 : Int32)) = (1 : Int32)
    · have R6 : Rch p e below (s₁.setTop (entryFrame m #[(.int q0)] 2)) s₁ (mkF m 19 #[.val (.int q0), .val (.int (q0 &&& (7 : Int32)))] [(.int (-69 : Int32))]) := fun t k => by
        refine R5 t ?_
        refine XS.icmpNo X0.here hx rfl (hb hby d1_14) rfl (teq hc14_4).2 ?_
        show Steps p.tables e below (s₁.setTop (mkF m 17 #[.val (.int q0), .val (.int (q0 &&& (7 : Int32)))] [])) t
        refine XS.bipush X0.here hx rfl (hb hby d1_17) ?_
        exact k
      obtain ⟨fs, hr, hrun, hended, hW, hsame⟩ := X0.leave (v := some (.int (-69 : Int32))) (fun h => by rw [Bd.returns] at h; cases h)
      refine ⟨_, _, R6 _ ?_, hrun, hended, _, _, rfl, ?_, ⟨_, rfl⟩, hW, hsame.mono (by decide) (by decide)⟩
      · exact retN X0 hx (t := .byte) Bd.returns (by simp) (hb hby d1_19) hr
      · show Q_rm_pal Z q0 h0 n0 _ s₁.heap _
        rw [e0]
        exact ⟨own_i (by simp [own_pal, hc6_1, hc14_4]), N0, rfl⟩
    · have R8 : Rch p e below (s₁.setTop (entryFrame m #[(.int q0)] 2)) s₁ (mkF m 22 #[.val (.int q0), .val (.int (q0 &&& (7 : Int32)))] [(.int (2 : Int32)), (.int (q0 &&& (7 : Int32)))]) := fun t k => by
        refine R5 t ?_
        refine XS.icmpYes X0.here hx rfl (pc0 := 14) (pc' := 20) rfl (hb hby d1_14) rfl (feq hc14_4).2 (by decide) (by decide) ?_
        show Steps p.tables e below (s₁.setTop (mkF m 20 #[.val (.int q0), .val (.int (q0 &&& (7 : Int32)))] [])) t
        refine XS.iloadN X0.here hx rfl (hb hby d1_20) rfl ?_
        show Steps p.tables e below (s₁.setTop (mkF m 21 #[.val (.int q0), .val (.int (q0 &&& (7 : Int32)))] [(.int (q0 &&& (7 : Int32)))])) t
        refine XS.iconst X0.here hx rfl (hb hby d1_21) ?_
        exact k
      by_cases hc22_7 : (q0 &&& (7 : Int32)) = (2 : Int32)
      · have R9 : Rch p e below (s₁.setTop (entryFrame m #[(.int q0)] 2)) s₁ (mkF m 27 #[.val (.int q0), .val (.int (q0 &&& (7 : Int32)))] [(.int (-65 : Int32))]) := fun t k => by
          refine R8 t ?_
          refine XS.icmpNo X0.here hx rfl (hb hby d1_22) rfl (teq hc22_7).2 ?_
          show Steps p.tables e below (s₁.setTop (mkF m 25 #[.val (.int q0), .val (.int (q0 &&& (7 : Int32)))] [])) t
          refine XS.bipush X0.here hx rfl (hb hby d1_25) ?_
          exact k
        obtain ⟨fs, hr, hrun, hended, hW, hsame⟩ := X0.leave (v := some (.int (-65 : Int32))) (fun h => by rw [Bd.returns] at h; cases h)
        refine ⟨_, _, R9 _ ?_, hrun, hended, _, _, rfl, ?_, ⟨_, rfl⟩, hW, hsame.mono (by decide) (by decide)⟩
        · exact retN X0 hx (t := .byte) Bd.returns (by simp) (hb hby d1_27) hr
        · show Q_rm_pal Z q0 h0 n0 _ s₁.heap _
          rw [e0]
          exact ⟨own_i (by simp [own_pal, hc6_1, hc14_4, hc22_7]), N0, rfl⟩
      · have R11 : Rch p e below (s₁.setTop (entryFrame m #[(.int q0)] 2)) s₁ (mkF m 30 #[.val (.int q0), .val (.int (q0 &&& (7 : Int32)))] [(.int (3 : Int32)), (.int (q0 &&& (7 : Int32)))]) := fun t k => by
          refine R8 t ?_
          refine XS.icmpYes X0.here hx rfl (pc0 := 22) (pc' := 28) rfl (hb hby d1_22) rfl (feq hc22_7).2 (by decide) (by decide) ?_
          show Steps p.tables e below (s₁.setTop (mkF m 28 #[.val (.int q0), .val (.int (q0 &&& (7 : Int32)))] [])) t
          refine XS.iloadN X0.here hx rfl (hb hby d1_28) rfl ?_
          show Steps p.tables e below (s₁.setTop (mkF m 29 #[.val (.int q0), .val (.int (q0 &&& (7 : Int32)))] [(.int (q0 &&& (7 : Int32)))])) t
          refine XS.iconst X0.here hx rfl (hb hby d1_29) ?_
          exact k
        by_cases hc30_10 : (q0 &&& (7 : Int32)) = (3 : Int32)
        · have R12 : Rch p e below (s₁.setTop (entryFrame m #[(.int q0)] 2)) s₁ (mkF m 35 #[.val (.int q0), .val (.int (q0 &&& (7 : Int32)))] [(.int (93 : Int32))]) := fun t k => by
            refine R11 t ?_
            refine XS.icmpNo X0.here hx rfl (hb hby d1_30) rfl (teq hc30_10).2 ?_
            show Steps p.tables e below (s₁.setTop (mkF m 33 #[.val (.int q0), .val (.int (q0 &&& (7 : Int32)))] [])) t
            refine XS.bipush X0.here hx rfl (hb hby d1_33) ?_
            exact k
          obtain ⟨fs, hr, hrun, hended, hW, hsame⟩ := X0.leave (v := some (.int (93 : Int32))) (fun h => by rw [Bd.returns] at h; cases h)
          refine ⟨_, _, R12 _ ?_, hrun, hended, _, _, rfl, ?_, ⟨_, rfl⟩, hW, hsame.mono (by decide) (by decide)⟩
          · exact retN X0 hx (t := .byte) Bd.returns (by simp) (hb hby d1_35) hr
          · show Q_rm_pal Z q0 h0 n0 _ s₁.heap _
            rw [e0]
            exact ⟨own_i (by simp [own_pal, hc6_1, hc14_4, hc22_7, hc30_10]), N0, rfl⟩
        · have R14 : Rch p e below (s₁.setTop (entryFrame m #[(.int q0)] 2)) s₁ (mkF m 38 #[.val (.int q0), .val (.int (q0 &&& (7 : Int32)))] [(.int (4 : Int32)), (.int (q0 &&& (7 : Int32)))]) := fun t k => by
            refine R11 t ?_
            refine XS.icmpYes X0.here hx rfl (pc0 := 30) (pc' := 36) rfl (hb hby d1_30) rfl (feq hc30_10).2 (by decide) (by decide) ?_
            show Steps p.tables e below (s₁.setTop (mkF m 36 #[.val (.int q0), .val (.int (q0 &&& (7 : Int32)))] [])) t
            refine XS.iloadN X0.here hx rfl (hb hby d1_36) rfl ?_
            show Steps p.tables e below (s₁.setTop (mkF m 37 #[.val (.int q0), .val (.int (q0 &&& (7 : Int32)))] [(.int (q0 &&& (7 : Int32)))])) t
            refine XS.iconst X0.here hx rfl (hb hby d1_37) ?_
            exact k
          by_cases hc38_13 : (q0 &&& (7 : Int32)) = (4 : Int32)
          · have R15 : Rch p e below (s₁.setTop (entryFrame m #[(.int q0)] 2)) s₁ (mkF m 43 #[.val (.int q0), .val (.int (q0 &&& (7 : Int32)))] [(.int (120 : Int32))]) := fun t k => by
              refine R14 t ?_
              refine XS.icmpNo X0.here hx rfl (hb hby d1_38) rfl (teq hc38_13).2 ?_
              show Steps p.tables e below (s₁.setTop (mkF m 41 #[.val (.int q0), .val (.int (q0 &&& (7 : Int32)))] [])) t
              refine XS.bipush X0.here hx rfl (hb hby d1_41) ?_
              exact k
            obtain ⟨fs, hr, hrun, hended, hW, hsame⟩ := X0.leave (v := some (.int (120 : Int32))) (fun h => by rw [Bd.returns] at h; cases h)
            refine ⟨_, _, R15 _ ?_, hrun, hended, _, _, rfl, ?_, ⟨_, rfl⟩, hW, hsame.mono (by decide) (by decide)⟩
            · exact retN X0 hx (t := .byte) Bd.returns (by simp) (hb hby d1_43) hr
            · show Q_rm_pal Z q0 h0 n0 _ s₁.heap _
              rw [e0]
              exact ⟨own_i (by simp [own_pal, hc6_1, hc14_4, hc22_7, hc30_10, hc38_13]), N0, rfl⟩
          · have R17 : Rch p e below (s₁.setTop (entryFrame m #[(.int q0)] 2)) s₁ (mkF m 46 #[.val (.int q0), .val (.int (q0 &&& (7 : Int32)))] [(.int (5 : Int32)), (.int (q0 &&& (7 : Int32)))]) := fun t k => by
              refine R14 t ?_
              refine XS.icmpYes X0.here hx rfl (pc0 := 38) (pc' := 44) rfl (hb hby d1_38) rfl (feq hc38_13).2 (by decide) (by decide) ?_
              show Steps p.tables e below (s₁.setTop (mkF m 44 #[.val (.int q0), .val (.int (q0 &&& (7 : Int32)))] [])) t
              refine XS.iloadN X0.here hx rfl (hb hby d1_44) rfl ?_
              show Steps p.tables e below (s₁.setTop (mkF m 45 #[.val (.int q0), .val (.int (q0 &&& (7 : Int32)))] [(.int (q0 &&& (7 : Int32)))])) t
              refine XS.iconst X0.here hx rfl (hb hby d1_45) ?_
              exact k
            by_cases hc46_16 : (q0 &&& (7 : Int32)) = (5 : Int32)
            · have R18 : Rch p e below (s₁.setTop (entryFrame m #[(.int q0)] 2)) s₁ (mkF m 51 #[.val (.int q0), .val (.int (q0 &&& (7 : Int32)))] [(.int (91 : Int32))]) := fun t k => by
                refine R17 t ?_
                refine XS.icmpNo X0.here hx rfl (hb hby d1_46) rfl (teq hc46_16).2 ?_
                show Steps p.tables e below (s₁.setTop (mkF m 49 #[.val (.int q0), .val (.int (q0 &&& (7 : Int32)))] [])) t
                refine XS.bipush X0.here hx rfl (hb hby d1_49) ?_
                exact k
              obtain ⟨fs, hr, hrun, hended, hW, hsame⟩ := X0.leave (v := some (.int (91 : Int32))) (fun h => by rw [Bd.returns] at h; cases h)
              refine ⟨_, _, R18 _ ?_, hrun, hended, _, _, rfl, ?_, ⟨_, rfl⟩, hW, hsame.mono (by decide) (by decide)⟩
              · exact retN X0 hx (t := .byte) Bd.returns (by simp) (hb hby d1_51) hr
              · show Q_rm_pal Z q0 h0 n0 _ s₁.heap _
                rw [e0]
                exact ⟨own_i (by simp [own_pal, hc6_1, hc14_4, hc22_7, hc30_10, hc38_13, hc46_16]), N0, rfl⟩
            · have R20 : Rch p e below (s₁.setTop (entryFrame m #[(.int q0)] 2)) s₁ (mkF m 55 #[.val (.int q0), .val (.int (q0 &&& (7 : Int32)))] [(.int (6 : Int32)), (.int (q0 &&& (7 : Int32)))]) := fun t k => by
                refine R17 t ?_
                refine XS.icmpYes X0.here hx rfl (pc0 := 46) (pc' := 52) rfl (hb hby d1_46) rfl (feq hc46_16).2 (by decide) (by decide) ?_
                show Steps p.tables e below (s₁.setTop (mkF m 52 #[.val (.int q0), .val (.int (q0 &&& (7 : Int32)))] [])) t
                refine XS.iloadN X0.here hx rfl (hb hby d1_52) rfl ?_
                show Steps p.tables e below (s₁.setTop (mkF m 53 #[.val (.int q0), .val (.int (q0 &&& (7 : Int32)))] [(.int (q0 &&& (7 : Int32)))])) t
                refine XS.bipush X0.here hx rfl (hb hby d1_53) ?_
                exact k
              by_cases hc55_19 : (q0 &&& (7 : Int32)) = (6 : Int32)
              · have R21 : Rch p e below (s₁.setTop (entryFrame m #[(.int q0)] 2)) s₁ (mkF m 60 #[.val (.int q0), .val (.int (q0 &&& (7 : Int32)))] [(.int (34 : Int32))]) := fun t k => by
                  refine R20 t ?_
                  refine XS.icmpNo X0.here hx rfl (hb hby d1_55) rfl (teq hc55_19).2 ?_
                  show Steps p.tables e below (s₁.setTop (mkF m 58 #[.val (.int q0), .val (.int (q0 &&& (7 : Int32)))] [])) t
                  refine XS.bipush X0.here hx rfl (hb hby d1_58) ?_
                  exact k
                obtain ⟨fs, hr, hrun, hended, hW, hsame⟩ := X0.leave (v := some (.int (34 : Int32))) (fun h => by rw [Bd.returns] at h; cases h)
                refine ⟨_, _, R21 _ ?_, hrun, hended, _, _, rfl, ?_, ⟨_, rfl⟩, hW, hsame.mono (by decide) (by decide)⟩
                · exact retN X0 hx (t := .byte) Bd.returns (by simp) (hb hby d1_60) hr
                · show Q_rm_pal Z q0 h0 n0 _ s₁.heap _
                  rw [e0]
                  exact ⟨own_i (by simp [own_pal, hc6_1, hc14_4, hc22_7, hc30_10, hc38_13, hc46_16, hc55_19]), N0, rfl⟩
              · have R22 : Rch p e below (s₁.setTop (entryFrame m #[(.int q0)] 2)) s₁ (mkF m 63 #[.val (.int q0), .val (.int (q0 &&& (7 : Int32)))] [(.int (48 : Int32))]) := fun t k => by
                  refine R20 t ?_
                  refine XS.icmpYes X0.here hx rfl (pc0 := 55) (pc' := 61) rfl (hb hby d1_55) rfl (feq hc55_19).2 (by decide) (by decide) ?_
                  show Steps p.tables e below (s₁.setTop (mkF m 61 #[.val (.int q0), .val (.int (q0 &&& (7 : Int32)))] [])) t
                  refine XS.bipush X0.here hx rfl (hb hby d1_61) ?_
                  exact k
                obtain ⟨fs, hr, hrun, hended, hW, hsame⟩ := X0.leave (v := some (.int (48 : Int32))) (fun h => by rw [Bd.returns] at h; cases h)
                refine ⟨_, _, R22 _ ?_, hrun, hended, _, _, rfl, ?_, ⟨_, rfl⟩, hW, hsame.mono (by decide) (by decide)⟩
                · exact retN X0 hx (t := .byte) Bd.returns (by simp) (hb hby d1_63) hr
                · show Q_rm_pal Z q0 h0 n0 _ s₁.heap _
                  rw [e0]
                  exact ⟨own_i (by simp [own_pal, hc6_1, hc14_4, hc22_7, hc30_10, hc38_13, hc46_16, hc55_19]), N0, rfl⟩
theorem d4_0 : decode jdk_22_method_1_code 0 = .ok (.aload_n 0, 1) := by decide +kernel
theorem d4_1 : decode jdk_22_method_1_code 1 = .ok (.invokespecial 1, 3) := by decide +kernel
theorem d4_4 : decode jdk_22_method_1_code 4 = .ok (.return_, 1) := by decide +kernel
theorem ef_rm_ac (m : MethodId) (x0 : Addr) : entryFrame m #[(.ref x0)] 1 = mkF m 0 #[.val (.ref x0)] [] := by first | (simp [entryFrame, mkF, argsToLocals, Value.category]; done) | rfl
theorem pn_1 : plainName "java/util/AbstractCollection" = true := by first | (simp [plainName, overriddenIn]; done) | decide +kernel
def Q_rm_ac (Z : State) (o0 : Addr) (h0 : Heap) (n0 : Nat) (v : Option Value) (h : Heap) (L : List Loc) : Prop := (v = none) ∧ (Fr n0 L) ∧ (Keep h0 h [o0]) ∧ (Exa Z h o0 "java/util/ArrayList") ∧ (Fld Z h o0 "java/util/AbstractList" "modCount" "I" (.int (0 : Int32))) ∧ (Fld Z h o0 "java/util/ArrayList" "elementData" "[Ljava/lang/Object;" .null) ∧ (Fld Z h o0 "java/util/ArrayList" "size" "I" (.int (0 : Int32)))
set_option maxRecDepth 65536 in
set_option maxHeartbeats 40000000 in
theorem rm_ac (l : Launch) (Z : State) (a0 : Array Value) (hw : ∀ d ∈ tables_1, d.before a0 Z = true) (ws : List Jvm.Cond) (o0 : Addr) (h0 : Heap) (n0 : Nat) (Z0 : n0 ≤ h0.size) (pE : Exa Z h0 o0 "java/util/ArrayList") (pg : n0 ≤ o0) (pf0 : Fld Z h0 o0 "java/util/AbstractList" "modCount" "I" (.int (0 : Int32))) (pf1 : Fld Z h0 o0 "java/util/ArrayList" "elementData" "[Ljava/lang/Object;" .null) (pf2 : Fld Z h0 o0 "java/util/ArrayList" "size" "I" (.int (0 : Int32))) :
    MetFree l (⟨"java/util/AbstractCollection", "<init>", "()V"⟩ : MethodName) (head1 (Jvm.Cond.code (⟨"java/util/AbstractCollection", "<init>", "()V"⟩ : MethodName) jdk_22_method_1_code 1 none :: ws) ({ frames := 1, cells := 0, slots := 0, locals := 12 } : Room)) (fun a U => a = #[(.ref o0)] ∧ Z.Warmed39 U.vm ∧ U.heap = h0) (fun _ _ _ _ _ => True) (fun _ U o U' => ∃ v L, o = .returned v ∧ Q_rm_ac Z o0 h0 n0 v U'.heap L ∧ FrameEnd U o U' L ({ frames := 1, cells := 0, slots := 0, locals := 12 } : Room).cells ({ frames := 1, cells := 0, slots := 0, locals := 12 } : Room).slots) := by
  refine MetFree.of_bodySF (plainFor_of_name pn_1) hisR ?_
  intro p e s m args below meth c s₁ Bd hml0 hP hK
  obtain ⟨rfl, hZ, hh⟩ := hP
  have hx := Bd.exec
  have hby := Bd.bytes
  have hml : c.maxLocals = 1 := hml0
  have hown : s.vm.findClass "java/util/AbstractCollection" = some m.cls := findClass_of_methodNamed Bd.named
  have hnm := (name_of_methodNamed Bd.named Bd.method).1
  have X0 : Stand p l e ({ frames := 1, cells := 0, slots := 0, locals := 12 } : Room) s m #[(.ref o0)] below meth c s₁ [] 0 0 := Stand.of_body Bd
  have e0 : s₁.heap = h0 := by rw [← hh, Bd.state]; rfl
  have N0 := Fr.nil n0
  have K0 : Keep h0 h0 [o0] := Keep.refl _ _
  have R0 : Rch p e below (s₁.setTop (entryFrame m #[(.ref o0)] 1)) s₁ (mkF m 0 #[.val (.ref o0)] []) := fun t k => castTop (ef_rm_ac m o0) k
  have R2 : Rch p e below (s₁.setTop (entryFrame m #[(.ref o0)] 1)) s₁ (mkF m 1 #[.val (.ref o0)] [(.ref o0)]) := fun t k => by
    refine R0 t ?_
    refine XS.aloadN X0.here hx rfl (hb hby d4_0) rfl rfl ?_
    exact k
  obtain ⟨T1, X1, e1, st1⟩ := initO X0 hx hZ hown (hw _ (List.mem_of_getElem? (i := 27) rfl)) (hw _ (List.mem_of_getElem? (i := 28) rfl)) (hw _ (List.mem_of_getElem? (i := 29) rfl)) e0 (g := (mkF m 1 #[.val (.ref o0)] [(.ref o0)])) rfl (by rw [hml]; rfl) rfl (hb hby d4_1) (by decide) (W := 0) (by show 2 * 0 + _ ≤ _; exact Nat.le_of_eq rfl) (by decide)
  have R3 : Rch p e below (s₁.setTop (entryFrame m #[(.ref o0)] 1)) T1 (mkF m 4 #[.val (.ref o0)] []) := fun t k => by
    refine R2 t ?_
    refine st1 _ ?_
    exact k
  obtain ⟨fs, hr, hrun, hended, hW, hsame⟩ := X1.leave (v := none) (fun _ => rfl)
  refine ⟨_, _, R3 _ ?_, hrun, hended, _, _, rfl, ?_, ⟨_, rfl⟩, hW, hsame.mono (by decide) (by decide)⟩
  · exact X1.returnOut hx Bd.returns (hb hby d4_4) hr
  · show Q_rm_ac Z o0 h0 n0 _ T1.heap _
    rw [e1]
    exact ⟨rfl, N0, K0, pE, pf0, pf1, pf2⟩
theorem d3_0 : decode jdk_39_method_1_code 0 = .ok (.aload_n 0, 1) := by decide +kernel
theorem d3_1 : decode jdk_39_method_1_code 1 = .ok (.invokespecial 1, 3) := by decide +kernel
theorem pd_0 : parseMethodDescriptor "()V" = some ⟨[], none⟩ := by decide +kernel
theorem d3_4 : decode jdk_39_method_1_code 4 = .ok (.aload_n 0, 1) := by decide +kernel
theorem d3_5 : decode jdk_39_method_1_code 5 = .ok (.iconst 0, 1) := by decide +kernel
theorem d3_6 : decode jdk_39_method_1_code 6 = .ok (.putfield 7, 3) := by decide +kernel
theorem d3_9 : decode jdk_39_method_1_code 9 = .ok (.return_, 1) := by decide +kernel
theorem ef_rm_al (m : MethodId) (x0 : Addr) : entryFrame m #[(.ref x0)] 1 = mkF m 0 #[.val (.ref x0)] [] := by first | (simp [entryFrame, mkF, argsToLocals, Value.category]; done) | rfl
theorem pn_2 : plainName "java/util/AbstractList" = true := by first | (simp [plainName, overriddenIn]; done) | decide +kernel
def Q_rm_al (Z : State) (o0 : Addr) (h0 : Heap) (n0 : Nat) (v : Option Value) (h : Heap) (L : List Loc) : Prop := (v = none) ∧ (Fr n0 L) ∧ (Keep h0 h [o0]) ∧ (Exa Z h o0 "java/util/ArrayList") ∧ (Fld Z h o0 "java/util/AbstractList" "modCount" "I" (.int (0 : Int32))) ∧ (Fld Z h o0 "java/util/ArrayList" "elementData" "[Ljava/lang/Object;" .null) ∧ (Fld Z h o0 "java/util/ArrayList" "size" "I" (.int (0 : Int32)))
set_option maxRecDepth 65536 in
set_option maxHeartbeats 40000000 in
theorem rm_al (l : Launch) (Z : State) (a0 : Array Value) (hw : ∀ d ∈ tables_1, d.before a0 Z = true) (ws : List Jvm.Cond) (o0 : Addr) (h0 : Heap) (n0 : Nat) (Z0 : n0 ≤ h0.size) (pE : Exa Z h0 o0 "java/util/ArrayList") (pg : n0 ≤ o0) (pf0 : Fld Z h0 o0 "java/util/AbstractList" "modCount" "I" (.int (0 : Int32))) (pf1 : Fld Z h0 o0 "java/util/ArrayList" "elementData" "[Ljava/lang/Object;" .null) (pf2 : Fld Z h0 o0 "java/util/ArrayList" "size" "I" (.int (0 : Int32))) :
    MetFree l (⟨"java/util/AbstractList", "<init>", "()V"⟩ : MethodName) (head1 (Jvm.Cond.code (⟨"java/util/AbstractList", "<init>", "()V"⟩ : MethodName) jdk_39_method_1_code 1 none :: ws) ({ frames := 2, cells := 0, slots := 0, locals := 24 } : Room)) (fun a U => a = #[(.ref o0)] ∧ Z.Warmed39 U.vm ∧ U.heap = h0) (fun _ _ _ _ _ => True) (fun _ U o U' => ∃ v L, o = .returned v ∧ Q_rm_al Z o0 h0 n0 v U'.heap L ∧ FrameEnd U o U' L ({ frames := 2, cells := 0, slots := 0, locals := 24 } : Room).cells ({ frames := 2, cells := 0, slots := 0, locals := 24 } : Room).slots) := by
  refine MetFree.of_bodySF (plainFor_of_name pn_2) hisR ?_
  intro p e s m args below meth c s₁ Bd hml0 hP hK
  obtain ⟨rfl, hZ, hh⟩ := hP
  have hx := Bd.exec
  have hby := Bd.bytes
  have hml : c.maxLocals = 1 := hml0
  have hown : s.vm.findClass "java/util/AbstractList" = some m.cls := findClass_of_methodNamed Bd.named
  have hnm := (name_of_methodNamed Bd.named Bd.method).1
  have X0 : Stand p l e ({ frames := 2, cells := 0, slots := 0, locals := 24 } : Room) s m #[(.ref o0)] below meth c s₁ [] 0 0 := Stand.of_body Bd
  have e0 : s₁.heap = h0 := by rw [← hh, Bd.state]; rfl
  have N0 := Fr.nil n0
  have K0 : Keep h0 h0 [o0] := Keep.refl _ _
  have R0 : Rch p e below (s₁.setTop (entryFrame m #[(.ref o0)] 1)) s₁ (mkF m 0 #[.val (.ref o0)] []) := fun t k => castTop (ef_rm_al m o0) k
  have R2 : Rch p e below (s₁.setTop (entryFrame m #[(.ref o0)] 1)) s₁ (mkF m 1 #[.val (.ref o0)] [(.ref o0)]) := fun t k => by
    refine R0 t ?_
    refine XS.aloadN X0.here hx rfl (hb hby d3_0) rfl rfl ?_
    exact k
  obtain ⟨_, _, ⟨T1, L1, k1, n1⟩, -, X1, ⟨Lc1, hQ1, l1, y1, z1⟩, st1⟩ := X0.specialBack hx (y := (⟨"java/util/AbstractCollection", "<init>", "()V"⟩ : MethodName)) rfl hown (mvT hZ (hw _ (List.mem_of_getElem? (i := 21) rfl))) (mvT hZ (hw _ (List.mem_of_getElem? (i := 22) rfl))) (mvT hZ (hw _ (List.mem_of_getElem? (i := 26) rfl))) (by decide) (backOf (W := 0) (rm_ac l Z a0 hw [] o0 h0 n0 (Nat.le_trans Z0 K0.1) pE pg pf0 pf1 pf2) hZ (hw _ (List.mem_of_getElem? (i := 26) rfl)) (hw _ (List.mem_of_getElem? (i := 25) rfl)) (by decide) (by decide)) (g := (mkF m 1 #[.val (.ref o0)] [(.ref o0)])) rfl (by rw [hml]; rfl) (Steps.refl _) (a := o0) (argsL := []) (rest := []) (lenOf pd_0 rfl) rfl (by show 2 * 0 + _ ≤ _; exact Nat.le_of_eq rfl) (hb hby d3_1) (fun _ _ => ⟨rfl, e0, (by decide : 0 + 0 ≤ _), (by decide : 0 + 0 ≤ _)⟩)
  dsimp only [Pt.U, Pt.locs, Pt.cells, Pt.slots] at X1 l1 y1 z1 st1 hQ1
  subst l1 y1 z1
  obtain ⟨rfl, N1q, Kc1, c1_E, c1_m, c1_d, c1_s⟩ := hQ1
  have N1 := Fr.app N0 N1q
  have K1 : Keep h0 T1.heap [o0] := K0.trans Kc1 (allS (Or.inl (List.mem_of_getElem? (i := 0) rfl)) all0)
  have R4 : Rch p e below (s₁.setTop (entryFrame m #[(.ref o0)] 1)) T1 (mkF m 6 #[.val (.ref o0)] [(.int (0 : Int32)), (.ref o0)]) := fun t k => by
    refine R2 t ?_
    refine st1.trans ?_
    show Steps p.tables e below (T1.setTop (mkF m 4 #[.val (.ref o0)] [])) t
    refine XS.aloadN X1.here hx rfl (hb hby d3_4) rfl rfl ?_
    show Steps p.tables e below (T1.setTop (mkF m 5 #[.val (.ref o0)] [(.ref o0)])) t
    refine XS.iconst X1.here hx rfl (hb hby d3_5) ?_
    exact k
  obtain ⟨T3, h3, X3, e3, W3, st3⟩ := putF X1 hx hZ hown (host := "") (Or.inl (hw _ (List.mem_of_getElem? (i := 30) rfl))) Via.refl rfl c1_m c1_E (Or.inl (hw _ (List.mem_of_getElem? (i := 31) rfl))) (hw _ (List.mem_of_getElem? (i := 10) rfl)) (ty := .int) (by decide) rfl rfl (g := (mkF m 6 #[.val (.ref o0)] [(.int (0 : Int32)), (.ref o0)])) rfl rfl (hb hby d3_6)
  have Fw3 := c1_m.same W3
  have K3 : Keep h0 h3 [o0] := K1.wr W3 (Or.inl (List.mem_of_getElem? (i := 0) rfl))
  have N3 := Fr.snoc X3 N1 pg
  have R5 : Rch p e below (s₁.setTop (entryFrame m #[(.ref o0)] 1)) T3 (mkF m 9 #[.val (.ref o0)] []) := fun t k => by
    refine R4 t ?_
    refine st3 _ ?_
    exact k
  obtain ⟨fs, hr, hrun, hended, hW, hsame⟩ := X3.leave (v := none) (fun _ => rfl)
  refine ⟨_, _, R5 _ ?_, hrun, hended, _, _, rfl, ?_, ⟨_, rfl⟩, hW, hsame.mono (by decide) (by decide)⟩
  · exact X3.returnOut hx Bd.returns (hb hby d3_9) hr
  · show Q_rm_al Z o0 h0 n0 _ T3.heap _
    rw [e3]
    exact ⟨rfl, N3, K3, (c1_E.wr W3), Fw3, (c1_d.other W3 (Or.inr (slot_ne (Or.inl (hw _ (List.mem_of_getElem? (i := 34) rfl))) (Or.inl (hw _ (List.mem_of_getElem? (i := 31) rfl))) (by decide) (t := (.array (.object "java/lang/Object"))) (t' := .int) (by decide) (by decide)))), (c1_s.other W3 (Or.inr (slot_ne (Or.inl (hw _ (List.mem_of_getElem? (i := 114) rfl))) (Or.inl (hw _ (List.mem_of_getElem? (i := 31) rfl))) (by decide) (t := .int) (t' := .int) (by decide) (by decide))))⟩
theorem d2_0 : decode jdk_38_method_2_code 0 = .ok (.aload_n 0, 1) := by decide +kernel
theorem d2_1 : decode jdk_38_method_2_code 1 = .ok (.invokespecial 1, 3) := by decide +kernel
theorem d2_4 : decode jdk_38_method_2_code 4 = .ok (.aload_n 0, 1) := by decide +kernel
theorem d2_5 : decode jdk_38_method_2_code 5 = .ok (.getstatic 39, 3) := by decide +kernel
theorem d2_8 : decode jdk_38_method_2_code 8 = .ok (.putfield 9, 3) := by decide +kernel
theorem d2_11 : decode jdk_38_method_2_code 11 = .ok (.return_, 1) := by decide +kernel
theorem ef_rm_arl (m : MethodId) (x0 : Addr) : entryFrame m #[(.ref x0)] 1 = mkF m 0 #[.val (.ref x0)] [] := by first | (simp [entryFrame, mkF, argsToLocals, Value.category]; done) | rfl
theorem pn_3 : plainName "java/util/ArrayList" = true := by first | (simp [plainName, overriddenIn]; done) | decide +kernel
def Q_rm_arl (Z : State) (o0 : Addr) (dce : Addr) (h0 : Heap) (n0 : Nat) (v : Option Value) (h : Heap) (L : List Loc) : Prop := (v = none) ∧ (Fr n0 L) ∧ (Keep h0 h [o0]) ∧ (Exa Z h o0 "java/util/ArrayList") ∧ (Fld Z h o0 "java/util/AbstractList" "modCount" "I" (.int (0 : Int32))) ∧ (Fld Z h o0 "java/util/ArrayList" "size" "I" (.int (0 : Int32)))
set_option maxRecDepth 65536 in
set_option maxHeartbeats 40000000 in
theorem rm_arl (l : Launch) (Z : State) (a0 : Array Value) (hw : ∀ d ∈ tables_1, d.before a0 Z = true) (ws : List Jvm.Cond) (o0 : Addr) (dce : Addr) (h0 : Heap) (n0 : Nat) (Z0 : n0 ≤ h0.size) (pE : Exa Z h0 o0 "java/util/ArrayList") (pg : n0 ≤ o0) (pf0 : Fld Z h0 o0 "java/util/AbstractList" "modCount" "I" (.int (0 : Int32))) (pf1 : Fld Z h0 o0 "java/util/ArrayList" "elementData" "[Ljava/lang/Object;" .null) (pf2 : Fld Z h0 o0 "java/util/ArrayList" "size" "I" (.int (0 : Int32))) (pS : Sta Z h0 "java/util/ArrayList" "DEFAULTCAPACITY_EMPTY_ELEMENTDATA" "[Ljava/lang/Object;" (.ref dce)) :
    MetFree l (⟨"java/util/ArrayList", "<init>", "()V"⟩ : MethodName) (head1 (Jvm.Cond.code (⟨"java/util/ArrayList", "<init>", "()V"⟩ : MethodName) jdk_38_method_2_code 1 none :: ws) ({ frames := 3, cells := 0, slots := 0, locals := 36 } : Room)) (fun a U => a = #[(.ref o0)] ∧ Z.Warmed39 U.vm ∧ U.heap = h0) (fun _ _ _ _ _ => True) (fun _ U o U' => ∃ v L, o = .returned v ∧ Q_rm_arl Z o0 dce h0 n0 v U'.heap L ∧ FrameEnd U o U' L ({ frames := 3, cells := 0, slots := 0, locals := 36 } : Room).cells ({ frames := 3, cells := 0, slots := 0, locals := 36 } : Room).slots) := by
  refine MetFree.of_bodySF (plainFor_of_name pn_3) hisR ?_
  intro p e s m args below meth c s₁ Bd hml0 hP hK
  obtain ⟨rfl, hZ, hh⟩ := hP
  have hx := Bd.exec
  have hby := Bd.bytes
  have hml : c.maxLocals = 1 := hml0
  have hown : s.vm.findClass "java/util/ArrayList" = some m.cls := findClass_of_methodNamed Bd.named
  have hnm := (name_of_methodNamed Bd.named Bd.method).1
  have X0 : Stand p l e ({ frames := 3, cells := 0, slots := 0, locals := 36 } : Room) s m #[(.ref o0)] below meth c s₁ [] 0 0 := Stand.of_body Bd
  have e0 : s₁.heap = h0 := by rw [← hh, Bd.state]; rfl
  have N0 := Fr.nil n0
  have K0 : Keep h0 h0 [o0] := Keep.refl _ _
  have R0 : Rch p e below (s₁.setTop (entryFrame m #[(.ref o0)] 1)) s₁ (mkF m 0 #[.val (.ref o0)] []) := fun t k => castTop (ef_rm_arl m o0) k
  have R2 : Rch p e below (s₁.setTop (entryFrame m #[(.ref o0)] 1)) s₁ (mkF m 1 #[.val (.ref o0)] [(.ref o0)]) := fun t k => by
    refine R0 t ?_
    refine XS.aloadN X0.here hx rfl (hb hby d2_0) rfl rfl ?_
    exact k
  obtain ⟨_, _, ⟨T1, L1, k1, n1⟩, -, X1, ⟨Lc1, hQ1, l1, y1, z1⟩, st1⟩ := X0.specialBack hx (y := (⟨"java/util/AbstractList", "<init>", "()V"⟩ : MethodName)) rfl hown (mvT hZ (hw _ (List.mem_of_getElem? (i := 15) rfl))) (mvT hZ (hw _ (List.mem_of_getElem? (i := 16) rfl))) (mvT hZ (hw _ (List.mem_of_getElem? (i := 20) rfl))) (by decide) (backOf (W := 0) (rm_al l Z a0 hw [] o0 h0 n0 (Nat.le_trans Z0 K0.1) pE pg pf0 pf1 pf2) hZ (hw _ (List.mem_of_getElem? (i := 20) rfl)) (hw _ (List.mem_of_getElem? (i := 19) rfl)) (by decide) (by decide)) (g := (mkF m 1 #[.val (.ref o0)] [(.ref o0)])) rfl (by rw [hml]; rfl) (Steps.refl _) (a := o0) (argsL := []) (rest := []) (lenOf pd_0 rfl) rfl (by show 2 * 0 + _ ≤ _; exact Nat.le_of_eq rfl) (hb hby d2_1) (fun _ _ => ⟨rfl, e0, (by decide : 0 + 0 ≤ _), (by decide : 0 + 0 ≤ _)⟩)
  dsimp only [Pt.U, Pt.locs, Pt.cells, Pt.slots] at X1 l1 y1 z1 st1 hQ1
  subst l1 y1 z1
  obtain ⟨rfl, N1q, Kc1, c1_E, c1_m, c1_d, c1_s⟩ := hQ1
  have N1 := Fr.app N0 N1q
  have K1 : Keep h0 T1.heap [o0] := K0.trans Kc1 (allS (Or.inl (List.mem_of_getElem? (i := 0) rfl)) all0)
  have R4 : Rch p e below (s₁.setTop (entryFrame m #[(.ref o0)] 1)) T1 (mkF m 5 #[.val (.ref o0)] [(.ref o0)]) := fun t k => by
    refine R2 t ?_
    refine st1.trans ?_
    show Steps p.tables e below (T1.setTop (mkF m 4 #[.val (.ref o0)] [])) t
    refine XS.aloadN X1.here hx rfl (hb hby d2_4) rfl rfl ?_
    exact k
  obtain ⟨T3, X3, e3, st3⟩ := getS2 X1 hx hZ hown (host := "") (Or.inl (hw _ (List.mem_of_getElem? (i := 32) rfl))) Via.refl rfl (own_sta_keep pS Kc1 (allS pE.nostat all0)) (g := (mkF m 5 #[.val (.ref o0)] [(.ref o0)])) rfl (hb hby d2_5)
  have R6 : Rch p e below (s₁.setTop (entryFrame m #[(.ref o0)] 1)) T3 (mkF m 8 #[.val (.ref o0)] [(.ref dce), (.ref o0)]) := fun t k => by
    refine R4 t ?_
    refine st3 _ ?_
    exact k
  obtain ⟨T5, h5, X5, e5, W5, st5⟩ := putF X3 hx hZ hown (host := "") (Or.inl (hw _ (List.mem_of_getElem? (i := 33) rfl))) Via.refl e3 c1_d c1_E (Or.inl (hw _ (List.mem_of_getElem? (i := 34) rfl))) (hw _ (List.mem_of_getElem? (i := 10) rfl)) (ty := (.array (.object "java/lang/Object"))) (by decide) rfl rfl (g := (mkF m 8 #[.val (.ref o0)] [(.ref dce), (.ref o0)])) rfl rfl (hb hby d2_8)
  have Fw5 := c1_d.same W5
  have K5 : Keep h0 h5 [o0] := K1.wr W5 (Or.inl (List.mem_of_getElem? (i := 0) rfl))
  have N5 := Fr.snoc X5 N1 pg
  have R7 : Rch p e below (s₁.setTop (entryFrame m #[(.ref o0)] 1)) T5 (mkF m 11 #[.val (.ref o0)] []) := fun t k => by
    refine R6 t ?_
    refine st5 _ ?_
    exact k
  obtain ⟨fs, hr, hrun, hended, hW, hsame⟩ := X5.leave (v := none) (fun _ => rfl)
  refine ⟨_, _, R7 _ ?_, hrun, hended, _, _, rfl, ?_, ⟨_, rfl⟩, hW, hsame.mono (by decide) (by decide)⟩
  · exact X5.returnOut hx Bd.returns (hb hby d2_11) hr
  · show Q_rm_arl Z o0 dce h0 n0 _ T5.heap _
    rw [e5]
    exact ⟨rfl, N5, K5, (c1_E.wr W5), (c1_m.other W5 (Or.inr (slot_ne (Or.inl (hw _ (List.mem_of_getElem? (i := 31) rfl))) (Or.inl (hw _ (List.mem_of_getElem? (i := 34) rfl))) (by decide) (t := .int) (t' := (.array (.object "java/lang/Object"))) (by decide) (by decide)))), (c1_s.other W5 (Or.inr (slot_ne (Or.inl (hw _ (List.mem_of_getElem? (i := 114) rfl))) (Or.inl (hw _ (List.mem_of_getElem? (i := 34) rfl))) (by decide) (t := .int) (t' := (.array (.object "java/lang/Object"))) (by decide) (by decide))))⟩
theorem d8_0 : decode jdk_71_method_1_code 0 = .ok (.aload_n 0, 1) := by decide +kernel
theorem d8_1 : decode jdk_71_method_1_code 1 = .ok (.invokespecial 1, 3) := by decide +kernel
theorem d8_4 : decode jdk_71_method_1_code 4 = .ok (.return_, 1) := by decide +kernel
theorem ef_rm_am (m : MethodId) (x0 : Addr) : entryFrame m #[(.ref x0)] 1 = mkF m 0 #[.val (.ref x0)] [] := by first | (simp [entryFrame, mkF, argsToLocals, Value.category]; done) | rfl
theorem pn_4 : plainName "java/util/AbstractMap" = true := by first | (simp [plainName, overriddenIn]; done) | decide +kernel
def Q_rm_am (Z : State) (o0 : Addr) (h0 : Heap) (n0 : Nat) (v : Option Value) (h : Heap) (L : List Loc) : Prop := (v = none) ∧ (Fr n0 L) ∧ (Keep h0 h [o0]) ∧ (Exa Z h o0 "java/util/HashMap") ∧ (Fld Z h o0 "java/util/HashMap" "loadFactor" "F" (.float 0)) ∧ (Fld Z h o0 "java/util/HashMap" "size" "I" (.int (0 : Int32)))
set_option maxRecDepth 65536 in
set_option maxHeartbeats 40000000 in
theorem rm_am (l : Launch) (Z : State) (a0 : Array Value) (hw : ∀ d ∈ tables_1, d.before a0 Z = true) (ws : List Jvm.Cond) (o0 : Addr) (h0 : Heap) (n0 : Nat) (Z0 : n0 ≤ h0.size) (pE : Exa Z h0 o0 "java/util/HashMap") (pg : n0 ≤ o0) (pf0 : Fld Z h0 o0 "java/util/HashMap" "loadFactor" "F" (.float 0)) (pf1 : Fld Z h0 o0 "java/util/HashMap" "size" "I" (.int (0 : Int32))) :
    MetFree l (⟨"java/util/AbstractMap", "<init>", "()V"⟩ : MethodName) (head1 (Jvm.Cond.code (⟨"java/util/AbstractMap", "<init>", "()V"⟩ : MethodName) jdk_71_method_1_code 1 none :: ws) ({ frames := 1, cells := 0, slots := 0, locals := 12 } : Room)) (fun a U => a = #[(.ref o0)] ∧ Z.Warmed39 U.vm ∧ U.heap = h0) (fun _ _ _ _ _ => True) (fun _ U o U' => ∃ v L, o = .returned v ∧ Q_rm_am Z o0 h0 n0 v U'.heap L ∧ FrameEnd U o U' L ({ frames := 1, cells := 0, slots := 0, locals := 12 } : Room).cells ({ frames := 1, cells := 0, slots := 0, locals := 12 } : Room).slots) := by
  refine MetFree.of_bodySF (plainFor_of_name pn_4) hisR ?_
  intro p e s m args below meth c s₁ Bd hml0 hP hK
  obtain ⟨rfl, hZ, hh⟩ := hP
  have hx := Bd.exec
  have hby := Bd.bytes
  have hml : c.maxLocals = 1 := hml0
  have hown : s.vm.findClass "java/util/AbstractMap" = some m.cls := findClass_of_methodNamed Bd.named
  have hnm := (name_of_methodNamed Bd.named Bd.method).1
  have X0 : Stand p l e ({ frames := 1, cells := 0, slots := 0, locals := 12 } : Room) s m #[(.ref o0)] below meth c s₁ [] 0 0 := Stand.of_body Bd
  have e0 : s₁.heap = h0 := by rw [← hh, Bd.state]; rfl
  have N0 := Fr.nil n0
  have K0 : Keep h0 h0 [o0] := Keep.refl _ _
  have R0 : Rch p e below (s₁.setTop (entryFrame m #[(.ref o0)] 1)) s₁ (mkF m 0 #[.val (.ref o0)] []) := fun t k => castTop (ef_rm_am m o0) k
  have R2 : Rch p e below (s₁.setTop (entryFrame m #[(.ref o0)] 1)) s₁ (mkF m 1 #[.val (.ref o0)] [(.ref o0)]) := fun t k => by
    refine R0 t ?_
    refine XS.aloadN X0.here hx rfl (hb hby d8_0) rfl rfl ?_
    exact k
  obtain ⟨T1, X1, e1, st1⟩ := initO X0 hx hZ hown (hw _ (List.mem_of_getElem? (i := 73) rfl)) (hw _ (List.mem_of_getElem? (i := 28) rfl)) (hw _ (List.mem_of_getElem? (i := 29) rfl)) e0 (g := (mkF m 1 #[.val (.ref o0)] [(.ref o0)])) rfl (by rw [hml]; rfl) rfl (hb hby d8_1) (by decide) (W := 0) (by show 2 * 0 + _ ≤ _; exact Nat.le_of_eq rfl) (by decide)
  have R3 : Rch p e below (s₁.setTop (entryFrame m #[(.ref o0)] 1)) T1 (mkF m 4 #[.val (.ref o0)] []) := fun t k => by
    refine R2 t ?_
    refine st1 _ ?_
    exact k
  obtain ⟨fs, hr, hrun, hended, hW, hsame⟩ := X1.leave (v := none) (fun _ => rfl)
  refine ⟨_, _, R3 _ ?_, hrun, hended, _, _, rfl, ?_, ⟨_, rfl⟩, hW, hsame.mono (by decide) (by decide)⟩
  · exact X1.returnOut hx Bd.returns (hb hby d8_4) hr
  · show Q_rm_am Z o0 h0 n0 _ T1.heap _
    rw [e1]
    exact ⟨rfl, N0, K0, pE, pf0, pf1⟩
theorem d7_0 : decode jdk_69_method_7_code 0 = .ok (.aload_n 0, 1) := by decide +kernel
theorem d7_1 : decode jdk_69_method_7_code 1 = .ok (.invokespecial 43, 3) := by decide +kernel
theorem d7_4 : decode jdk_69_method_7_code 4 = .ok (.aload_n 0, 1) := by decide +kernel
theorem d7_5 : decode jdk_69_method_7_code 5 = .ok (.ldc 92, 2) := by decide +kernel
theorem d7_7 : decode jdk_69_method_7_code 7 = .ok (.putfield 81, 3) := by decide +kernel
theorem d7_10 : decode jdk_69_method_7_code 10 = .ok (.return_, 1) := by decide +kernel
theorem ef_rm_hm (m : MethodId) (x0 : Addr) : entryFrame m #[(.ref x0)] 1 = mkF m 0 #[.val (.ref x0)] [] := by first | (simp [entryFrame, mkF, argsToLocals, Value.category]; done) | rfl
theorem pn_5 : plainName "java/util/HashMap" = true := by first | (simp [plainName, overriddenIn]; done) | decide +kernel
def Q_rm_hm (Z : State) (o0 : Addr) (h0 : Heap) (n0 : Nat) (v : Option Value) (h : Heap) (L : List Loc) : Prop := (v = none) ∧ (Fr n0 L) ∧ (Keep h0 h [o0]) ∧ (Exa Z h o0 "java/util/HashMap") ∧ (Fld Z h o0 "java/util/HashMap" "size" "I" (.int (0 : Int32)))
set_option maxRecDepth 65536 in
set_option maxHeartbeats 40000000 in
theorem rm_hm (l : Launch) (Z : State) (a0 : Array Value) (hw : ∀ d ∈ tables_1, d.before a0 Z = true) (ws : List Jvm.Cond) (o0 : Addr) (h0 : Heap) (n0 : Nat) (Z0 : n0 ≤ h0.size) (pE : Exa Z h0 o0 "java/util/HashMap") (pg : n0 ≤ o0) (pf0 : Fld Z h0 o0 "java/util/HashMap" "loadFactor" "F" (.float 0)) (pf1 : Fld Z h0 o0 "java/util/HashMap" "size" "I" (.int (0 : Int32))) :
    MetFree l (⟨"java/util/HashMap", "<init>", "()V"⟩ : MethodName) (head1 (Jvm.Cond.code (⟨"java/util/HashMap", "<init>", "()V"⟩ : MethodName) jdk_69_method_7_code 1 none :: ws) ({ frames := 2, cells := 0, slots := 0, locals := 24 } : Room)) (fun a U => a = #[(.ref o0)] ∧ Z.Warmed39 U.vm ∧ U.heap = h0) (fun _ _ _ _ _ => True) (fun _ U o U' => ∃ v L, o = .returned v ∧ Q_rm_hm Z o0 h0 n0 v U'.heap L ∧ FrameEnd U o U' L ({ frames := 2, cells := 0, slots := 0, locals := 24 } : Room).cells ({ frames := 2, cells := 0, slots := 0, locals := 24 } : Room).slots) := by
  refine MetFree.of_bodySF (plainFor_of_name pn_5) hisR ?_
  intro p e s m args below meth c s₁ Bd hml0 hP hK
  obtain ⟨rfl, hZ, hh⟩ := hP
  have hx := Bd.exec
  have hby := Bd.bytes
  have hml : c.maxLocals = 1 := hml0
  have hown : s.vm.findClass "java/util/HashMap" = some m.cls := findClass_of_methodNamed Bd.named
  have hnm := (name_of_methodNamed Bd.named Bd.method).1
  have X0 : Stand p l e ({ frames := 2, cells := 0, slots := 0, locals := 24 } : Room) s m #[(.ref o0)] below meth c s₁ [] 0 0 := Stand.of_body Bd
  have e0 : s₁.heap = h0 := by rw [← hh, Bd.state]; rfl
  have N0 := Fr.nil n0
  have K0 : Keep h0 h0 [o0] := Keep.refl _ _
  have R0 : Rch p e below (s₁.setTop (entryFrame m #[(.ref o0)] 1)) s₁ (mkF m 0 #[.val (.ref o0)] []) := fun t k => castTop (ef_rm_hm m o0) k
  have R2 : Rch p e below (s₁.setTop (entryFrame m #[(.ref o0)] 1)) s₁ (mkF m 1 #[.val (.ref o0)] [(.ref o0)]) := fun t k => by
    refine R0 t ?_
    refine XS.aloadN X0.here hx rfl (hb hby d7_0) rfl rfl ?_
    exact k
  obtain ⟨_, _, ⟨T1, L1, k1, n1⟩, -, X1, ⟨Lc1, hQ1, l1, y1, z1⟩, st1⟩ := X0.specialBack hx (y := (⟨"java/util/AbstractMap", "<init>", "()V"⟩ : MethodName)) rfl hown (mvT hZ (hw _ (List.mem_of_getElem? (i := 67) rfl))) (mvT hZ (hw _ (List.mem_of_getElem? (i := 68) rfl))) (mvT hZ (hw _ (List.mem_of_getElem? (i := 72) rfl))) (by decide) (backOf (W := 0) (rm_am l Z a0 hw [] o0 h0 n0 (Nat.le_trans Z0 K0.1) pE pg pf0 pf1) hZ (hw _ (List.mem_of_getElem? (i := 72) rfl)) (hw _ (List.mem_of_getElem? (i := 71) rfl)) (by decide) (by decide)) (g := (mkF m 1 #[.val (.ref o0)] [(.ref o0)])) rfl (by rw [hml]; rfl) (Steps.refl _) (a := o0) (argsL := []) (rest := []) (lenOf pd_0 rfl) rfl (by show 2 * 0 + _ ≤ _; exact Nat.le_of_eq rfl) (hb hby d7_1) (fun _ _ => ⟨rfl, e0, (by decide : 0 + 0 ≤ _), (by decide : 0 + 0 ≤ _)⟩)
  dsimp only [Pt.U, Pt.locs, Pt.cells, Pt.slots] at X1 l1 y1 z1 st1 hQ1
  subst l1 y1 z1
  obtain ⟨rfl, N1q, Kc1, c1_E, c1_l, c1_s⟩ := hQ1
  have N1 := Fr.app N0 N1q
  have K1 : Keep h0 T1.heap [o0] := K0.trans Kc1 (allS (Or.inl (List.mem_of_getElem? (i := 0) rfl)) all0)
  have R4 : Rch p e below (s₁.setTop (entryFrame m #[(.ref o0)] 1)) T1 (mkF m 7 #[.val (.ref o0)] [(.float (1061158912 : UInt32)), (.ref o0)]) := fun t k => by
    refine R2 t ?_
    refine st1.trans ?_
    show Steps p.tables e below (T1.setTop (mkF m 4 #[.val (.ref o0)] [])) t
    refine XS.aloadN X1.here hx rfl (hb hby d7_4) rfl rfl ?_
    show Steps p.tables e below (T1.setTop (mkF m 5 #[.val (.ref o0)] [(.ref o0)])) t
    refine X1.ldcFloatC hx hown (mvT hZ (hw _ (List.mem_of_getElem? (i := 74) rfl))) (g := (mkF m 5 #[.val (.ref o0)] [(.ref o0)])) rfl (hb hby d7_5) _ ?_
    exact k
  obtain ⟨T3, h3, X3, e3, W3, st3⟩ := putF X1 hx hZ hown (host := "") (Or.inl (hw _ (List.mem_of_getElem? (i := 75) rfl))) Via.refl rfl c1_l c1_E (Or.inr ⟨(hw _ (List.mem_of_getElem? (i := 76) rfl)), rfl, hnm⟩) (hw _ (List.mem_of_getElem? (i := 62) rfl)) (ty := .float) (by decide) rfl rfl (g := (mkF m 7 #[.val (.ref o0)] [(.float (1061158912 : UInt32)), (.ref o0)])) rfl rfl (hb hby d7_7)
  have Fw3 := c1_l.same W3
  have K3 : Keep h0 h3 [o0] := K1.wr W3 (Or.inl (List.mem_of_getElem? (i := 0) rfl))
  have N3 := Fr.snoc X3 N1 pg
  have R5 : Rch p e below (s₁.setTop (entryFrame m #[(.ref o0)] 1)) T3 (mkF m 10 #[.val (.ref o0)] []) := fun t k => by
    refine R4 t ?_
    refine st3 _ ?_
    exact k
  obtain ⟨fs, hr, hrun, hended, hW, hsame⟩ := X3.leave (v := none) (fun _ => rfl)
  refine ⟨_, _, R5 _ ?_, hrun, hended, _, _, rfl, ?_, ⟨_, rfl⟩, hW, hsame.mono (by decide) (by decide)⟩
  · exact X3.returnOut hx Bd.returns (hb hby d7_10) hr
  · show Q_rm_hm Z o0 h0 n0 _ T3.heap _
    rw [e3]
    exact ⟨rfl, N3, K3, (c1_E.wr W3), (c1_s.other W3 (Or.inr (slot_ne (Or.inl (hw _ (List.mem_of_getElem? (i := 133) rfl))) (Or.inr (hw _ (List.mem_of_getElem? (i := 76) rfl))) (by decide) (t := .int) (t' := .float) (by decide) (by decide))))⟩
theorem d10_0 : decode jdk_49_method_1_code 0 = .ok (.aload_n 0, 1) := by decide +kernel
theorem d10_1 : decode jdk_49_method_1_code 1 = .ok (.aload_n 1, 1) := by decide +kernel
theorem d10_2 : decode jdk_49_method_1_code 2 = .ok (.putfield 1, 3) := by decide +kernel
theorem d10_5 : decode jdk_49_method_1_code 5 = .ok (.aload_n 0, 1) := by decide +kernel
theorem d10_6 : decode jdk_49_method_1_code 6 = .ok (.invokespecial 7, 3) := by decide +kernel
theorem d10_9 : decode jdk_49_method_1_code 9 = .ok (.aload_n 0, 1) := by decide +kernel
theorem d10_10 : decode jdk_49_method_1_code 10 = .ok (.iconst (-1), 1) := by decide +kernel
theorem d10_11 : decode jdk_49_method_1_code 11 = .ok (.putfield 13, 3) := by decide +kernel
theorem d10_14 : decode jdk_49_method_1_code 14 = .ok (.aload_n 0, 1) := by decide +kernel
theorem d10_15 : decode jdk_49_method_1_code 15 = .ok (.aload_n 0, 1) := by decide +kernel
theorem d10_16 : decode jdk_49_method_1_code 16 = .ok (.getfield 1, 3) := by decide +kernel
theorem d10_19 : decode jdk_49_method_1_code 19 = .ok (.getfield 17, 3) := by decide +kernel
theorem d10_22 : decode jdk_49_method_1_code 22 = .ok (.putfield 22, 3) := by decide +kernel
theorem d10_25 : decode jdk_49_method_1_code 25 = .ok (.return_, 1) := by decide +kernel
theorem ef_rm_itr (m : MethodId) (x0 : Addr) (x1 : Addr) : entryFrame m #[(.ref x0), (.ref x1)] 2 = mkF m 0 #[.val (.ref x0), .val (.ref x1)] [] := by first | (simp [entryFrame, mkF, argsToLocals, Value.category]; done) | rfl
theorem pn_6 : plainName "java/util/ArrayList$Itr" = true := by first | (simp [plainName, overriddenIn]; done) | decide +kernel
def Q_rm_itr (Z : State) (o0 : Addr) (o1 : Addr) (h0 : Heap) (n0 : Nat) (v : Option Value) (h : Heap) (L : List Loc) : Prop := (v = none) ∧ (Fr n0 L) ∧ (Keep h0 h [o0]) ∧ (Exa Z h o0 "java/util/ArrayList$Itr") ∧ (Fld Z h o0 "java/util/ArrayList$Itr" "this$0" "Ljava/util/ArrayList;" (.ref o1)) ∧ (Fld Z h o0 "java/util/ArrayList$Itr" "cursor" "I" (.int (0 : Int32)))
set_option maxRecDepth 65536 in
set_option maxHeartbeats 40000000 in
theorem rm_itr (l : Launch) (Z : State) (a0 : Array Value) (hw : ∀ d ∈ tables_1, d.before a0 Z = true) (ws : List Jvm.Cond) (o0 : Addr) (o1 : Addr) (h0 : Heap) (n0 : Nat) (Z0 : n0 ≤ h0.size) (pE : Exa Z h0 o0 "java/util/ArrayList$Itr") (pg : n0 ≤ o0) (pf0 : Fld Z h0 o0 "java/util/ArrayList$Itr" "this$0" "Ljava/util/ArrayList;" .null) (pf1 : Fld Z h0 o0 "java/util/ArrayList$Itr" "lastRet" "I" (.int (0 : Int32))) (pf2 : Fld Z h0 o0 "java/util/ArrayList$Itr" "expectedModCount" "I" (.int (0 : Int32))) (pf3 : Fld Z h0 o0 "java/util/ArrayList$Itr" "cursor" "I" (.int (0 : Int32))) (pm : Fld Z h0 o1 "java/util/AbstractList" "modCount" "I" (.int (0 : Int32))) (pne : o1 ≠ o0) :
    MetFree l (⟨"java/util/ArrayList$Itr", "<init>", "(Ljava/util/ArrayList;)V"⟩ : MethodName) (head1 (Jvm.Cond.code (⟨"java/util/ArrayList$Itr", "<init>", "(Ljava/util/ArrayList;)V"⟩ : MethodName) jdk_49_method_1_code 2 none :: ws) ({ frames := 1, cells := 0, slots := 0, locals := 12 } : Room)) (fun a U => a = #[(.ref o0), (.ref o1)] ∧ Z.Warmed39 U.vm ∧ U.heap = h0) (fun _ _ _ _ _ => True) (fun _ U o U' => ∃ v L, o = .returned v ∧ Q_rm_itr Z o0 o1 h0 n0 v U'.heap L ∧ FrameEnd U o U' L ({ frames := 1, cells := 0, slots := 0, locals := 12 } : Room).cells ({ frames := 1, cells := 0, slots := 0, locals := 12 } : Room).slots) := by
  refine MetFree.of_bodySF (plainFor_of_name pn_6) hisR ?_
  intro p e s m args below meth c s₁ Bd hml0 hP hK
  obtain ⟨rfl, hZ, hh⟩ := hP
  have hx := Bd.exec
  have hby := Bd.bytes
  have hml : c.maxLocals = 2 := hml0
  have hown : s.vm.findClass "java/util/ArrayList$Itr" = some m.cls := findClass_of_methodNamed Bd.named
  have hnm := (name_of_methodNamed Bd.named Bd.method).1
  have X0 : Stand p l e ({ frames := 1, cells := 0, slots := 0, locals := 12 } : Room) s m #[(.ref o0), (.ref o1)] below meth c s₁ [] 0 0 := Stand.of_body Bd
  have e0 : s₁.heap = h0 := by rw [← hh, Bd.state]; rfl
  have N0 := Fr.nil n0
  have K0 : Keep h0 h0 [o0] := Keep.refl _ _
  have R0 : Rch p e below (s₁.setTop (entryFrame m #[(.ref o0), (.ref o1)] 2)) s₁ (mkF m 0 #[.val (.ref o0), .val (.ref o1)] []) := fun t k => castTop (ef_rm_itr m o0 o1) k
  have R2 : Rch p e below (s₁.setTop (entryFrame m #[(.ref o0), (.ref o1)] 2)) s₁ (mkF m 2 #[.val (.ref o0), .val (.ref o1)] [(.ref o1), (.ref o0)]) := fun t k => by
    refine R0 t ?_
    refine XS.aloadN X0.here hx rfl (hb hby d10_0) rfl rfl ?_
    show Steps p.tables e below (s₁.setTop (mkF m 1 #[.val (.ref o0), .val (.ref o1)] [(.ref o0)])) t
    refine XS.aloadN X0.here hx rfl (hb hby d10_1) rfl rfl ?_
    exact k
  obtain ⟨T1, h1, X1, e1, W1, st1⟩ := putF X0 hx hZ hown (host := "") (Or.inl (hw _ (List.mem_of_getElem? (i := 93) rfl))) Via.refl e0 pf0 pE (Or.inr ⟨(hw _ (List.mem_of_getElem? (i := 94) rfl)), rfl, hnm⟩) (hw _ (List.mem_of_getElem? (i := 87) rfl)) (ty := (.object "java/util/ArrayList")) (by decide) rfl rfl (g := (mkF m 2 #[.val (.ref o0), .val (.ref o1)] [(.ref o1), (.ref o0)])) rfl rfl (hb hby d10_2)
  have Fw1 := pf0.same W1
  have K1 : Keep h0 h1 [o0] := K0.wr W1 (Or.inl (List.mem_of_getElem? (i := 0) rfl))
  have N1 := Fr.snoc X1 N0 pg
  have R4 : Rch p e below (s₁.setTop (entryFrame m #[(.ref o0), (.ref o1)] 2)) T1 (mkF m 6 #[.val (.ref o0), .val (.ref o1)] [(.ref o0)]) := fun t k => by
    refine R2 t ?_
    refine st1 _ ?_
    show Steps p.tables e below (T1.setTop (mkF m 5 #[.val (.ref o0), .val (.ref o1)] [])) t
    refine XS.aloadN X1.here hx rfl (hb hby d10_5) rfl rfl ?_
    exact k
  obtain ⟨T3, X3, e3, st3⟩ := initO X1 hx hZ hown (hw _ (List.mem_of_getElem? (i := 95) rfl)) (hw _ (List.mem_of_getElem? (i := 28) rfl)) (hw _ (List.mem_of_getElem? (i := 29) rfl)) e1 (g := (mkF m 6 #[.val (.ref o0), .val (.ref o1)] [(.ref o0)])) rfl (by rw [hml]; rfl) rfl (hb hby d10_6) (by decide) (W := 0) (by show 2 * 0 + _ ≤ _; exact Nat.le_of_eq rfl) (by decide)
  have R6 : Rch p e below (s₁.setTop (entryFrame m #[(.ref o0), (.ref o1)] 2)) T3 (mkF m 11 #[.val (.ref o0), .val (.ref o1)] [(.int (-1 : Int32)), (.ref o0)]) := fun t k => by
    refine R4 t ?_
    refine st3 _ ?_
    show Steps p.tables e below (T3.setTop (mkF m 9 #[.val (.ref o0), .val (.ref o1)] [])) t
    refine XS.aloadN X3.here hx rfl (hb hby d10_9) rfl rfl ?_
    show Steps p.tables e below (T3.setTop (mkF m 10 #[.val (.ref o0), .val (.ref o1)] [(.ref o0)])) t
    refine XS.iconst X3.here hx rfl (hb hby d10_10) ?_
    exact k
  have f5 := (pf1.other W1 (Or.inr (slot_ne (Or.inl (hw _ (List.mem_of_getElem? (i := 97) rfl))) (Or.inr (hw _ (List.mem_of_getElem? (i := 94) rfl))) (by decide) (t := .int) (t' := (.object "java/util/ArrayList")) (by decide) (by decide))))
  obtain ⟨T7, h7, X7, e7, W7, st7⟩ := putF X3 hx hZ hown (host := "") (Or.inl (hw _ (List.mem_of_getElem? (i := 96) rfl))) Via.refl e3 f5 (pE.wr W1) (Or.inl (hw _ (List.mem_of_getElem? (i := 97) rfl))) (hw _ (List.mem_of_getElem? (i := 87) rfl)) (ty := .int) (by decide) rfl rfl (g := (mkF m 11 #[.val (.ref o0), .val (.ref o1)] [(.int (-1 : Int32)), (.ref o0)])) rfl rfl (hb hby d10_11)
  have Fw7 := f5.same W7
  have K7 : Keep h0 h7 [o0] := K1.wr W7 (Or.inl (List.mem_of_getElem? (i := 0) rfl))
  have N7 := Fr.snoc X7 N1 pg
  have R9 : Rch p e below (s₁.setTop (entryFrame m #[(.ref o0), (.ref o1)] 2)) T7 (mkF m 16 #[.val (.ref o0), .val (.ref o1)] [(.ref o0), (.ref o0)]) := fun t k => by
    refine R6 t ?_
    refine st7 _ ?_
    show Steps p.tables e below (T7.setTop (mkF m 14 #[.val (.ref o0), .val (.ref o1)] [])) t
    refine XS.aloadN X7.here hx rfl (hb hby d10_14) rfl rfl ?_
    show Steps p.tables e below (T7.setTop (mkF m 15 #[.val (.ref o0), .val (.ref o1)] [(.ref o0)])) t
    refine XS.aloadN X7.here hx rfl (hb hby d10_15) rfl rfl ?_
    exact k
  obtain ⟨T8, X8, e8, st8⟩ := getF X7 hx hZ hown (host := "") (Or.inl (hw _ (List.mem_of_getElem? (i := 93) rfl))) Via.refl e7 (Fw1.other W7 (Or.inr (slot_ne (Or.inr (hw _ (List.mem_of_getElem? (i := 94) rfl))) (Or.inl (hw _ (List.mem_of_getElem? (i := 97) rfl))) (by decide) (t := (.object "java/util/ArrayList")) (t' := .int) (by decide) (by decide)))) (g := (mkF m 16 #[.val (.ref o0), .val (.ref o1)] [(.ref o0), (.ref o0)])) rfl rfl (hb hby d10_16)
  have R11 : Rch p e below (s₁.setTop (entryFrame m #[(.ref o0), (.ref o1)] 2)) T8 (mkF m 19 #[.val (.ref o0), .val (.ref o1)] [(.ref o1), (.ref o0)]) := fun t k => by
    refine R9 t ?_
    refine st8 _ ?_
    exact k
  obtain ⟨T10, X10, e10, st10⟩ := getF X8 hx hZ hown (host := "") (Or.inl (hw _ (List.mem_of_getElem? (i := 98) rfl))) (Via.of (hw _ (List.mem_of_getElem? (i := 99) rfl))) e8 ((pm.other W1 (Or.inl pne)).other W7 (Or.inl pne)) (g := (mkF m 19 #[.val (.ref o0), .val (.ref o1)] [(.ref o1), (.ref o0)])) rfl rfl (hb hby d10_19)
  have R13 : Rch p e below (s₁.setTop (entryFrame m #[(.ref o0), (.ref o1)] 2)) T10 (mkF m 22 #[.val (.ref o0), .val (.ref o1)] [(.int (0 : Int32)), (.ref o0)]) := fun t k => by
    refine R11 t ?_
    refine st10 _ ?_
    exact k
  have f12 := ((pf2.other W1 (Or.inr (slot_ne (Or.inl (hw _ (List.mem_of_getElem? (i := 101) rfl))) (Or.inr (hw _ (List.mem_of_getElem? (i := 94) rfl))) (by decide) (t := .int) (t' := (.object "java/util/ArrayList")) (by decide) (by decide)))).other W7 (Or.inr (slot_ne (Or.inl (hw _ (List.mem_of_getElem? (i := 101) rfl))) (Or.inl (hw _ (List.mem_of_getElem? (i := 97) rfl))) (by decide) (t := .int) (t' := .int) (by decide) (by decide))))
  obtain ⟨T14, h14, X14, e14, W14, st14⟩ := putF X10 hx hZ hown (host := "") (Or.inl (hw _ (List.mem_of_getElem? (i := 100) rfl))) Via.refl e10 f12 ((pE.wr W1).wr W7) (Or.inl (hw _ (List.mem_of_getElem? (i := 101) rfl))) (hw _ (List.mem_of_getElem? (i := 87) rfl)) (ty := .int) (by decide) rfl rfl (g := (mkF m 22 #[.val (.ref o0), .val (.ref o1)] [(.int (0 : Int32)), (.ref o0)])) rfl rfl (hb hby d10_22)
  have Fw14 := f12.same W14
  have K14 : Keep h0 h14 [o0] := K7.wr W14 (Or.inl (List.mem_of_getElem? (i := 0) rfl))
  have N14 := Fr.snoc X14 N7 pg
  have R15 : Rch p e below (s₁.setTop (entryFrame m #[(.ref o0), (.ref o1)] 2)) T14 (mkF m 25 #[.val (.ref o0), .val (.ref o1)] []) := fun t k => by
    refine R13 t ?_
    refine st14 _ ?_
    exact k
  obtain ⟨fs, hr, hrun, hended, hW, hsame⟩ := X14.leave (v := none) (fun _ => rfl)
  refine ⟨_, _, R15 _ ?_, hrun, hended, _, _, rfl, ?_, ⟨_, rfl⟩, hW, hsame.mono (by decide) (by decide)⟩
  · exact X14.returnOut hx Bd.returns (hb hby d10_25) hr
  · show Q_rm_itr Z o0 o1 h0 n0 _ T14.heap _
    rw [e14]
    exact ⟨rfl, N14, K14, (((pE.wr W1).wr W7).wr W14), ((Fw1.other W7 (Or.inr (slot_ne (Or.inr (hw _ (List.mem_of_getElem? (i := 94) rfl))) (Or.inl (hw _ (List.mem_of_getElem? (i := 97) rfl))) (by decide) (t := (.object "java/util/ArrayList")) (t' := .int) (by decide) (by decide)))).other W14 (Or.inr (slot_ne (Or.inr (hw _ (List.mem_of_getElem? (i := 94) rfl))) (Or.inl (hw _ (List.mem_of_getElem? (i := 101) rfl))) (by decide) (t := (.object "java/util/ArrayList")) (t' := .int) (by decide) (by decide)))), (((pf3.other W1 (Or.inr (slot_ne (Or.inl (hw _ (List.mem_of_getElem? (i := 112) rfl))) (Or.inr (hw _ (List.mem_of_getElem? (i := 94) rfl))) (by decide) (t := .int) (t' := (.object "java/util/ArrayList")) (by decide) (by decide)))).other W7 (Or.inr (slot_ne (Or.inl (hw _ (List.mem_of_getElem? (i := 112) rfl))) (Or.inl (hw _ (List.mem_of_getElem? (i := 97) rfl))) (by decide) (t := .int) (t' := .int) (by decide) (by decide)))).other W14 (Or.inr (slot_ne (Or.inl (hw _ (List.mem_of_getElem? (i := 112) rfl))) (Or.inl (hw _ (List.mem_of_getElem? (i := 101) rfl))) (by decide) (t := .int) (t' := .int) (by decide) (by decide))))⟩
theorem d9_0 : decode jdk_38_method_55_code 0 = .ok (.new 267, 3) := by decide +kernel
theorem d9_3 : decode jdk_38_method_55_code 3 = .ok (.dup, 1) := by decide +kernel
theorem d9_4 : decode jdk_38_method_55_code 4 = .ok (.aload_n 0, 1) := by decide +kernel
theorem d9_5 : decode jdk_38_method_55_code 5 = .ok (.invokespecial 269, 3) := by decide +kernel
theorem pd_1 : parseMethodDescriptor "(Ljava/util/ArrayList;)V" = some ⟨[(.object "java/util/ArrayList")], none⟩ := by decide +kernel
theorem d9_8 : decode jdk_38_method_55_code 8 = .ok (.areturn, 1) := by decide +kernel
theorem ef_rm_iter (m : MethodId) (x0 : Addr) : entryFrame m #[(.ref x0)] 1 = mkF m 0 #[.val (.ref x0)] [] := by first | (simp [entryFrame, mkF, argsToLocals, Value.category]; done) | rfl
def Q_rm_iter (Z : State) (o0 : Addr) (h0 : Heap) (n0 : Nat) (v : Option Value) (h : Heap) (L : List Loc) : Prop := (v = some (.ref (h0.size))) ∧ (Fr n0 L) ∧ (Keep h0 h []) ∧ (Exa Z h (h0.size) "java/util/ArrayList$Itr") ∧ (Fld Z h (h0.size) "java/util/ArrayList$Itr" "this$0" "Ljava/util/ArrayList;" (.ref o0)) ∧ (Fld Z h (h0.size) "java/util/ArrayList$Itr" "cursor" "I" (.int (0 : Int32)))
set_option maxRecDepth 65536 in
set_option maxHeartbeats 40000000 in
theorem rm_iter (l : Launch) (Z : State) (a0 : Array Value) (hw : ∀ d ∈ tables_1, d.before a0 Z = true) (ws : List Jvm.Cond) (o0 : Addr) (h0 : Heap) (n0 : Nat) (Z0 : n0 ≤ h0.size) (pm : Fld Z h0 o0 "java/util/AbstractList" "modCount" "I" (.int (0 : Int32))) :
    MetFree l (⟨"java/util/ArrayList", "iterator", "()Ljava/util/Iterator;"⟩ : MethodName) (head1 (Jvm.Cond.code (⟨"java/util/ArrayList", "iterator", "()Ljava/util/Iterator;"⟩ : MethodName) jdk_38_method_55_code 1 (some (.object "java/util/Iterator")) :: ws) ({ frames := 2, cells := 1, slots := 4, locals := 26 } : Room)) (fun a U => a = #[(.ref o0)] ∧ Z.Warmed39 U.vm ∧ U.heap = h0) (fun _ _ _ _ _ => True) (fun _ U o U' => ∃ v L, o = .returned v ∧ Q_rm_iter Z o0 h0 n0 v U'.heap L ∧ FrameEnd U o U' L ({ frames := 2, cells := 1, slots := 4, locals := 26 } : Room).cells ({ frames := 2, cells := 1, slots := 4, locals := 26 } : Room).slots) := by
  refine MetFree.of_bodySF (plainFor_of_name pn_3) hisR ?_
  intro p e s m args below meth c s₁ Bd hml0 hP hK
  obtain ⟨rfl, hZ, hh⟩ := hP
  have hx := Bd.exec
  have hby := Bd.bytes
  have hml : c.maxLocals = 1 := hml0
  have hown : s.vm.findClass "java/util/ArrayList" = some m.cls := findClass_of_methodNamed Bd.named
  have hnm := (name_of_methodNamed Bd.named Bd.method).1
  have X0 : Stand p l e ({ frames := 2, cells := 1, slots := 4, locals := 26 } : Room) s m #[(.ref o0)] below meth c s₁ [] 0 0 := Stand.of_body Bd
  have e0 : s₁.heap = h0 := by rw [← hh, Bd.state]; rfl
  have N0 := Fr.nil n0
  have K0 : Keep h0 h0 [] := Keep.refl _ _
  have R0 : Rch p e below (s₁.setTop (entryFrame m #[(.ref o0)] 1)) s₁ (mkF m 0 #[.val (.ref o0)] []) := fun t k => castTop (ef_rm_iter m o0) k
  obtain ⟨T1, h1, X1, e1, E1, A1, D1, -, st1⟩ := newO X0 hx hZ hown (hw _ (List.mem_of_getElem? (i := 86) rfl)) (hw _ (List.mem_of_getElem? (i := 87) rfl)) (hw _ (List.mem_of_getElem? (i := 88) rfl)) e0 (g := (mkF m 0 #[.val (.ref o0)] [])) rfl (hb hby d9_0) (by decide) (by decide)
  obtain ⟨b1, g1⟩ : ∃ z, z = h0.size := ⟨_, rfl⟩
  rw [← g1] at A1 D1 st1
  have g_b1 : n0 ≤ b1 := Nat.le_trans (Nat.le_trans Z0 K0.1) (Nat.le_of_eq g1.symm)
  have sz_b1 : h0.size ≤ b1 := Nat.le_trans K0.1 (Nat.le_of_eq g1.symm)
  have K1 : Keep h0 h1 [] := K0.ext E1
  have F1_this_0 : Fld Z h1 b1 "java/util/ArrayList$Itr" "this$0" "Ljava/util/ArrayList;" .null := D1 (Or.inr (hw _ (List.mem_of_getElem? (i := 94) rfl))) (ty := (.object "java/util/ArrayList")) (by decide)
  have F1_lastRet : Fld Z h1 b1 "java/util/ArrayList$Itr" "lastRet" "I" (.int (0 : Int32)) := D1 (Or.inl (hw _ (List.mem_of_getElem? (i := 97) rfl))) (ty := .int) (by decide)
  have F1_expectedModCount : Fld Z h1 b1 "java/util/ArrayList$Itr" "expectedModCount" "I" (.int (0 : Int32)) := D1 (Or.inl (hw _ (List.mem_of_getElem? (i := 101) rfl))) (ty := .int) (by decide)
  have F1_cursor : Fld Z h1 b1 "java/util/ArrayList$Itr" "cursor" "I" (.int (0 : Int32)) := D1 (Or.inl (hw _ (List.mem_of_getElem? (i := 112) rfl))) (ty := .int) (by decide)
  have R3 : Rch p e below (s₁.setTop (entryFrame m #[(.ref o0)] 1)) T1 (mkF m 5 #[.val (.ref o0)] [(.ref o0), (.ref b1), (.ref b1)]) := fun t k => by
    refine R0 t ?_
    refine st1 _ ?_
    show Steps p.tables e below (T1.setTop (mkF m 3 #[.val (.ref o0)] [(.ref b1)])) t
    refine XS.dup X1.here hx rfl (hb hby d9_3) rfl rfl ?_
    show Steps p.tables e below (T1.setTop (mkF m 4 #[.val (.ref o0)] [(.ref b1), (.ref b1)])) t
    refine XS.aloadN X1.here hx rfl (hb hby d9_4) rfl rfl ?_
    exact k
  obtain ⟨_, _, ⟨T2, L2, k2, n2⟩, -, X2, ⟨Lc2, hQ2, l2, y2, z2⟩, st2⟩ := X1.specialBack hx (y := (⟨"java/util/ArrayList$Itr", "<init>", "(Ljava/util/ArrayList;)V"⟩ : MethodName)) rfl hown (mvT hZ (hw _ (List.mem_of_getElem? (i := 89) rfl))) (mvT hZ (hw _ (List.mem_of_getElem? (i := 90) rfl))) (mvT hZ (hw _ (List.mem_of_getElem? (i := 92) rfl))) (by decide) (backOf (W := 1) (rm_itr l Z a0 hw [] b1 o0 h1 n0 (Nat.le_trans Z0 K1.1) A1 g_b1 F1_this_0 F1_lastRet F1_expectedModCount F1_cursor (pm.ext E1) (Nat.ne_of_lt (Nat.lt_of_lt_of_le pm.lt (Nat.le_of_eq g1.symm)))) hZ (hw _ (List.mem_of_getElem? (i := 92) rfl)) (hw _ (List.mem_of_getElem? (i := 88) rfl)) (by decide) (by decide)) (g := (mkF m 5 #[.val (.ref o0)] [(.ref o0), (.ref b1), (.ref b1)])) rfl (by rw [hml]; rfl) (Steps.refl _) (a := b1) (argsL := [(.ref o0)]) (rest := [(.ref b1)]) (lenOf pd_1 rfl) rfl (by show 2 * 0 + _ ≤ _; exact Nat.le_of_eq rfl) (hb hby d9_5) (fun _ _ => ⟨rfl, e1, (by decide : 1 + 0 ≤ _), (by decide : 4 + 0 ≤ _)⟩)
  dsimp only [Pt.U, Pt.locs, Pt.cells, Pt.slots] at X2 l2 y2 z2 st2 hQ2
  subst l2 y2 z2
  obtain ⟨rfl, N2q, Kc2, c2_E, c2_t, c2_c⟩ := hQ2
  have N2 := Fr.app N0 N2q
  have K2 : Keep h0 T2.heap [] := K1.trans Kc2 (allS (Or.inr sz_b1) all0)
  have R4 : Rch p e below (s₁.setTop (entryFrame m #[(.ref o0)] 1)) T2 (mkF m 8 #[.val (.ref o0)] [(.ref b1)]) := fun t k => by
    refine R3 t ?_
    refine st2.trans ?_
    exact k
  obtain ⟨fs, hr, hrun, hended, hW, hsame⟩ := X2.leave (v := some (.ref b1)) (fun h => by rw [Bd.returns] at h; cases h)
  refine ⟨_, _, R4 _ ?_, hrun, hended, _, _, rfl, ?_, ⟨_, rfl⟩, hW, hsame.mono (by decide) (by decide)⟩
  · jvm_step X2.here [X2.here.top, hx, (hb hby d9_8), X2.method', Bd.returns, Value.isRef, FieldType.isReference]
    first | (intro acts; rw [hr _ acts rfl rfl rfl]) | rw [hr _ _ rfl rfl rfl]
    exact Steps.refl _
  · show Q_rm_iter Z o0 h0 n0 _ T2.heap _
    exact ⟨own_v g1, N2, K2, (g1 ▸ c2_E), (g1 ▸ c2_t), (g1 ▸ c2_c)⟩
theorem d11_0 : decode jdk_49_method_2_code 0 = .ok (.aload_n 0, 1) := by decide +kernel
theorem d11_1 : decode jdk_49_method_2_code 1 = .ok (.getfield 25, 3) := by decide +kernel
theorem d11_4 : decode jdk_49_method_2_code 4 = .ok (.aload_n 0, 1) := by decide +kernel
theorem d11_5 : decode jdk_49_method_2_code 5 = .ok (.getfield 1, 3) := by decide +kernel
theorem d11_8 : decode jdk_49_method_2_code 8 = .ok (.getfield 28, 3) := by decide +kernel
theorem d11_11 : decode jdk_49_method_2_code 11 = .ok (.if_icmp .eq 7, 3) := by decide +kernel
theorem d11_18 : decode jdk_49_method_2_code 18 = .ok (.iconst 0, 1) := by decide +kernel
theorem d11_19 : decode jdk_49_method_2_code 19 = .ok (.ireturn, 1) := by decide +kernel
theorem ef_rm_hn (m : MethodId) (x0 : Addr) : entryFrame m #[(.ref x0)] 1 = mkF m 0 #[.val (.ref x0)] [] := by first | (simp [entryFrame, mkF, argsToLocals, Value.category]; done) | rfl
def Q_rm_hn (Z : State) (o0 : Addr) (o1 : Addr) (h0 : Heap) (n0 : Nat) (v : Option Value) (h : Heap) (L : List Loc) : Prop := (v = some (.int (0 : Int32))) ∧ (Fr n0 L) ∧ (h = h0)
set_option maxRecDepth 65536 in
set_option maxHeartbeats 40000000 in
theorem rm_hn (l : Launch) (Z : State) (a0 : Array Value) (hw : ∀ d ∈ tables_1, d.before a0 Z = true) (ws : List Jvm.Cond) (o0 : Addr) (o1 : Addr) (h0 : Heap) (n0 : Nat) (Z0 : n0 ≤ h0.size) (pc : Fld Z h0 o0 "java/util/ArrayList$Itr" "cursor" "I" (.int (0 : Int32))) (pt : Fld Z h0 o0 "java/util/ArrayList$Itr" "this$0" "Ljava/util/ArrayList;" (.ref o1)) (ps : Fld Z h0 o1 "java/util/ArrayList" "size" "I" (.int (0 : Int32))) :
    MetFree l (⟨"java/util/ArrayList$Itr", "hasNext", "()Z"⟩ : MethodName) (head1 (Jvm.Cond.code (⟨"java/util/ArrayList$Itr", "hasNext", "()Z"⟩ : MethodName) jdk_49_method_2_code 1 (some .boolean) :: ws) ({ frames := 0, cells := 0, slots := 0, locals := 0 } : Room)) (fun a U => a = #[(.ref o0)] ∧ Z.Warmed39 U.vm ∧ U.heap = h0) (fun _ _ _ _ _ => True) (fun _ U o U' => ∃ v L, o = .returned v ∧ Q_rm_hn Z o0 o1 h0 n0 v U'.heap L ∧ FrameEnd U o U' L ({ frames := 0, cells := 0, slots := 0, locals := 0 } : Room).cells ({ frames := 0, cells := 0, slots := 0, locals := 0 } : Room).slots) := by
  refine MetFree.of_bodySF (plainFor_of_name pn_6) hisR ?_
  intro p e s m args below meth c s₁ Bd hml0 hP hK
  obtain ⟨rfl, hZ, hh⟩ := hP
  have hx := Bd.exec
  have hby := Bd.bytes
  have hml : c.maxLocals = 1 := hml0
  have hown : s.vm.findClass "java/util/ArrayList$Itr" = some m.cls := findClass_of_methodNamed Bd.named
  have hnm := (name_of_methodNamed Bd.named Bd.method).1
  have X0 : Stand p l e ({ frames := 0, cells := 0, slots := 0, locals := 0 } : Room) s m #[(.ref o0)] below meth c s₁ [] 0 0 := Stand.of_body Bd
  have e0 : s₁.heap = h0 := by rw [← hh, Bd.state]; rfl
  have N0 := Fr.nil n0
  have K0 : Keep h0 h0 [] := Keep.refl _ _
  have R0 : Rch p e below (s₁.setTop (entryFrame m #[(.ref o0)] 1)) s₁ (mkF m 0 #[.val (.ref o0)] []) := fun t k => castTop (ef_rm_hn m o0) k
  have R2 : Rch p e below (s₁.setTop (entryFrame m #[(.ref o0)] 1)) s₁ (mkF m 1 #[.val (.ref o0)] [(.ref o0)]) := fun t k => by
    refine R0 t ?_
    refine XS.aloadN X0.here hx rfl (hb hby d11_0) rfl rfl ?_
    exact k
  obtain ⟨T1, X1, e1, st1⟩ := getF X0 hx hZ hown (host := "") (Or.inl (hw _ (List.mem_of_getElem? (i := 111) rfl))) Via.refl e0 pc (g := (mkF m 1 #[.val (.ref o0)] [(.ref o0)])) rfl rfl (hb hby d11_1)
  have R4 : Rch p e below (s₁.setTop (entryFrame m #[(.ref o0)] 1)) T1 (mkF m 5 #[.val (.ref o0)] [(.ref o0), (.int (0 : Int32))]) := fun t k => by
    refine R2 t ?_
    refine st1 _ ?_
    show Steps p.tables e below (T1.setTop (mkF m 4 #[.val (.ref o0)] [(.int (0 : Int32))])) t
    refine XS.aloadN X1.here hx rfl (hb hby d11_4) rfl rfl ?_
    exact k
  obtain ⟨T3, X3, e3, st3⟩ := getF X1 hx hZ hown (host := "") (Or.inl (hw _ (List.mem_of_getElem? (i := 93) rfl))) Via.refl e1 pt (g := (mkF m 5 #[.val (.ref o0)] [(.ref o0), (.int (0 : Int32))])) rfl rfl (hb hby d11_5)
  have R6 : Rch p e below (s₁.setTop (entryFrame m #[(.ref o0)] 1)) T3 (mkF m 8 #[.val (.ref o0)] [(.ref o1), (.int (0 : Int32))]) := fun t k => by
    refine R4 t ?_
    refine st3 _ ?_
    exact k
  obtain ⟨T5, X5, e5, st5⟩ := getF X3 hx hZ hown (Or.inr (hw _ (List.mem_of_getElem? (i := 113) rfl))) Via.refl e3 ps (g := (mkF m 8 #[.val (.ref o0)] [(.ref o1), (.int (0 : Int32))])) rfl rfl (hb hby d11_8)
  have R7 : Rch p e below (s₁.setTop (entryFrame m #[(.ref o0)] 1)) T5 (mkF m 19 #[.val (.ref o0)] [(.int (0 : Int32))]) := fun t k => by
    refine R6 t ?_
    refine st5 _ ?_
    show Steps p.tables e below (T5.setTop (mkF m 11 #[.val (.ref o0)] [(.int (0 : Int32)), (.int (0 : Int32))])) t
    refine XS.icmpYes X5.here hx rfl (pc0 := 11) (pc' := 18) rfl (hb hby d11_11) rfl (teq (by decide : (0 : Int32) = (0 : Int32))).1 (by decide) (by decide) ?_
    show Steps p.tables e below (T5.setTop (mkF m 18 #[.val (.ref o0)] [])) t
    refine XS.iconst X5.here hx rfl (hb hby d11_18) ?_
    exact k
  obtain ⟨fs, hr, hrun, hended, hW, hsame⟩ := X5.leave (v := some (.int (0 : Int32))) (fun h => by rw [Bd.returns] at h; cases h)
  refine ⟨_, _, R7 _ ?_, hrun, hended, _, _, rfl, ?_, ⟨_, rfl⟩, hW, hsame.mono (by decide) (by decide)⟩
  · exact retN X5 hx (t := .boolean) Bd.returns (by simp) (hb hby d11_19) hr
  · show Q_rm_hn Z o0 o1 h0 n0 _ T5.heap _
    rw [e5]
    exact ⟨rfl, N0, rfl⟩
theorem d13_0 : decode jdk_69_method_11_code 0 = .ok (.aload_n 0, 1) := by decide +kernel
theorem d13_1 : decode jdk_69_method_11_code 1 = .ok (.getfield 156, 3) := by decide +kernel
theorem d13_4 : decode jdk_69_method_11_code 4 = .ok (.ifCond .ne 7, 3) := by decide +kernel
theorem d13_7 : decode jdk_69_method_11_code 7 = .ok (.iconst 1, 1) := by decide +kernel
theorem d13_8 : decode jdk_69_method_11_code 8 = .ok (.goto 4, 3) := by decide +kernel
theorem d13_12 : decode jdk_69_method_11_code 12 = .ok (.ireturn, 1) := by decide +kernel
theorem ef_rm_ie (m : MethodId) (x0 : Addr) : entryFrame m #[(.ref x0)] 1 = mkF m 0 #[.val (.ref x0)] [] := by first | (simp [entryFrame, mkF, argsToLocals, Value.category]; done) | rfl
def Q_rm_ie (Z : State) (o0 : Addr) (h0 : Heap) (n0 : Nat) (v : Option Value) (h : Heap) (L : List Loc) : Prop := (v = some (.int (1 : Int32))) ∧ (Fr n0 L) ∧ (h = h0)
set_option maxRecDepth 65536 in
set_option maxHeartbeats 40000000 in
theorem rm_ie (l : Launch) (Z : State) (a0 : Array Value) (hw : ∀ d ∈ tables_1, d.before a0 Z = true) (ws : List Jvm.Cond) (o0 : Addr) (h0 : Heap) (n0 : Nat) (Z0 : n0 ≤ h0.size) (ps : Fld Z h0 o0 "java/util/HashMap" "size" "I" (.int (0 : Int32))) :
    MetFree l (⟨"java/util/HashMap", "isEmpty", "()Z"⟩ : MethodName) (head1 (Jvm.Cond.code (⟨"java/util/HashMap", "isEmpty", "()Z"⟩ : MethodName) jdk_69_method_11_code 1 (some .boolean) :: ws) ({ frames := 0, cells := 0, slots := 0, locals := 0 } : Room)) (fun a U => a = #[(.ref o0)] ∧ Z.Warmed39 U.vm ∧ U.heap = h0) (fun _ _ _ _ _ => True) (fun _ U o U' => ∃ v L, o = .returned v ∧ Q_rm_ie Z o0 h0 n0 v U'.heap L ∧ FrameEnd U o U' L ({ frames := 0, cells := 0, slots := 0, locals := 0 } : Room).cells ({ frames := 0, cells := 0, slots := 0, locals := 0 } : Room).slots) := by
  refine MetFree.of_bodySF (plainFor_of_name pn_5) hisR ?_
  intro p e s m args below meth c s₁ Bd hml0 hP hK
  obtain ⟨rfl, hZ, hh⟩ := hP
  have hx := Bd.exec
  have hby := Bd.bytes
  have hml : c.maxLocals = 1 := hml0
  have hown : s.vm.findClass "java/util/HashMap" = some m.cls := findClass_of_methodNamed Bd.named
  have hnm := (name_of_methodNamed Bd.named Bd.method).1
  have X0 : Stand p l e ({ frames := 0, cells := 0, slots := 0, locals := 0 } : Room) s m #[(.ref o0)] below meth c s₁ [] 0 0 := Stand.of_body Bd
  have e0 : s₁.heap = h0 := by rw [← hh, Bd.state]; rfl
  have N0 := Fr.nil n0
  have K0 : Keep h0 h0 [] := Keep.refl _ _
  have R0 : Rch p e below (s₁.setTop (entryFrame m #[(.ref o0)] 1)) s₁ (mkF m 0 #[.val (.ref o0)] []) := fun t k => castTop (ef_rm_ie m o0) k
  have R2 : Rch p e below (s₁.setTop (entryFrame m #[(.ref o0)] 1)) s₁ (mkF m 1 #[.val (.ref o0)] [(.ref o0)]) := fun t k => by
    refine R0 t ?_
    refine XS.aloadN X0.here hx rfl (hb hby d13_0) rfl rfl ?_
    exact k
  obtain ⟨T1, X1, e1, st1⟩ := getF X0 hx hZ hown (host := "") (Or.inl (hw _ (List.mem_of_getElem? (i := 132) rfl))) Via.refl e0 ps (g := (mkF m 1 #[.val (.ref o0)] [(.ref o0)])) rfl rfl (hb hby d13_1)
  have R3 : Rch p e below (s₁.setTop (entryFrame m #[(.ref o0)] 1)) T1 (mkF m 12 #[.val (.ref o0)] [(.int (1 : Int32))]) := fun t k => by
    refine R2 t ?_
    refine st1 _ ?_
    show Steps p.tables e below (T1.setTop (mkF m 4 #[.val (.ref o0)] [(.int (0 : Int32))])) t
    refine XS.ifNo X1.here hx rfl (hb hby d13_4) rfl ((if0 _ _).trans (teq (by decide : (0 : Int32) = (0 : Int32))).2) ?_
    show Steps p.tables e below (T1.setTop (mkF m 7 #[.val (.ref o0)] [])) t
    refine XS.iconst X1.here hx rfl (hb hby d13_7) ?_
    show Steps p.tables e below (T1.setTop (mkF m 8 #[.val (.ref o0)] [(.int (1 : Int32))])) t
    refine XS.goto X1.here hx rfl (pc0 := 8) (pc' := 12) rfl (hb hby d13_8) (by decide) (by decide) ?_
    exact k
  obtain ⟨fs, hr, hrun, hended, hW, hsame⟩ := X1.leave (v := some (.int (1 : Int32))) (fun h => by rw [Bd.returns] at h; cases h)
  refine ⟨_, _, R3 _ ?_, hrun, hended, _, _, rfl, ?_, ⟨_, rfl⟩, hW, hsame.mono (by decide) (by decide)⟩
  · exact retN X1 hx (t := .boolean) Bd.returns (by simp) (hb hby d13_12) hr
  · show Q_rm_ie Z o0 h0 n0 _ T1.heap _
    rw [e1]
    exact ⟨rfl, N0, rfl⟩
theorem d14_0 : decode jdk_72_method_26_code 0 = .ok (.getstatic 81, 3) := by decide +kernel
theorem d14_3 : decode jdk_72_method_26_code 3 = .ok (.areturn, 1) := by decide +kernel
theorem ef_rm_of (m : MethodId)  : entryFrame m #[] 0 = mkF m 0 #[] [] := by first | (simp [entryFrame, mkF, argsToLocals, Value.category]; done) | rfl
theorem pn_7 : plainName "java/util/Map" = true := by first | (simp [plainName, overriddenIn]; done) | decide +kernel
def Q_rm_of (Z : State) (emp : Addr) (h0 : Heap) (n0 : Nat) (v : Option Value) (h : Heap) (L : List Loc) : Prop := (v = some (.ref emp)) ∧ (Fr n0 L) ∧ (h = h0)
set_option maxRecDepth 65536 in
set_option maxHeartbeats 40000000 in
theorem rm_of (l : Launch) (Z : State) (a0 : Array Value) (hw : ∀ d ∈ tables_1, d.before a0 Z = true) (ws : List Jvm.Cond) (emp : Addr) (h0 : Heap) (n0 : Nat) (Z0 : n0 ≤ h0.size) (pS : Sta Z h0 "java/util/ImmutableCollections" "EMPTY_MAP" "Ljava/util/ImmutableCollections$MapN;" (.ref emp)) :
    MetFree l (⟨"java/util/Map", "of", "()Ljava/util/Map;"⟩ : MethodName) (head1 (Jvm.Cond.code (⟨"java/util/Map", "of", "()Ljava/util/Map;"⟩ : MethodName) jdk_72_method_26_code 0 (some (.object "java/util/Map")) :: ws) ({ frames := 0, cells := 0, slots := 0, locals := 0 } : Room)) (fun a U => a = #[] ∧ Z.Warmed39 U.vm ∧ U.heap = h0) (fun _ _ _ _ _ => True) (fun _ U o U' => ∃ v L, o = .returned v ∧ Q_rm_of Z emp h0 n0 v U'.heap L ∧ FrameEnd U o U' L ({ frames := 0, cells := 0, slots := 0, locals := 0 } : Room).cells ({ frames := 0, cells := 0, slots := 0, locals := 0 } : Room).slots) := by
  refine MetFree.of_bodySF (plainFor_of_name pn_7) hisR ?_
  intro p e s m args below meth c s₁ Bd hml0 hP hK
  obtain ⟨rfl, hZ, hh⟩ := hP
  have hx := Bd.exec
  have hby := Bd.bytes
  have hml : c.maxLocals = 0 := hml0
  have hown : s.vm.findClass "java/util/Map" = some m.cls := findClass_of_methodNamed Bd.named
  have hnm := (name_of_methodNamed Bd.named Bd.method).1
  have X0 : Stand p l e ({ frames := 0, cells := 0, slots := 0, locals := 0 } : Room) s m #[] below meth c s₁ [] 0 0 := Stand.of_body Bd
  have e0 : s₁.heap = h0 := by rw [← hh, Bd.state]; rfl
  have N0 := Fr.nil n0
  have K0 : Keep h0 h0 [] := Keep.refl _ _
  have R0 : Rch p e below (s₁.setTop (entryFrame m #[] 0)) s₁ (mkF m 0 #[] []) := fun t k => castTop (ef_rm_of m ) k
  obtain ⟨T1, X1, e1, st1⟩ := getS2 X0 hx hZ hown (host := "") (Or.inl (hw _ (List.mem_of_getElem? (i := 137) rfl))) Via.refl e0 pS (g := (mkF m 0 #[] [])) rfl (hb hby d14_0)
  have R2 : Rch p e below (s₁.setTop (entryFrame m #[] 0)) T1 (mkF m 3 #[] [(.ref emp)]) := fun t k => by
    refine R0 t ?_
    refine st1 _ ?_
    exact k
  obtain ⟨fs, hr, hrun, hended, hW, hsame⟩ := X1.leave (v := some (.ref emp)) (fun h => by rw [Bd.returns] at h; cases h)
  refine ⟨_, _, R2 _ ?_, hrun, hended, _, _, rfl, ?_, ⟨_, rfl⟩, hW, hsame.mono (by decide) (by decide)⟩
  · jvm_step X1.here [X1.here.top, hx, (hb hby d14_3), X1.method', Bd.returns, Value.isRef, FieldType.isReference]
    first | (intro acts; rw [hr _ acts rfl rfl rfl]) | rw [hr _ _ rfl rfl rfl]
    exact Steps.refl _
  · show Q_rm_of Z emp h0 n0 _ T1.heap _
    rw [e1]
    exact ⟨rfl, N0, rfl⟩
theorem d12_0 : decode jdk_72_method_39_code 0 = .ok (.aload_n 0, 1) := by decide +kernel
theorem d12_1 : decode jdk_72_method_39_code 1 = .ok (.instanceof 101, 3) := by decide +kernel
theorem d12_4 : decode jdk_72_method_39_code 4 = .ok (.ifCond .eq 5, 3) := by decide +kernel
theorem d12_7 : decode jdk_72_method_39_code 7 = .ok (.aload_n 0, 1) := by decide +kernel
theorem d12_8 : decode jdk_72_method_39_code 8 = .ok (.areturn, 1) := by decide +kernel
theorem d12_9 : decode jdk_72_method_39_code 9 = .ok (.aload_n 0, 1) := by decide +kernel
theorem d12_10 : decode jdk_72_method_39_code 10 = .ok (.invokeinterface 103 1, 5) := by decide +kernel
theorem pd_2 : parseMethodDescriptor "()Z" = some ⟨[], some .boolean⟩ := by decide +kernel
theorem d12_15 : decode jdk_72_method_39_code 15 = .ok (.ifCond .eq 7, 3) := by decide +kernel
theorem d12_18 : decode jdk_72_method_39_code 18 = .ok (.invokestatic 106, 3) := by decide +kernel
theorem pd_3 : parseMethodDescriptor "()Ljava/util/Map;" = some ⟨[], some (.object "java/util/Map")⟩ := by decide +kernel
theorem d12_21 : decode jdk_72_method_39_code 21 = .ok (.areturn, 1) := by decide +kernel
theorem ef_rm_cp (m : MethodId) (x0 : Addr) : entryFrame m #[(.ref x0)] 1 = mkF m 0 #[.val (.ref x0)] [] := by first | (simp [entryFrame, mkF, argsToLocals, Value.category]; done) | rfl
def Q_rm_cp (Z : State) (o0 : Addr) (emp : Addr) (rr : Addr) (h0 : Heap) (n0 : Nat) (v : Option Value) (h : Heap) (L : List Loc) : Prop := (v = some (.ref rr)) ∧ (Fr n0 L) ∧ (h = h0)
set_option maxRecDepth 65536 in
set_option maxHeartbeats 40000000 in
theorem rm_cp (l : Launch) (Z : State) (a0 : Array Value) (hw : ∀ d ∈ tables_1, d.before a0 Z = true) (ws : List Jvm.Cond) (o0 : Addr) (emp : Addr) (rr : Addr) (h0 : Heap) (n0 : Nat) (Z0 : n0 ≤ h0.size) (pE : Exa Z h0 o0 "java/util/HashMap") (ps : Fld Z h0 o0 "java/util/HashMap" "size" "I" (.int (0 : Int32))) (pS : Sta Z h0 "java/util/ImmutableCollections" "EMPTY_MAP" "Ljava/util/ImmutableCollections$MapN;" (.ref emp)) (pI : (Ins Z h0 o0 "java/util/ImmutableCollections$AbstractImmutableMap" true ∧ rr = o0) ∨ (Ins Z h0 o0 "java/util/ImmutableCollections$AbstractImmutableMap" false ∧ rr = emp)) :
    MetFree l (⟨"java/util/Map", "copyOf", "(Ljava/util/Map;)Ljava/util/Map;"⟩ : MethodName) (head1 (Jvm.Cond.code (⟨"java/util/Map", "copyOf", "(Ljava/util/Map;)Ljava/util/Map;"⟩ : MethodName) jdk_72_method_39_code 1 (some (.object "java/util/Map")) :: ws) ({ frames := 1, cells := 0, slots := 0, locals := 12 } : Room)) (fun a U => a = #[(.ref o0)] ∧ Z.Warmed39 U.vm ∧ U.heap = h0) (fun _ _ _ _ _ => True) (fun _ U o U' => ∃ v L, o = .returned v ∧ Q_rm_cp Z o0 emp rr h0 n0 v U'.heap L ∧ FrameEnd U o U' L ({ frames := 1, cells := 0, slots := 0, locals := 12 } : Room).cells ({ frames := 1, cells := 0, slots := 0, locals := 12 } : Room).slots) := by
  refine MetFree.of_bodySF (plainFor_of_name pn_7) hisR ?_
  intro p e s m args below meth c s₁ Bd hml0 hP hK
  obtain ⟨rfl, hZ, hh⟩ := hP
  have hx := Bd.exec
  have hby := Bd.bytes
  have hml : c.maxLocals = 1 := hml0
  have hown : s.vm.findClass "java/util/Map" = some m.cls := findClass_of_methodNamed Bd.named
  have hnm := (name_of_methodNamed Bd.named Bd.method).1
  have X0 : Stand p l e ({ frames := 1, cells := 0, slots := 0, locals := 12 } : Room) s m #[(.ref o0)] below meth c s₁ [] 0 0 := Stand.of_body Bd
  have e0 : s₁.heap = h0 := by rw [← hh, Bd.state]; rfl
  have N0 := Fr.nil n0
  have K0 : Keep h0 h0 [] := Keep.refl _ _
  have R0 : Rch p e below (s₁.setTop (entryFrame m #[(.ref o0)] 1)) s₁ (mkF m 0 #[.val (.ref o0)] []) := fun t k => castTop (ef_rm_cp m o0) k
  have R1 : Rch p e below (s₁.setTop (entryFrame m #[(.ref o0)] 1)) s₁ (mkF m 1 #[.val (.ref o0)] [(.ref o0)]) := fun t k => by
    refine R0 t ?_
    refine XS.aloadN X0.here hx rfl (hb hby d12_0) rfl rfl ?_
    exact k
  rcases pI with ⟨pI1, hrr⟩ | ⟨pI1, hrr⟩
  · obtain ⟨T2, X2, e2, st2⟩ := instY X0 hx hZ hown (hw _ (List.mem_of_getElem? (i := 119) rfl)) e0 pI1 (g := (mkF m 1 #[.val (.ref o0)] [(.ref o0)])) rfl rfl (hb hby d12_1)
    have R3 : Rch p e below (s₁.setTop (entryFrame m #[(.ref o0)] 1)) T2 (mkF m 8 #[.val (.ref o0)] [(.ref o0)]) := fun t k => by
      refine R1 t ?_
      refine st2 _ ?_
      show Steps p.tables e below (T2.setTop (mkF m 4 #[.val (.ref o0)] [(.int (1 : Int32))])) t
      refine XS.ifNo X2.here hx rfl (hb hby d12_4) rfl ((if0 _ _).trans (feq (by decide : ¬ ((1 : Int32) = (0 : Int32)))).1) ?_
      show Steps p.tables e below (T2.setTop (mkF m 7 #[.val (.ref o0)] [])) t
      refine XS.aloadN X2.here hx rfl (hb hby d12_7) rfl rfl ?_
      exact k
    obtain ⟨fs, hr, hrun, hended, hW, hsame⟩ := X2.leave (v := some (.ref o0)) (fun h => by rw [Bd.returns] at h; cases h)
    refine ⟨_, _, R3 _ ?_, hrun, hended, _, _, rfl, ?_, ⟨_, rfl⟩, hW, hsame.mono (by decide) (by decide)⟩
    · jvm_step X2.here [X2.here.top, hx, (hb hby d12_8), X2.method', Bd.returns, Value.isRef, FieldType.isReference]
      first | (intro acts; rw [hr _ acts rfl rfl rfl]) | rw [hr _ _ rfl rfl rfl]
      exact Steps.refl _
    · show Q_rm_cp Z o0 emp rr h0 n0 _ T2.heap _
      rw [e2]
      exact ⟨own_v hrr.symm, N0, rfl⟩
  · obtain ⟨T4, X4, e4, st4⟩ := instN X0 hx hZ hown (hw _ (List.mem_of_getElem? (i := 119) rfl)) e0 (hh.symm ▸ pI1) (hh.symm ▸ pE) (g := (mkF m 1 #[.val (.ref o0)] [(.ref o0)])) rfl rfl (hb hby d12_1)
    have R6 : Rch p e below (s₁.setTop (entryFrame m #[(.ref o0)] 1)) T4 (mkF m 10 #[.val (.ref o0)] [(.ref o0)]) := fun t k => by
      refine R1 t ?_
      refine st4 _ ?_
      show Steps p.tables e below (T4.setTop (mkF m 4 #[.val (.ref o0)] [(.int (0 : Int32))])) t
      refine XS.ifYes X4.here hx rfl (pc0 := 4) (pc' := 9) rfl (hb hby d12_4) rfl ((if0 _ _).trans (teq (by decide : (0 : Int32) = (0 : Int32))).1) (by decide) (by decide) ?_
      show Steps p.tables e below (T4.setTop (mkF m 9 #[.val (.ref o0)] [])) t
      refine XS.aloadN X4.here hx rfl (hb hby d12_9) rfl rfl ?_
      exact k
    obtain ⟨cq5, kq5, q5a, q5b, q5c⟩ := isOf hZ e4 pE
    obtain ⟨_, _, ⟨T5, L5, k5, n5⟩, -, X5, ⟨Lc5, hQ5, l5, y5, z5⟩, st5⟩ := X4.interfaceBack hx (xi := (⟨"java/util/Map", "isEmpty", "()Z"⟩ : MethodName)) (y := (⟨"java/util/HashMap", "isEmpty", "()Z"⟩ : MethodName)) hown (mvT hZ (hw _ (List.mem_of_getElem? (i := 123) rfl))) (mvT hZ (hw _ (List.mem_of_getElem? (i := 124) rfl))) (mvT hZ (hw _ (List.mem_of_getElem? (i := 125) rfl))) (mvT hZ (hw _ (List.mem_of_getElem? (i := 126) rfl))) (mvT hZ (hw _ (List.mem_of_getElem? (i := 127) rfl))) (mvT hZ (hw _ (List.mem_of_getElem? (i := 128) rfl))) (mvT hZ (hw _ (List.mem_of_getElem? (i := 129) rfl))) (mvT hZ (hw _ (List.mem_of_getElem? (i := 130) rfl))) (by decide) (backOf (W := 0) (rm_ie l Z a0 hw [] o0 h0 n0 (Nat.le_trans Z0 K0.1) ps) hZ (hw _ (List.mem_of_getElem? (i := 131) rfl)) (hw _ (List.mem_of_getElem? (i := 63) rfl)) (by decide) (by decide)) q5a q5b q5c (g := (mkF m 10 #[.val (.ref o0)] [(.ref o0)])) rfl (by rw [hml]; rfl) (Steps.refl _) (argsL := []) (rest := []) (lenOf pd_2 rfl) rfl (by show 2 * 0 + _ ≤ _; exact Nat.le_of_eq rfl) (hb hby d12_10) (fun _ _ => ⟨rfl, e4, (by decide : 0 + 0 ≤ _), (by decide : 0 + 0 ≤ _)⟩)
    dsimp only [Pt.U, Pt.locs, Pt.cells, Pt.slots] at X5 l5 y5 z5 st5 hQ5
    subst l5 y5 z5
    obtain ⟨rfl, N5q, e5⟩ := hQ5
    have N5 := Fr.app N0 N5q
    have R8 : Rch p e below (s₁.setTop (entryFrame m #[(.ref o0)] 1)) T5 (mkF m 18 #[.val (.ref o0)] []) := fun t k => by
      refine R6 t ?_
      refine st5.trans ?_
      show Steps p.tables e below (T5.setTop (mkF m 15 #[.val (.ref o0)] [(.int (1 : Int32))])) t
      refine XS.ifNo X5.here hx rfl (hb hby d12_15) rfl ((if0 _ _).trans (feq (by decide : ¬ ((1 : Int32) = (0 : Int32)))).1) ?_
      exact k
    obtain ⟨_, _, ⟨T7, L7, k7, n7⟩, -, X7, ⟨Lc7, hQ7, l7, y7, z7⟩, st7⟩ := Jvm.LawKit.callS X5 hx (y := (⟨"java/util/Map", "of", "()Ljava/util/Map;"⟩ : MethodName)) hown (mvT hZ (hw _ (List.mem_of_getElem? (i := 134) rfl))) (mvT hZ (hw _ (List.mem_of_getElem? (i := 135) rfl))) (mvT hZ (hw _ (List.mem_of_getElem? (i := 117) rfl))) (mvT hZ (hw _ (List.mem_of_getElem? (i := 136) rfl))) (by decide) (backOf (W := 0) (rm_of l Z a0 hw [] emp h0 n0 (Nat.le_trans Z0 K0.1) pS) hZ (hw _ (List.mem_of_getElem? (i := 136) rfl)) (hw _ (List.mem_of_getElem? (i := 117) rfl)) (by decide) (by decide)) (g := (mkF m 18 #[.val (.ref o0)] [])) rfl (by rw [hml]; rfl) (argsL := []) (rest := []) (lenOf pd_3 rfl) rfl (by show 2 * 0 + _ ≤ _; exact Nat.le_of_eq rfl) (hb hby d12_18) (fun _ _ => ⟨rfl, e5, (by decide : 0 + 0 ≤ _), (by decide : 0 + 0 ≤ _)⟩)
    dsimp only [Pt.U, Pt.locs, Pt.cells, Pt.slots] at X7 l7 y7 z7 st7 hQ7
    subst l7 y7 z7
    obtain ⟨rfl, N7q, e7⟩ := hQ7
    have N7 := Fr.app N5 N7q
    have R9 : Rch p e below (s₁.setTop (entryFrame m #[(.ref o0)] 1)) T7 (mkF m 21 #[.val (.ref o0)] [(.ref emp)]) := fun t k => by
      refine R8 t ?_
      refine st7 _ ?_
      exact k
    obtain ⟨fs, hr, hrun, hended, hW, hsame⟩ := X7.leave (v := some (.ref emp)) (fun h => by rw [Bd.returns] at h; cases h)
    refine ⟨_, _, R9 _ ?_, hrun, hended, _, _, rfl, ?_, ⟨_, rfl⟩, hW, hsame.mono (by decide) (by decide)⟩
    · jvm_step X7.here [X7.here.top, hx, (hb hby d12_21), X7.method', Bd.returns, Value.isRef, FieldType.isReference]
      first | (intro acts; rw [hr _ acts rfl rfl rfl]) | rw [hr _ _ rfl rfl rfl]
      exact Steps.refl _
    · show Q_rm_cp Z o0 emp rr h0 n0 _ T7.heap _
      rw [e7]
      exact ⟨own_v hrr.symm, N7, rfl⟩
theorem d6_0 : decode prog_45_method_2_code 0 = .ok (.aload_n 0, 1) := by decide +kernel
theorem d6_1 : decode prog_45_method_2_code 1 = .ok (.invokespecial 13, 3) := by decide +kernel
theorem d6_4 : decode prog_45_method_2_code 4 = .ok (.aload_n 0, 1) := by decide +kernel
theorem d6_5 : decode prog_45_method_2_code 5 = .ok (.sipush 1001, 3) := by decide +kernel
theorem d6_8 : decode prog_45_method_2_code 8 = .ok (.newarray .boolean, 2) := by decide +kernel
theorem d6_10 : decode prog_45_method_2_code 10 = .ok (.putfield 18, 3) := by decide +kernel
theorem d6_13 : decode prog_45_method_2_code 13 = .ok (.aload_n 0, 1) := by decide +kernel
theorem d6_14 : decode prog_45_method_2_code 14 = .ok (.sipush 2048, 3) := by decide +kernel
theorem d6_17 : decode prog_45_method_2_code 17 = .ok (.anewarray 22, 3) := by decide +kernel
theorem d6_20 : decode prog_45_method_2_code 20 = .ok (.putfield 24, 3) := by decide +kernel
theorem d6_23 : decode prog_45_method_2_code 23 = .ok (.aload_n 0, 1) := by decide +kernel
theorem d6_24 : decode prog_45_method_2_code 24 = .ok (.sipush 2048, 3) := by decide +kernel
theorem d6_27 : decode prog_45_method_2_code 27 = .ok (.anewarray 28, 3) := by decide +kernel
theorem d6_30 : decode prog_45_method_2_code 30 = .ok (.putfield 30, 3) := by decide +kernel
theorem d6_33 : decode prog_45_method_2_code 33 = .ok (.aload_n 0, 1) := by decide +kernel
theorem d6_34 : decode prog_45_method_2_code 34 = .ok (.sipush 2048, 3) := by decide +kernel
theorem d6_37 : decode prog_45_method_2_code 37 = .ok (.newarray .int, 2) := by decide +kernel
theorem d6_39 : decode prog_45_method_2_code 39 = .ok (.putfield 34, 3) := by decide +kernel
theorem d6_42 : decode prog_45_method_2_code 42 = .ok (.aload_n 0, 1) := by decide +kernel
theorem d6_43 : decode prog_45_method_2_code 43 = .ok (.sipush 2048, 3) := by decide +kernel
theorem d6_46 : decode prog_45_method_2_code 46 = .ok (.newarray .int, 2) := by decide +kernel
theorem d6_48 : decode prog_45_method_2_code 48 = .ok (.putfield 38, 3) := by decide +kernel
theorem d6_51 : decode prog_45_method_2_code 51 = .ok (.aload_n 0, 1) := by decide +kernel
theorem d6_52 : decode prog_45_method_2_code 52 = .ok (.sipush 2048, 3) := by decide +kernel
theorem d6_55 : decode prog_45_method_2_code 55 = .ok (.newarray .int, 2) := by decide +kernel
theorem d6_57 : decode prog_45_method_2_code 57 = .ok (.putfield 41, 3) := by decide +kernel
theorem d6_60 : decode prog_45_method_2_code 60 = .ok (.aload_n 0, 1) := by decide +kernel
theorem d6_61 : decode prog_45_method_2_code 61 = .ok (.sipush 256, 3) := by decide +kernel
theorem d6_64 : decode prog_45_method_2_code 64 = .ok (.newarray .int, 2) := by decide +kernel
theorem d6_66 : decode prog_45_method_2_code 66 = .ok (.putfield 44, 3) := by decide +kernel
theorem d6_69 : decode prog_45_method_2_code 69 = .ok (.aload_n 0, 1) := by decide +kernel
theorem d6_70 : decode prog_45_method_2_code 70 = .ok (.iconst (-1), 1) := by decide +kernel
theorem d6_71 : decode prog_45_method_2_code 71 = .ok (.putfield 47, 3) := by decide +kernel
theorem d6_74 : decode prog_45_method_2_code 74 = .ok (.new 51, 3) := by decide +kernel
theorem d6_77 : decode prog_45_method_2_code 77 = .ok (.dup, 1) := by decide +kernel
theorem d6_78 : decode prog_45_method_2_code 78 = .ok (.invokespecial 53, 3) := by decide +kernel
theorem d6_81 : decode prog_45_method_2_code 81 = .ok (.astore_n 2, 1) := by decide +kernel
theorem d6_82 : decode prog_45_method_2_code 82 = .ok (.aload_n 1, 1) := by decide +kernel
theorem d6_83 : decode prog_45_method_2_code 83 = .ok (.invokeinterface 54 1, 5) := by decide +kernel
theorem pd_4 : parseMethodDescriptor "()Ljava/util/Iterator;" = some ⟨[], some (.object "java/util/Iterator")⟩ := by decide +kernel
theorem d6_88 : decode prog_45_method_2_code 88 = .ok (.astore_n 3, 1) := by decide +kernel
theorem d6_89 : decode prog_45_method_2_code 89 = .ok (.aload_n 3, 1) := by decide +kernel
theorem d6_90 : decode prog_45_method_2_code 90 = .ok (.invokeinterface 58 1, 5) := by decide +kernel
theorem d6_95 : decode prog_45_method_2_code 95 = .ok (.ifCond .eq 35, 3) := by decide +kernel
theorem d6_130 : decode prog_45_method_2_code 130 = .ok (.aload_n 0, 1) := by decide +kernel
theorem d6_131 : decode prog_45_method_2_code 131 = .ok (.aload_n 2, 1) := by decide +kernel
theorem d6_132 : decode prog_45_method_2_code 132 = .ok (.invokestatic 84, 3) := by decide +kernel
theorem pd_5 : parseMethodDescriptor "(Ljava/util/Map;)Ljava/util/Map;" = some ⟨[(.object "java/util/Map")], some (.object "java/util/Map")⟩ := by decide +kernel
theorem d6_135 : decode prog_45_method_2_code 135 = .ok (.putfield 88, 3) := by decide +kernel
theorem d6_138 : decode prog_45_method_2_code 138 = .ok (.return_, 1) := by decide +kernel
theorem ef_rm_js (m : MethodId) (x0 : Addr) (x1 : Addr) : entryFrame m #[(.ref x0), (.ref x1)] 5 = mkF m 0 #[.val (.ref x0), .val (.ref x1), .unset, .unset, .unset] [] := by first | (simp [entryFrame, mkF, argsToLocals, Value.category]; done) | rfl
theorem pn_8 : plainName "com/example/vestwork/vestwork/io/JsonScanner" = true := by first | (simp [plainName, overriddenIn]; done) | decide +kernel
def Q_rm_js (Z : State) (o0 : Addr) (o1 : Addr) (emp : Addr) (h0 : Heap) (n0 : Nat) (v : Option Value) (h : Heap) (L : List Loc) : Prop := (v = none) ∧ (Fr n0 L) ∧ (Keep h0 h [o0]) ∧ (Exa Z h o0 "com/example/vestwork/vestwork/io/JsonScanner") ∧ (Fld Z h o0 "com/example/vestwork/vestwork/io/JsonScanner" "bytes" "[B" .null) ∧ (Fld Z h o0 "com/example/vestwork/vestwork/io/JsonScanner" "start" "I" (.int (0 : Int32))) ∧ (Fld Z h o0 "com/example/vestwork/vestwork/io/JsonScanner" "end" "I" (.int (0 : Int32))) ∧ (Fld Z h o0 "com/example/vestwork/vestwork/io/JsonScanner" "at" "I" (.int (0 : Int32))) ∧ (Fld Z h o0 "com/example/vestwork/vestwork/io/JsonScanner" "depth" "I" (.int (0 : Int32))) ∧ (Fld Z h o0 "com/example/vestwork/vestwork/io/JsonScanner" "opened" "Z" (.int (0 : Int32))) ∧ (Fld Z h o0 "com/example/vestwork/vestwork/io/JsonScanner" "objects" "[Z" (.ref (h0.size))) ∧ (∃ kk, Arv Z h (h0.size) kk .boolean (1001 : Int32) [] (.int (0 : Int32)))
set_option maxRecDepth 65536 in
set_option maxHeartbeats 40000000 in
theorem rm_js (l : Launch) (Z : State) (a0 : Array Value) (hw : ∀ d ∈ tables_1, d.before a0 Z = true) (ws : List Jvm.Cond) (o0 : Addr) (o1 : Addr) (emp : Addr) (h0 : Heap) (n0 : Nat) (Z0 : n0 ≤ h0.size) (pE : Exa Z h0 o0 "com/example/vestwork/vestwork/io/JsonScanner") (pg : n0 ≤ o0) (pf0 : Fld Z h0 o0 "com/example/vestwork/vestwork/io/JsonScanner" "objects" "[Z" .null) (pf1 : Fld Z h0 o0 "com/example/vestwork/vestwork/io/JsonScanner" "nameBytes" "[[B" .null) (pf2 : Fld Z h0 o0 "com/example/vestwork/vestwork/io/JsonScanner" "names" "[Ljava/lang/String;" .null) (pf3 : Fld Z h0 o0 "com/example/vestwork/vestwork/io/JsonScanner" "places" "[I" .null) (pf4 : Fld Z h0 o0 "com/example/vestwork/vestwork/io/JsonScanner" "leading" "[I" .null) (pf5 : Fld Z h0 o0 "com/example/vestwork/vestwork/io/JsonScanner" "leadingLengths" "[I" .null) (pf6 : Fld Z h0 o0 "com/example/vestwork/vestwork/io/JsonScanner" "leadingCounts" "[I" .null) (pf7 : Fld Z h0 o0 "com/example/vestwork/vestwork/io/JsonScanner" "foreseen" "I" (.int (0 : Int32))) (pf8 : Fld Z h0 o0 "com/example/vestwork/vestwork/io/JsonScanner" "known" "Ljava/util/Map;" .null) (pf9 : Fld Z h0 o0 "com/example/vestwork/vestwork/io/JsonScanner" "bytes" "[B" .null) (pf10 : Fld Z h0 o0 "com/example/vestwork/vestwork/io/JsonScanner" "start" "I" (.int (0 : Int32))) (pf11 : Fld Z h0 o0 "com/example/vestwork/vestwork/io/JsonScanner" "end" "I" (.int (0 : Int32))) (pf12 : Fld Z h0 o0 "com/example/vestwork/vestwork/io/JsonScanner" "at" "I" (.int (0 : Int32))) (pf13 : Fld Z h0 o0 "com/example/vestwork/vestwork/io/JsonScanner" "depth" "I" (.int (0 : Int32))) (pf14 : Fld Z h0 o0 "com/example/vestwork/vestwork/io/JsonScanner" "opened" "Z" (.int (0 : Int32))) (pE1 : Exa Z h0 o1 "java/util/ArrayList") (pm1 : Fld Z h0 o1 "java/util/AbstractList" "modCount" "I" (.int (0 : Int32))) (ps1 : Fld Z h0 o1 "java/util/ArrayList" "size" "I" (.int (0 : Int32))) (pne : o1 ≠ o0) (pS : Sta Z h0 "java/util/ImmutableCollections" "EMPTY_MAP" "Ljava/util/ImmutableCollections$MapN;" (.ref emp)) :
    MetFree l (⟨"com/example/vestwork/vestwork/io/JsonScanner", "<init>", "(Ljava/util/List;)V"⟩ : MethodName) (head1 (Jvm.Cond.code (⟨"com/example/vestwork/vestwork/io/JsonScanner", "<init>", "(Ljava/util/List;)V"⟩ : MethodName) prog_45_method_2_code 5 none :: ws) ({ frames := 3, cells := 9, slots := 11509, locals := 38 } : Room)) (fun a U => a = #[(.ref o0), (.ref o1)] ∧ Z.Warmed39 U.vm ∧ U.heap = h0) (fun _ _ _ _ _ => True) (fun _ U o U' => ∃ v L, o = .returned v ∧ Q_rm_js Z o0 o1 emp h0 n0 v U'.heap L ∧ FrameEnd U o U' L ({ frames := 3, cells := 9, slots := 11509, locals := 38 } : Room).cells ({ frames := 3, cells := 9, slots := 11509, locals := 38 } : Room).slots) := by
  refine MetFree.of_bodySF (plainFor_of_name pn_8) hisR ?_
  intro p e s m args below meth c s₁ Bd hml0 hP hK
  obtain ⟨rfl, hZ, hh⟩ := hP
  have hx := Bd.exec
  have hby := Bd.bytes
  have hml : c.maxLocals = 5 := hml0
  have hown : s.vm.findClass "com/example/vestwork/vestwork/io/JsonScanner" = some m.cls := findClass_of_methodNamed Bd.named
  have hnm := (name_of_methodNamed Bd.named Bd.method).1
  have X0 : Stand p l e ({ frames := 3, cells := 9, slots := 11509, locals := 38 } : Room) s m #[(.ref o0), (.ref o1)] below meth c s₁ [] 0 0 := Stand.of_body Bd
  have e0 : s₁.heap = h0 := by rw [← hh, Bd.state]; rfl
  have N0 := Fr.nil n0
  have K0 : Keep h0 h0 [o0] := Keep.refl _ _
  have R0 : Rch p e below (s₁.setTop (entryFrame m #[(.ref o0), (.ref o1)] 5)) s₁ (mkF m 0 #[.val (.ref o0), .val (.ref o1), .unset, .unset, .unset] []) := fun t k => castTop (ef_rm_js m o0 o1) k
  have R2 : Rch p e below (s₁.setTop (entryFrame m #[(.ref o0), (.ref o1)] 5)) s₁ (mkF m 1 #[.val (.ref o0), .val (.ref o1), .unset, .unset, .unset] [(.ref o0)]) := fun t k => by
    refine R0 t ?_
    refine XS.aloadN X0.here hx rfl (hb hby d6_0) rfl rfl ?_
    exact k
  obtain ⟨T1, X1, e1, st1⟩ := initO X0 hx hZ hown (hw _ (List.mem_of_getElem? (i := 38) rfl)) (hw _ (List.mem_of_getElem? (i := 28) rfl)) (hw _ (List.mem_of_getElem? (i := 29) rfl)) e0 (g := (mkF m 1 #[.val (.ref o0), .val (.ref o1), .unset, .unset, .unset] [(.ref o0)])) rfl (by rw [hml]; rfl) rfl (hb hby d6_1) (by decide) (W := 0) (by show 2 * 0 + _ ≤ _; exact Nat.le_of_eq rfl) (by decide)
  have R4 : Rch p e below (s₁.setTop (entryFrame m #[(.ref o0), (.ref o1)] 5)) T1 (mkF m 8 #[.val (.ref o0), .val (.ref o1), .unset, .unset, .unset] [(.int (1001 : Int32)), (.ref o0)]) := fun t k => by
    refine R2 t ?_
    refine st1 _ ?_
    show Steps p.tables e below (T1.setTop (mkF m 4 #[.val (.ref o0), .val (.ref o1), .unset, .unset, .unset] [])) t
    refine XS.aloadN X1.here hx rfl (hb hby d6_4) rfl rfl ?_
    show Steps p.tables e below (T1.setTop (mkF m 5 #[.val (.ref o0), .val (.ref o1), .unset, .unset, .unset] [(.ref o0)])) t
    refine XS.sipush X1.here hx rfl (hb hby d6_5) ?_
    exact k
  obtain ⟨T3, h3, k3, X3, e3, E3, A3, st3⟩ := newP X1 hx hZ (hw _ (List.mem_of_getElem? (i := 39) rfl)) e1 (g := (mkF m 8 #[.val (.ref o0), .val (.ref o1), .unset, .unset, .unset] [(.int (1001 : Int32)), (.ref o0)])) rfl (hb hby d6_8) rfl (by decide) (cap := 1001) (by decide) (by decide) (by decide) (by decide)
  obtain ⟨b3, g3⟩ : ∃ z, z = h0.size := ⟨_, rfl⟩
  rw [← g3] at A3 st3
  have g_b3 : n0 ≤ b3 := Nat.le_trans (Nat.le_trans Z0 K0.1) (Nat.le_of_eq g3.symm)
  have sz_b3 : h0.size ≤ b3 := Nat.le_trans K0.1 (Nat.le_of_eq g3.symm)
  have K3 : Keep h0 h3 [o0] := K0.ext E3
  have V3 : Arv Z h3 b3 k3 .boolean (1001 : Int32) [] (.int (0 : Int32)) := Arv.new A3 (by decide)
  have R6 : Rch p e below (s₁.setTop (entryFrame m #[(.ref o0), (.ref o1)] 5)) T3 (mkF m 10 #[.val (.ref o0), .val (.ref o1), .unset, .unset, .unset] [(.ref b3), (.ref o0)]) := fun t k => by
    refine R4 t ?_
    refine st3 _ ?_
    exact k
  have f5 := (pf0.ext E3)
  obtain ⟨T7, h7, X7, e7, W7, st7⟩ := putF X3 hx hZ hown (host := "") (Or.inl (hw _ (List.mem_of_getElem? (i := 40) rfl))) Via.refl e3 f5 (pE.ext E3) (Or.inr ⟨(hw _ (List.mem_of_getElem? (i := 41) rfl)), rfl, hnm⟩) (hw _ (List.mem_of_getElem? (i := 7) rfl)) (ty := (.array .boolean)) (by decide) rfl rfl (g := (mkF m 10 #[.val (.ref o0), .val (.ref o1), .unset, .unset, .unset] [(.ref b3), (.ref o0)])) rfl rfl (hb hby d6_10)
  have Fw7 := f5.same W7
  have K7 : Keep h0 h7 [o0] := K3.wr W7 (Or.inl (List.mem_of_getElem? (i := 0) rfl))
  have N7 := Fr.snoc X7 N0 pg
  have R9 : Rch p e below (s₁.setTop (entryFrame m #[(.ref o0), (.ref o1)] 5)) T7 (mkF m 17 #[.val (.ref o0), .val (.ref o1), .unset, .unset, .unset] [(.int (2048 : Int32)), (.ref o0)]) := fun t k => by
    refine R6 t ?_
    refine st7 _ ?_
    show Steps p.tables e below (T7.setTop (mkF m 13 #[.val (.ref o0), .val (.ref o1), .unset, .unset, .unset] [])) t
    refine XS.aloadN X7.here hx rfl (hb hby d6_13) rfl rfl ?_
    show Steps p.tables e below (T7.setTop (mkF m 14 #[.val (.ref o0), .val (.ref o1), .unset, .unset, .unset] [(.ref o0)])) t
    refine XS.sipush X7.here hx rfl (hb hby d6_14) ?_
    exact k
  obtain ⟨T8, h8, k8, X8, e8, E8, A8, -, -, st8⟩ := newRA X7 hx hZ hown (ty := .byte) (by decide) (hw _ (List.mem_of_getElem? (i := 42) rfl)) (hw _ (List.mem_of_getElem? (i := 43) rfl)) e7 (g := (mkF m 17 #[.val (.ref o0), .val (.ref o1), .unset, .unset, .unset] [(.int (2048 : Int32)), (.ref o0)])) rfl (hb hby d6_17) rfl (by decide) (cap := 2048) (by decide) (by decide) (by decide) (by decide) rfl
  obtain ⟨b8, g8⟩ : ∃ z, z = h7.size := ⟨_, rfl⟩
  rw [← g8] at A8 st8
  have g_b8 : n0 ≤ b8 := Nat.le_trans (Nat.le_trans Z0 K7.1) (Nat.le_of_eq g8.symm)
  have sz_b8 : h0.size ≤ b8 := Nat.le_trans K7.1 (Nat.le_of_eq g8.symm)
  have K8 : Keep h0 h8 [o0] := K7.ext E8
  have V8 : Arv Z h8 b8 k8 (.array .byte) (2048 : Int32) [] .null := Arv.new A8 (by decide)
  have R11 : Rch p e below (s₁.setTop (entryFrame m #[(.ref o0), (.ref o1)] 5)) T8 (mkF m 20 #[.val (.ref o0), .val (.ref o1), .unset, .unset, .unset] [(.ref b8), (.ref o0)]) := fun t k => by
    refine R9 t ?_
    refine st8 _ ?_
    exact k
  have f10 := (((pf1.ext E3).other W7 (Or.inr (slot_ne (Or.inr (hw _ (List.mem_of_getElem? (i := 45) rfl))) (Or.inr (hw _ (List.mem_of_getElem? (i := 41) rfl))) (by decide) (t := (.array (.array .byte))) (t' := (.array .boolean)) (by decide) (by decide)))).ext E8)
  obtain ⟨T12, h12, X12, e12, W12, st12⟩ := putF X8 hx hZ hown (host := "") (Or.inl (hw _ (List.mem_of_getElem? (i := 44) rfl))) Via.refl e8 f10 (((pE.ext E3).wr W7).ext E8) (Or.inr ⟨(hw _ (List.mem_of_getElem? (i := 45) rfl)), rfl, hnm⟩) (hw _ (List.mem_of_getElem? (i := 7) rfl)) (ty := (.array (.array .byte))) (by decide) rfl rfl (g := (mkF m 20 #[.val (.ref o0), .val (.ref o1), .unset, .unset, .unset] [(.ref b8), (.ref o0)])) rfl rfl (hb hby d6_20)
  have Fw12 := f10.same W12
  have K12 : Keep h0 h12 [o0] := K8.wr W12 (Or.inl (List.mem_of_getElem? (i := 0) rfl))
  have N12 := Fr.snoc X12 N7 pg
  have R14 : Rch p e below (s₁.setTop (entryFrame m #[(.ref o0), (.ref o1)] 5)) T12 (mkF m 27 #[.val (.ref o0), .val (.ref o1), .unset, .unset, .unset] [(.int (2048 : Int32)), (.ref o0)]) := fun t k => by
    refine R11 t ?_
    refine st12 _ ?_
    show Steps p.tables e below (T12.setTop (mkF m 23 #[.val (.ref o0), .val (.ref o1), .unset, .unset, .unset] [])) t
    refine XS.aloadN X12.here hx rfl (hb hby d6_23) rfl rfl ?_
    show Steps p.tables e below (T12.setTop (mkF m 24 #[.val (.ref o0), .val (.ref o1), .unset, .unset, .unset] [(.ref o0)])) t
    refine XS.sipush X12.here hx rfl (hb hby d6_24) ?_
    exact k
  obtain ⟨T13, h13, k13, X13, e13, E13, A13, O13, st13⟩ := newR X12 hx hZ hown (hw _ (List.mem_of_getElem? (i := 46) rfl)) (hw _ (List.mem_of_getElem? (i := 47) rfl)) e12 (g := (mkF m 27 #[.val (.ref o0), .val (.ref o1), .unset, .unset, .unset] [(.int (2048 : Int32)), (.ref o0)])) rfl (hb hby d6_27) rfl (by decide) (cap := 2048) (by decide) (by decide) (by decide) (by decide)
  obtain ⟨b13, g13⟩ : ∃ z, z = h12.size := ⟨_, rfl⟩
  rw [← g13] at A13 st13
  have g_b13 : n0 ≤ b13 := Nat.le_trans (Nat.le_trans Z0 K12.1) (Nat.le_of_eq g13.symm)
  have sz_b13 : h0.size ≤ b13 := Nat.le_trans K12.1 (Nat.le_of_eq g13.symm)
  have K13 : Keep h0 h13 [o0] := K12.ext E13
  have V13 : Arv Z h13 b13 k13 (.object "java/lang/String") (2048 : Int32) [] .null := Arv.new A13 (by decide)
  have R16 : Rch p e below (s₁.setTop (entryFrame m #[(.ref o0), (.ref o1)] 5)) T13 (mkF m 30 #[.val (.ref o0), .val (.ref o1), .unset, .unset, .unset] [(.ref b13), (.ref o0)]) := fun t k => by
    refine R14 t ?_
    refine st13 _ ?_
    exact k
  have f15 := (((((pf2.ext E3).other W7 (Or.inr (slot_ne (Or.inr (hw _ (List.mem_of_getElem? (i := 49) rfl))) (Or.inr (hw _ (List.mem_of_getElem? (i := 41) rfl))) (by decide) (t := (.array (.object "java/lang/String"))) (t' := (.array .boolean)) (by decide) (by decide)))).ext E8).other W12 (Or.inr (slot_ne (Or.inr (hw _ (List.mem_of_getElem? (i := 49) rfl))) (Or.inr (hw _ (List.mem_of_getElem? (i := 45) rfl))) (by decide) (t := (.array (.object "java/lang/String"))) (t' := (.array (.array .byte))) (by decide) (by decide)))).ext E13)
  obtain ⟨T17, h17, X17, e17, W17, st17⟩ := putF X13 hx hZ hown (host := "") (Or.inl (hw _ (List.mem_of_getElem? (i := 48) rfl))) Via.refl e13 f15 (((((pE.ext E3).wr W7).ext E8).wr W12).ext E13) (Or.inr ⟨(hw _ (List.mem_of_getElem? (i := 49) rfl)), rfl, hnm⟩) (hw _ (List.mem_of_getElem? (i := 7) rfl)) (ty := (.array (.object "java/lang/String"))) (by decide) rfl rfl (g := (mkF m 30 #[.val (.ref o0), .val (.ref o1), .unset, .unset, .unset] [(.ref b13), (.ref o0)])) rfl rfl (hb hby d6_30)
  have Fw17 := f15.same W17
  have K17 : Keep h0 h17 [o0] := K13.wr W17 (Or.inl (List.mem_of_getElem? (i := 0) rfl))
  have N17 := Fr.snoc X17 N12 pg
  have R19 : Rch p e below (s₁.setTop (entryFrame m #[(.ref o0), (.ref o1)] 5)) T17 (mkF m 37 #[.val (.ref o0), .val (.ref o1), .unset, .unset, .unset] [(.int (2048 : Int32)), (.ref o0)]) := fun t k => by
    refine R16 t ?_
    refine st17 _ ?_
    show Steps p.tables e below (T17.setTop (mkF m 33 #[.val (.ref o0), .val (.ref o1), .unset, .unset, .unset] [])) t
    refine XS.aloadN X17.here hx rfl (hb hby d6_33) rfl rfl ?_
    show Steps p.tables e below (T17.setTop (mkF m 34 #[.val (.ref o0), .val (.ref o1), .unset, .unset, .unset] [(.ref o0)])) t
    refine XS.sipush X17.here hx rfl (hb hby d6_34) ?_
    exact k
  obtain ⟨T18, h18, k18, X18, e18, E18, A18, st18⟩ := newP X17 hx hZ (hw _ (List.mem_of_getElem? (i := 50) rfl)) e17 (g := (mkF m 37 #[.val (.ref o0), .val (.ref o1), .unset, .unset, .unset] [(.int (2048 : Int32)), (.ref o0)])) rfl (hb hby d6_37) rfl (by decide) (cap := 2048) (by decide) (by decide) (by decide) (by decide)
  obtain ⟨b18, g18⟩ : ∃ z, z = h17.size := ⟨_, rfl⟩
  rw [← g18] at A18 st18
  have g_b18 : n0 ≤ b18 := Nat.le_trans (Nat.le_trans Z0 K17.1) (Nat.le_of_eq g18.symm)
  have sz_b18 : h0.size ≤ b18 := Nat.le_trans K17.1 (Nat.le_of_eq g18.symm)
  have K18 : Keep h0 h18 [o0] := K17.ext E18
  have V18 : Arv Z h18 b18 k18 .int (2048 : Int32) [] (.int (0 : Int32)) := Arv.new A18 (by decide)
  have R21 : Rch p e below (s₁.setTop (entryFrame m #[(.ref o0), (.ref o1)] 5)) T18 (mkF m 39 #[.val (.ref o0), .val (.ref o1), .unset, .unset, .unset] [(.ref b18), (.ref o0)]) := fun t k => by
    refine R19 t ?_
    refine st18 _ ?_
    exact k
  have f20 := (((((((pf3.ext E3).other W7 (Or.inr (slot_ne (Or.inr (hw _ (List.mem_of_getElem? (i := 52) rfl))) (Or.inr (hw _ (List.mem_of_getElem? (i := 41) rfl))) (by decide) (t := (.array .int)) (t' := (.array .boolean)) (by decide) (by decide)))).ext E8).other W12 (Or.inr (slot_ne (Or.inr (hw _ (List.mem_of_getElem? (i := 52) rfl))) (Or.inr (hw _ (List.mem_of_getElem? (i := 45) rfl))) (by decide) (t := (.array .int)) (t' := (.array (.array .byte))) (by decide) (by decide)))).ext E13).other W17 (Or.inr (slot_ne (Or.inr (hw _ (List.mem_of_getElem? (i := 52) rfl))) (Or.inr (hw _ (List.mem_of_getElem? (i := 49) rfl))) (by decide) (t := (.array .int)) (t' := (.array (.object "java/lang/String"))) (by decide) (by decide)))).ext E18)
  obtain ⟨T22, h22, X22, e22, W22, st22⟩ := putF X18 hx hZ hown (host := "") (Or.inl (hw _ (List.mem_of_getElem? (i := 51) rfl))) Via.refl e18 f20 (((((((pE.ext E3).wr W7).ext E8).wr W12).ext E13).wr W17).ext E18) (Or.inr ⟨(hw _ (List.mem_of_getElem? (i := 52) rfl)), rfl, hnm⟩) (hw _ (List.mem_of_getElem? (i := 7) rfl)) (ty := (.array .int)) (by decide) rfl rfl (g := (mkF m 39 #[.val (.ref o0), .val (.ref o1), .unset, .unset, .unset] [(.ref b18), (.ref o0)])) rfl rfl (hb hby d6_39)
  have Fw22 := f20.same W22
  have K22 : Keep h0 h22 [o0] := K18.wr W22 (Or.inl (List.mem_of_getElem? (i := 0) rfl))
  have N22 := Fr.snoc X22 N17 pg
  have R24 : Rch p e below (s₁.setTop (entryFrame m #[(.ref o0), (.ref o1)] 5)) T22 (mkF m 46 #[.val (.ref o0), .val (.ref o1), .unset, .unset, .unset] [(.int (2048 : Int32)), (.ref o0)]) := fun t k => by
    refine R21 t ?_
    refine st22 _ ?_
    show Steps p.tables e below (T22.setTop (mkF m 42 #[.val (.ref o0), .val (.ref o1), .unset, .unset, .unset] [])) t
    refine XS.aloadN X22.here hx rfl (hb hby d6_42) rfl rfl ?_
    show Steps p.tables e below (T22.setTop (mkF m 43 #[.val (.ref o0), .val (.ref o1), .unset, .unset, .unset] [(.ref o0)])) t
    refine XS.sipush X22.here hx rfl (hb hby d6_43) ?_
    exact k
  obtain ⟨T23, h23, k23, X23, e23, E23, A23, st23⟩ := newP X22 hx hZ (hw _ (List.mem_of_getElem? (i := 50) rfl)) e22 (g := (mkF m 46 #[.val (.ref o0), .val (.ref o1), .unset, .unset, .unset] [(.int (2048 : Int32)), (.ref o0)])) rfl (hb hby d6_46) rfl (by decide) (cap := 2048) (by decide) (by decide) (by decide) (by decide)
  obtain ⟨b23, g23⟩ : ∃ z, z = h22.size := ⟨_, rfl⟩
  rw [← g23] at A23 st23
  have g_b23 : n0 ≤ b23 := Nat.le_trans (Nat.le_trans Z0 K22.1) (Nat.le_of_eq g23.symm)
  have sz_b23 : h0.size ≤ b23 := Nat.le_trans K22.1 (Nat.le_of_eq g23.symm)
  have K23 : Keep h0 h23 [o0] := K22.ext E23
  have V23 : Arv Z h23 b23 k23 .int (2048 : Int32) [] (.int (0 : Int32)) := Arv.new A23 (by decide)
  have R26 : Rch p e below (s₁.setTop (entryFrame m #[(.ref o0), (.ref o1)] 5)) T23 (mkF m 48 #[.val (.ref o0), .val (.ref o1), .unset, .unset, .unset] [(.ref b23), (.ref o0)]) := fun t k => by
    refine R24 t ?_
    refine st23 _ ?_
    exact k
  have f25 := (((((((((pf4.ext E3).other W7 (Or.inr (slot_ne (Or.inr (hw _ (List.mem_of_getElem? (i := 54) rfl))) (Or.inr (hw _ (List.mem_of_getElem? (i := 41) rfl))) (by decide) (t := (.array .int)) (t' := (.array .boolean)) (by decide) (by decide)))).ext E8).other W12 (Or.inr (slot_ne (Or.inr (hw _ (List.mem_of_getElem? (i := 54) rfl))) (Or.inr (hw _ (List.mem_of_getElem? (i := 45) rfl))) (by decide) (t := (.array .int)) (t' := (.array (.array .byte))) (by decide) (by decide)))).ext E13).other W17 (Or.inr (slot_ne (Or.inr (hw _ (List.mem_of_getElem? (i := 54) rfl))) (Or.inr (hw _ (List.mem_of_getElem? (i := 49) rfl))) (by decide) (t := (.array .int)) (t' := (.array (.object "java/lang/String"))) (by decide) (by decide)))).ext E18).other W22 (Or.inr (slot_ne (Or.inr (hw _ (List.mem_of_getElem? (i := 54) rfl))) (Or.inr (hw _ (List.mem_of_getElem? (i := 52) rfl))) (by decide) (t := (.array .int)) (t' := (.array .int)) (by decide) (by decide)))).ext E23)
  obtain ⟨T27, h27, X27, e27, W27, st27⟩ := putF X23 hx hZ hown (host := "") (Or.inl (hw _ (List.mem_of_getElem? (i := 53) rfl))) Via.refl e23 f25 (((((((((pE.ext E3).wr W7).ext E8).wr W12).ext E13).wr W17).ext E18).wr W22).ext E23) (Or.inr ⟨(hw _ (List.mem_of_getElem? (i := 54) rfl)), rfl, hnm⟩) (hw _ (List.mem_of_getElem? (i := 7) rfl)) (ty := (.array .int)) (by decide) rfl rfl (g := (mkF m 48 #[.val (.ref o0), .val (.ref o1), .unset, .unset, .unset] [(.ref b23), (.ref o0)])) rfl rfl (hb hby d6_48)
  have Fw27 := f25.same W27
  have K27 : Keep h0 h27 [o0] := K23.wr W27 (Or.inl (List.mem_of_getElem? (i := 0) rfl))
  have N27 := Fr.snoc X27 N22 pg
  have R29 : Rch p e below (s₁.setTop (entryFrame m #[(.ref o0), (.ref o1)] 5)) T27 (mkF m 55 #[.val (.ref o0), .val (.ref o1), .unset, .unset, .unset] [(.int (2048 : Int32)), (.ref o0)]) := fun t k => by
    refine R26 t ?_
    refine st27 _ ?_
    show Steps p.tables e below (T27.setTop (mkF m 51 #[.val (.ref o0), .val (.ref o1), .unset, .unset, .unset] [])) t
    refine XS.aloadN X27.here hx rfl (hb hby d6_51) rfl rfl ?_
    show Steps p.tables e below (T27.setTop (mkF m 52 #[.val (.ref o0), .val (.ref o1), .unset, .unset, .unset] [(.ref o0)])) t
    refine XS.sipush X27.here hx rfl (hb hby d6_52) ?_
    exact k
  obtain ⟨T28, h28, k28, X28, e28, E28, A28, st28⟩ := newP X27 hx hZ (hw _ (List.mem_of_getElem? (i := 50) rfl)) e27 (g := (mkF m 55 #[.val (.ref o0), .val (.ref o1), .unset, .unset, .unset] [(.int (2048 : Int32)), (.ref o0)])) rfl (hb hby d6_55) rfl (by decide) (cap := 2048) (by decide) (by decide) (by decide) (by decide)
  obtain ⟨b28, g28⟩ : ∃ z, z = h27.size := ⟨_, rfl⟩
  rw [← g28] at A28 st28
  have g_b28 : n0 ≤ b28 := Nat.le_trans (Nat.le_trans Z0 K27.1) (Nat.le_of_eq g28.symm)
  have sz_b28 : h0.size ≤ b28 := Nat.le_trans K27.1 (Nat.le_of_eq g28.symm)
  have K28 : Keep h0 h28 [o0] := K27.ext E28
  have V28 : Arv Z h28 b28 k28 .int (2048 : Int32) [] (.int (0 : Int32)) := Arv.new A28 (by decide)
  have R31 : Rch p e below (s₁.setTop (entryFrame m #[(.ref o0), (.ref o1)] 5)) T28 (mkF m 57 #[.val (.ref o0), .val (.ref o1), .unset, .unset, .unset] [(.ref b28), (.ref o0)]) := fun t k => by
    refine R29 t ?_
    refine st28 _ ?_
    exact k
  have f30 := (((((((((((pf5.ext E3).other W7 (Or.inr (slot_ne (Or.inr (hw _ (List.mem_of_getElem? (i := 56) rfl))) (Or.inr (hw _ (List.mem_of_getElem? (i := 41) rfl))) (by decide) (t := (.array .int)) (t' := (.array .boolean)) (by decide) (by decide)))).ext E8).other W12 (Or.inr (slot_ne (Or.inr (hw _ (List.mem_of_getElem? (i := 56) rfl))) (Or.inr (hw _ (List.mem_of_getElem? (i := 45) rfl))) (by decide) (t := (.array .int)) (t' := (.array (.array .byte))) (by decide) (by decide)))).ext E13).other W17 (Or.inr (slot_ne (Or.inr (hw _ (List.mem_of_getElem? (i := 56) rfl))) (Or.inr (hw _ (List.mem_of_getElem? (i := 49) rfl))) (by decide) (t := (.array .int)) (t' := (.array (.object "java/lang/String"))) (by decide) (by decide)))).ext E18).other W22 (Or.inr (slot_ne (Or.inr (hw _ (List.mem_of_getElem? (i := 56) rfl))) (Or.inr (hw _ (List.mem_of_getElem? (i := 52) rfl))) (by decide) (t := (.array .int)) (t' := (.array .int)) (by decide) (by decide)))).ext E23).other W27 (Or.inr (slot_ne (Or.inr (hw _ (List.mem_of_getElem? (i := 56) rfl))) (Or.inr (hw _ (List.mem_of_getElem? (i := 54) rfl))) (by decide) (t := (.array .int)) (t' := (.array .int)) (by decide) (by decide)))).ext E28)
  obtain ⟨T32, h32, X32, e32, W32, st32⟩ := putF X28 hx hZ hown (host := "") (Or.inl (hw _ (List.mem_of_getElem? (i := 55) rfl))) Via.refl e28 f30 (((((((((((pE.ext E3).wr W7).ext E8).wr W12).ext E13).wr W17).ext E18).wr W22).ext E23).wr W27).ext E28) (Or.inr ⟨(hw _ (List.mem_of_getElem? (i := 56) rfl)), rfl, hnm⟩) (hw _ (List.mem_of_getElem? (i := 7) rfl)) (ty := (.array .int)) (by decide) rfl rfl (g := (mkF m 57 #[.val (.ref o0), .val (.ref o1), .unset, .unset, .unset] [(.ref b28), (.ref o0)])) rfl rfl (hb hby d6_57)
  have Fw32 := f30.same W32
  have K32 : Keep h0 h32 [o0] := K28.wr W32 (Or.inl (List.mem_of_getElem? (i := 0) rfl))
  have N32 := Fr.snoc X32 N27 pg
  have R34 : Rch p e below (s₁.setTop (entryFrame m #[(.ref o0), (.ref o1)] 5)) T32 (mkF m 64 #[.val (.ref o0), .val (.ref o1), .unset, .unset, .unset] [(.int (256 : Int32)), (.ref o0)]) := fun t k => by
    refine R31 t ?_
    refine st32 _ ?_
    show Steps p.tables e below (T32.setTop (mkF m 60 #[.val (.ref o0), .val (.ref o1), .unset, .unset, .unset] [])) t
    refine XS.aloadN X32.here hx rfl (hb hby d6_60) rfl rfl ?_
    show Steps p.tables e below (T32.setTop (mkF m 61 #[.val (.ref o0), .val (.ref o1), .unset, .unset, .unset] [(.ref o0)])) t
    refine XS.sipush X32.here hx rfl (hb hby d6_61) ?_
    exact k
  obtain ⟨T33, h33, k33, X33, e33, E33, A33, st33⟩ := newP X32 hx hZ (hw _ (List.mem_of_getElem? (i := 50) rfl)) e32 (g := (mkF m 64 #[.val (.ref o0), .val (.ref o1), .unset, .unset, .unset] [(.int (256 : Int32)), (.ref o0)])) rfl (hb hby d6_64) rfl (by decide) (cap := 256) (by decide) (by decide) (by decide) (by decide)
  obtain ⟨b33, g33⟩ : ∃ z, z = h32.size := ⟨_, rfl⟩
  rw [← g33] at A33 st33
  have g_b33 : n0 ≤ b33 := Nat.le_trans (Nat.le_trans Z0 K32.1) (Nat.le_of_eq g33.symm)
  have sz_b33 : h0.size ≤ b33 := Nat.le_trans K32.1 (Nat.le_of_eq g33.symm)
  have K33 : Keep h0 h33 [o0] := K32.ext E33
  have V33 : Arv Z h33 b33 k33 .int (256 : Int32) [] (.int (0 : Int32)) := Arv.new A33 (by decide)
  have R36 : Rch p e below (s₁.setTop (entryFrame m #[(.ref o0), (.ref o1)] 5)) T33 (mkF m 66 #[.val (.ref o0), .val (.ref o1), .unset, .unset, .unset] [(.ref b33), (.ref o0)]) := fun t k => by
    refine R34 t ?_
    refine st33 _ ?_
    exact k
  have f35 := (((((((((((((pf6.ext E3).other W7 (Or.inr (slot_ne (Or.inr (hw _ (List.mem_of_getElem? (i := 58) rfl))) (Or.inr (hw _ (List.mem_of_getElem? (i := 41) rfl))) (by decide) (t := (.array .int)) (t' := (.array .boolean)) (by decide) (by decide)))).ext E8).other W12 (Or.inr (slot_ne (Or.inr (hw _ (List.mem_of_getElem? (i := 58) rfl))) (Or.inr (hw _ (List.mem_of_getElem? (i := 45) rfl))) (by decide) (t := (.array .int)) (t' := (.array (.array .byte))) (by decide) (by decide)))).ext E13).other W17 (Or.inr (slot_ne (Or.inr (hw _ (List.mem_of_getElem? (i := 58) rfl))) (Or.inr (hw _ (List.mem_of_getElem? (i := 49) rfl))) (by decide) (t := (.array .int)) (t' := (.array (.object "java/lang/String"))) (by decide) (by decide)))).ext E18).other W22 (Or.inr (slot_ne (Or.inr (hw _ (List.mem_of_getElem? (i := 58) rfl))) (Or.inr (hw _ (List.mem_of_getElem? (i := 52) rfl))) (by decide) (t := (.array .int)) (t' := (.array .int)) (by decide) (by decide)))).ext E23).other W27 (Or.inr (slot_ne (Or.inr (hw _ (List.mem_of_getElem? (i := 58) rfl))) (Or.inr (hw _ (List.mem_of_getElem? (i := 54) rfl))) (by decide) (t := (.array .int)) (t' := (.array .int)) (by decide) (by decide)))).ext E28).other W32 (Or.inr (slot_ne (Or.inr (hw _ (List.mem_of_getElem? (i := 58) rfl))) (Or.inr (hw _ (List.mem_of_getElem? (i := 56) rfl))) (by decide) (t := (.array .int)) (t' := (.array .int)) (by decide) (by decide)))).ext E33)
  obtain ⟨T37, h37, X37, e37, W37, st37⟩ := putF X33 hx hZ hown (host := "") (Or.inl (hw _ (List.mem_of_getElem? (i := 57) rfl))) Via.refl e33 f35 (((((((((((((pE.ext E3).wr W7).ext E8).wr W12).ext E13).wr W17).ext E18).wr W22).ext E23).wr W27).ext E28).wr W32).ext E33) (Or.inr ⟨(hw _ (List.mem_of_getElem? (i := 58) rfl)), rfl, hnm⟩) (hw _ (List.mem_of_getElem? (i := 7) rfl)) (ty := (.array .int)) (by decide) rfl rfl (g := (mkF m 66 #[.val (.ref o0), .val (.ref o1), .unset, .unset, .unset] [(.ref b33), (.ref o0)])) rfl rfl (hb hby d6_66)
  have Fw37 := f35.same W37
  have K37 : Keep h0 h37 [o0] := K33.wr W37 (Or.inl (List.mem_of_getElem? (i := 0) rfl))
  have N37 := Fr.snoc X37 N32 pg
  have R39 : Rch p e below (s₁.setTop (entryFrame m #[(.ref o0), (.ref o1)] 5)) T37 (mkF m 71 #[.val (.ref o0), .val (.ref o1), .unset, .unset, .unset] [(.int (-1 : Int32)), (.ref o0)]) := fun t k => by
    refine R36 t ?_
    refine st37 _ ?_
    show Steps p.tables e below (T37.setTop (mkF m 69 #[.val (.ref o0), .val (.ref o1), .unset, .unset, .unset] [])) t
    refine XS.aloadN X37.here hx rfl (hb hby d6_69) rfl rfl ?_
    show Steps p.tables e below (T37.setTop (mkF m 70 #[.val (.ref o0), .val (.ref o1), .unset, .unset, .unset] [(.ref o0)])) t
    refine XS.iconst X37.here hx rfl (hb hby d6_70) ?_
    exact k
  have f38 := ((((((((((((((pf7.ext E3).other W7 (Or.inr (slot_ne (Or.inl (hw _ (List.mem_of_getElem? (i := 60) rfl))) (Or.inr (hw _ (List.mem_of_getElem? (i := 41) rfl))) (by decide) (t := .int) (t' := (.array .boolean)) (by decide) (by decide)))).ext E8).other W12 (Or.inr (slot_ne (Or.inl (hw _ (List.mem_of_getElem? (i := 60) rfl))) (Or.inr (hw _ (List.mem_of_getElem? (i := 45) rfl))) (by decide) (t := .int) (t' := (.array (.array .byte))) (by decide) (by decide)))).ext E13).other W17 (Or.inr (slot_ne (Or.inl (hw _ (List.mem_of_getElem? (i := 60) rfl))) (Or.inr (hw _ (List.mem_of_getElem? (i := 49) rfl))) (by decide) (t := .int) (t' := (.array (.object "java/lang/String"))) (by decide) (by decide)))).ext E18).other W22 (Or.inr (slot_ne (Or.inl (hw _ (List.mem_of_getElem? (i := 60) rfl))) (Or.inr (hw _ (List.mem_of_getElem? (i := 52) rfl))) (by decide) (t := .int) (t' := (.array .int)) (by decide) (by decide)))).ext E23).other W27 (Or.inr (slot_ne (Or.inl (hw _ (List.mem_of_getElem? (i := 60) rfl))) (Or.inr (hw _ (List.mem_of_getElem? (i := 54) rfl))) (by decide) (t := .int) (t' := (.array .int)) (by decide) (by decide)))).ext E28).other W32 (Or.inr (slot_ne (Or.inl (hw _ (List.mem_of_getElem? (i := 60) rfl))) (Or.inr (hw _ (List.mem_of_getElem? (i := 56) rfl))) (by decide) (t := .int) (t' := (.array .int)) (by decide) (by decide)))).ext E33).other W37 (Or.inr (slot_ne (Or.inl (hw _ (List.mem_of_getElem? (i := 60) rfl))) (Or.inr (hw _ (List.mem_of_getElem? (i := 58) rfl))) (by decide) (t := .int) (t' := (.array .int)) (by decide) (by decide))))
  obtain ⟨T40, h40, X40, e40, W40, st40⟩ := putF X37 hx hZ hown (host := "") (Or.inl (hw _ (List.mem_of_getElem? (i := 59) rfl))) Via.refl e37 f38 ((((((((((((((pE.ext E3).wr W7).ext E8).wr W12).ext E13).wr W17).ext E18).wr W22).ext E23).wr W27).ext E28).wr W32).ext E33).wr W37) (Or.inl (hw _ (List.mem_of_getElem? (i := 60) rfl))) (hw _ (List.mem_of_getElem? (i := 7) rfl)) (ty := .int) (by decide) rfl rfl (g := (mkF m 71 #[.val (.ref o0), .val (.ref o1), .unset, .unset, .unset] [(.int (-1 : Int32)), (.ref o0)])) rfl rfl (hb hby d6_71)
  have Fw40 := f38.same W40
  have K40 : Keep h0 h40 [o0] := K37.wr W40 (Or.inl (List.mem_of_getElem? (i := 0) rfl))
  have N40 := Fr.snoc X40 N37 pg
  have R42 : Rch p e below (s₁.setTop (entryFrame m #[(.ref o0), (.ref o1)] 5)) T40 (mkF m 74 #[.val (.ref o0), .val (.ref o1), .unset, .unset, .unset] []) := fun t k => by
    refine R39 t ?_
    refine st40 _ ?_
    exact k
  obtain ⟨T41, h41, X41, e41, E41, A41, D41, -, st41⟩ := newO X40 hx hZ hown (hw _ (List.mem_of_getElem? (i := 61) rfl)) (hw _ (List.mem_of_getElem? (i := 62) rfl)) (hw _ (List.mem_of_getElem? (i := 63) rfl)) e40 (g := (mkF m 74 #[.val (.ref o0), .val (.ref o1), .unset, .unset, .unset] [])) rfl (hb hby d6_74) (by decide) (by decide)
  obtain ⟨b41, g41⟩ : ∃ z, z = h40.size := ⟨_, rfl⟩
  rw [← g41] at A41 D41 st41
  have g_b41 : n0 ≤ b41 := Nat.le_trans (Nat.le_trans Z0 K40.1) (Nat.le_of_eq g41.symm)
  have sz_b41 : h0.size ≤ b41 := Nat.le_trans K40.1 (Nat.le_of_eq g41.symm)
  have K41 : Keep h0 h41 [o0] := K40.ext E41
  have F41_loadFactor : Fld Z h41 b41 "java/util/HashMap" "loadFactor" "F" (.float 0) := D41 (Or.inr (hw _ (List.mem_of_getElem? (i := 76) rfl))) (ty := .float) (by decide)
  have F41_size : Fld Z h41 b41 "java/util/HashMap" "size" "I" (.int (0 : Int32)) := D41 (Or.inl (hw _ (List.mem_of_getElem? (i := 133) rfl))) (ty := .int) (by decide)
  have R44 : Rch p e below (s₁.setTop (entryFrame m #[(.ref o0), (.ref o1)] 5)) T41 (mkF m 78 #[.val (.ref o0), .val (.ref o1), .unset, .unset, .unset] [(.ref b41), (.ref b41)]) := fun t k => by
    refine R42 t ?_
    refine st41 _ ?_
    show Steps p.tables e below (T41.setTop (mkF m 77 #[.val (.ref o0), .val (.ref o1), .unset, .unset, .unset] [(.ref b41)])) t
    refine XS.dup X41.here hx rfl (hb hby d6_77) rfl rfl ?_
    exact k
  obtain ⟨_, _, ⟨T43, L43, k43, n43⟩, -, X43, ⟨Lc43, hQ43, l43, y43, z43⟩, st43⟩ := X41.specialBack hx (y := (⟨"java/util/HashMap", "<init>", "()V"⟩ : MethodName)) rfl hown (mvT hZ (hw _ (List.mem_of_getElem? (i := 64) rfl))) (mvT hZ (hw _ (List.mem_of_getElem? (i := 65) rfl))) (mvT hZ (hw _ (List.mem_of_getElem? (i := 66) rfl))) (by decide) (backOf (W := 1) (rm_hm l Z a0 hw [] b41 h41 n0 (Nat.le_trans Z0 K41.1) A41 g_b41 F41_loadFactor F41_size) hZ (hw _ (List.mem_of_getElem? (i := 66) rfl)) (hw _ (List.mem_of_getElem? (i := 63) rfl)) (by decide) (by decide)) (g := (mkF m 78 #[.val (.ref o0), .val (.ref o1), .unset, .unset, .unset] [(.ref b41), (.ref b41)])) rfl (by rw [hml]; rfl) (Steps.refl _) (a := b41) (argsL := []) (rest := [(.ref b41)]) (lenOf pd_0 rfl) rfl (by show 2 * 0 + _ ≤ _; exact Nat.le_of_eq rfl) (hb hby d6_78) (fun _ _ => ⟨rfl, e41, (by decide : 8 + 0 ≤ _), (by decide : 11505 + 0 ≤ _)⟩)
  dsimp only [Pt.U, Pt.locs, Pt.cells, Pt.slots] at X43 l43 y43 z43 st43 hQ43
  subst l43 y43 z43
  obtain ⟨rfl, N43q, Kc43, c43_E, c43_s⟩ := hQ43
  have N43 := Fr.app N40 N43q
  have K43 : Keep h0 T43.heap [o0] := K41.trans Kc43 (allS (Or.inr sz_b41) all0)
  have R46 : Rch p e below (s₁.setTop (entryFrame m #[(.ref o0), (.ref o1)] 5)) T43 (mkF m 83 #[.val (.ref o0), .val (.ref o1), .val (.ref b41), .unset, .unset] [(.ref o1)]) := fun t k => by
    refine R44 t ?_
    refine st43.trans ?_
    show Steps p.tables e below (T43.setTop (mkF m 81 #[.val (.ref o0), .val (.ref o1), .unset, .unset, .unset] [(.ref b41)])) t
    refine XS.astoreN X43.here hx rfl (hb hby d6_81) rfl rfl (l' := #[.val (.ref o0), .val (.ref o1), .val (.ref b41), .unset, .unset]) rfl ?_
    show Steps p.tables e below (T43.setTop (mkF m 82 #[.val (.ref o0), .val (.ref o1), .val (.ref b41), .unset, .unset] [])) t
    refine XS.aloadN X43.here hx rfl (hb hby d6_82) rfl rfl ?_
    exact k
  obtain ⟨cq45, kq45, q45a, q45b, q45c⟩ := isOf hZ rfl (((((((((((((((((pE1.ext E3).wr W7).ext E8).wr W12).ext E13).wr W17).ext E18).wr W22).ext E23).wr W27).ext E28).wr W32).ext E33).wr W37).wr W40).ext E41).keep Kc43)
  obtain ⟨_, _, ⟨T45, L45, k45, n45⟩, -, X45, ⟨Lc45, hQ45, l45, y45, z45⟩, st45⟩ := X43.interfaceBack hx (xi := (⟨"java/util/List", "iterator", "()Ljava/util/Iterator;"⟩ : MethodName)) (y := (⟨"java/util/ArrayList", "iterator", "()Ljava/util/Iterator;"⟩ : MethodName)) hown (mvT hZ (hw _ (List.mem_of_getElem? (i := 77) rfl))) (mvT hZ (hw _ (List.mem_of_getElem? (i := 78) rfl))) (mvT hZ (hw _ (List.mem_of_getElem? (i := 79) rfl))) (mvT hZ (hw _ (List.mem_of_getElem? (i := 80) rfl))) (mvT hZ (hw _ (List.mem_of_getElem? (i := 81) rfl))) (mvT hZ (hw _ (List.mem_of_getElem? (i := 82) rfl))) (mvT hZ (hw _ (List.mem_of_getElem? (i := 83) rfl))) (mvT hZ (hw _ (List.mem_of_getElem? (i := 84) rfl))) (by decide) (backOf (W := 0) (rm_iter l Z a0 hw [] o1 T43.heap n0 (Nat.le_trans Z0 K43.1) (((((((((((((((((pm1.ext E3).other W7 (Or.inl pne)).ext E8).other W12 (Or.inl pne)).ext E13).other W17 (Or.inl pne)).ext E18).other W22 (Or.inl pne)).ext E23).other W27 (Or.inl pne)).ext E28).other W32 (Or.inl pne)).ext E33).other W37 (Or.inl pne)).other W40 (Or.inl pne)).ext E41).keep Kc43 (ninS (Nat.ne_of_lt (Nat.lt_of_lt_of_le (((((((((((((((pE1.ext E3).wr W7).ext E8).wr W12).ext E13).wr W17).ext E18).wr W22).ext E23).wr W27).ext E28).wr W32).ext E33).wr W37).wr W40).lt (Nat.le_of_eq g41.symm))) nin0))) hZ (hw _ (List.mem_of_getElem? (i := 85) rfl)) (hw _ (List.mem_of_getElem? (i := 11) rfl)) (by decide) (by decide)) q45a q45b q45c (g := (mkF m 83 #[.val (.ref o0), .val (.ref o1), .val (.ref b41), .unset, .unset] [(.ref o1)])) rfl (by rw [hml]; rfl) (Steps.refl _) (argsL := []) (rest := []) (lenOf pd_4 rfl) rfl (by show 2 * 0 + _ ≤ _; exact Nat.le_of_eq rfl) (hb hby d6_83) (fun _ _ => ⟨rfl, rfl, (by decide : 8 + 1 ≤ _), (by decide : 11505 + 4 ≤ _)⟩)
  dsimp only [Pt.U, Pt.locs, Pt.cells, Pt.slots] at X45 l45 y45 z45 st45 hQ45
  subst l45 y45 z45
  obtain ⟨rfl, N45q, Kc45, c45_E, c45_t, c45_c⟩ := hQ45
  have N45 := Fr.app N43 N45q
  have K45 : Keep h0 T45.heap [o0] := K43.trans Kc45 all0
  obtain ⟨it, hit⟩ : ∃ z, z = T43.heap.size := ⟨_, rfl⟩
  rw [← hit] at c45_E c45_t c45_c st45
  have R48 : Rch p e below (s₁.setTop (entryFrame m #[(.ref o0), (.ref o1)] 5)) T45 (mkF m 90 #[.val (.ref o0), .val (.ref o1), .val (.ref b41), .val (.ref it), .unset] [(.ref it)]) := fun t k => by
    refine R46 t ?_
    refine st45.trans ?_
    show Steps p.tables e below (T45.setTop (mkF m 88 #[.val (.ref o0), .val (.ref o1), .val (.ref b41), .unset, .unset] [(.ref it)])) t
    refine XS.astoreN X45.here hx rfl (hb hby d6_88) rfl rfl (l' := #[.val (.ref o0), .val (.ref o1), .val (.ref b41), .val (.ref it), .unset]) rfl ?_
    show Steps p.tables e below (T45.setTop (mkF m 89 #[.val (.ref o0), .val (.ref o1), .val (.ref b41), .val (.ref it), .unset] [])) t
    refine XS.aloadN X45.here hx rfl (hb hby d6_89) rfl rfl ?_
    exact k
  obtain ⟨cq47, kq47, q47a, q47b, q47c⟩ := isOf hZ rfl c45_E
  obtain ⟨_, _, ⟨T47, L47, k47, n47⟩, -, X47, ⟨Lc47, hQ47, l47, y47, z47⟩, st47⟩ := X45.interfaceBack hx (xi := (⟨"java/util/Iterator", "hasNext", "()Z"⟩ : MethodName)) (y := (⟨"java/util/ArrayList$Itr", "hasNext", "()Z"⟩ : MethodName)) hown (mvT hZ (hw _ (List.mem_of_getElem? (i := 102) rfl))) (mvT hZ (hw _ (List.mem_of_getElem? (i := 103) rfl))) (mvT hZ (hw _ (List.mem_of_getElem? (i := 104) rfl))) (mvT hZ (hw _ (List.mem_of_getElem? (i := 105) rfl))) (mvT hZ (hw _ (List.mem_of_getElem? (i := 106) rfl))) (mvT hZ (hw _ (List.mem_of_getElem? (i := 107) rfl))) (mvT hZ (hw _ (List.mem_of_getElem? (i := 108) rfl))) (mvT hZ (hw _ (List.mem_of_getElem? (i := 109) rfl))) (by decide) (backOf (W := 0) (rm_hn l Z a0 hw [] it o1 T45.heap n0 (Nat.le_trans Z0 K45.1) c45_c c45_t ((((((((((((((((((ps1.ext E3).other W7 (Or.inl pne)).ext E8).other W12 (Or.inl pne)).ext E13).other W17 (Or.inl pne)).ext E18).other W22 (Or.inl pne)).ext E23).other W27 (Or.inl pne)).ext E28).other W32 (Or.inl pne)).ext E33).other W37 (Or.inl pne)).other W40 (Or.inl pne)).ext E41).keep Kc43 (ninS (Nat.ne_of_lt (Nat.lt_of_lt_of_le (((((((((((((((pE1.ext E3).wr W7).ext E8).wr W12).ext E13).wr W17).ext E18).wr W22).ext E23).wr W27).ext E28).wr W32).ext E33).wr W37).wr W40).lt (Nat.le_of_eq g41.symm))) nin0)).keep Kc45 nin0)) hZ (hw _ (List.mem_of_getElem? (i := 110) rfl)) (hw _ (List.mem_of_getElem? (i := 88) rfl)) (by decide) (by decide)) q47a q47b q47c (g := (mkF m 90 #[.val (.ref o0), .val (.ref o1), .val (.ref b41), .val (.ref it), .unset] [(.ref it)])) rfl (by rw [hml]; rfl) (Steps.refl _) (argsL := []) (rest := []) (lenOf pd_2 rfl) rfl (by show 2 * 0 + _ ≤ _; exact Nat.le_of_eq rfl) (hb hby d6_90) (fun _ _ => ⟨rfl, rfl, (by decide : 9 + 0 ≤ _), (by decide : 11509 + 0 ≤ _)⟩)
  dsimp only [Pt.U, Pt.locs, Pt.cells, Pt.slots] at X47 l47 y47 z47 st47 hQ47
  subst l47 y47 z47
  obtain ⟨rfl, N47q, e47⟩ := hQ47
  have N47 := Fr.app N45 N47q
  have R49 : Rch p e below (s₁.setTop (entryFrame m #[(.ref o0), (.ref o1)] 5)) T47 (mkF m 132 #[.val (.ref o0), .val (.ref o1), .val (.ref b41), .val (.ref it), .unset] [(.ref b41), (.ref o0)]) := fun t k => by
    refine R48 t ?_
    refine st47.trans ?_
    show Steps p.tables e below (T47.setTop (mkF m 95 #[.val (.ref o0), .val (.ref o1), .val (.ref b41), .val (.ref it), .unset] [(.int (0 : Int32))])) t
    refine XS.ifYes X47.here hx rfl (pc0 := 95) (pc' := 130) rfl (hb hby d6_95) rfl ((if0 _ _).trans (teq (by decide : (0 : Int32) = (0 : Int32))).1) (by decide) (by decide) ?_
    show Steps p.tables e below (T47.setTop (mkF m 130 #[.val (.ref o0), .val (.ref o1), .val (.ref b41), .val (.ref it), .unset] [])) t
    refine XS.aloadN X47.here hx rfl (hb hby d6_130) rfl rfl ?_
    show Steps p.tables e below (T47.setTop (mkF m 131 #[.val (.ref o0), .val (.ref o1), .val (.ref b41), .val (.ref it), .unset] [(.ref o0)])) t
    refine XS.aloadN X47.here hx rfl (hb hby d6_131) rfl rfl ?_
    exact k
  obtain ⟨rr, hrr⟩ := own_rr emp (c43_E.keep Kc45) (hw _ (List.mem_of_getElem? (i := 119) rfl))
  obtain ⟨_, _, ⟨T50, L50, k50, n50⟩, -, X50, ⟨Lc50, hQ50, l50, y50, z50⟩, st50⟩ := Jvm.LawKit.callS X47 hx (y := (⟨"java/util/Map", "copyOf", "(Ljava/util/Map;)Ljava/util/Map;"⟩ : MethodName)) hown (mvT hZ (hw _ (List.mem_of_getElem? (i := 115) rfl))) (mvT hZ (hw _ (List.mem_of_getElem? (i := 116) rfl))) (mvT hZ (hw _ (List.mem_of_getElem? (i := 117) rfl))) (mvT hZ (hw _ (List.mem_of_getElem? (i := 118) rfl))) (by decide) (backOf (W := 1) (rm_cp l Z a0 hw [] b41 emp rr T45.heap n0 (Nat.le_trans Z0 K45.1) (c43_E.keep Kc45) (c43_s.keep Kc45 nin0) (own_sta_keep (own_sta_keep ((((((((((((((((pS.ext E3).wr W7).ext E8).wr W12).ext E13).wr W17).ext E18).wr W22).ext E23).wr W27).ext E28).wr W32).ext E33).wr W37).wr W40).ext E41) Kc43 (allS A41.nostat all0)) Kc45 all0) hrr) hZ (hw _ (List.mem_of_getElem? (i := 118) rfl)) (hw _ (List.mem_of_getElem? (i := 117) rfl)) (by decide) (by decide)) (g := (mkF m 132 #[.val (.ref o0), .val (.ref o1), .val (.ref b41), .val (.ref it), .unset] [(.ref b41), (.ref o0)])) rfl (by rw [hml]; rfl) (argsL := [(.ref b41)]) (rest := [(.ref o0)]) (lenOf pd_5 rfl) rfl (by show 2 * 0 + _ ≤ _; exact Nat.le_of_eq rfl) (hb hby d6_132) (fun _ _ => ⟨rfl, e47, (by decide : 9 + 0 ≤ _), (by decide : 11509 + 0 ≤ _)⟩)
  dsimp only [Pt.U, Pt.locs, Pt.cells, Pt.slots] at X50 l50 y50 z50 st50 hQ50
  subst l50 y50 z50
  obtain ⟨rfl, N50q, e50⟩ := hQ50
  have N50 := Fr.app N47 N50q
  have R52 : Rch p e below (s₁.setTop (entryFrame m #[(.ref o0), (.ref o1)] 5)) T50 (mkF m 135 #[.val (.ref o0), .val (.ref o1), .val (.ref b41), .val (.ref it), .unset] [(.ref rr), (.ref o0)]) := fun t k => by
    refine R49 t ?_
    refine st50 _ ?_
    exact k
  have f51 := ((((((((((((((((((pf8.ext E3).other W7 (Or.inr (slot_ne (Or.inr (hw _ (List.mem_of_getElem? (i := 140) rfl))) (Or.inr (hw _ (List.mem_of_getElem? (i := 41) rfl))) (by decide) (t := (.object "java/util/Map")) (t' := (.array .boolean)) (by decide) (by decide)))).ext E8).other W12 (Or.inr (slot_ne (Or.inr (hw _ (List.mem_of_getElem? (i := 140) rfl))) (Or.inr (hw _ (List.mem_of_getElem? (i := 45) rfl))) (by decide) (t := (.object "java/util/Map")) (t' := (.array (.array .byte))) (by decide) (by decide)))).ext E13).other W17 (Or.inr (slot_ne (Or.inr (hw _ (List.mem_of_getElem? (i := 140) rfl))) (Or.inr (hw _ (List.mem_of_getElem? (i := 49) rfl))) (by decide) (t := (.object "java/util/Map")) (t' := (.array (.object "java/lang/String"))) (by decide) (by decide)))).ext E18).other W22 (Or.inr (slot_ne (Or.inr (hw _ (List.mem_of_getElem? (i := 140) rfl))) (Or.inr (hw _ (List.mem_of_getElem? (i := 52) rfl))) (by decide) (t := (.object "java/util/Map")) (t' := (.array .int)) (by decide) (by decide)))).ext E23).other W27 (Or.inr (slot_ne (Or.inr (hw _ (List.mem_of_getElem? (i := 140) rfl))) (Or.inr (hw _ (List.mem_of_getElem? (i := 54) rfl))) (by decide) (t := (.object "java/util/Map")) (t' := (.array .int)) (by decide) (by decide)))).ext E28).other W32 (Or.inr (slot_ne (Or.inr (hw _ (List.mem_of_getElem? (i := 140) rfl))) (Or.inr (hw _ (List.mem_of_getElem? (i := 56) rfl))) (by decide) (t := (.object "java/util/Map")) (t' := (.array .int)) (by decide) (by decide)))).ext E33).other W37 (Or.inr (slot_ne (Or.inr (hw _ (List.mem_of_getElem? (i := 140) rfl))) (Or.inr (hw _ (List.mem_of_getElem? (i := 58) rfl))) (by decide) (t := (.object "java/util/Map")) (t' := (.array .int)) (by decide) (by decide)))).other W40 (Or.inr (slot_ne (Or.inr (hw _ (List.mem_of_getElem? (i := 140) rfl))) (Or.inl (hw _ (List.mem_of_getElem? (i := 60) rfl))) (by decide) (t := (.object "java/util/Map")) (t' := .int) (by decide) (by decide)))).ext E41).keep Kc43 (ninS (Nat.ne_of_lt (Nat.lt_of_lt_of_le (((((((((((((((pE.ext E3).wr W7).ext E8).wr W12).ext E13).wr W17).ext E18).wr W22).ext E23).wr W27).ext E28).wr W32).ext E33).wr W37).wr W40).lt (Nat.le_of_eq g41.symm))) nin0)).keep Kc45 nin0)
  obtain ⟨T53, h53, X53, e53, W53, st53⟩ := putF X50 hx hZ hown (host := "") (Or.inl (hw _ (List.mem_of_getElem? (i := 139) rfl))) Via.refl e50 f51 ((((((((((((((((((pE.ext E3).wr W7).ext E8).wr W12).ext E13).wr W17).ext E18).wr W22).ext E23).wr W27).ext E28).wr W32).ext E33).wr W37).wr W40).ext E41).keep Kc43).keep Kc45) (Or.inr ⟨(hw _ (List.mem_of_getElem? (i := 140) rfl)), rfl, hnm⟩) (hw _ (List.mem_of_getElem? (i := 7) rfl)) (ty := (.object "java/util/Map")) (by decide) rfl rfl (g := (mkF m 135 #[.val (.ref o0), .val (.ref o1), .val (.ref b41), .val (.ref it), .unset] [(.ref rr), (.ref o0)])) rfl rfl (hb hby d6_135)
  have Fw53 := f51.same W53
  have K53 : Keep h0 h53 [o0] := K45.wr W53 (Or.inl (List.mem_of_getElem? (i := 0) rfl))
  have N53 := Fr.snoc X53 N50 pg
  have R54 : Rch p e below (s₁.setTop (entryFrame m #[(.ref o0), (.ref o1)] 5)) T53 (mkF m 138 #[.val (.ref o0), .val (.ref o1), .val (.ref b41), .val (.ref it), .unset] []) := fun t k => by
    refine R52 t ?_
    refine st53 _ ?_
    exact k
  obtain ⟨fs, hr, hrun, hended, hW, hsame⟩ := X53.leave (v := none) (fun _ => rfl)
  refine ⟨_, _, R54 _ ?_, hrun, hended, _, _, rfl, ?_, ⟨_, rfl⟩, hW, hsame.mono (by decide) (by decide)⟩
  · exact X53.returnOut hx Bd.returns (hb hby d6_138) hr
  · show Q_rm_js Z o0 o1 emp h0 n0 _ T53.heap _
    rw [e53]
    exact ⟨rfl, N53, K53, (((((((((((((((((((pE.ext E3).wr W7).ext E8).wr W12).ext E13).wr W17).ext E18).wr W22).ext E23).wr W27).ext E28).wr W32).ext E33).wr W37).wr W40).ext E41).keep Kc43).keep Kc45).wr W53), (((((((((((((((((((pf9.ext E3).other W7 (Or.inr (slot_ne (Or.inl (hw _ (List.mem_of_getElem? (i := 147) rfl))) (Or.inr (hw _ (List.mem_of_getElem? (i := 41) rfl))) (by decide) (t := (.array .byte)) (t' := (.array .boolean)) (by decide) (by decide)))).ext E8).other W12 (Or.inr (slot_ne (Or.inl (hw _ (List.mem_of_getElem? (i := 147) rfl))) (Or.inr (hw _ (List.mem_of_getElem? (i := 45) rfl))) (by decide) (t := (.array .byte)) (t' := (.array (.array .byte))) (by decide) (by decide)))).ext E13).other W17 (Or.inr (slot_ne (Or.inl (hw _ (List.mem_of_getElem? (i := 147) rfl))) (Or.inr (hw _ (List.mem_of_getElem? (i := 49) rfl))) (by decide) (t := (.array .byte)) (t' := (.array (.object "java/lang/String"))) (by decide) (by decide)))).ext E18).other W22 (Or.inr (slot_ne (Or.inl (hw _ (List.mem_of_getElem? (i := 147) rfl))) (Or.inr (hw _ (List.mem_of_getElem? (i := 52) rfl))) (by decide) (t := (.array .byte)) (t' := (.array .int)) (by decide) (by decide)))).ext E23).other W27 (Or.inr (slot_ne (Or.inl (hw _ (List.mem_of_getElem? (i := 147) rfl))) (Or.inr (hw _ (List.mem_of_getElem? (i := 54) rfl))) (by decide) (t := (.array .byte)) (t' := (.array .int)) (by decide) (by decide)))).ext E28).other W32 (Or.inr (slot_ne (Or.inl (hw _ (List.mem_of_getElem? (i := 147) rfl))) (Or.inr (hw _ (List.mem_of_getElem? (i := 56) rfl))) (by decide) (t := (.array .byte)) (t' := (.array .int)) (by decide) (by decide)))).ext E33).other W37 (Or.inr (slot_ne (Or.inl (hw _ (List.mem_of_getElem? (i := 147) rfl))) (Or.inr (hw _ (List.mem_of_getElem? (i := 58) rfl))) (by decide) (t := (.array .byte)) (t' := (.array .int)) (by decide) (by decide)))).other W40 (Or.inr (slot_ne (Or.inl (hw _ (List.mem_of_getElem? (i := 147) rfl))) (Or.inl (hw _ (List.mem_of_getElem? (i := 60) rfl))) (by decide) (t := (.array .byte)) (t' := .int) (by decide) (by decide)))).ext E41).keep Kc43 (ninS (Nat.ne_of_lt (Nat.lt_of_lt_of_le (((((((((((((((pE.ext E3).wr W7).ext E8).wr W12).ext E13).wr W17).ext E18).wr W22).ext E23).wr W27).ext E28).wr W32).ext E33).wr W37).wr W40).lt (Nat.le_of_eq g41.symm))) nin0)).keep Kc45 nin0).other W53 (Or.inr (slot_ne (Or.inl (hw _ (List.mem_of_getElem? (i := 147) rfl))) (Or.inr (hw _ (List.mem_of_getElem? (i := 140) rfl))) (by decide) (t := (.array .byte)) (t' := (.object "java/util/Map")) (by decide) (by decide)))), (((((((((((((((((((pf10.ext E3).other W7 (Or.inr (slot_ne (Or.inl (hw _ (List.mem_of_getElem? (i := 149) rfl))) (Or.inr (hw _ (List.mem_of_getElem? (i := 41) rfl))) (by decide) (t := .int) (t' := (.array .boolean)) (by decide) (by decide)))).ext E8).other W12 (Or.inr (slot_ne (Or.inl (hw _ (List.mem_of_getElem? (i := 149) rfl))) (Or.inr (hw _ (List.mem_of_getElem? (i := 45) rfl))) (by decide) (t := .int) (t' := (.array (.array .byte))) (by decide) (by decide)))).ext E13).other W17 (Or.inr (slot_ne (Or.inl (hw _ (List.mem_of_getElem? (i := 149) rfl))) (Or.inr (hw _ (List.mem_of_getElem? (i := 49) rfl))) (by decide) (t := .int) (t' := (.array (.object "java/lang/String"))) (by decide) (by decide)))).ext E18).other W22 (Or.inr (slot_ne (Or.inl (hw _ (List.mem_of_getElem? (i := 149) rfl))) (Or.inr (hw _ (List.mem_of_getElem? (i := 52) rfl))) (by decide) (t := .int) (t' := (.array .int)) (by decide) (by decide)))).ext E23).other W27 (Or.inr (slot_ne (Or.inl (hw _ (List.mem_of_getElem? (i := 149) rfl))) (Or.inr (hw _ (List.mem_of_getElem? (i := 54) rfl))) (by decide) (t := .int) (t' := (.array .int)) (by decide) (by decide)))).ext E28).other W32 (Or.inr (slot_ne (Or.inl (hw _ (List.mem_of_getElem? (i := 149) rfl))) (Or.inr (hw _ (List.mem_of_getElem? (i := 56) rfl))) (by decide) (t := .int) (t' := (.array .int)) (by decide) (by decide)))).ext E33).other W37 (Or.inr (slot_ne (Or.inl (hw _ (List.mem_of_getElem? (i := 149) rfl))) (Or.inr (hw _ (List.mem_of_getElem? (i := 58) rfl))) (by decide) (t := .int) (t' := (.array .int)) (by decide) (by decide)))).other W40 (Or.inr (slot_ne (Or.inl (hw _ (List.mem_of_getElem? (i := 149) rfl))) (Or.inl (hw _ (List.mem_of_getElem? (i := 60) rfl))) (by decide) (t := .int) (t' := .int) (by decide) (by decide)))).ext E41).keep Kc43 (ninS (Nat.ne_of_lt (Nat.lt_of_lt_of_le (((((((((((((((pE.ext E3).wr W7).ext E8).wr W12).ext E13).wr W17).ext E18).wr W22).ext E23).wr W27).ext E28).wr W32).ext E33).wr W37).wr W40).lt (Nat.le_of_eq g41.symm))) nin0)).keep Kc45 nin0).other W53 (Or.inr (slot_ne (Or.inl (hw _ (List.mem_of_getElem? (i := 149) rfl))) (Or.inr (hw _ (List.mem_of_getElem? (i := 140) rfl))) (by decide) (t := .int) (t' := (.object "java/util/Map")) (by decide) (by decide)))), (((((((((((((((((((pf11.ext E3).other W7 (Or.inr (slot_ne (Or.inl (hw _ (List.mem_of_getElem? (i := 151) rfl))) (Or.inr (hw _ (List.mem_of_getElem? (i := 41) rfl))) (by decide) (t := .int) (t' := (.array .boolean)) (by decide) (by decide)))).ext E8).other W12 (Or.inr (slot_ne (Or.inl (hw _ (List.mem_of_getElem? (i := 151) rfl))) (Or.inr (hw _ (List.mem_of_getElem? (i := 45) rfl))) (by decide) (t := .int) (t' := (.array (.array .byte))) (by decide) (by decide)))).ext E13).other W17 (Or.inr (slot_ne (Or.inl (hw _ (List.mem_of_getElem? (i := 151) rfl))) (Or.inr (hw _ (List.mem_of_getElem? (i := 49) rfl))) (by decide) (t := .int) (t' := (.array (.object "java/lang/String"))) (by decide) (by decide)))).ext E18).other W22 (Or.inr (slot_ne (Or.inl (hw _ (List.mem_of_getElem? (i := 151) rfl))) (Or.inr (hw _ (List.mem_of_getElem? (i := 52) rfl))) (by decide) (t := .int) (t' := (.array .int)) (by decide) (by decide)))).ext E23).other W27 (Or.inr (slot_ne (Or.inl (hw _ (List.mem_of_getElem? (i := 151) rfl))) (Or.inr (hw _ (List.mem_of_getElem? (i := 54) rfl))) (by decide) (t := .int) (t' := (.array .int)) (by decide) (by decide)))).ext E28).other W32 (Or.inr (slot_ne (Or.inl (hw _ (List.mem_of_getElem? (i := 151) rfl))) (Or.inr (hw _ (List.mem_of_getElem? (i := 56) rfl))) (by decide) (t := .int) (t' := (.array .int)) (by decide) (by decide)))).ext E33).other W37 (Or.inr (slot_ne (Or.inl (hw _ (List.mem_of_getElem? (i := 151) rfl))) (Or.inr (hw _ (List.mem_of_getElem? (i := 58) rfl))) (by decide) (t := .int) (t' := (.array .int)) (by decide) (by decide)))).other W40 (Or.inr (slot_ne (Or.inl (hw _ (List.mem_of_getElem? (i := 151) rfl))) (Or.inl (hw _ (List.mem_of_getElem? (i := 60) rfl))) (by decide) (t := .int) (t' := .int) (by decide) (by decide)))).ext E41).keep Kc43 (ninS (Nat.ne_of_lt (Nat.lt_of_lt_of_le (((((((((((((((pE.ext E3).wr W7).ext E8).wr W12).ext E13).wr W17).ext E18).wr W22).ext E23).wr W27).ext E28).wr W32).ext E33).wr W37).wr W40).lt (Nat.le_of_eq g41.symm))) nin0)).keep Kc45 nin0).other W53 (Or.inr (slot_ne (Or.inl (hw _ (List.mem_of_getElem? (i := 151) rfl))) (Or.inr (hw _ (List.mem_of_getElem? (i := 140) rfl))) (by decide) (t := .int) (t' := (.object "java/util/Map")) (by decide) (by decide)))), (((((((((((((((((((pf12.ext E3).other W7 (Or.inr (slot_ne (Or.inl (hw _ (List.mem_of_getElem? (i := 153) rfl))) (Or.inr (hw _ (List.mem_of_getElem? (i := 41) rfl))) (by decide) (t := .int) (t' := (.array .boolean)) (by decide) (by decide)))).ext E8).other W12 (Or.inr (slot_ne (Or.inl (hw _ (List.mem_of_getElem? (i := 153) rfl))) (Or.inr (hw _ (List.mem_of_getElem? (i := 45) rfl))) (by decide) (t := .int) (t' := (.array (.array .byte))) (by decide) (by decide)))).ext E13).other W17 (Or.inr (slot_ne (Or.inl (hw _ (List.mem_of_getElem? (i := 153) rfl))) (Or.inr (hw _ (List.mem_of_getElem? (i := 49) rfl))) (by decide) (t := .int) (t' := (.array (.object "java/lang/String"))) (by decide) (by decide)))).ext E18).other W22 (Or.inr (slot_ne (Or.inl (hw _ (List.mem_of_getElem? (i := 153) rfl))) (Or.inr (hw _ (List.mem_of_getElem? (i := 52) rfl))) (by decide) (t := .int) (t' := (.array .int)) (by decide) (by decide)))).ext E23).other W27 (Or.inr (slot_ne (Or.inl (hw _ (List.mem_of_getElem? (i := 153) rfl))) (Or.inr (hw _ (List.mem_of_getElem? (i := 54) rfl))) (by decide) (t := .int) (t' := (.array .int)) (by decide) (by decide)))).ext E28).other W32 (Or.inr (slot_ne (Or.inl (hw _ (List.mem_of_getElem? (i := 153) rfl))) (Or.inr (hw _ (List.mem_of_getElem? (i := 56) rfl))) (by decide) (t := .int) (t' := (.array .int)) (by decide) (by decide)))).ext E33).other W37 (Or.inr (slot_ne (Or.inl (hw _ (List.mem_of_getElem? (i := 153) rfl))) (Or.inr (hw _ (List.mem_of_getElem? (i := 58) rfl))) (by decide) (t := .int) (t' := (.array .int)) (by decide) (by decide)))).other W40 (Or.inr (slot_ne (Or.inl (hw _ (List.mem_of_getElem? (i := 153) rfl))) (Or.inl (hw _ (List.mem_of_getElem? (i := 60) rfl))) (by decide) (t := .int) (t' := .int) (by decide) (by decide)))).ext E41).keep Kc43 (ninS (Nat.ne_of_lt (Nat.lt_of_lt_of_le (((((((((((((((pE.ext E3).wr W7).ext E8).wr W12).ext E13).wr W17).ext E18).wr W22).ext E23).wr W27).ext E28).wr W32).ext E33).wr W37).wr W40).lt (Nat.le_of_eq g41.symm))) nin0)).keep Kc45 nin0).other W53 (Or.inr (slot_ne (Or.inl (hw _ (List.mem_of_getElem? (i := 153) rfl))) (Or.inr (hw _ (List.mem_of_getElem? (i := 140) rfl))) (by decide) (t := .int) (t' := (.object "java/util/Map")) (by decide) (by decide)))), (((((((((((((((((((pf13.ext E3).other W7 (Or.inr (slot_ne (Or.inl (hw _ (List.mem_of_getElem? (i := 155) rfl))) (Or.inr (hw _ (List.mem_of_getElem? (i := 41) rfl))) (by decide) (t := .int) (t' := (.array .boolean)) (by decide) (by decide)))).ext E8).other W12 (Or.inr (slot_ne (Or.inl (hw _ (List.mem_of_getElem? (i := 155) rfl))) (Or.inr (hw _ (List.mem_of_getElem? (i := 45) rfl))) (by decide) (t := .int) (t' := (.array (.array .byte))) (by decide) (by decide)))).ext E13).other W17 (Or.inr (slot_ne (Or.inl (hw _ (List.mem_of_getElem? (i := 155) rfl))) (Or.inr (hw _ (List.mem_of_getElem? (i := 49) rfl))) (by decide) (t := .int) (t' := (.array (.object "java/lang/String"))) (by decide) (by decide)))).ext E18).other W22 (Or.inr (slot_ne (Or.inl (hw _ (List.mem_of_getElem? (i := 155) rfl))) (Or.inr (hw _ (List.mem_of_getElem? (i := 52) rfl))) (by decide) (t := .int) (t' := (.array .int)) (by decide) (by decide)))).ext E23).other W27 (Or.inr (slot_ne (Or.inl (hw _ (List.mem_of_getElem? (i := 155) rfl))) (Or.inr (hw _ (List.mem_of_getElem? (i := 54) rfl))) (by decide) (t := .int) (t' := (.array .int)) (by decide) (by decide)))).ext E28).other W32 (Or.inr (slot_ne (Or.inl (hw _ (List.mem_of_getElem? (i := 155) rfl))) (Or.inr (hw _ (List.mem_of_getElem? (i := 56) rfl))) (by decide) (t := .int) (t' := (.array .int)) (by decide) (by decide)))).ext E33).other W37 (Or.inr (slot_ne (Or.inl (hw _ (List.mem_of_getElem? (i := 155) rfl))) (Or.inr (hw _ (List.mem_of_getElem? (i := 58) rfl))) (by decide) (t := .int) (t' := (.array .int)) (by decide) (by decide)))).other W40 (Or.inr (slot_ne (Or.inl (hw _ (List.mem_of_getElem? (i := 155) rfl))) (Or.inl (hw _ (List.mem_of_getElem? (i := 60) rfl))) (by decide) (t := .int) (t' := .int) (by decide) (by decide)))).ext E41).keep Kc43 (ninS (Nat.ne_of_lt (Nat.lt_of_lt_of_le (((((((((((((((pE.ext E3).wr W7).ext E8).wr W12).ext E13).wr W17).ext E18).wr W22).ext E23).wr W27).ext E28).wr W32).ext E33).wr W37).wr W40).lt (Nat.le_of_eq g41.symm))) nin0)).keep Kc45 nin0).other W53 (Or.inr (slot_ne (Or.inl (hw _ (List.mem_of_getElem? (i := 155) rfl))) (Or.inr (hw _ (List.mem_of_getElem? (i := 140) rfl))) (by decide) (t := .int) (t' := (.object "java/util/Map")) (by decide) (by decide)))), (((((((((((((((((((pf14.ext E3).other W7 (Or.inr (slot_ne (Or.inl (hw _ (List.mem_of_getElem? (i := 179) rfl))) (Or.inr (hw _ (List.mem_of_getElem? (i := 41) rfl))) (by decide) (t := .boolean) (t' := (.array .boolean)) (by decide) (by decide)))).ext E8).other W12 (Or.inr (slot_ne (Or.inl (hw _ (List.mem_of_getElem? (i := 179) rfl))) (Or.inr (hw _ (List.mem_of_getElem? (i := 45) rfl))) (by decide) (t := .boolean) (t' := (.array (.array .byte))) (by decide) (by decide)))).ext E13).other W17 (Or.inr (slot_ne (Or.inl (hw _ (List.mem_of_getElem? (i := 179) rfl))) (Or.inr (hw _ (List.mem_of_getElem? (i := 49) rfl))) (by decide) (t := .boolean) (t' := (.array (.object "java/lang/String"))) (by decide) (by decide)))).ext E18).other W22 (Or.inr (slot_ne (Or.inl (hw _ (List.mem_of_getElem? (i := 179) rfl))) (Or.inr (hw _ (List.mem_of_getElem? (i := 52) rfl))) (by decide) (t := .boolean) (t' := (.array .int)) (by decide) (by decide)))).ext E23).other W27 (Or.inr (slot_ne (Or.inl (hw _ (List.mem_of_getElem? (i := 179) rfl))) (Or.inr (hw _ (List.mem_of_getElem? (i := 54) rfl))) (by decide) (t := .boolean) (t' := (.array .int)) (by decide) (by decide)))).ext E28).other W32 (Or.inr (slot_ne (Or.inl (hw _ (List.mem_of_getElem? (i := 179) rfl))) (Or.inr (hw _ (List.mem_of_getElem? (i := 56) rfl))) (by decide) (t := .boolean) (t' := (.array .int)) (by decide) (by decide)))).ext E33).other W37 (Or.inr (slot_ne (Or.inl (hw _ (List.mem_of_getElem? (i := 179) rfl))) (Or.inr (hw _ (List.mem_of_getElem? (i := 58) rfl))) (by decide) (t := .boolean) (t' := (.array .int)) (by decide) (by decide)))).other W40 (Or.inr (slot_ne (Or.inl (hw _ (List.mem_of_getElem? (i := 179) rfl))) (Or.inl (hw _ (List.mem_of_getElem? (i := 60) rfl))) (by decide) (t := .boolean) (t' := .int) (by decide) (by decide)))).ext E41).keep Kc43 (ninS (Nat.ne_of_lt (Nat.lt_of_lt_of_le (((((((((((((((pE.ext E3).wr W7).ext E8).wr W12).ext E13).wr W17).ext E18).wr W22).ext E23).wr W27).ext E28).wr W32).ext E33).wr W37).wr W40).lt (Nat.le_of_eq g41.symm))) nin0)).keep Kc45 nin0).other W53 (Or.inr (slot_ne (Or.inl (hw _ (List.mem_of_getElem? (i := 179) rfl))) (Or.inr (hw _ (List.mem_of_getElem? (i := 140) rfl))) (by decide) (t := .boolean) (t' := (.object "java/util/Map")) (by decide) (by decide)))), (g3 ▸ (((((((((((((((((Fw7.ext E8).other W12 (Or.inr (slot_ne (Or.inr (hw _ (List.mem_of_getElem? (i := 41) rfl))) (Or.inr (hw _ (List.mem_of_getElem? (i := 45) rfl))) (by decide) (t := (.array .boolean)) (t' := (.array (.array .byte))) (by decide) (by decide)))).ext E13).other W17 (Or.inr (slot_ne (Or.inr (hw _ (List.mem_of_getElem? (i := 41) rfl))) (Or.inr (hw _ (List.mem_of_getElem? (i := 49) rfl))) (by decide) (t := (.array .boolean)) (t' := (.array (.object "java/lang/String"))) (by decide) (by decide)))).ext E18).other W22 (Or.inr (slot_ne (Or.inr (hw _ (List.mem_of_getElem? (i := 41) rfl))) (Or.inr (hw _ (List.mem_of_getElem? (i := 52) rfl))) (by decide) (t := (.array .boolean)) (t' := (.array .int)) (by decide) (by decide)))).ext E23).other W27 (Or.inr (slot_ne (Or.inr (hw _ (List.mem_of_getElem? (i := 41) rfl))) (Or.inr (hw _ (List.mem_of_getElem? (i := 54) rfl))) (by decide) (t := (.array .boolean)) (t' := (.array .int)) (by decide) (by decide)))).ext E28).other W32 (Or.inr (slot_ne (Or.inr (hw _ (List.mem_of_getElem? (i := 41) rfl))) (Or.inr (hw _ (List.mem_of_getElem? (i := 56) rfl))) (by decide) (t := (.array .boolean)) (t' := (.array .int)) (by decide) (by decide)))).ext E33).other W37 (Or.inr (slot_ne (Or.inr (hw _ (List.mem_of_getElem? (i := 41) rfl))) (Or.inr (hw _ (List.mem_of_getElem? (i := 58) rfl))) (by decide) (t := (.array .boolean)) (t' := (.array .int)) (by decide) (by decide)))).other W40 (Or.inr (slot_ne (Or.inr (hw _ (List.mem_of_getElem? (i := 41) rfl))) (Or.inl (hw _ (List.mem_of_getElem? (i := 60) rfl))) (by decide) (t := (.array .boolean)) (t' := .int) (by decide) (by decide)))).ext E41).keep Kc43 (ninS (Nat.ne_of_lt (Nat.lt_of_lt_of_le (((((((((((((((pE.ext E3).wr W7).ext E8).wr W12).ext E13).wr W17).ext E18).wr W22).ext E23).wr W27).ext E28).wr W32).ext E33).wr W37).wr W40).lt (Nat.le_of_eq g41.symm))) nin0)).keep Kc45 nin0).other W53 (Or.inr (slot_ne (Or.inr (hw _ (List.mem_of_getElem? (i := 41) rfl))) (Or.inr (hw _ (List.mem_of_getElem? (i := 140) rfl))) (by decide) (t := (.array .boolean)) (t' := (.object "java/util/Map")) (by decide) (by decide))))), ⟨_, g3 ▸ ((((((((((((((((((V3.other W7 (Ne.symm (Nat.ne_of_lt (Nat.lt_of_lt_of_le pE.lt (Nat.le_of_eq g3.symm))))).ext E8).other W12 (Ne.symm (Nat.ne_of_lt (Nat.lt_of_lt_of_le pE.lt (Nat.le_of_eq g3.symm))))).ext E13).other W17 (Ne.symm (Nat.ne_of_lt (Nat.lt_of_lt_of_le pE.lt (Nat.le_of_eq g3.symm))))).ext E18).other W22 (Ne.symm (Nat.ne_of_lt (Nat.lt_of_lt_of_le pE.lt (Nat.le_of_eq g3.symm))))).ext E23).other W27 (Ne.symm (Nat.ne_of_lt (Nat.lt_of_lt_of_le pE.lt (Nat.le_of_eq g3.symm))))).ext E28).other W32 (Ne.symm (Nat.ne_of_lt (Nat.lt_of_lt_of_le pE.lt (Nat.le_of_eq g3.symm))))).ext E33).other W37 (Ne.symm (Nat.ne_of_lt (Nat.lt_of_lt_of_le pE.lt (Nat.le_of_eq g3.symm))))).other W40 (Ne.symm (Nat.ne_of_lt (Nat.lt_of_lt_of_le pE.lt (Nat.le_of_eq g3.symm))))).ext E41).keep Kc43 (ninS (Nat.ne_of_lt (Nat.lt_of_lt_of_le ((((((((((((((V3.other W7 (Ne.symm (Nat.ne_of_lt (Nat.lt_of_lt_of_le pE.lt (Nat.le_of_eq g3.symm))))).ext E8).other W12 (Ne.symm (Nat.ne_of_lt (Nat.lt_of_lt_of_le pE.lt (Nat.le_of_eq g3.symm))))).ext E13).other W17 (Ne.symm (Nat.ne_of_lt (Nat.lt_of_lt_of_le pE.lt (Nat.le_of_eq g3.symm))))).ext E18).other W22 (Ne.symm (Nat.ne_of_lt (Nat.lt_of_lt_of_le pE.lt (Nat.le_of_eq g3.symm))))).ext E23).other W27 (Ne.symm (Nat.ne_of_lt (Nat.lt_of_lt_of_le pE.lt (Nat.le_of_eq g3.symm))))).ext E28).other W32 (Ne.symm (Nat.ne_of_lt (Nat.lt_of_lt_of_le pE.lt (Nat.le_of_eq g3.symm))))).ext E33).other W37 (Ne.symm (Nat.ne_of_lt (Nat.lt_of_lt_of_le pE.lt (Nat.le_of_eq g3.symm))))).other W40 (Ne.symm (Nat.ne_of_lt (Nat.lt_of_lt_of_le pE.lt (Nat.le_of_eq g3.symm))))).lt (Nat.le_of_eq g41.symm))) nin0)).keep Kc45 nin0).other W53 (Ne.symm (Nat.ne_of_lt (Nat.lt_of_lt_of_le pE.lt (Nat.le_of_eq g3.symm)))))⟩⟩
theorem d19_0 : decode prog_45_method_44_code 0 = .ok (.iload_n 1, 1) := by decide +kernel
theorem d19_1 : decode prog_45_method_44_code 1 = .ok (.istore_n 2, 1) := by decide +kernel
theorem d19_2 : decode prog_45_method_44_code 2 = .ok (.iload_n 2, 1) := by decide +kernel
theorem d19_3 : decode prog_45_method_44_code 3 = .ok (.aload_n 0, 1) := by decide +kernel
theorem d19_4 : decode prog_45_method_44_code 4 = .ok (.getfield 98, 3) := by decide +kernel
theorem d19_7 : decode prog_45_method_44_code 7 = .ok (.if_icmp .ge 64, 3) := by decide +kernel
theorem d19_10 : decode prog_45_method_44_code 10 = .ok (.aload_n 0, 1) := by decide +kernel
theorem d19_11 : decode prog_45_method_44_code 11 = .ok (.getfield 92, 3) := by decide +kernel
theorem d19_14 : decode prog_45_method_44_code 14 = .ok (.iload_n 2, 1) := by decide +kernel
theorem d19_15 : decode prog_45_method_44_code 15 = .ok (.baload, 1) := by decide +kernel
theorem d19_16 : decode prog_45_method_44_code 16 = .ok (.bipush 32, 2) := by decide +kernel
theorem d19_18 : decode prog_45_method_44_code 18 = .ok (.if_icmp .gt 53, 3) := by decide +kernel
theorem d19_71 : decode prog_45_method_44_code 71 = .ok (.iload_n 2, 1) := by decide +kernel
theorem d19_72 : decode prog_45_method_44_code 72 = .ok (.ireturn, 1) := by decide +kernel
theorem d19_21 : decode prog_45_method_44_code 21 = .ok (.aload_n 0, 1) := by decide +kernel
theorem d19_22 : decode prog_45_method_44_code 22 = .ok (.getfield 92, 3) := by decide +kernel
theorem d19_25 : decode prog_45_method_44_code 25 = .ok (.iload_n 2, 1) := by decide +kernel
theorem d19_26 : decode prog_45_method_44_code 26 = .ok (.baload, 1) := by decide +kernel
theorem d19_27 : decode prog_45_method_44_code 27 = .ok (.bipush 32, 2) := by decide +kernel
theorem d19_29 : decode prog_45_method_44_code 29 = .ok (.if_icmp .eq 36, 3) := by decide +kernel
theorem d19_32 : decode prog_45_method_44_code 32 = .ok (.aload_n 0, 1) := by decide +kernel
theorem d19_33 : decode prog_45_method_44_code 33 = .ok (.getfield 92, 3) := by decide +kernel
theorem d19_36 : decode prog_45_method_44_code 36 = .ok (.iload_n 2, 1) := by decide +kernel
theorem d19_37 : decode prog_45_method_44_code 37 = .ok (.baload, 1) := by decide +kernel
theorem d19_38 : decode prog_45_method_44_code 38 = .ok (.bipush 9, 2) := by decide +kernel
theorem d19_40 : decode prog_45_method_44_code 40 = .ok (.if_icmp .eq 25, 3) := by decide +kernel
theorem d19_43 : decode prog_45_method_44_code 43 = .ok (.aload_n 0, 1) := by decide +kernel
theorem d19_44 : decode prog_45_method_44_code 44 = .ok (.getfield 92, 3) := by decide +kernel
theorem d19_47 : decode prog_45_method_44_code 47 = .ok (.iload_n 2, 1) := by decide +kernel
theorem d19_48 : decode prog_45_method_44_code 48 = .ok (.baload, 1) := by decide +kernel
theorem d19_49 : decode prog_45_method_44_code 49 = .ok (.bipush 10, 2) := by decide +kernel
theorem d19_51 : decode prog_45_method_44_code 51 = .ok (.if_icmp .eq 14, 3) := by decide +kernel
theorem d19_54 : decode prog_45_method_44_code 54 = .ok (.aload_n 0, 1) := by decide +kernel
theorem d19_55 : decode prog_45_method_44_code 55 = .ok (.getfield 92, 3) := by decide +kernel
theorem d19_58 : decode prog_45_method_44_code 58 = .ok (.iload_n 2, 1) := by decide +kernel
theorem d19_59 : decode prog_45_method_44_code 59 = .ok (.baload, 1) := by decide +kernel
theorem d19_60 : decode prog_45_method_44_code 60 = .ok (.bipush 13, 2) := by decide +kernel
theorem d19_62 : decode prog_45_method_44_code 62 = .ok (.if_icmp .ne 9, 3) := by decide +kernel
theorem ef_rm_skip (m : MethodId) (x0 : Addr) (x1 : Int32) : entryFrame m #[(.ref x0), (.int x1)] 3 = mkF m 0 #[.val (.ref x0), .val (.int x1), .unset] [] := by first | (simp [entryFrame, mkF, argsToLocals, Value.category]; done) | rfl
def Q_rm_skip (Z : State) (o0 : Addr) (ff : Int32) (en : Int32) (ar : Addr) (kk : ClassId) (nn : Int32) (vs : List Value) (dv : Value) (h0 : Heap) (n0 : Nat) (v : Option Value) (h : Heap) (L : List Loc) : Prop := (v = some (.int ff)) ∧ (Fr n0 L) ∧ (h = h0)
set_option maxRecDepth 65536 in
set_option maxHeartbeats 40000000 in
theorem rm_skip (l : Launch) (Z : State) (a0 : Array Value) (hw : ∀ d ∈ tables_1, d.before a0 Z = true) (ws : List Jvm.Cond) (o0 : Addr) (ff : Int32) (en : Int32) (ar : Addr) (kk : ClassId) (nn : Int32) (vs : List Value) (dv : Value) (h0 : Heap) (n0 : Nat) (Z0 : n0 ≤ h0.size) (pf_bytes : Fld Z h0 o0 "com/example/vestwork/vestwork/io/JsonScanner" "bytes" "[B" (.ref ar)) (pf_end : Fld Z h0 o0 "com/example/vestwork/vestwork/io/JsonScanner" "end" "I" (.int en)) (pV : Arv Z h0 ar kk .byte nn vs dv) (ph : ff < en → own_rd vs dv nn ff ∧ own_nsp (own_at vs ff)) :
    MetFree l (⟨"com/example/vestwork/vestwork/io/JsonScanner", "skipSpace", "(I)I"⟩ : MethodName) (head1 (Jvm.Cond.code (⟨"com/example/vestwork/vestwork/io/JsonScanner", "skipSpace", "(I)I"⟩ : MethodName) prog_45_method_44_code 3 (some .int) :: ws) ({ frames := 0, cells := 0, slots := 0, locals := 0 } : Room)) (fun a U => a = #[(.ref o0), (.int ff)] ∧ Z.Warmed39 U.vm ∧ U.heap = h0) (fun _ _ _ _ _ => True) (fun _ U o U' => ∃ v L, o = .returned v ∧ Q_rm_skip Z o0 ff en ar kk nn vs dv h0 n0 v U'.heap L ∧ FrameEnd U o U' L ({ frames := 0, cells := 0, slots := 0, locals := 0 } : Room).cells ({ frames := 0, cells := 0, slots := 0, locals := 0 } : Room).slots) := by
  refine MetFree.of_bodySF (plainFor_of_name pn_8) hisR ?_
  intro p e s m args below meth c s₁ Bd hml0 hP hK
  obtain ⟨rfl, hZ, hh⟩ := hP
  have hx := Bd.exec
  have hby := Bd.bytes
  have hml : c.maxLocals = 3 := hml0
  have hown : s.vm.findClass "com/example/vestwork/vestwork/io/JsonScanner" = some m.cls := findClass_of_methodNamed Bd.named
  have hnm := (name_of_methodNamed Bd.named Bd.method).1
  have X0 : Stand p l e ({ frames := 0, cells := 0, slots := 0, locals := 0 } : Room) s m #[(.ref o0), (.int ff)] below meth c s₁ [] 0 0 := Stand.of_body Bd
  have e0 : s₁.heap = h0 := by rw [← hh, Bd.state]; rfl
  have N0 := Fr.nil n0
  have K0 : Keep h0 h0 [] := Keep.refl _ _
  have R0 : Rch p e below (s₁.setTop (entryFrame m #[(.ref o0), (.int ff)] 3)) s₁ (mkF m 0 #[.val (.ref o0), .val (.int ff), .unset] []) := fun t k => castTop (ef_rm_skip m o0 ff) k
  have R2 : Rch p e below (s₁.setTop (entryFrame m #[(.ref o0), (.int ff)] 3)) s₁ (mkF m 4 #[.val (.ref o0), .val (.int ff), .val (.int ff)] [(.ref o0), (.int ff)]) := fun t k => by
    refine R0 t ?_
    refine XS.iloadN X0.here hx rfl (hb hby d19_0) rfl ?_
    show Steps p.tables e below (s₁.setTop (mkF m 1 #[.val (.ref o0), .val (.int ff), .unset] [(.int ff)])) t
    refine XS.istoreN X0.here hx rfl (hb hby d19_1) rfl (l' := #[.val (.ref o0), .val (.int ff), .val (.int ff)]) rfl ?_
    show Steps p.tables e below (s₁.setTop (mkF m 2 #[.val (.ref o0), .val (.int ff), .val (.int ff)] [])) t
    refine XS.iloadN X0.here hx rfl (hb hby d19_2) rfl ?_
    show Steps p.tables e below (s₁.setTop (mkF m 3 #[.val (.ref o0), .val (.int ff), .val (.int ff)] [(.int ff)])) t
    refine XS.aloadN X0.here hx rfl (hb hby d19_3) rfl rfl ?_
    exact k
  obtain ⟨T1, X1, e1, st1⟩ := getF X0 hx hZ hown (host := "") (Or.inl (hw _ (List.mem_of_getElem? (i := 150) rfl))) Via.refl e0 pf_end (g := (mkF m 4 #[.val (.ref o0), .val (.int ff), .val (.int ff)] [(.ref o0), (.int ff)])) rfl rfl (hb hby d19_4)
  have R4 : Rch p e below (s₁.setTop (entryFrame m #[(.ref o0), (.int ff)] 3)) T1 (mkF m 7 #[.val (.ref o0), .val (.int ff), .val (.int ff)] [(.int en), (.int ff)]) := fun t k => by
    refine R2 t ?_
    refine st1 _ ?_
    exact k
  by_cases hc7_3 : ff < en
  · have R6 : Rch p e below (s₁.setTop (entryFrame m #[(.ref o0), (.int ff)] 3)) T1 (mkF m 11 #[.val (.ref o0), .val (.int ff), .val (.int ff)] [(.ref o0)]) := fun t k => by
      refine R4 t ?_
      refine XS.icmpNo X1.here hx rfl (hb hby d19_7) rfl (tlt hc7_3).2.1 ?_
      show Steps p.tables e below (T1.setTop (mkF m 10 #[.val (.ref o0), .val (.int ff), .val (.int ff)] [])) t
      refine XS.aloadN X1.here hx rfl (hb hby d19_10) rfl rfl ?_
      exact k
    obtain ⟨T5, X5, e5, st5⟩ := getF X1 hx hZ hown (host := "") (Or.inl (hw _ (List.mem_of_getElem? (i := 146) rfl))) Via.refl e1 pf_bytes (g := (mkF m 11 #[.val (.ref o0), .val (.int ff), .val (.int ff)] [(.ref o0)])) rfl rfl (hb hby d19_11)
    have R8 : Rch p e below (s₁.setTop (entryFrame m #[(.ref o0), (.int ff)] 3)) T5 (mkF m 15 #[.val (.ref o0), .val (.int ff), .val (.int ff)] [(.int ff), (.ref ar)]) := fun t k => by
      refine R6 t ?_
      refine st5 _ ?_
      show Steps p.tables e below (T5.setTop (mkF m 14 #[.val (.ref o0), .val (.int ff), .val (.int ff)] [(.ref ar)])) t
      refine XS.iloadN X5.here hx rfl (hb hby d19_14) rfl ?_
      exact k
    obtain ⟨cl7, Ar7, q7, Sz7, N7_, Hs7, G7⟩ := id pV
    have hin7 : ¬ (ff < 0 ∨ cl7.slots.size ≤ (ff).toNatClampNeg) := inb_of Sz7 (ph hc7_3).1.1
    have hat7 : cl7.slots[(ff).toNatClampNeg]? = some (.int (own_at vs ff)) := Hs7.at hin7 (ph hc7_3).1.2
    have R10 : Rch p e below (s₁.setTop (entryFrame m #[(.ref o0), (.int ff)] 3)) T5 (mkF m 18 #[.val (.ref o0), .val (.int ff), .val (.int ff)] [(.int (32 : Int32)), (.int (own_at vs ff))]) := fun t k => by
      refine R8 t ?_
      refine X5.baloadBytes hx (j := ff) (v := (.int (own_at vs ff))) (by rw [e5]; exact Ar7.1) (State.isArrayOf_alike hZ.alike Ar7.2.1) Ar7.2.2 hin7 hat7 (g := (mkF m 15 #[.val (.ref o0), .val (.int ff), .val (.int ff)] [(.int ff), (.ref ar)])) rfl rfl (hb hby d19_15) _ ?_
      show Steps p.tables e below (T5.setTop (mkF m 16 #[.val (.ref o0), .val (.int ff), .val (.int ff)] [(.int (own_at vs ff))])) t
      refine XS.bipush X5.here hx rfl (hb hby d19_16) ?_
      exact k
    by_cases hc18_9 : (32 : Int32) < (own_at vs ff)
    · have R11 : Rch p e below (s₁.setTop (entryFrame m #[(.ref o0), (.int ff)] 3)) T5 (mkF m 72 #[.val (.ref o0), .val (.int ff), .val (.int ff)] [(.int ff)]) := fun t k => by
        refine R10 t ?_
        refine XS.icmpYes X5.here hx rfl (pc0 := 18) (pc' := 71) rfl (hb hby d19_18) rfl (tlt hc18_9).2.2.1 (by decide) (by decide) ?_
        show Steps p.tables e below (T5.setTop (mkF m 71 #[.val (.ref o0), .val (.int ff), .val (.int ff)] [])) t
        refine XS.iloadN X5.here hx rfl (hb hby d19_71) rfl ?_
        exact k
      obtain ⟨fs, hr, hrun, hended, hW, hsame⟩ := X5.leave (v := some (.int ff)) (fun h => by rw [Bd.returns] at h; cases h)
      refine ⟨_, _, R11 _ ?_, hrun, hended, _, _, rfl, ?_, ⟨_, rfl⟩, hW, hsame.mono (by decide) (by decide)⟩
      · exact retI X5 hx Bd.returns (hb hby d19_72) hr
      · show Q_rm_skip Z o0 ff en ar kk nn vs dv h0 n0 _ T5.heap _
        rw [e5]
        exact ⟨rfl, N0, rfl⟩
    · have R13 : Rch p e below (s₁.setTop (entryFrame m #[(.ref o0), (.int ff)] 3)) T5 (mkF m 22 #[.val (.ref o0), .val (.int ff), .val (.int ff)] [(.ref o0)]) := fun t k => by
        refine R10 t ?_
        refine XS.icmpNo X5.here hx rfl (hb hby d19_18) rfl (flt hc18_9).2.2.1 ?_
        show Steps p.tables e below (T5.setTop (mkF m 21 #[.val (.ref o0), .val (.int ff), .val (.int ff)] [])) t
        refine XS.aloadN X5.here hx rfl (hb hby d19_21) rfl rfl ?_
        exact k
      obtain ⟨T12, X12, e12, st12⟩ := getF X5 hx hZ hown (host := "") (Or.inl (hw _ (List.mem_of_getElem? (i := 146) rfl))) Via.refl e5 pf_bytes (g := (mkF m 22 #[.val (.ref o0), .val (.int ff), .val (.int ff)] [(.ref o0)])) rfl rfl (hb hby d19_22)
      have R15 : Rch p e below (s₁.setTop (entryFrame m #[(.ref o0), (.int ff)] 3)) T12 (mkF m 26 #[.val (.ref o0), .val (.int ff), .val (.int ff)] [(.int ff), (.ref ar)]) := fun t k => by
        refine R13 t ?_
        refine st12 _ ?_
        show Steps p.tables e below (T12.setTop (mkF m 25 #[.val (.ref o0), .val (.int ff), .val (.int ff)] [(.ref ar)])) t
        refine XS.iloadN X12.here hx rfl (hb hby d19_25) rfl ?_
        exact k
      obtain ⟨cl14, Ar14, q14, Sz14, N14_, Hs14, G14⟩ := id pV
      have hin14 : ¬ (ff < 0 ∨ cl14.slots.size ≤ (ff).toNatClampNeg) := inb_of Sz14 (ph hc7_3).1.1
      have hat14 : cl14.slots[(ff).toNatClampNeg]? = some (.int (own_at vs ff)) := Hs14.at hin14 (ph hc7_3).1.2
      have R17 : Rch p e below (s₁.setTop (entryFrame m #[(.ref o0), (.int ff)] 3)) T12 (mkF m 33 #[.val (.ref o0), .val (.int ff), .val (.int ff)] [(.ref o0)]) := fun t k => by
        refine R15 t ?_
        refine X12.baloadBytes hx (j := ff) (v := (.int (own_at vs ff))) (by rw [e12]; exact Ar14.1) (State.isArrayOf_alike hZ.alike Ar14.2.1) Ar14.2.2 hin14 hat14 (g := (mkF m 26 #[.val (.ref o0), .val (.int ff), .val (.int ff)] [(.int ff), (.ref ar)])) rfl rfl (hb hby d19_26) _ ?_
        show Steps p.tables e below (T12.setTop (mkF m 27 #[.val (.ref o0), .val (.int ff), .val (.int ff)] [(.int (own_at vs ff))])) t
        refine XS.bipush X12.here hx rfl (hb hby d19_27) ?_
        show Steps p.tables e below (T12.setTop (mkF m 29 #[.val (.ref o0), .val (.int ff), .val (.int ff)] [(.int (32 : Int32)), (.int (own_at vs ff))])) t
        refine XS.icmpNo X12.here hx rfl (hb hby d19_29) rfl (feq (ph hc7_3).2.1).1 ?_
        show Steps p.tables e below (T12.setTop (mkF m 32 #[.val (.ref o0), .val (.int ff), .val (.int ff)] [])) t
        refine XS.aloadN X12.here hx rfl (hb hby d19_32) rfl rfl ?_
        exact k
      obtain ⟨T16, X16, e16, st16⟩ := getF X12 hx hZ hown (host := "") (Or.inl (hw _ (List.mem_of_getElem? (i := 146) rfl))) Via.refl e12 pf_bytes (g := (mkF m 33 #[.val (.ref o0), .val (.int ff), .val (.int ff)] [(.ref o0)])) rfl rfl (hb hby d19_33)
      have R19 : Rch p e below (s₁.setTop (entryFrame m #[(.ref o0), (.int ff)] 3)) T16 (mkF m 37 #[.val (.ref o0), .val (.int ff), .val (.int ff)] [(.int ff), (.ref ar)]) := fun t k => by
        refine R17 t ?_
        refine st16 _ ?_
        show Steps p.tables e below (T16.setTop (mkF m 36 #[.val (.ref o0), .val (.int ff), .val (.int ff)] [(.ref ar)])) t
        refine XS.iloadN X16.here hx rfl (hb hby d19_36) rfl ?_
        exact k
      obtain ⟨cl18, Ar18, q18, Sz18, N18_, Hs18, G18⟩ := id pV
      have hin18 : ¬ (ff < 0 ∨ cl18.slots.size ≤ (ff).toNatClampNeg) := inb_of Sz18 (ph hc7_3).1.1
      have hat18 : cl18.slots[(ff).toNatClampNeg]? = some (.int (own_at vs ff)) := Hs18.at hin18 (ph hc7_3).1.2
      have R21 : Rch p e below (s₁.setTop (entryFrame m #[(.ref o0), (.int ff)] 3)) T16 (mkF m 44 #[.val (.ref o0), .val (.int ff), .val (.int ff)] [(.ref o0)]) := fun t k => by
        refine R19 t ?_
        refine X16.baloadBytes hx (j := ff) (v := (.int (own_at vs ff))) (by rw [e16]; exact Ar18.1) (State.isArrayOf_alike hZ.alike Ar18.2.1) Ar18.2.2 hin18 hat18 (g := (mkF m 37 #[.val (.ref o0), .val (.int ff), .val (.int ff)] [(.int ff), (.ref ar)])) rfl rfl (hb hby d19_37) _ ?_
        show Steps p.tables e below (T16.setTop (mkF m 38 #[.val (.ref o0), .val (.int ff), .val (.int ff)] [(.int (own_at vs ff))])) t
        refine XS.bipush X16.here hx rfl (hb hby d19_38) ?_
        show Steps p.tables e below (T16.setTop (mkF m 40 #[.val (.ref o0), .val (.int ff), .val (.int ff)] [(.int (9 : Int32)), (.int (own_at vs ff))])) t
        refine XS.icmpNo X16.here hx rfl (hb hby d19_40) rfl (feq (ph hc7_3).2.2.1).1 ?_
        show Steps p.tables e below (T16.setTop (mkF m 43 #[.val (.ref o0), .val (.int ff), .val (.int ff)] [])) t
        refine XS.aloadN X16.here hx rfl (hb hby d19_43) rfl rfl ?_
        exact k
      obtain ⟨T20, X20, e20, st20⟩ := getF X16 hx hZ hown (host := "") (Or.inl (hw _ (List.mem_of_getElem? (i := 146) rfl))) Via.refl e16 pf_bytes (g := (mkF m 44 #[.val (.ref o0), .val (.int ff), .val (.int ff)] [(.ref o0)])) rfl rfl (hb hby d19_44)
      have R23 : Rch p e below (s₁.setTop (entryFrame m #[(.ref o0), (.int ff)] 3)) T20 (mkF m 48 #[.val (.ref o0), .val (.int ff), .val (.int ff)] [(.int ff), (.ref ar)]) := fun t k => by
        refine R21 t ?_
        refine st20 _ ?_
        show Steps p.tables e below (T20.setTop (mkF m 47 #[.val (.ref o0), .val (.int ff), .val (.int ff)] [(.ref ar)])) t
        refine XS.iloadN X20.here hx rfl (hb hby d19_47) rfl ?_
        exact k
      obtain ⟨cl22, Ar22, q22, Sz22, N22_, Hs22, G22⟩ := id pV
      have hin22 : ¬ (ff < 0 ∨ cl22.slots.size ≤ (ff).toNatClampNeg) := inb_of Sz22 (ph hc7_3).1.1
      have hat22 : cl22.slots[(ff).toNatClampNeg]? = some (.int (own_at vs ff)) := Hs22.at hin22 (ph hc7_3).1.2
      have R25 : Rch p e below (s₁.setTop (entryFrame m #[(.ref o0), (.int ff)] 3)) T20 (mkF m 55 #[.val (.ref o0), .val (.int ff), .val (.int ff)] [(.ref o0)]) := fun t k => by
        refine R23 t ?_
        refine X20.baloadBytes hx (j := ff) (v := (.int (own_at vs ff))) (by rw [e20]; exact Ar22.1) (State.isArrayOf_alike hZ.alike Ar22.2.1) Ar22.2.2 hin22 hat22 (g := (mkF m 48 #[.val (.ref o0), .val (.int ff), .val (.int ff)] [(.int ff), (.ref ar)])) rfl rfl (hb hby d19_48) _ ?_
        show Steps p.tables e below (T20.setTop (mkF m 49 #[.val (.ref o0), .val (.int ff), .val (.int ff)] [(.int (own_at vs ff))])) t
        refine XS.bipush X20.here hx rfl (hb hby d19_49) ?_
        show Steps p.tables e below (T20.setTop (mkF m 51 #[.val (.ref o0), .val (.int ff), .val (.int ff)] [(.int (10 : Int32)), (.int (own_at vs ff))])) t
        refine XS.icmpNo X20.here hx rfl (hb hby d19_51) rfl (feq (ph hc7_3).2.2.2.1).1 ?_
        show Steps p.tables e below (T20.setTop (mkF m 54 #[.val (.ref o0), .val (.int ff), .val (.int ff)] [])) t
        refine XS.aloadN X20.here hx rfl (hb hby d19_54) rfl rfl ?_
        exact k
      obtain ⟨T24, X24, e24, st24⟩ := getF X20 hx hZ hown (host := "") (Or.inl (hw _ (List.mem_of_getElem? (i := 146) rfl))) Via.refl e20 pf_bytes (g := (mkF m 55 #[.val (.ref o0), .val (.int ff), .val (.int ff)] [(.ref o0)])) rfl rfl (hb hby d19_55)
      have R27 : Rch p e below (s₁.setTop (entryFrame m #[(.ref o0), (.int ff)] 3)) T24 (mkF m 59 #[.val (.ref o0), .val (.int ff), .val (.int ff)] [(.int ff), (.ref ar)]) := fun t k => by
        refine R25 t ?_
        refine st24 _ ?_
        show Steps p.tables e below (T24.setTop (mkF m 58 #[.val (.ref o0), .val (.int ff), .val (.int ff)] [(.ref ar)])) t
        refine XS.iloadN X24.here hx rfl (hb hby d19_58) rfl ?_
        exact k
      obtain ⟨cl26, Ar26, q26, Sz26, N26_, Hs26, G26⟩ := id pV
      have hin26 : ¬ (ff < 0 ∨ cl26.slots.size ≤ (ff).toNatClampNeg) := inb_of Sz26 (ph hc7_3).1.1
      have hat26 : cl26.slots[(ff).toNatClampNeg]? = some (.int (own_at vs ff)) := Hs26.at hin26 (ph hc7_3).1.2
      have R28 : Rch p e below (s₁.setTop (entryFrame m #[(.ref o0), (.int ff)] 3)) T24 (mkF m 72 #[.val (.ref o0), .val (.int ff), .val (.int ff)] [(.int ff)]) := fun t k => by
        refine R27 t ?_
        refine X24.baloadBytes hx (j := ff) (v := (.int (own_at vs ff))) (by rw [e24]; exact Ar26.1) (State.isArrayOf_alike hZ.alike Ar26.2.1) Ar26.2.2 hin26 hat26 (g := (mkF m 59 #[.val (.ref o0), .val (.int ff), .val (.int ff)] [(.int ff), (.ref ar)])) rfl rfl (hb hby d19_59) _ ?_
        show Steps p.tables e below (T24.setTop (mkF m 60 #[.val (.ref o0), .val (.int ff), .val (.int ff)] [(.int (own_at vs ff))])) t
        refine XS.bipush X24.here hx rfl (hb hby d19_60) ?_
        show Steps p.tables e below (T24.setTop (mkF m 62 #[.val (.ref o0), .val (.int ff), .val (.int ff)] [(.int (13 : Int32)), (.int (own_at vs ff))])) t
        refine XS.icmpYes X24.here hx rfl (pc0 := 62) (pc' := 71) rfl (hb hby d19_62) rfl (feq (ph hc7_3).2.2.2.2).2 (by decide) (by decide) ?_
        show Steps p.tables e below (T24.setTop (mkF m 71 #[.val (.ref o0), .val (.int ff), .val (.int ff)] [])) t
        refine XS.iloadN X24.here hx rfl (hb hby d19_71) rfl ?_
        exact k
      obtain ⟨fs, hr, hrun, hended, hW, hsame⟩ := X24.leave (v := some (.int ff)) (fun h => by rw [Bd.returns] at h; cases h)
      refine ⟨_, _, R28 _ ?_, hrun, hended, _, _, rfl, ?_, ⟨_, rfl⟩, hW, hsame.mono (by decide) (by decide)⟩
      · exact retI X24 hx Bd.returns (hb hby d19_72) hr
      · show Q_rm_skip Z o0 ff en ar kk nn vs dv h0 n0 _ T24.heap _
        rw [e24]
        exact ⟨rfl, N0, rfl⟩
  · have R29 : Rch p e below (s₁.setTop (entryFrame m #[(.ref o0), (.int ff)] 3)) T1 (mkF m 72 #[.val (.ref o0), .val (.int ff), .val (.int ff)] [(.int ff)]) := fun t k => by
      refine R4 t ?_
      refine XS.icmpYes X1.here hx rfl (pc0 := 7) (pc' := 71) rfl (hb hby d19_7) rfl (flt hc7_3).2.1 (by decide) (by decide) ?_
      show Steps p.tables e below (T1.setTop (mkF m 71 #[.val (.ref o0), .val (.int ff), .val (.int ff)] [])) t
      refine XS.iloadN X1.here hx rfl (hb hby d19_71) rfl ?_
      exact k
    obtain ⟨fs, hr, hrun, hended, hW, hsame⟩ := X1.leave (v := some (.int ff)) (fun h => by rw [Bd.returns] at h; cases h)
    refine ⟨_, _, R29 _ ?_, hrun, hended, _, _, rfl, ?_, ⟨_, rfl⟩, hW, hsame.mono (by decide) (by decide)⟩
    · exact retI X1 hx Bd.returns (hb hby d19_72) hr
    · show Q_rm_skip Z o0 ff en ar kk nn vs dv h0 n0 _ T1.heap _
      rw [e1]
      exact ⟨rfl, N0, rfl⟩
theorem d18_0 : decode prog_45_method_43_code 0 = .ok (.aload_n 0, 1) := by decide +kernel
theorem d18_1 : decode prog_45_method_43_code 1 = .ok (.aload_n 0, 1) := by decide +kernel
theorem d18_2 : decode prog_45_method_43_code 2 = .ok (.aload_n 0, 1) := by decide +kernel
theorem d18_3 : decode prog_45_method_43_code 3 = .ok (.getfield 101, 3) := by decide +kernel
theorem d18_6 : decode prog_45_method_43_code 6 = .ok (.invokevirtual 217, 3) := by decide +kernel
theorem pd_6 : parseMethodDescriptor "(I)I" = some ⟨[.int], some .int⟩ := by decide +kernel
theorem d18_9 : decode prog_45_method_43_code 9 = .ok (.putfield 101, 3) := by decide +kernel
theorem d18_12 : decode prog_45_method_43_code 12 = .ok (.aload_n 0, 1) := by decide +kernel
theorem d18_13 : decode prog_45_method_43_code 13 = .ok (.getfield 101, 3) := by decide +kernel
theorem d18_16 : decode prog_45_method_43_code 16 = .ok (.ireturn, 1) := by decide +kernel
theorem ef_rm_space (m : MethodId) (x0 : Addr) : entryFrame m #[(.ref x0)] 1 = mkF m 0 #[.val (.ref x0)] [] := by first | (simp [entryFrame, mkF, argsToLocals, Value.category]; done) | rfl
def Q_rm_space (Z : State) (o0 : Addr) (ar : Addr) (kk : ClassId) (nn : Int32) (vs : List Value) (dv : Value) (en : Int32) (ff : Int32) (dp : Int32) (op : Int32) (ob : Addr) (ut : Value) (h0 : Heap) (n0 : Nat) (v : Option Value) (h : Heap) (L : List Loc) : Prop := (v = some (.int ff)) ∧ (Fr n0 L) ∧ (Keep h0 h [o0]) ∧ (Exa Z h o0 "com/example/vestwork/vestwork/io/JsonScanner") ∧ (Fld Z h o0 "com/example/vestwork/vestwork/io/JsonScanner" "bytes" "[B" (.ref ar)) ∧ (Fld Z h o0 "com/example/vestwork/vestwork/io/JsonScanner" "end" "I" (.int en)) ∧ (Fld Z h o0 "com/example/vestwork/vestwork/io/JsonScanner" "at" "I" (.int ff)) ∧ (Fld Z h o0 "com/example/vestwork/vestwork/io/JsonScanner" "depth" "I" (.int dp)) ∧ (Fld Z h o0 "com/example/vestwork/vestwork/io/JsonScanner" "opened" "Z" (.int op)) ∧ (Fld Z h o0 "com/example/vestwork/vestwork/io/JsonScanner" "objects" "[Z" (.ref ob)) ∧ (Fld Z h o0 "com/example/vestwork/vestwork/io/JsonScanner" "start" "I" ut)
set_option maxRecDepth 65536 in
set_option maxHeartbeats 40000000 in
theorem rm_space (l : Launch) (Z : State) (a0 : Array Value) (hw : ∀ d ∈ tables_1, d.before a0 Z = true) (ws : List Jvm.Cond) (o0 : Addr) (ar : Addr) (kk : ClassId) (nn : Int32) (vs : List Value) (dv : Value) (en : Int32) (ff : Int32) (dp : Int32) (op : Int32) (ob : Addr) (ut : Value) (h0 : Heap) (n0 : Nat) (Z0 : n0 ≤ h0.size) (pE : Exa Z h0 o0 "com/example/vestwork/vestwork/io/JsonScanner") (pg : n0 ≤ o0) (pna : ar ≠ o0) (pf_bytes : Fld Z h0 o0 "com/example/vestwork/vestwork/io/JsonScanner" "bytes" "[B" (.ref ar)) (pf_end : Fld Z h0 o0 "com/example/vestwork/vestwork/io/JsonScanner" "end" "I" (.int en)) (pf_at : Fld Z h0 o0 "com/example/vestwork/vestwork/io/JsonScanner" "at" "I" (.int ff)) (pf_depth : Fld Z h0 o0 "com/example/vestwork/vestwork/io/JsonScanner" "depth" "I" (.int dp)) (pf_opened : Fld Z h0 o0 "com/example/vestwork/vestwork/io/JsonScanner" "opened" "Z" (.int op)) (pf_objects : Fld Z h0 o0 "com/example/vestwork/vestwork/io/JsonScanner" "objects" "[Z" (.ref ob)) (pf_start : Fld Z h0 o0 "com/example/vestwork/vestwork/io/JsonScanner" "start" "I" ut) (pV : Arv Z h0 ar kk .byte nn vs dv) (ph : ff < en → own_rd vs dv nn ff ∧ own_nsp (own_at vs ff)) :
    MetFree l (⟨"com/example/vestwork/vestwork/io/JsonScanner", "space", "()I"⟩ : MethodName) (head1 (Jvm.Cond.code (⟨"com/example/vestwork/vestwork/io/JsonScanner", "space", "()I"⟩ : MethodName) prog_45_method_43_code 1 (some .int) :: ws) ({ frames := 1, cells := 0, slots := 0, locals := 15 } : Room)) (fun a U => a = #[(.ref o0)] ∧ Z.Warmed39 U.vm ∧ U.heap = h0) (fun _ _ _ _ _ => True) (fun _ U o U' => ∃ v L, o = .returned v ∧ Q_rm_space Z o0 ar kk nn vs dv en ff dp op ob ut h0 n0 v U'.heap L ∧ FrameEnd U o U' L ({ frames := 1, cells := 0, slots := 0, locals := 15 } : Room).cells ({ frames := 1, cells := 0, slots := 0, locals := 15 } : Room).slots) := by
  refine MetFree.of_bodySF (plainFor_of_name pn_8) hisR ?_
  intro p e s m args below meth c s₁ Bd hml0 hP hK
  obtain ⟨rfl, hZ, hh⟩ := hP
  have hx := Bd.exec
  have hby := Bd.bytes
  have hml : c.maxLocals = 1 := hml0
  have hown : s.vm.findClass "com/example/vestwork/vestwork/io/JsonScanner" = some m.cls := findClass_of_methodNamed Bd.named
  have hnm := (name_of_methodNamed Bd.named Bd.method).1
  have X0 : Stand p l e ({ frames := 1, cells := 0, slots := 0, locals := 15 } : Room) s m #[(.ref o0)] below meth c s₁ [] 0 0 := Stand.of_body Bd
  have e0 : s₁.heap = h0 := by rw [← hh, Bd.state]; rfl
  have N0 := Fr.nil n0
  have K0 : Keep h0 h0 [o0] := Keep.refl _ _
  have R0 : Rch p e below (s₁.setTop (entryFrame m #[(.ref o0)] 1)) s₁ (mkF m 0 #[.val (.ref o0)] []) := fun t k => castTop (ef_rm_space m o0) k
  have R2 : Rch p e below (s₁.setTop (entryFrame m #[(.ref o0)] 1)) s₁ (mkF m 3 #[.val (.ref o0)] [(.ref o0), (.ref o0), (.ref o0)]) := fun t k => by
    refine R0 t ?_
    refine XS.aloadN X0.here hx rfl (hb hby d18_0) rfl rfl ?_
    show Steps p.tables e below (s₁.setTop (mkF m 1 #[.val (.ref o0)] [(.ref o0)])) t
    refine XS.aloadN X0.here hx rfl (hb hby d18_1) rfl rfl ?_
    show Steps p.tables e below (s₁.setTop (mkF m 2 #[.val (.ref o0)] [(.ref o0), (.ref o0)])) t
    refine XS.aloadN X0.here hx rfl (hb hby d18_2) rfl rfl ?_
    exact k
  obtain ⟨T1, X1, e1, st1⟩ := getF X0 hx hZ hown (host := "") (Or.inl (hw _ (List.mem_of_getElem? (i := 152) rfl))) Via.refl e0 pf_at (g := (mkF m 3 #[.val (.ref o0)] [(.ref o0), (.ref o0), (.ref o0)])) rfl rfl (hb hby d18_3)
  have R4 : Rch p e below (s₁.setTop (entryFrame m #[(.ref o0)] 1)) T1 (mkF m 6 #[.val (.ref o0)] [(.int ff), (.ref o0), (.ref o0)]) := fun t k => by
    refine R2 t ?_
    refine st1 _ ?_
    exact k
  obtain ⟨cq3, q3, q3'⟩ := pE.cell
  obtain ⟨_, _, ⟨T3, L3, k3, n3⟩, -, X3, ⟨Lc3, hQ3, l3, y3, z3⟩, st3⟩ := X1.privateBack hx (y := (⟨"com/example/vestwork/vestwork/io/JsonScanner", "skipSpace", "(I)I"⟩ : MethodName)) hown (mvT hZ (hw _ (List.mem_of_getElem? (i := 169) rfl))) (mvT hZ (hw _ (List.mem_of_getElem? (i := 170) rfl))) (own_selp hZ (hw _ (List.mem_of_getElem? (i := 7) rfl)) (hw _ (List.mem_of_getElem? (i := 171) rfl)) (hw _ (List.mem_of_getElem? (i := 170) rfl)) (by decide)) (Cond.privateMethod_at (mvP hZ (hw _ (List.mem_of_getElem? (i := 171) rfl)) (args := #[]))) (mvT hZ (hw _ (List.mem_of_getElem? (i := 172) rfl))) (by decide) (backOf (W := 1) (rm_skip l Z a0 hw [] o0 ff en ar kk nn vs dv h0 n0 (Nat.le_trans Z0 K0.1) pf_bytes pf_end pV ph) hZ (hw _ (List.mem_of_getElem? (i := 172) rfl)) (hw _ (List.mem_of_getElem? (i := 8) rfl)) (by decide) (by decide)) (g := (mkF m 6 #[.val (.ref o0)] [(.int ff), (.ref o0), (.ref o0)])) rfl (by rw [hml]; rfl) (Steps.refl _) (a := o0) (by rw [e1]; exact q3) q3' (argsL := [(.int ff)]) (rest := [(.ref o0)]) (lenOf pd_6 rfl) rfl (by show 2 * 0 + _ ≤ _; exact Nat.le_of_eq rfl) (hb hby d18_6) (fun _ _ => ⟨rfl, e1, (by decide : 0 + 0 ≤ _), (by decide : 0 + 0 ≤ _)⟩)
  dsimp only [Pt.U, Pt.locs, Pt.cells, Pt.slots] at X3 l3 y3 z3 st3 hQ3
  subst l3 y3 z3
  obtain ⟨rfl, N3q, e3⟩ := hQ3
  have N3 := Fr.app N0 N3q
  have R6 : Rch p e below (s₁.setTop (entryFrame m #[(.ref o0)] 1)) T3 (mkF m 9 #[.val (.ref o0)] [(.int ff), (.ref o0)]) := fun t k => by
    refine R4 t ?_
    refine st3.trans ?_
    exact k
  obtain ⟨T5, h5, X5, e5, W5, st5⟩ := putF X3 hx hZ hown (host := "") (Or.inl (hw _ (List.mem_of_getElem? (i := 152) rfl))) Via.refl e3 pf_at pE (Or.inl (hw _ (List.mem_of_getElem? (i := 153) rfl))) (hw _ (List.mem_of_getElem? (i := 7) rfl)) (ty := .int) (by decide) rfl rfl (g := (mkF m 9 #[.val (.ref o0)] [(.int ff), (.ref o0)])) rfl rfl (hb hby d18_9)
  have Fw5 := pf_at.same W5
  have K5 : Keep h0 h5 [o0] := K0.wr W5 (Or.inl (List.mem_of_getElem? (i := 0) rfl))
  have N5 := Fr.snoc X5 N3 pg
  have R8 : Rch p e below (s₁.setTop (entryFrame m #[(.ref o0)] 1)) T5 (mkF m 13 #[.val (.ref o0)] [(.ref o0)]) := fun t k => by
    refine R6 t ?_
    refine st5 _ ?_
    show Steps p.tables e below (T5.setTop (mkF m 12 #[.val (.ref o0)] [])) t
    refine XS.aloadN X5.here hx rfl (hb hby d18_12) rfl rfl ?_
    exact k
  obtain ⟨T7, X7, e7, st7⟩ := getF X5 hx hZ hown (host := "") (Or.inl (hw _ (List.mem_of_getElem? (i := 152) rfl))) Via.refl e5 Fw5 (g := (mkF m 13 #[.val (.ref o0)] [(.ref o0)])) rfl rfl (hb hby d18_13)
  have R9 : Rch p e below (s₁.setTop (entryFrame m #[(.ref o0)] 1)) T7 (mkF m 16 #[.val (.ref o0)] [(.int ff)]) := fun t k => by
    refine R8 t ?_
    refine st7 _ ?_
    exact k
  obtain ⟨fs, hr, hrun, hended, hW, hsame⟩ := X7.leave (v := some (.int ff)) (fun h => by rw [Bd.returns] at h; cases h)
  refine ⟨_, _, R9 _ ?_, hrun, hended, _, _, rfl, ?_, ⟨_, rfl⟩, hW, hsame.mono (by decide) (by decide)⟩
  · exact retI X7 hx Bd.returns (hb hby d18_16) hr
  · show Q_rm_space Z o0 ar kk nn vs dv en ff dp op ob ut h0 n0 _ T7.heap _
    rw [e7]
    exact ⟨rfl, N5, K5, (pE.wr W5), (pf_bytes.other W5 (Or.inr (slot_ne (Or.inl (hw _ (List.mem_of_getElem? (i := 147) rfl))) (Or.inl (hw _ (List.mem_of_getElem? (i := 153) rfl))) (by decide) (t := (.array .byte)) (t' := .int) (by decide) (by decide)))), (pf_end.other W5 (Or.inr (slot_ne (Or.inl (hw _ (List.mem_of_getElem? (i := 151) rfl))) (Or.inl (hw _ (List.mem_of_getElem? (i := 153) rfl))) (by decide) (t := .int) (t' := .int) (by decide) (by decide)))), Fw5, (pf_depth.other W5 (Or.inr (slot_ne (Or.inl (hw _ (List.mem_of_getElem? (i := 155) rfl))) (Or.inl (hw _ (List.mem_of_getElem? (i := 153) rfl))) (by decide) (t := .int) (t' := .int) (by decide) (by decide)))), (pf_opened.other W5 (Or.inr (slot_ne (Or.inl (hw _ (List.mem_of_getElem? (i := 179) rfl))) (Or.inl (hw _ (List.mem_of_getElem? (i := 153) rfl))) (by decide) (t := .boolean) (t' := .int) (by decide) (by decide)))), (pf_objects.other W5 (Or.inr (slot_ne (Or.inr (hw _ (List.mem_of_getElem? (i := 41) rfl))) (Or.inl (hw _ (List.mem_of_getElem? (i := 153) rfl))) (by decide) (t := (.array .boolean)) (t' := .int) (by decide) (by decide)))), (pf_start.other W5 (Or.inr (slot_ne (Or.inl (hw _ (List.mem_of_getElem? (i := 149) rfl))) (Or.inl (hw _ (List.mem_of_getElem? (i := 153) rfl))) (by decide) (t := .int) (t' := .int) (by decide) (by decide))))⟩
theorem d22_0 : decode prog_45_method_35_code 0 = .ok (.aload_n 0, 1) := by decide +kernel
theorem d22_1 : decode prog_45_method_35_code 1 = .ok (.invokevirtual 114, 3) := by decide +kernel
theorem pd_7 : parseMethodDescriptor "()I" = some ⟨[], some .int⟩ := by decide +kernel
theorem d22_4 : decode prog_45_method_35_code 4 = .ok (.istore_n 2, 1) := by decide +kernel
theorem d22_5 : decode prog_45_method_35_code 5 = .ok (.aload_n 0, 1) := by decide +kernel
theorem d22_6 : decode prog_45_method_35_code 6 = .ok (.getfield 165, 3) := by decide +kernel
theorem d22_9 : decode prog_45_method_35_code 9 = .ok (.istore_n 3, 1) := by decide +kernel
theorem d22_10 : decode prog_45_method_35_code 10 = .ok (.aload_n 0, 1) := by decide +kernel
theorem d22_11 : decode prog_45_method_35_code 11 = .ok (.iconst 0, 1) := by decide +kernel
theorem d22_12 : decode prog_45_method_35_code 12 = .ok (.putfield 165, 3) := by decide +kernel
theorem d22_15 : decode prog_45_method_35_code 15 = .ok (.iload_n 2, 1) := by decide +kernel
theorem d22_16 : decode prog_45_method_35_code 16 = .ok (.aload_n 0, 1) := by decide +kernel
theorem d22_17 : decode prog_45_method_35_code 17 = .ok (.getfield 98, 3) := by decide +kernel
theorem d22_20 : decode prog_45_method_35_code 20 = .ok (.if_icmp .ge 36, 3) := by decide +kernel
theorem d22_23 : decode prog_45_method_35_code 23 = .ok (.aload_n 0, 1) := by decide +kernel
theorem d22_24 : decode prog_45_method_35_code 24 = .ok (.getfield 92, 3) := by decide +kernel
theorem d22_27 : decode prog_45_method_35_code 27 = .ok (.iload_n 2, 1) := by decide +kernel
theorem d22_28 : decode prog_45_method_35_code 28 = .ok (.baload, 1) := by decide +kernel
theorem d22_29 : decode prog_45_method_35_code 29 = .ok (.iload_n 1, 1) := by decide +kernel
theorem d22_30 : decode prog_45_method_35_code 30 = .ok (.if_icmp .ne 26, 3) := by decide +kernel
theorem d22_33 : decode prog_45_method_35_code 33 = .ok (.aload_n 0, 1) := by decide +kernel
theorem d22_34 : decode prog_45_method_35_code 34 = .ok (.iload_n 2, 1) := by decide +kernel
theorem d22_35 : decode prog_45_method_35_code 35 = .ok (.iconst 1, 1) := by decide +kernel
theorem d22_36 : decode prog_45_method_35_code 36 = .ok (.iadd, 1) := by decide +kernel
theorem d22_37 : decode prog_45_method_35_code 37 = .ok (.putfield 101, 3) := by decide +kernel
theorem d22_40 : decode prog_45_method_35_code 40 = .ok (.aload_n 0, 1) := by decide +kernel
theorem d22_41 : decode prog_45_method_35_code 41 = .ok (.dup, 1) := by decide +kernel
theorem d22_42 : decode prog_45_method_35_code 42 = .ok (.getfield 104, 3) := by decide +kernel
theorem d22_45 : decode prog_45_method_35_code 45 = .ok (.iconst 1, 1) := by decide +kernel
theorem d22_46 : decode prog_45_method_35_code 46 = .ok (.isub, 1) := by decide +kernel
theorem d22_47 : decode prog_45_method_35_code 47 = .ok (.putfield 104, 3) := by decide +kernel
theorem d22_50 : decode prog_45_method_35_code 50 = .ok (.iconst 0, 1) := by decide +kernel
theorem d22_51 : decode prog_45_method_35_code 51 = .ok (.istore 4, 2) := by decide +kernel
theorem d22_53 : decode prog_45_method_35_code 53 = .ok (.goto 54, 3) := by decide +kernel
theorem d22_107 : decode prog_45_method_35_code 107 = .ok (.iload 4, 2) := by decide +kernel
theorem d22_109 : decode prog_45_method_35_code 109 = .ok (.ireturn, 1) := by decide +kernel
theorem d22_56 : decode prog_45_method_35_code 56 = .ok (.iload_n 3, 1) := by decide +kernel
theorem d22_57 : decode prog_45_method_35_code 57 = .ok (.ifCond .eq 9, 3) := by decide +kernel
theorem d22_60 : decode prog_45_method_35_code 60 = .ok (.iconst 1, 1) := by decide +kernel
theorem d22_61 : decode prog_45_method_35_code 61 = .ok (.istore 4, 2) := by decide +kernel
theorem d22_63 : decode prog_45_method_35_code 63 = .ok (.goto 44, 3) := by decide +kernel
theorem ef_rm_next (m : MethodId) (x0 : Addr) (x1 : Int32) : entryFrame m #[(.ref x0), (.int x1)] 5 = mkF m 0 #[.val (.ref x0), .val (.int x1), .unset, .unset, .unset] [] := by first | (simp [entryFrame, mkF, argsToLocals, Value.category]; done) | rfl
def Q_rm_next (Z : State) (o0 : Addr) (ar : Addr) (kk : ClassId) (nn : Int32) (vs : List Value) (dv : Value) (en : Int32) (ff : Int32) (dp : Int32) (ob : Addr) (ut : Value) (h0 : Heap) (n0 : Nat) (v : Option Value) (h : Heap) (L : List Loc) : Prop := (v = some (.int (own_item vs ff en))) ∧ (Fr n0 L) ∧ (Keep h0 h [o0])
set_option maxRecDepth 65536 in
set_option maxHeartbeats 40000000 in
theorem rm_next (l : Launch) (Z : State) (a0 : Array Value) (hw : ∀ d ∈ tables_1, d.before a0 Z = true) (ws : List Jvm.Cond) (o0 : Addr) (ar : Addr) (kk : ClassId) (nn : Int32) (vs : List Value) (dv : Value) (en : Int32) (ff : Int32) (dp : Int32) (ob : Addr) (ut : Value) (h0 : Heap) (n0 : Nat) (Z0 : n0 ≤ h0.size) (pE : Exa Z h0 o0 "com/example/vestwork/vestwork/io/JsonScanner") (pg : n0 ≤ o0) (pna : ar ≠ o0) (pf_bytes : Fld Z h0 o0 "com/example/vestwork/vestwork/io/JsonScanner" "bytes" "[B" (.ref ar)) (pf_end : Fld Z h0 o0 "com/example/vestwork/vestwork/io/JsonScanner" "end" "I" (.int en)) (pf_at : Fld Z h0 o0 "com/example/vestwork/vestwork/io/JsonScanner" "at" "I" (.int ff)) (pf_depth : Fld Z h0 o0 "com/example/vestwork/vestwork/io/JsonScanner" "depth" "I" (.int dp)) (pf_opened : Fld Z h0 o0 "com/example/vestwork/vestwork/io/JsonScanner" "opened" "Z" (.int (1 : Int32))) (pf_objects : Fld Z h0 o0 "com/example/vestwork/vestwork/io/JsonScanner" "objects" "[Z" (.ref ob)) (pf_start : Fld Z h0 o0 "com/example/vestwork/vestwork/io/JsonScanner" "start" "I" ut) (pV : Arv Z h0 ar kk .byte nn vs dv) (ph : ff < en → own_rd vs dv nn ff ∧ own_nsp (own_at vs ff)) :
    MetFree l (⟨"com/example/vestwork/vestwork/io/JsonScanner", "next", "(C)Z"⟩ : MethodName) (head1 (Jvm.Cond.code (⟨"com/example/vestwork/vestwork/io/JsonScanner", "next", "(C)Z"⟩ : MethodName) prog_45_method_35_code 5 (some .boolean) :: ws) ({ frames := 2, cells := 0, slots := 0, locals := 27 } : Room)) (fun a U => a = #[(.ref o0), (.int (93 : Int32))] ∧ Z.Warmed39 U.vm ∧ U.heap = h0) (fun _ _ _ _ _ => True) (fun _ U o U' => ∃ v L, o = .returned v ∧ Q_rm_next Z o0 ar kk nn vs dv en ff dp ob ut h0 n0 v U'.heap L ∧ FrameEnd U o U' L ({ frames := 2, cells := 0, slots := 0, locals := 27 } : Room).cells ({ frames := 2, cells := 0, slots := 0, locals := 27 } : Room).slots) := by
  refine MetFree.of_bodySF (plainFor_of_name pn_8) hisR ?_
  intro p e s m args below meth c s₁ Bd hml0 hP hK
  obtain ⟨rfl, hZ, hh⟩ := hP
  have hx := Bd.exec
  have hby := Bd.bytes
  have hml : c.maxLocals = 5 := hml0
  have hown : s.vm.findClass "com/example/vestwork/vestwork/io/JsonScanner" = some m.cls := findClass_of_methodNamed Bd.named
  have hnm := (name_of_methodNamed Bd.named Bd.method).1
  have X0 : Stand p l e ({ frames := 2, cells := 0, slots := 0, locals := 27 } : Room) s m #[(.ref o0), (.int (93 : Int32))] below meth c s₁ [] 0 0 := Stand.of_body Bd
  have e0 : s₁.heap = h0 := by rw [← hh, Bd.state]; rfl
  have N0 := Fr.nil n0
  have K0 : Keep h0 h0 [o0] := Keep.refl _ _
  have R0 : Rch p e below (s₁.setTop (entryFrame m #[(.ref o0), (.int (93 : Int32))] 5)) s₁ (mkF m 0 #[.val (.ref o0), .val (.int (93 : Int32)), .unset, .unset, .unset] []) := fun t k => castTop (ef_rm_next m o0 (93 : Int32)) k
  have R2 : Rch p e below (s₁.setTop (entryFrame m #[(.ref o0), (.int (93 : Int32))] 5)) s₁ (mkF m 1 #[.val (.ref o0), .val (.int (93 : Int32)), .unset, .unset, .unset] [(.ref o0)]) := fun t k => by
    refine R0 t ?_
    refine XS.aloadN X0.here hx rfl (hb hby d22_0) rfl rfl ?_
    exact k
  obtain ⟨cq1, q1, q1'⟩ := pE.cell
  obtain ⟨_, _, ⟨T1, L1, k1, n1⟩, -, X1, ⟨Lc1, hQ1, l1, y1, z1⟩, st1⟩ := X0.privateBack hx (y := (⟨"com/example/vestwork/vestwork/io/JsonScanner", "space", "()I"⟩ : MethodName)) hown (mvT hZ (hw _ (List.mem_of_getElem? (i := 165) rfl))) (mvT hZ (hw _ (List.mem_of_getElem? (i := 166) rfl))) (own_selp hZ (hw _ (List.mem_of_getElem? (i := 7) rfl)) (hw _ (List.mem_of_getElem? (i := 167) rfl)) (hw _ (List.mem_of_getElem? (i := 166) rfl)) (by decide)) (Cond.privateMethod_at (mvP hZ (hw _ (List.mem_of_getElem? (i := 167) rfl)) (args := #[]))) (mvT hZ (hw _ (List.mem_of_getElem? (i := 168) rfl))) (by decide) (backOf (W := 0) (rm_space l Z a0 hw [] o0 ar kk nn vs dv en ff dp (1 : Int32) ob ut h0 n0 (Nat.le_trans Z0 K0.1) pE pg pna pf_bytes pf_end pf_at pf_depth pf_opened pf_objects pf_start pV ph) hZ (hw _ (List.mem_of_getElem? (i := 168) rfl)) (hw _ (List.mem_of_getElem? (i := 8) rfl)) (by decide) (by decide)) (g := (mkF m 1 #[.val (.ref o0), .val (.int (93 : Int32)), .unset, .unset, .unset] [(.ref o0)])) rfl (by rw [hml]; rfl) (Steps.refl _) (a := o0) (by rw [e0]; exact q1) q1' (argsL := []) (rest := []) (lenOf pd_7 rfl) rfl (by show 2 * 0 + _ ≤ _; exact Nat.le_of_eq rfl) (hb hby d22_1) (fun _ _ => ⟨rfl, e0, (by decide : 0 + 0 ≤ _), (by decide : 0 + 0 ≤ _)⟩)
  dsimp only [Pt.U, Pt.locs, Pt.cells, Pt.slots] at X1 l1 y1 z1 st1 hQ1
  subst l1 y1 z1
  obtain ⟨rfl, N1q, Kc1, c1_E, c1_f_bytes, c1_f_end, c1_f_at, c1_f_depth, c1_f_opened, c1_f_objects, c1_f_start⟩ := hQ1
  have N1 := Fr.app N0 N1q
  have K1 : Keep h0 T1.heap [o0] := K0.trans Kc1 (allS (Or.inl (List.mem_of_getElem? (i := 0) rfl)) all0)
  have R4 : Rch p e below (s₁.setTop (entryFrame m #[(.ref o0), (.int (93 : Int32))] 5)) T1 (mkF m 6 #[.val (.ref o0), .val (.int (93 : Int32)), .val (.int ff), .unset, .unset] [(.ref o0)]) := fun t k => by
    refine R2 t ?_
    refine st1.trans ?_
    show Steps p.tables e below (T1.setTop (mkF m 4 #[.val (.ref o0), .val (.int (93 : Int32)), .unset, .unset, .unset] [(.int ff)])) t
    refine XS.istoreN X1.here hx rfl (hb hby d22_4) rfl (l' := #[.val (.ref o0), .val (.int (93 : Int32)), .val (.int ff), .unset, .unset]) rfl ?_
    show Steps p.tables e below (T1.setTop (mkF m 5 #[.val (.ref o0), .val (.int (93 : Int32)), .val (.int ff), .unset, .unset] [])) t
    refine XS.aloadN X1.here hx rfl (hb hby d22_5) rfl rfl ?_
    exact k
  obtain ⟨T3, X3, e3, st3⟩ := getF X1 hx hZ hown (host := "") (Or.inl (hw _ (List.mem_of_getElem? (i := 178) rfl))) Via.refl rfl c1_f_opened (g := (mkF m 6 #[.val (.ref o0), .val (.int (93 : Int32)), .val (.int ff), .unset, .unset] [(.ref o0)])) rfl rfl (hb hby d22_6)
  have R6 : Rch p e below (s₁.setTop (entryFrame m #[(.ref o0), (.int (93 : Int32))] 5)) T3 (mkF m 12 #[.val (.ref o0), .val (.int (93 : Int32)), .val (.int ff), .val (.int (1 : Int32)), .unset] [(.int (0 : Int32)), (.ref o0)]) := fun t k => by
    refine R4 t ?_
    refine st3 _ ?_
    show Steps p.tables e below (T3.setTop (mkF m 9 #[.val (.ref o0), .val (.int (93 : Int32)), .val (.int ff), .unset, .unset] [(.int (1 : Int32))])) t
    refine XS.istoreN X3.here hx rfl (hb hby d22_9) rfl (l' := #[.val (.ref o0), .val (.int (93 : Int32)), .val (.int ff), .val (.int (1 : Int32)), .unset]) rfl ?_
    show Steps p.tables e below (T3.setTop (mkF m 10 #[.val (.ref o0), .val (.int (93 : Int32)), .val (.int ff), .val (.int (1 : Int32)), .unset] [])) t
    refine XS.aloadN X3.here hx rfl (hb hby d22_10) rfl rfl ?_
    show Steps p.tables e below (T3.setTop (mkF m 11 #[.val (.ref o0), .val (.int (93 : Int32)), .val (.int ff), .val (.int (1 : Int32)), .unset] [(.ref o0)])) t
    refine XS.iconst X3.here hx rfl (hb hby d22_11) ?_
    exact k
  obtain ⟨T5, h5, X5, e5, W5, st5⟩ := putFN X3 hx hZ hown (hw _ (List.mem_of_getElem? (i := 178) rfl)) Via.refl e3 c1_f_opened c1_E (Or.inl (hw _ (List.mem_of_getElem? (i := 179) rfl))) (hw _ (List.mem_of_getElem? (i := 7) rfl)) (ty := .boolean) (v' := (.int (0 : Int32))) (by decide) rfl rfl (g := (mkF m 12 #[.val (.ref o0), .val (.int (93 : Int32)), .val (.int ff), .val (.int (1 : Int32)), .unset] [(.int (0 : Int32)), (.ref o0)])) rfl rfl (hb hby d22_12)
  have Fw5 := c1_f_opened.same W5
  have K5 : Keep h0 h5 [o0] := K1.wr W5 (Or.inl (List.mem_of_getElem? (i := 0) rfl))
  have N5 := Fr.snoc X5 N1 pg
  have R8 : Rch p e below (s₁.setTop (entryFrame m #[(.ref o0), (.int (93 : Int32))] 5)) T5 (mkF m 17 #[.val (.ref o0), .val (.int (93 : Int32)), .val (.int ff), .val (.int (1 : Int32)), .unset] [(.ref o0), (.int ff)]) := fun t k => by
    refine R6 t ?_
    refine st5 _ ?_
    show Steps p.tables e below (T5.setTop (mkF m 15 #[.val (.ref o0), .val (.int (93 : Int32)), .val (.int ff), .val (.int (1 : Int32)), .unset] [])) t
    refine XS.iloadN X5.here hx rfl (hb hby d22_15) rfl ?_
    show Steps p.tables e below (T5.setTop (mkF m 16 #[.val (.ref o0), .val (.int (93 : Int32)), .val (.int ff), .val (.int (1 : Int32)), .unset] [(.int ff)])) t
    refine XS.aloadN X5.here hx rfl (hb hby d22_16) rfl rfl ?_
    exact k
  obtain ⟨T7, X7, e7, st7⟩ := getF X5 hx hZ hown (host := "") (Or.inl (hw _ (List.mem_of_getElem? (i := 150) rfl))) Via.refl e5 (c1_f_end.other W5 (Or.inr (slot_ne (Or.inl (hw _ (List.mem_of_getElem? (i := 151) rfl))) (Or.inl (hw _ (List.mem_of_getElem? (i := 179) rfl))) (by decide) (t := .int) (t' := .boolean) (by decide) (by decide)))) (g := (mkF m 17 #[.val (.ref o0), .val (.int (93 : Int32)), .val (.int ff), .val (.int (1 : Int32)), .unset] [(.ref o0), (.int ff)])) rfl rfl (hb hby d22_17)
  have R10 : Rch p e below (s₁.setTop (entryFrame m #[(.ref o0), (.int (93 : Int32))] 5)) T7 (mkF m 20 #[.val (.ref o0), .val (.int (93 : Int32)), .val (.int ff), .val (.int (1 : Int32)), .unset] [(.int en), (.int ff)]) := fun t k => by
    refine R8 t ?_
    refine st7 _ ?_
    exact k
  by_cases hc20_9 : ff < en
  · have R12 : Rch p e below (s₁.setTop (entryFrame m #[(.ref o0), (.int (93 : Int32))] 5)) T7 (mkF m 24 #[.val (.ref o0), .val (.int (93 : Int32)), .val (.int ff), .val (.int (1 : Int32)), .unset] [(.ref o0)]) := fun t k => by
      refine R10 t ?_
      refine XS.icmpNo X7.here hx rfl (hb hby d22_20) rfl (tlt hc20_9).2.1 ?_
      show Steps p.tables e below (T7.setTop (mkF m 23 #[.val (.ref o0), .val (.int (93 : Int32)), .val (.int ff), .val (.int (1 : Int32)), .unset] [])) t
      refine XS.aloadN X7.here hx rfl (hb hby d22_23) rfl rfl ?_
      exact k
    obtain ⟨T11, X11, e11, st11⟩ := getF X7 hx hZ hown (host := "") (Or.inl (hw _ (List.mem_of_getElem? (i := 146) rfl))) Via.refl e7 (c1_f_bytes.other W5 (Or.inr (slot_ne (Or.inl (hw _ (List.mem_of_getElem? (i := 147) rfl))) (Or.inl (hw _ (List.mem_of_getElem? (i := 179) rfl))) (by decide) (t := (.array .byte)) (t' := .boolean) (by decide) (by decide)))) (g := (mkF m 24 #[.val (.ref o0), .val (.int (93 : Int32)), .val (.int ff), .val (.int (1 : Int32)), .unset] [(.ref o0)])) rfl rfl (hb hby d22_24)
    have R14 : Rch p e below (s₁.setTop (entryFrame m #[(.ref o0), (.int (93 : Int32))] 5)) T11 (mkF m 28 #[.val (.ref o0), .val (.int (93 : Int32)), .val (.int ff), .val (.int (1 : Int32)), .unset] [(.int ff), (.ref ar)]) := fun t k => by
      refine R12 t ?_
      refine st11 _ ?_
      show Steps p.tables e below (T11.setTop (mkF m 27 #[.val (.ref o0), .val (.int (93 : Int32)), .val (.int ff), .val (.int (1 : Int32)), .unset] [(.ref ar)])) t
      refine XS.iloadN X11.here hx rfl (hb hby d22_27) rfl ?_
      exact k
    obtain ⟨cl13, Ar13, q13, Sz13, N13_, Hs13, G13⟩ := id ((pV.keep Kc1 (ninS pna nin0)).other W5 pna)
    have hin13 : ¬ (ff < 0 ∨ cl13.slots.size ≤ (ff).toNatClampNeg) := inb_of Sz13 (ph hc20_9).1.1
    have hat13 : cl13.slots[(ff).toNatClampNeg]? = some (.int (own_at vs ff)) := Hs13.at hin13 (ph hc20_9).1.2
    have R16 : Rch p e below (s₁.setTop (entryFrame m #[(.ref o0), (.int (93 : Int32))] 5)) T11 (mkF m 30 #[.val (.ref o0), .val (.int (93 : Int32)), .val (.int ff), .val (.int (1 : Int32)), .unset] [(.int (93 : Int32)), (.int (own_at vs ff))]) := fun t k => by
      refine R14 t ?_
      refine X11.baloadBytes hx (j := ff) (v := (.int (own_at vs ff))) (by rw [e11]; exact Ar13.1) (State.isArrayOf_alike hZ.alike Ar13.2.1) Ar13.2.2 hin13 hat13 (g := (mkF m 28 #[.val (.ref o0), .val (.int (93 : Int32)), .val (.int ff), .val (.int (1 : Int32)), .unset] [(.int ff), (.ref ar)])) rfl rfl (hb hby d22_28) _ ?_
      show Steps p.tables e below (T11.setTop (mkF m 29 #[.val (.ref o0), .val (.int (93 : Int32)), .val (.int ff), .val (.int (1 : Int32)), .unset] [(.int (own_at vs ff))])) t
      refine XS.iloadN X11.here hx rfl (hb hby d22_29) rfl ?_
      exact k
    by_cases hc30_15 : (own_at vs ff) = (93 : Int32)
    · have R18 : Rch p e below (s₁.setTop (entryFrame m #[(.ref o0), (.int (93 : Int32))] 5)) T11 (mkF m 37 #[.val (.ref o0), .val (.int (93 : Int32)), .val (.int ff), .val (.int (1 : Int32)), .unset] [(.int (ff + (1 : Int32))), (.ref o0)]) := fun t k => by
        refine R16 t ?_
        refine XS.icmpNo X11.here hx rfl (hb hby d22_30) rfl (teq hc30_15).2 ?_
        show Steps p.tables e below (T11.setTop (mkF m 33 #[.val (.ref o0), .val (.int (93 : Int32)), .val (.int ff), .val (.int (1 : Int32)), .unset] [])) t
        refine XS.aloadN X11.here hx rfl (hb hby d22_33) rfl rfl ?_
        show Steps p.tables e below (T11.setTop (mkF m 34 #[.val (.ref o0), .val (.int (93 : Int32)), .val (.int ff), .val (.int (1 : Int32)), .unset] [(.ref o0)])) t
        refine XS.iloadN X11.here hx rfl (hb hby d22_34) rfl ?_
        show Steps p.tables e below (T11.setTop (mkF m 35 #[.val (.ref o0), .val (.int (93 : Int32)), .val (.int ff), .val (.int (1 : Int32)), .unset] [(.int ff), (.ref o0)])) t
        refine XS.iconst X11.here hx rfl (hb hby d22_35) ?_
        show Steps p.tables e below (T11.setTop (mkF m 36 #[.val (.ref o0), .val (.int (93 : Int32)), .val (.int ff), .val (.int (1 : Int32)), .unset] [(.int (1 : Int32)), (.int ff), (.ref o0)])) t
        refine XS.iadd X11.here hx rfl (hb hby d22_36) rfl ?_
        exact k
      have f17 := (c1_f_at.other W5 (Or.inr (slot_ne (Or.inl (hw _ (List.mem_of_getElem? (i := 153) rfl))) (Or.inl (hw _ (List.mem_of_getElem? (i := 179) rfl))) (by decide) (t := .int) (t' := .boolean) (by decide) (by decide))))
      obtain ⟨T19, h19, X19, e19, W19, st19⟩ := putF X11 hx hZ hown (host := "") (Or.inl (hw _ (List.mem_of_getElem? (i := 152) rfl))) Via.refl e11 f17 (c1_E.wr W5) (Or.inl (hw _ (List.mem_of_getElem? (i := 153) rfl))) (hw _ (List.mem_of_getElem? (i := 7) rfl)) (ty := .int) (by decide) rfl rfl (g := (mkF m 37 #[.val (.ref o0), .val (.int (93 : Int32)), .val (.int ff), .val (.int (1 : Int32)), .unset] [(.int (ff + (1 : Int32))), (.ref o0)])) rfl rfl (hb hby d22_37)
      have Fw19 := f17.same W19
      have K19 : Keep h0 h19 [o0] := K5.wr W19 (Or.inl (List.mem_of_getElem? (i := 0) rfl))
      have N19 := Fr.snoc X19 N5 pg
      have R21 : Rch p e below (s₁.setTop (entryFrame m #[(.ref o0), (.int (93 : Int32))] 5)) T19 (mkF m 42 #[.val (.ref o0), .val (.int (93 : Int32)), .val (.int ff), .val (.int (1 : Int32)), .unset] [(.ref o0), (.ref o0)]) := fun t k => by
        refine R18 t ?_
        refine st19 _ ?_
        show Steps p.tables e below (T19.setTop (mkF m 40 #[.val (.ref o0), .val (.int (93 : Int32)), .val (.int ff), .val (.int (1 : Int32)), .unset] [])) t
        refine XS.aloadN X19.here hx rfl (hb hby d22_40) rfl rfl ?_
        show Steps p.tables e below (T19.setTop (mkF m 41 #[.val (.ref o0), .val (.int (93 : Int32)), .val (.int ff), .val (.int (1 : Int32)), .unset] [(.ref o0)])) t
        refine XS.dup X19.here hx rfl (hb hby d22_41) rfl rfl ?_
        exact k
      obtain ⟨T20, X20, e20, st20⟩ := getF X19 hx hZ hown (host := "") (Or.inl (hw _ (List.mem_of_getElem? (i := 154) rfl))) Via.refl e19 ((c1_f_depth.other W5 (Or.inr (slot_ne (Or.inl (hw _ (List.mem_of_getElem? (i := 155) rfl))) (Or.inl (hw _ (List.mem_of_getElem? (i := 179) rfl))) (by decide) (t := .int) (t' := .boolean) (by decide) (by decide)))).other W19 (Or.inr (slot_ne (Or.inl (hw _ (List.mem_of_getElem? (i := 155) rfl))) (Or.inl (hw _ (List.mem_of_getElem? (i := 153) rfl))) (by decide) (t := .int) (t' := .int) (by decide) (by decide)))) (g := (mkF m 42 #[.val (.ref o0), .val (.int (93 : Int32)), .val (.int ff), .val (.int (1 : Int32)), .unset] [(.ref o0), (.ref o0)])) rfl rfl (hb hby d22_42)
      have R23 : Rch p e below (s₁.setTop (entryFrame m #[(.ref o0), (.int (93 : Int32))] 5)) T20 (mkF m 47 #[.val (.ref o0), .val (.int (93 : Int32)), .val (.int ff), .val (.int (1 : Int32)), .unset] [(.int (dp - (1 : Int32))), (.ref o0)]) := fun t k => by
        refine R21 t ?_
        refine st20 _ ?_
        show Steps p.tables e below (T20.setTop (mkF m 45 #[.val (.ref o0), .val (.int (93 : Int32)), .val (.int ff), .val (.int (1 : Int32)), .unset] [(.int dp), (.ref o0)])) t
        refine XS.iconst X20.here hx rfl (hb hby d22_45) ?_
        show Steps p.tables e below (T20.setTop (mkF m 46 #[.val (.ref o0), .val (.int (93 : Int32)), .val (.int ff), .val (.int (1 : Int32)), .unset] [(.int (1 : Int32)), (.int dp), (.ref o0)])) t
        refine XS.isub X20.here hx rfl (hb hby d22_46) rfl ?_
        exact k
      have f22 := ((c1_f_depth.other W5 (Or.inr (slot_ne (Or.inl (hw _ (List.mem_of_getElem? (i := 155) rfl))) (Or.inl (hw _ (List.mem_of_getElem? (i := 179) rfl))) (by decide) (t := .int) (t' := .boolean) (by decide) (by decide)))).other W19 (Or.inr (slot_ne (Or.inl (hw _ (List.mem_of_getElem? (i := 155) rfl))) (Or.inl (hw _ (List.mem_of_getElem? (i := 153) rfl))) (by decide) (t := .int) (t' := .int) (by decide) (by decide))))
      obtain ⟨T24, h24, X24, e24, W24, st24⟩ := putF X20 hx hZ hown (host := "") (Or.inl (hw _ (List.mem_of_getElem? (i := 154) rfl))) Via.refl e20 f22 ((c1_E.wr W5).wr W19) (Or.inl (hw _ (List.mem_of_getElem? (i := 155) rfl))) (hw _ (List.mem_of_getElem? (i := 7) rfl)) (ty := .int) (by decide) rfl rfl (g := (mkF m 47 #[.val (.ref o0), .val (.int (93 : Int32)), .val (.int ff), .val (.int (1 : Int32)), .unset] [(.int (dp - (1 : Int32))), (.ref o0)])) rfl rfl (hb hby d22_47)
      have Fw24 := f22.same W24
      have K24 : Keep h0 h24 [o0] := K19.wr W24 (Or.inl (List.mem_of_getElem? (i := 0) rfl))
      have N24 := Fr.snoc X24 N19 pg
      have R25 : Rch p e below (s₁.setTop (entryFrame m #[(.ref o0), (.int (93 : Int32))] 5)) T24 (mkF m 109 #[.val (.ref o0), .val (.int (93 : Int32)), .val (.int ff), .val (.int (1 : Int32)), .val (.int (0 : Int32))] [(.int (0 : Int32))]) := fun t k => by
        refine R23 t ?_
        refine st24 _ ?_
        show Steps p.tables e below (T24.setTop (mkF m 50 #[.val (.ref o0), .val (.int (93 : Int32)), .val (.int ff), .val (.int (1 : Int32)), .unset] [])) t
        refine XS.iconst X24.here hx rfl (hb hby d22_50) ?_
        show Steps p.tables e below (T24.setTop (mkF m 51 #[.val (.ref o0), .val (.int (93 : Int32)), .val (.int ff), .val (.int (1 : Int32)), .unset] [(.int (0 : Int32))])) t
        refine XS.istore X24.here hx rfl (hb hby d22_51) rfl (l' := #[.val (.ref o0), .val (.int (93 : Int32)), .val (.int ff), .val (.int (1 : Int32)), .val (.int (0 : Int32))]) rfl ?_
        show Steps p.tables e below (T24.setTop (mkF m 53 #[.val (.ref o0), .val (.int (93 : Int32)), .val (.int ff), .val (.int (1 : Int32)), .val (.int (0 : Int32))] [])) t
        refine XS.goto X24.here hx rfl (pc0 := 53) (pc' := 107) rfl (hb hby d22_53) (by decide) (by decide) ?_
        show Steps p.tables e below (T24.setTop (mkF m 107 #[.val (.ref o0), .val (.int (93 : Int32)), .val (.int ff), .val (.int (1 : Int32)), .val (.int (0 : Int32))] [])) t
        refine XS.iload X24.here hx rfl (hb hby d22_107) rfl ?_
        exact k
      obtain ⟨fs, hr, hrun, hended, hW, hsame⟩ := X24.leave (v := some (.int (0 : Int32))) (fun h => by rw [Bd.returns] at h; cases h)
      refine ⟨_, _, R25 _ ?_, hrun, hended, _, _, rfl, ?_, ⟨_, rfl⟩, hW, hsame.mono (by decide) (by decide)⟩
      · exact retN X24 hx (t := .boolean) Bd.returns (by simp) (hb hby d22_109) hr
      · show Q_rm_next Z o0 ar kk nn vs dv en ff dp ob ut h0 n0 _ T24.heap _
        rw [e24]
        exact ⟨own_i (by simp [own_item, hc20_9, hc30_15]), N24, K24⟩
    · have R26 : Rch p e below (s₁.setTop (entryFrame m #[(.ref o0), (.int (93 : Int32))] 5)) T11 (mkF m 109 #[.val (.ref o0), .val (.int (93 : Int32)), .val (.int ff), .val (.int (1 : Int32)), .val (.int (1 : Int32))] [(.int (1 : Int32))]) := fun t k => by
        refine R16 t ?_
        refine XS.icmpYes X11.here hx rfl (pc0 := 30) (pc' := 56) rfl (hb hby d22_30) rfl (feq hc30_15).2 (by decide) (by decide) ?_
        show Steps p.tables e below (T11.setTop (mkF m 56 #[.val (.ref o0), .val (.int (93 : Int32)), .val (.int ff), .val (.int (1 : Int32)), .unset] [])) t
        refine XS.iloadN X11.here hx rfl (hb hby d22_56) rfl ?_
        show Steps p.tables e below (T11.setTop (mkF m 57 #[.val (.ref o0), .val (.int (93 : Int32)), .val (.int ff), .val (.int (1 : Int32)), .unset] [(.int (1 : Int32))])) t
        refine XS.ifNo X11.here hx rfl (hb hby d22_57) rfl ((if0 _ _).trans (feq (by decide : ¬ ((1 : Int32) = (0 : Int32)))).1) ?_
        show Steps p.tables e below (T11.setTop (mkF m 60 #[.val (.ref o0), .val (.int (93 : Int32)), .val (.int ff), .val (.int (1 : Int32)), .unset] [])) t
        refine XS.iconst X11.here hx rfl (hb hby d22_60) ?_
        show Steps p.tables e below (T11.setTop (mkF m 61 #[.val (.ref o0), .val (.int (93 : Int32)), .val (.int ff), .val (.int (1 : Int32)), .unset] [(.int (1 : Int32))])) t
        refine XS.istore X11.here hx rfl (hb hby d22_61) rfl (l' := #[.val (.ref o0), .val (.int (93 : Int32)), .val (.int ff), .val (.int (1 : Int32)), .val (.int (1 : Int32))]) rfl ?_
        show Steps p.tables e below (T11.setTop (mkF m 63 #[.val (.ref o0), .val (.int (93 : Int32)), .val (.int ff), .val (.int (1 : Int32)), .val (.int (1 : Int32))] [])) t
        refine XS.goto X11.here hx rfl (pc0 := 63) (pc' := 107) rfl (hb hby d22_63) (by decide) (by decide) ?_
        show Steps p.tables e below (T11.setTop (mkF m 107 #[.val (.ref o0), .val (.int (93 : Int32)), .val (.int ff), .val (.int (1 : Int32)), .val (.int (1 : Int32))] [])) t
        refine XS.iload X11.here hx rfl (hb hby d22_107) rfl ?_
        exact k
      obtain ⟨fs, hr, hrun, hended, hW, hsame⟩ := X11.leave (v := some (.int (1 : Int32))) (fun h => by rw [Bd.returns] at h; cases h)
      refine ⟨_, _, R26 _ ?_, hrun, hended, _, _, rfl, ?_, ⟨_, rfl⟩, hW, hsame.mono (by decide) (by decide)⟩
      · exact retN X11 hx (t := .boolean) Bd.returns (by simp) (hb hby d22_109) hr
      · show Q_rm_next Z o0 ar kk nn vs dv en ff dp ob ut h0 n0 _ T11.heap _
        rw [e11]
        exact ⟨own_i (by simp [own_item, hc20_9, hc30_15]), N5, K5⟩
  · have R27 : Rch p e below (s₁.setTop (entryFrame m #[(.ref o0), (.int (93 : Int32))] 5)) T7 (mkF m 109 #[.val (.ref o0), .val (.int (93 : Int32)), .val (.int ff), .val (.int (1 : Int32)), .val (.int (1 : Int32))] [(.int (1 : Int32))]) := fun t k => by
      refine R10 t ?_
      refine XS.icmpYes X7.here hx rfl (pc0 := 20) (pc' := 56) rfl (hb hby d22_20) rfl (flt hc20_9).2.1 (by decide) (by decide) ?_
      show Steps p.tables e below (T7.setTop (mkF m 56 #[.val (.ref o0), .val (.int (93 : Int32)), .val (.int ff), .val (.int (1 : Int32)), .unset] [])) t
      refine XS.iloadN X7.here hx rfl (hb hby d22_56) rfl ?_
      show Steps p.tables e below (T7.setTop (mkF m 57 #[.val (.ref o0), .val (.int (93 : Int32)), .val (.int ff), .val (.int (1 : Int32)), .unset] [(.int (1 : Int32))])) t
      refine XS.ifNo X7.here hx rfl (hb hby d22_57) rfl ((if0 _ _).trans (feq (by decide : ¬ ((1 : Int32) = (0 : Int32)))).1) ?_
      show Steps p.tables e below (T7.setTop (mkF m 60 #[.val (.ref o0), .val (.int (93 : Int32)), .val (.int ff), .val (.int (1 : Int32)), .unset] [])) t
      refine XS.iconst X7.here hx rfl (hb hby d22_60) ?_
      show Steps p.tables e below (T7.setTop (mkF m 61 #[.val (.ref o0), .val (.int (93 : Int32)), .val (.int ff), .val (.int (1 : Int32)), .unset] [(.int (1 : Int32))])) t
      refine XS.istore X7.here hx rfl (hb hby d22_61) rfl (l' := #[.val (.ref o0), .val (.int (93 : Int32)), .val (.int ff), .val (.int (1 : Int32)), .val (.int (1 : Int32))]) rfl ?_
      show Steps p.tables e below (T7.setTop (mkF m 63 #[.val (.ref o0), .val (.int (93 : Int32)), .val (.int ff), .val (.int (1 : Int32)), .val (.int (1 : Int32))] [])) t
      refine XS.goto X7.here hx rfl (pc0 := 63) (pc' := 107) rfl (hb hby d22_63) (by decide) (by decide) ?_
      show Steps p.tables e below (T7.setTop (mkF m 107 #[.val (.ref o0), .val (.int (93 : Int32)), .val (.int ff), .val (.int (1 : Int32)), .val (.int (1 : Int32))] [])) t
      refine XS.iload X7.here hx rfl (hb hby d22_107) rfl ?_
      exact k
    obtain ⟨fs, hr, hrun, hended, hW, hsame⟩ := X7.leave (v := some (.int (1 : Int32))) (fun h => by rw [Bd.returns] at h; cases h)
    refine ⟨_, _, R27 _ ?_, hrun, hended, _, _, rfl, ?_, ⟨_, rfl⟩, hW, hsame.mono (by decide) (by decide)⟩
    · exact retN X7 hx (t := .boolean) Bd.returns (by simp) (hb hby d22_109) hr
    · show Q_rm_next Z o0 ar kk nn vs dv en ff dp ob ut h0 n0 _ T7.heap _
      rw [e7]
      exact ⟨own_i (by simp [own_item, hc20_9]), N5, K5⟩
theorem d21_0 : decode prog_45_method_12_code 0 = .ok (.aload_n 0, 1) := by decide +kernel
theorem d21_1 : decode prog_45_method_12_code 1 = .ok (.getfield 165, 3) := by decide +kernel
theorem d21_4 : decode prog_45_method_12_code 4 = .ok (.ifCond .ne 43, 3) := by decide +kernel
theorem d21_47 : decode prog_45_method_12_code 47 = .ok (.aload_n 0, 1) := by decide +kernel
theorem d21_48 : decode prog_45_method_12_code 48 = .ok (.bipush 93, 2) := by decide +kernel
theorem d21_50 : decode prog_45_method_12_code 50 = .ok (.invokevirtual 211, 3) := by decide +kernel
theorem pd_8 : parseMethodDescriptor "(C)Z" = some ⟨[.char], some .boolean⟩ := by decide +kernel
theorem d21_53 : decode prog_45_method_12_code 53 = .ok (.istore_n 1, 1) := by decide +kernel
theorem d21_54 : decode prog_45_method_12_code 54 = .ok (.iload_n 1, 1) := by decide +kernel
theorem d21_55 : decode prog_45_method_12_code 55 = .ok (.ireturn, 1) := by decide +kernel
theorem ef_rm_item (m : MethodId) (x0 : Addr) : entryFrame m #[(.ref x0)] 2 = mkF m 0 #[.val (.ref x0), .unset] [] := by first | (simp [entryFrame, mkF, argsToLocals, Value.category]; done) | rfl
def Q_rm_item (Z : State) (o0 : Addr) (ar : Addr) (kk : ClassId) (nn : Int32) (vs : List Value) (dv : Value) (en : Int32) (ff : Int32) (dp : Int32) (ob : Addr) (ut : Value) (h0 : Heap) (n0 : Nat) (v : Option Value) (h : Heap) (L : List Loc) : Prop := (v = some (.int (own_item vs ff en))) ∧ (Fr n0 L) ∧ (Keep h0 h [o0])
set_option maxRecDepth 65536 in
set_option maxHeartbeats 40000000 in
theorem rm_item (l : Launch) (Z : State) (a0 : Array Value) (hw : ∀ d ∈ tables_1, d.before a0 Z = true) (ws : List Jvm.Cond) (o0 : Addr) (ar : Addr) (kk : ClassId) (nn : Int32) (vs : List Value) (dv : Value) (en : Int32) (ff : Int32) (dp : Int32) (ob : Addr) (ut : Value) (h0 : Heap) (n0 : Nat) (Z0 : n0 ≤ h0.size) (pE : Exa Z h0 o0 "com/example/vestwork/vestwork/io/JsonScanner") (pg : n0 ≤ o0) (pna : ar ≠ o0) (pf_bytes : Fld Z h0 o0 "com/example/vestwork/vestwork/io/JsonScanner" "bytes" "[B" (.ref ar)) (pf_end : Fld Z h0 o0 "com/example/vestwork/vestwork/io/JsonScanner" "end" "I" (.int en)) (pf_at : Fld Z h0 o0 "com/example/vestwork/vestwork/io/JsonScanner" "at" "I" (.int ff)) (pf_depth : Fld Z h0 o0 "com/example/vestwork/vestwork/io/JsonScanner" "depth" "I" (.int dp)) (pf_opened : Fld Z h0 o0 "com/example/vestwork/vestwork/io/JsonScanner" "opened" "Z" (.int (1 : Int32))) (pf_objects : Fld Z h0 o0 "com/example/vestwork/vestwork/io/JsonScanner" "objects" "[Z" (.ref ob)) (pf_start : Fld Z h0 o0 "com/example/vestwork/vestwork/io/JsonScanner" "start" "I" ut) (pV : Arv Z h0 ar kk .byte nn vs dv) (ph : ff < en → own_rd vs dv nn ff ∧ own_nsp (own_at vs ff)) :
    MetFree l (⟨"com/example/vestwork/vestwork/io/JsonScanner", "item", "()Z"⟩ : MethodName) (head1 (Jvm.Cond.code (⟨"com/example/vestwork/vestwork/io/JsonScanner", "item", "()Z"⟩ : MethodName) prog_45_method_12_code 2 (some .boolean) :: ws) ({ frames := 3, cells := 0, slots := 0, locals := 43 } : Room)) (fun a U => a = #[(.ref o0)] ∧ Z.Warmed39 U.vm ∧ U.heap = h0) (fun _ _ _ _ _ => True) (fun _ U o U' => ∃ v L, o = .returned v ∧ Q_rm_item Z o0 ar kk nn vs dv en ff dp ob ut h0 n0 v U'.heap L ∧ FrameEnd U o U' L ({ frames := 3, cells := 0, slots := 0, locals := 43 } : Room).cells ({ frames := 3, cells := 0, slots := 0, locals := 43 } : Room).slots) := by
  refine MetFree.of_bodySF (plainFor_of_name pn_8) hisR ?_
  intro p e s m args below meth c s₁ Bd hml0 hP hK
  obtain ⟨rfl, hZ, hh⟩ := hP
  have hx := Bd.exec
  have hby := Bd.bytes
  have hml : c.maxLocals = 2 := hml0
  have hown : s.vm.findClass "com/example/vestwork/vestwork/io/JsonScanner" = some m.cls := findClass_of_methodNamed Bd.named
  have hnm := (name_of_methodNamed Bd.named Bd.method).1
  have X0 : Stand p l e ({ frames := 3, cells := 0, slots := 0, locals := 43 } : Room) s m #[(.ref o0)] below meth c s₁ [] 0 0 := Stand.of_body Bd
  have e0 : s₁.heap = h0 := by rw [← hh, Bd.state]; rfl
  have N0 := Fr.nil n0
  have K0 : Keep h0 h0 [o0] := Keep.refl _ _
  have R0 : Rch p e below (s₁.setTop (entryFrame m #[(.ref o0)] 2)) s₁ (mkF m 0 #[.val (.ref o0), .unset] []) := fun t k => castTop (ef_rm_item m o0) k
  have R2 : Rch p e below (s₁.setTop (entryFrame m #[(.ref o0)] 2)) s₁ (mkF m 1 #[.val (.ref o0), .unset] [(.ref o0)]) := fun t k => by
    refine R0 t ?_
    refine XS.aloadN X0.here hx rfl (hb hby d21_0) rfl rfl ?_
    exact k
  obtain ⟨T1, X1, e1, st1⟩ := getF X0 hx hZ hown (host := "") (Or.inl (hw _ (List.mem_of_getElem? (i := 178) rfl))) Via.refl e0 pf_opened (g := (mkF m 1 #[.val (.ref o0), .unset] [(.ref o0)])) rfl rfl (hb hby d21_1)
  have R4 : Rch p e below (s₁.setTop (entryFrame m #[(.ref o0)] 2)) T1 (mkF m 50 #[.val (.ref o0), .unset] [(.int (93 : Int32)), (.ref o0)]) := fun t k => by
    refine R2 t ?_
    refine st1 _ ?_
    show Steps p.tables e below (T1.setTop (mkF m 4 #[.val (.ref o0), .unset] [(.int (1 : Int32))])) t
    refine XS.ifYes X1.here hx rfl (pc0 := 4) (pc' := 47) rfl (hb hby d21_4) rfl ((if0 _ _).trans (feq (by decide : ¬ ((1 : Int32) = (0 : Int32)))).2) (by decide) (by decide) ?_
    show Steps p.tables e below (T1.setTop (mkF m 47 #[.val (.ref o0), .unset] [])) t
    refine XS.aloadN X1.here hx rfl (hb hby d21_47) rfl rfl ?_
    show Steps p.tables e below (T1.setTop (mkF m 48 #[.val (.ref o0), .unset] [(.ref o0)])) t
    refine XS.bipush X1.here hx rfl (hb hby d21_48) ?_
    exact k
  obtain ⟨cq3, q3, q3'⟩ := pE.cell
  obtain ⟨_, _, ⟨T3, L3, k3, n3⟩, -, X3, ⟨Lc3, hQ3, l3, y3, z3⟩, st3⟩ := X1.privateBack hx (y := (⟨"com/example/vestwork/vestwork/io/JsonScanner", "next", "(C)Z"⟩ : MethodName)) hown (mvT hZ (hw _ (List.mem_of_getElem? (i := 190) rfl))) (mvT hZ (hw _ (List.mem_of_getElem? (i := 191) rfl))) (own_selp hZ (hw _ (List.mem_of_getElem? (i := 7) rfl)) (hw _ (List.mem_of_getElem? (i := 192) rfl)) (hw _ (List.mem_of_getElem? (i := 191) rfl)) (by decide)) (Cond.privateMethod_at (mvP hZ (hw _ (List.mem_of_getElem? (i := 192) rfl)) (args := #[]))) (mvT hZ (hw _ (List.mem_of_getElem? (i := 193) rfl))) (by decide) (backOf (W := 0) (rm_next l Z a0 hw [] o0 ar kk nn vs dv en ff dp ob ut h0 n0 (Nat.le_trans Z0 K0.1) pE pg pna pf_bytes pf_end pf_at pf_depth pf_opened pf_objects pf_start pV ph) hZ (hw _ (List.mem_of_getElem? (i := 193) rfl)) (hw _ (List.mem_of_getElem? (i := 8) rfl)) (by decide) (by decide)) (g := (mkF m 50 #[.val (.ref o0), .unset] [(.int (93 : Int32)), (.ref o0)])) rfl (by rw [hml]; rfl) (Steps.refl _) (a := o0) (by rw [e1]; exact q3) q3' (argsL := [(.int (93 : Int32))]) (rest := []) (lenOf pd_8 rfl) rfl (by show 2 * 0 + _ ≤ _; exact Nat.le_of_eq rfl) (hb hby d21_50) (fun _ _ => ⟨rfl, e1, (by decide : 0 + 0 ≤ _), (by decide : 0 + 0 ≤ _)⟩)
  dsimp only [Pt.U, Pt.locs, Pt.cells, Pt.slots] at X3 l3 y3 z3 st3 hQ3
  subst l3 y3 z3
  obtain ⟨rfl, N3q, Kc3⟩ := hQ3
  have N3 := Fr.app N0 N3q
  have K3 : Keep h0 T3.heap [o0] := K0.trans Kc3 (allS (Or.inl (List.mem_of_getElem? (i := 0) rfl)) all0)
  have R5 : Rch p e below (s₁.setTop (entryFrame m #[(.ref o0)] 2)) T3 (mkF m 55 #[.val (.ref o0), .val (.int (own_item vs ff en))] [(.int (own_item vs ff en))]) := fun t k => by
    refine R4 t ?_
    refine st3.trans ?_
    show Steps p.tables e below (T3.setTop (mkF m 53 #[.val (.ref o0), .unset] [(.int (own_item vs ff en))])) t
    refine XS.istoreN X3.here hx rfl (hb hby d21_53) rfl (l' := #[.val (.ref o0), .val (.int (own_item vs ff en))]) rfl ?_
    show Steps p.tables e below (T3.setTop (mkF m 54 #[.val (.ref o0), .val (.int (own_item vs ff en))] [])) t
    refine XS.iloadN X3.here hx rfl (hb hby d21_54) rfl ?_
    exact k
  obtain ⟨fs, hr, hrun, hended, hW, hsame⟩ := X3.leave (v := some (.int (own_item vs ff en))) (fun h => by rw [Bd.returns] at h; cases h)
  refine ⟨_, _, R5 _ ?_, hrun, hended, _, _, rfl, ?_, ⟨_, rfl⟩, hW, hsame.mono (by decide) (by decide)⟩
  · exact retN X3 hx (t := .boolean) Bd.returns (by simp) (hb hby d21_55) (by rw [own_item_nar]; exact hr)
  · show Q_rm_item Z o0 ar kk nn vs dv en ff dp ob ut h0 n0 _ T3.heap _
    exact ⟨rfl, N3, K3⟩
theorem d20_0 : decode prog_45_method_27_code 0 = .ok (.aload_n 0, 1) := by decide +kernel
theorem d20_1 : decode prog_45_method_27_code 1 = .ok (.getfield 92, 3) := by decide +kernel
theorem d20_4 : decode prog_45_method_27_code 4 = .ok (.areturn, 1) := by decide +kernel
theorem ef_rm_bytes (m : MethodId) (x0 : Addr) : entryFrame m #[(.ref x0)] 1 = mkF m 0 #[.val (.ref x0)] [] := by first | (simp [entryFrame, mkF, argsToLocals, Value.category]; done) | rfl
def Q_rm_bytes (Z : State) (o0 : Addr) (ar : Addr) (h0 : Heap) (n0 : Nat) (v : Option Value) (h : Heap) (L : List Loc) : Prop := (v = some (.ref ar)) ∧ (Fr n0 L) ∧ (h = h0)
set_option maxRecDepth 65536 in
set_option maxHeartbeats 40000000 in
theorem rm_bytes (l : Launch) (Z : State) (a0 : Array Value) (hw : ∀ d ∈ tables_1, d.before a0 Z = true) (ws : List Jvm.Cond) (o0 : Addr) (ar : Addr) (h0 : Heap) (n0 : Nat) (Z0 : n0 ≤ h0.size) (pf_bytes : Fld Z h0 o0 "com/example/vestwork/vestwork/io/JsonScanner" "bytes" "[B" (.ref ar)) :
    MetFree l (⟨"com/example/vestwork/vestwork/io/JsonScanner", "bytes", "()[B"⟩ : MethodName) (head1 (Jvm.Cond.code (⟨"com/example/vestwork/vestwork/io/JsonScanner", "bytes", "()[B"⟩ : MethodName) prog_45_method_27_code 1 (some (.array .byte)) :: ws) ({ frames := 0, cells := 0, slots := 0, locals := 0 } : Room)) (fun a U => a = #[(.ref o0)] ∧ Z.Warmed39 U.vm ∧ U.heap = h0) (fun _ _ _ _ _ => True) (fun _ U o U' => ∃ v L, o = .returned v ∧ Q_rm_bytes Z o0 ar h0 n0 v U'.heap L ∧ FrameEnd U o U' L ({ frames := 0, cells := 0, slots := 0, locals := 0 } : Room).cells ({ frames := 0, cells := 0, slots := 0, locals := 0 } : Room).slots) := by
  refine MetFree.of_bodySF (plainFor_of_name pn_8) hisR ?_
  intro p e s m args below meth c s₁ Bd hml0 hP hK
  obtain ⟨rfl, hZ, hh⟩ := hP
  have hx := Bd.exec
  have hby := Bd.bytes
  have hml : c.maxLocals = 1 := hml0
  have hown : s.vm.findClass "com/example/vestwork/vestwork/io/JsonScanner" = some m.cls := findClass_of_methodNamed Bd.named
  have hnm := (name_of_methodNamed Bd.named Bd.method).1
  have X0 : Stand p l e ({ frames := 0, cells := 0, slots := 0, locals := 0 } : Room) s m #[(.ref o0)] below meth c s₁ [] 0 0 := Stand.of_body Bd
  have e0 : s₁.heap = h0 := by rw [← hh, Bd.state]; rfl
  have N0 := Fr.nil n0
  have K0 : Keep h0 h0 [] := Keep.refl _ _
  have R0 : Rch p e below (s₁.setTop (entryFrame m #[(.ref o0)] 1)) s₁ (mkF m 0 #[.val (.ref o0)] []) := fun t k => castTop (ef_rm_bytes m o0) k
  have R2 : Rch p e below (s₁.setTop (entryFrame m #[(.ref o0)] 1)) s₁ (mkF m 1 #[.val (.ref o0)] [(.ref o0)]) := fun t k => by
    refine R0 t ?_
    refine XS.aloadN X0.here hx rfl (hb hby d20_0) rfl rfl ?_
    exact k
  obtain ⟨T1, X1, e1, st1⟩ := getF X0 hx hZ hown (host := "") (Or.inl (hw _ (List.mem_of_getElem? (i := 146) rfl))) Via.refl e0 pf_bytes (g := (mkF m 1 #[.val (.ref o0)] [(.ref o0)])) rfl rfl (hb hby d20_1)
  have R3 : Rch p e below (s₁.setTop (entryFrame m #[(.ref o0)] 1)) T1 (mkF m 4 #[.val (.ref o0)] [(.ref ar)]) := fun t k => by
    refine R2 t ?_
    refine st1 _ ?_
    exact k
  obtain ⟨fs, hr, hrun, hended, hW, hsame⟩ := X1.leave (v := some (.ref ar)) (fun h => by rw [Bd.returns] at h; cases h)
  refine ⟨_, _, R3 _ ?_, hrun, hended, _, _, rfl, ?_, ⟨_, rfl⟩, hW, hsame.mono (by decide) (by decide)⟩
  · jvm_step X1.here [X1.here.top, hx, (hb hby d20_4), X1.method', Bd.returns, Value.isRef, FieldType.isReference]
    first | (intro acts; rw [hr _ acts rfl rfl rfl]) | rw [hr _ _ rfl rfl rfl]
    exact Steps.refl _
  · show Q_rm_bytes Z o0 ar h0 n0 _ T1.heap _
    rw [e1]
    exact ⟨rfl, N0, rfl⟩
theorem d15_0 : decode prog_45_method_3_code 0 = .ok (.aload_n 0, 1) := by decide +kernel
theorem d15_1 : decode prog_45_method_3_code 1 = .ok (.aload_n 1, 1) := by decide +kernel
theorem d15_2 : decode prog_45_method_3_code 2 = .ok (.putfield 92, 3) := by decide +kernel
theorem d15_5 : decode prog_45_method_3_code 5 = .ok (.aload_n 0, 1) := by decide +kernel
theorem d15_6 : decode prog_45_method_3_code 6 = .ok (.iload_n 2, 1) := by decide +kernel
theorem d15_7 : decode prog_45_method_3_code 7 = .ok (.putfield 95, 3) := by decide +kernel
theorem d15_10 : decode prog_45_method_3_code 10 = .ok (.aload_n 0, 1) := by decide +kernel
theorem d15_11 : decode prog_45_method_3_code 11 = .ok (.iload_n 2, 1) := by decide +kernel
theorem d15_12 : decode prog_45_method_3_code 12 = .ok (.iload_n 3, 1) := by decide +kernel
theorem d15_13 : decode prog_45_method_3_code 13 = .ok (.iadd, 1) := by decide +kernel
theorem d15_14 : decode prog_45_method_3_code 14 = .ok (.putfield 98, 3) := by decide +kernel
theorem d15_17 : decode prog_45_method_3_code 17 = .ok (.iload_n 3, 1) := by decide +kernel
theorem d15_18 : decode prog_45_method_3_code 18 = .ok (.iconst 3, 1) := by decide +kernel
theorem d15_19 : decode prog_45_method_3_code 19 = .ok (.if_icmp .lt 35, 3) := by decide +kernel
theorem d15_54 : decode prog_45_method_3_code 54 = .ok (.iconst 0, 1) := by decide +kernel
theorem d15_55 : decode prog_45_method_3_code 55 = .ok (.istore 4, 2) := by decide +kernel
theorem d15_57 : decode prog_45_method_3_code 57 = .ok (.aload_n 0, 1) := by decide +kernel
theorem d15_58 : decode prog_45_method_3_code 58 = .ok (.iload 4, 2) := by decide +kernel
theorem d15_60 : decode prog_45_method_3_code 60 = .ok (.ifCond .eq 9, 3) := by decide +kernel
theorem d15_69 : decode prog_45_method_3_code 69 = .ok (.iload_n 2, 1) := by decide +kernel
theorem d15_70 : decode prog_45_method_3_code 70 = .ok (.putfield 101, 3) := by decide +kernel
theorem d15_73 : decode prog_45_method_3_code 73 = .ok (.aload_n 0, 1) := by decide +kernel
theorem d15_74 : decode prog_45_method_3_code 74 = .ok (.iconst 0, 1) := by decide +kernel
theorem d15_75 : decode prog_45_method_3_code 75 = .ok (.putfield 104, 3) := by decide +kernel
theorem d15_78 : decode prog_45_method_3_code 78 = .ok (.return_, 1) := by decide +kernel
theorem d15_22 : decode prog_45_method_3_code 22 = .ok (.aload_n 1, 1) := by decide +kernel
theorem d15_23 : decode prog_45_method_3_code 23 = .ok (.iload_n 2, 1) := by decide +kernel
theorem d15_24 : decode prog_45_method_3_code 24 = .ok (.baload, 1) := by decide +kernel
theorem d15_25 : decode prog_45_method_3_code 25 = .ok (.bipush (-17), 2) := by decide +kernel
theorem d15_27 : decode prog_45_method_3_code 27 = .ok (.if_icmp .ne 27, 3) := by decide +kernel
theorem d15_30 : decode prog_45_method_3_code 30 = .ok (.aload_n 1, 1) := by decide +kernel
theorem d15_31 : decode prog_45_method_3_code 31 = .ok (.iload_n 2, 1) := by decide +kernel
theorem d15_32 : decode prog_45_method_3_code 32 = .ok (.iconst 1, 1) := by decide +kernel
theorem d15_33 : decode prog_45_method_3_code 33 = .ok (.iadd, 1) := by decide +kernel
theorem d15_34 : decode prog_45_method_3_code 34 = .ok (.baload, 1) := by decide +kernel
theorem d15_35 : decode prog_45_method_3_code 35 = .ok (.bipush (-69), 2) := by decide +kernel
theorem d15_37 : decode prog_45_method_3_code 37 = .ok (.if_icmp .ne 17, 3) := by decide +kernel
theorem d15_40 : decode prog_45_method_3_code 40 = .ok (.aload_n 1, 1) := by decide +kernel
theorem d15_41 : decode prog_45_method_3_code 41 = .ok (.iload_n 2, 1) := by decide +kernel
theorem d15_42 : decode prog_45_method_3_code 42 = .ok (.iconst 2, 1) := by decide +kernel
theorem d15_43 : decode prog_45_method_3_code 43 = .ok (.iadd, 1) := by decide +kernel
theorem d15_44 : decode prog_45_method_3_code 44 = .ok (.baload, 1) := by decide +kernel
theorem d15_45 : decode prog_45_method_3_code 45 = .ok (.bipush (-65), 2) := by decide +kernel
theorem d15_47 : decode prog_45_method_3_code 47 = .ok (.if_icmp .ne 7, 3) := by decide +kernel
theorem d15_50 : decode prog_45_method_3_code 50 = .ok (.iconst 1, 1) := by decide +kernel
theorem d15_51 : decode prog_45_method_3_code 51 = .ok (.goto 4, 3) := by decide +kernel
theorem d15_63 : decode prog_45_method_3_code 63 = .ok (.iload_n 2, 1) := by decide +kernel
theorem d15_64 : decode prog_45_method_3_code 64 = .ok (.iconst 3, 1) := by decide +kernel
theorem d15_65 : decode prog_45_method_3_code 65 = .ok (.iadd, 1) := by decide +kernel
theorem d15_66 : decode prog_45_method_3_code 66 = .ok (.goto 4, 3) := by decide +kernel
theorem ef_rm_reset (m : MethodId) (x0 : Addr) (x1 : Addr) (x2 : Int32) (x3 : Int32) : entryFrame m #[(.ref x0), (.ref x1), (.int x2), (.int x3)] 5 = mkF m 0 #[.val (.ref x0), .val (.ref x1), .val (.int x2), .val (.int x3), .unset] [] := by first | (simp [entryFrame, mkF, argsToLocals, Value.category]; done) | rfl
def Q_rm_reset (Z : State) (o0 : Addr) (ar : Addr) (kk : ClassId) (nn : Int32) (vs : List Value) (dv : Value) (off : Int32) (len : Int32) (op : Int32) (ob : Addr) (ub : Value) (us : Value) (ue : Value) (ua : Value) (ud : Value) (h0 : Heap) (n0 : Nat) (v : Option Value) (h : Heap) (L : List Loc) : Prop := (v = none) ∧ (Fr n0 L) ∧ (Keep h0 h [o0]) ∧ (Exa Z h o0 "com/example/vestwork/vestwork/io/JsonScanner") ∧ (Fld Z h o0 "com/example/vestwork/vestwork/io/JsonScanner" "bytes" "[B" (.ref ar)) ∧ (Fld Z h o0 "com/example/vestwork/vestwork/io/JsonScanner" "start" "I" (.int off)) ∧ (Fld Z h o0 "com/example/vestwork/vestwork/io/JsonScanner" "end" "I" (.int (off + len))) ∧ (Fld Z h o0 "com/example/vestwork/vestwork/io/JsonScanner" "at" "I" (.int (own_first vs off len))) ∧ (Fld Z h o0 "com/example/vestwork/vestwork/io/JsonScanner" "depth" "I" (.int (0 : Int32))) ∧ (Fld Z h o0 "com/example/vestwork/vestwork/io/JsonScanner" "opened" "Z" (.int op)) ∧ (Fld Z h o0 "com/example/vestwork/vestwork/io/JsonScanner" "objects" "[Z" (.ref ob))
set_option maxRecDepth 65536 in
set_option maxHeartbeats 40000000 in
theorem rm_reset (l : Launch) (Z : State) (a0 : Array Value) (hw : ∀ d ∈ tables_1, d.before a0 Z = true) (ws : List Jvm.Cond) (o0 : Addr) (ar : Addr) (kk : ClassId) (nn : Int32) (vs : List Value) (dv : Value) (off : Int32) (len : Int32) (op : Int32) (ob : Addr) (ub : Value) (us : Value) (ue : Value) (ua : Value) (ud : Value) (h0 : Heap) (n0 : Nat) (Z0 : n0 ≤ h0.size) (pE : Exa Z h0 o0 "com/example/vestwork/vestwork/io/JsonScanner") (pg : n0 ≤ o0) (pna : ar ≠ o0) (pf_bytes : Fld Z h0 o0 "com/example/vestwork/vestwork/io/JsonScanner" "bytes" "[B" ub) (pf_start : Fld Z h0 o0 "com/example/vestwork/vestwork/io/JsonScanner" "start" "I" us) (pf_end : Fld Z h0 o0 "com/example/vestwork/vestwork/io/JsonScanner" "end" "I" ue) (pf_at : Fld Z h0 o0 "com/example/vestwork/vestwork/io/JsonScanner" "at" "I" ua) (pf_depth : Fld Z h0 o0 "com/example/vestwork/vestwork/io/JsonScanner" "depth" "I" ud) (pf_opened : Fld Z h0 o0 "com/example/vestwork/vestwork/io/JsonScanner" "opened" "Z" (.int op)) (pf_objects : Fld Z h0 o0 "com/example/vestwork/vestwork/io/JsonScanner" "objects" "[Z" (.ref ob)) (pV : Arv Z h0 ar kk .byte nn vs dv) (prd : ¬ len < 3 → own_rd vs dv nn off ∧ own_rd vs dv nn (off + 1) ∧ own_rd vs dv nn (off + 2)) :
    MetFree l (⟨"com/example/vestwork/vestwork/io/JsonScanner", "reset", "([BII)V"⟩ : MethodName) (head1 (Jvm.Cond.code (⟨"com/example/vestwork/vestwork/io/JsonScanner", "reset", "([BII)V"⟩ : MethodName) prog_45_method_3_code 5 none :: ws) ({ frames := 0, cells := 0, slots := 0, locals := 0 } : Room)) (fun a U => a = #[(.ref o0), (.ref ar), (.int off), (.int len)] ∧ Z.Warmed39 U.vm ∧ U.heap = h0) (fun _ _ _ _ _ => True) (fun _ U o U' => ∃ v L, o = .returned v ∧ Q_rm_reset Z o0 ar kk nn vs dv off len op ob ub us ue ua ud h0 n0 v U'.heap L ∧ FrameEnd U o U' L ({ frames := 0, cells := 0, slots := 0, locals := 0 } : Room).cells ({ frames := 0, cells := 0, slots := 0, locals := 0 } : Room).slots) := by
  refine MetFree.of_bodySF (plainFor_of_name pn_8) hisR ?_
  intro p e s m args below meth c s₁ Bd hml0 hP hK
  obtain ⟨rfl, hZ, hh⟩ := hP
  have hx := Bd.exec
  have hby := Bd.bytes
  have hml : c.maxLocals = 5 := hml0
  have hown : s.vm.findClass "com/example/vestwork/vestwork/io/JsonScanner" = some m.cls := findClass_of_methodNamed Bd.named
  have hnm := (name_of_methodNamed Bd.named Bd.method).1
  have X0 : Stand p l e ({ frames := 0, cells := 0, slots := 0, locals := 0 } : Room) s m #[(.ref o0), (.ref ar), (.int off), (.int len)] below meth c s₁ [] 0 0 := Stand.of_body Bd
  have e0 : s₁.heap = h0 := by rw [← hh, Bd.state]; rfl
  have N0 := Fr.nil n0
  have K0 : Keep h0 h0 [o0] := Keep.refl _ _
  have R0 : Rch p e below (s₁.setTop (entryFrame m #[(.ref o0), (.ref ar), (.int off), (.int len)] 5)) s₁ (mkF m 0 #[.val (.ref o0), .val (.ref ar), .val (.int off), .val (.int len), .unset] []) := fun t k => castTop (ef_rm_reset m o0 ar off len) k
  have R2 : Rch p e below (s₁.setTop (entryFrame m #[(.ref o0), (.ref ar), (.int off), (.int len)] 5)) s₁ (mkF m 2 #[.val (.ref o0), .val (.ref ar), .val (.int off), .val (.int len), .unset] [(.ref ar), (.ref o0)]) := fun t k => by
    refine R0 t ?_
    refine XS.aloadN X0.here hx rfl (hb hby d15_0) rfl rfl ?_
    show Steps p.tables e below (s₁.setTop (mkF m 1 #[.val (.ref o0), .val (.ref ar), .val (.int off), .val (.int len), .unset] [(.ref o0)])) t
    refine XS.aloadN X0.here hx rfl (hb hby d15_1) rfl rfl ?_
    exact k
  obtain ⟨T1, h1, X1, e1, W1, st1⟩ := putF X0 hx hZ hown (host := "") (Or.inl (hw _ (List.mem_of_getElem? (i := 146) rfl))) Via.refl e0 pf_bytes pE (Or.inl (hw _ (List.mem_of_getElem? (i := 147) rfl))) (hw _ (List.mem_of_getElem? (i := 7) rfl)) (ty := (.array .byte)) (by decide) rfl rfl (g := (mkF m 2 #[.val (.ref o0), .val (.ref ar), .val (.int off), .val (.int len), .unset] [(.ref ar), (.ref o0)])) rfl rfl (hb hby d15_2)
  have Fw1 := pf_bytes.same W1
  have K1 : Keep h0 h1 [o0] := K0.wr W1 (Or.inl (List.mem_of_getElem? (i := 0) rfl))
  have N1 := Fr.snoc X1 N0 pg
  have R4 : Rch p e below (s₁.setTop (entryFrame m #[(.ref o0), (.ref ar), (.int off), (.int len)] 5)) T1 (mkF m 7 #[.val (.ref o0), .val (.ref ar), .val (.int off), .val (.int len), .unset] [(.int off), (.ref o0)]) := fun t k => by
    refine R2 t ?_
    refine st1 _ ?_
    show Steps p.tables e below (T1.setTop (mkF m 5 #[.val (.ref o0), .val (.ref ar), .val (.int off), .val (.int len), .unset] [])) t
    refine XS.aloadN X1.here hx rfl (hb hby d15_5) rfl rfl ?_
    show Steps p.tables e below (T1.setTop (mkF m 6 #[.val (.ref o0), .val (.ref ar), .val (.int off), .val (.int len), .unset] [(.ref o0)])) t
    refine XS.iloadN X1.here hx rfl (hb hby d15_6) rfl ?_
    exact k
  have f3 := (pf_start.other W1 (Or.inr (slot_ne (Or.inl (hw _ (List.mem_of_getElem? (i := 149) rfl))) (Or.inl (hw _ (List.mem_of_getElem? (i := 147) rfl))) (by decide) (t := .int) (t' := (.array .byte)) (by decide) (by decide))))
  obtain ⟨T5, h5, X5, e5, W5, st5⟩ := putF X1 hx hZ hown (host := "") (Or.inl (hw _ (List.mem_of_getElem? (i := 148) rfl))) Via.refl e1 f3 (pE.wr W1) (Or.inl (hw _ (List.mem_of_getElem? (i := 149) rfl))) (hw _ (List.mem_of_getElem? (i := 7) rfl)) (ty := .int) (by decide) rfl rfl (g := (mkF m 7 #[.val (.ref o0), .val (.ref ar), .val (.int off), .val (.int len), .unset] [(.int off), (.ref o0)])) rfl rfl (hb hby d15_7)
  have Fw5 := f3.same W5
  have K5 : Keep h0 h5 [o0] := K1.wr W5 (Or.inl (List.mem_of_getElem? (i := 0) rfl))
  have N5 := Fr.snoc X5 N1 pg
  have R7 : Rch p e below (s₁.setTop (entryFrame m #[(.ref o0), (.ref ar), (.int off), (.int len)] 5)) T5 (mkF m 14 #[.val (.ref o0), .val (.ref ar), .val (.int off), .val (.int len), .unset] [(.int (off + len)), (.ref o0)]) := fun t k => by
    refine R4 t ?_
    refine st5 _ ?_
    show Steps p.tables e below (T5.setTop (mkF m 10 #[.val (.ref o0), .val (.ref ar), .val (.int off), .val (.int len), .unset] [])) t
    refine XS.aloadN X5.here hx rfl (hb hby d15_10) rfl rfl ?_
    show Steps p.tables e below (T5.setTop (mkF m 11 #[.val (.ref o0), .val (.ref ar), .val (.int off), .val (.int len), .unset] [(.ref o0)])) t
    refine XS.iloadN X5.here hx rfl (hb hby d15_11) rfl ?_
    show Steps p.tables e below (T5.setTop (mkF m 12 #[.val (.ref o0), .val (.ref ar), .val (.int off), .val (.int len), .unset] [(.int off), (.ref o0)])) t
    refine XS.iloadN X5.here hx rfl (hb hby d15_12) rfl ?_
    show Steps p.tables e below (T5.setTop (mkF m 13 #[.val (.ref o0), .val (.ref ar), .val (.int off), .val (.int len), .unset] [(.int len), (.int off), (.ref o0)])) t
    refine XS.iadd X5.here hx rfl (hb hby d15_13) rfl ?_
    exact k
  have f6 := ((pf_end.other W1 (Or.inr (slot_ne (Or.inl (hw _ (List.mem_of_getElem? (i := 151) rfl))) (Or.inl (hw _ (List.mem_of_getElem? (i := 147) rfl))) (by decide) (t := .int) (t' := (.array .byte)) (by decide) (by decide)))).other W5 (Or.inr (slot_ne (Or.inl (hw _ (List.mem_of_getElem? (i := 151) rfl))) (Or.inl (hw _ (List.mem_of_getElem? (i := 149) rfl))) (by decide) (t := .int) (t' := .int) (by decide) (by decide))))
  obtain ⟨T8, h8, X8, e8, W8, st8⟩ := putF X5 hx hZ hown (host := "") (Or.inl (hw _ (List.mem_of_getElem? (i := 150) rfl))) Via.refl e5 f6 ((pE.wr W1).wr W5) (Or.inl (hw _ (List.mem_of_getElem? (i := 151) rfl))) (hw _ (List.mem_of_getElem? (i := 7) rfl)) (ty := .int) (by decide) rfl rfl (g := (mkF m 14 #[.val (.ref o0), .val (.ref ar), .val (.int off), .val (.int len), .unset] [(.int (off + len)), (.ref o0)])) rfl rfl (hb hby d15_14)
  have Fw8 := f6.same W8
  have K8 : Keep h0 h8 [o0] := K5.wr W8 (Or.inl (List.mem_of_getElem? (i := 0) rfl))
  have N8 := Fr.snoc X8 N5 pg
  have R10 : Rch p e below (s₁.setTop (entryFrame m #[(.ref o0), (.ref ar), (.int off), (.int len)] 5)) T8 (mkF m 19 #[.val (.ref o0), .val (.ref ar), .val (.int off), .val (.int len), .unset] [(.int (3 : Int32)), (.int len)]) := fun t k => by
    refine R7 t ?_
    refine st8 _ ?_
    show Steps p.tables e below (T8.setTop (mkF m 17 #[.val (.ref o0), .val (.ref ar), .val (.int off), .val (.int len), .unset] [])) t
    refine XS.iloadN X8.here hx rfl (hb hby d15_17) rfl ?_
    show Steps p.tables e below (T8.setTop (mkF m 18 #[.val (.ref o0), .val (.ref ar), .val (.int off), .val (.int len), .unset] [(.int len)])) t
    refine XS.iconst X8.here hx rfl (hb hby d15_18) ?_
    exact k
  by_cases hc19_9 : len < (3 : Int32)
  · have R12 : Rch p e below (s₁.setTop (entryFrame m #[(.ref o0), (.ref ar), (.int off), (.int len)] 5)) T8 (mkF m 70 #[.val (.ref o0), .val (.ref ar), .val (.int off), .val (.int len), .val (.int (0 : Int32))] [(.int off), (.ref o0)]) := fun t k => by
      refine R10 t ?_
      refine XS.icmpYes X8.here hx rfl (pc0 := 19) (pc' := 54) rfl (hb hby d15_19) rfl (tlt hc19_9).1 (by decide) (by decide) ?_
      show Steps p.tables e below (T8.setTop (mkF m 54 #[.val (.ref o0), .val (.ref ar), .val (.int off), .val (.int len), .unset] [])) t
      refine XS.iconst X8.here hx rfl (hb hby d15_54) ?_
      show Steps p.tables e below (T8.setTop (mkF m 55 #[.val (.ref o0), .val (.ref ar), .val (.int off), .val (.int len), .unset] [(.int (0 : Int32))])) t
      refine XS.istore X8.here hx rfl (hb hby d15_55) rfl (l' := #[.val (.ref o0), .val (.ref ar), .val (.int off), .val (.int len), .val (.int (0 : Int32))]) rfl ?_
      show Steps p.tables e below (T8.setTop (mkF m 57 #[.val (.ref o0), .val (.ref ar), .val (.int off), .val (.int len), .val (.int (0 : Int32))] [])) t
      refine XS.aloadN X8.here hx rfl (hb hby d15_57) rfl rfl ?_
      show Steps p.tables e below (T8.setTop (mkF m 58 #[.val (.ref o0), .val (.ref ar), .val (.int off), .val (.int len), .val (.int (0 : Int32))] [(.ref o0)])) t
      refine XS.iload X8.here hx rfl (hb hby d15_58) rfl ?_
      show Steps p.tables e below (T8.setTop (mkF m 60 #[.val (.ref o0), .val (.ref ar), .val (.int off), .val (.int len), .val (.int (0 : Int32))] [(.int (0 : Int32)), (.ref o0)])) t
      refine XS.ifYes X8.here hx rfl (pc0 := 60) (pc' := 69) rfl (hb hby d15_60) rfl ((if0 _ _).trans (teq (by decide : (0 : Int32) = (0 : Int32))).1) (by decide) (by decide) ?_
      show Steps p.tables e below (T8.setTop (mkF m 69 #[.val (.ref o0), .val (.ref ar), .val (.int off), .val (.int len), .val (.int (0 : Int32))] [(.ref o0)])) t
      refine XS.iloadN X8.here hx rfl (hb hby d15_69) rfl ?_
      exact k
    have f11 := (((pf_at.other W1 (Or.inr (slot_ne (Or.inl (hw _ (List.mem_of_getElem? (i := 153) rfl))) (Or.inl (hw _ (List.mem_of_getElem? (i := 147) rfl))) (by decide) (t := .int) (t' := (.array .byte)) (by decide) (by decide)))).other W5 (Or.inr (slot_ne (Or.inl (hw _ (List.mem_of_getElem? (i := 153) rfl))) (Or.inl (hw _ (List.mem_of_getElem? (i := 149) rfl))) (by decide) (t := .int) (t' := .int) (by decide) (by decide)))).other W8 (Or.inr (slot_ne (Or.inl (hw _ (List.mem_of_getElem? (i := 153) rfl))) (Or.inl (hw _ (List.mem_of_getElem? (i := 151) rfl))) (by decide) (t := .int) (t' := .int) (by decide) (by decide))))
    obtain ⟨T13, h13, X13, e13, W13, st13⟩ := putF X8 hx hZ hown (host := "") (Or.inl (hw _ (List.mem_of_getElem? (i := 152) rfl))) Via.refl e8 f11 (((pE.wr W1).wr W5).wr W8) (Or.inl (hw _ (List.mem_of_getElem? (i := 153) rfl))) (hw _ (List.mem_of_getElem? (i := 7) rfl)) (ty := .int) (by decide) rfl rfl (g := (mkF m 70 #[.val (.ref o0), .val (.ref ar), .val (.int off), .val (.int len), .val (.int (0 : Int32))] [(.int off), (.ref o0)])) rfl rfl (hb hby d15_70)
    have Fw13 := f11.same W13
    have K13 : Keep h0 h13 [o0] := K8.wr W13 (Or.inl (List.mem_of_getElem? (i := 0) rfl))
    have N13 := Fr.snoc X13 N8 pg
    have R15 : Rch p e below (s₁.setTop (entryFrame m #[(.ref o0), (.ref ar), (.int off), (.int len)] 5)) T13 (mkF m 75 #[.val (.ref o0), .val (.ref ar), .val (.int off), .val (.int len), .val (.int (0 : Int32))] [(.int (0 : Int32)), (.ref o0)]) := fun t k => by
      refine R12 t ?_
      refine st13 _ ?_
      show Steps p.tables e below (T13.setTop (mkF m 73 #[.val (.ref o0), .val (.ref ar), .val (.int off), .val (.int len), .val (.int (0 : Int32))] [])) t
      refine XS.aloadN X13.here hx rfl (hb hby d15_73) rfl rfl ?_
      show Steps p.tables e below (T13.setTop (mkF m 74 #[.val (.ref o0), .val (.ref ar), .val (.int off), .val (.int len), .val (.int (0 : Int32))] [(.ref o0)])) t
      refine XS.iconst X13.here hx rfl (hb hby d15_74) ?_
      exact k
    have f14 := ((((pf_depth.other W1 (Or.inr (slot_ne (Or.inl (hw _ (List.mem_of_getElem? (i := 155) rfl))) (Or.inl (hw _ (List.mem_of_getElem? (i := 147) rfl))) (by decide) (t := .int) (t' := (.array .byte)) (by decide) (by decide)))).other W5 (Or.inr (slot_ne (Or.inl (hw _ (List.mem_of_getElem? (i := 155) rfl))) (Or.inl (hw _ (List.mem_of_getElem? (i := 149) rfl))) (by decide) (t := .int) (t' := .int) (by decide) (by decide)))).other W8 (Or.inr (slot_ne (Or.inl (hw _ (List.mem_of_getElem? (i := 155) rfl))) (Or.inl (hw _ (List.mem_of_getElem? (i := 151) rfl))) (by decide) (t := .int) (t' := .int) (by decide) (by decide)))).other W13 (Or.inr (slot_ne (Or.inl (hw _ (List.mem_of_getElem? (i := 155) rfl))) (Or.inl (hw _ (List.mem_of_getElem? (i := 153) rfl))) (by decide) (t := .int) (t' := .int) (by decide) (by decide))))
    obtain ⟨T16, h16, X16, e16, W16, st16⟩ := putF X13 hx hZ hown (host := "") (Or.inl (hw _ (List.mem_of_getElem? (i := 154) rfl))) Via.refl e13 f14 ((((pE.wr W1).wr W5).wr W8).wr W13) (Or.inl (hw _ (List.mem_of_getElem? (i := 155) rfl))) (hw _ (List.mem_of_getElem? (i := 7) rfl)) (ty := .int) (by decide) rfl rfl (g := (mkF m 75 #[.val (.ref o0), .val (.ref ar), .val (.int off), .val (.int len), .val (.int (0 : Int32))] [(.int (0 : Int32)), (.ref o0)])) rfl rfl (hb hby d15_75)
    have Fw16 := f14.same W16
    have K16 : Keep h0 h16 [o0] := K13.wr W16 (Or.inl (List.mem_of_getElem? (i := 0) rfl))
    have N16 := Fr.snoc X16 N13 pg
    have R17 : Rch p e below (s₁.setTop (entryFrame m #[(.ref o0), (.ref ar), (.int off), (.int len)] 5)) T16 (mkF m 78 #[.val (.ref o0), .val (.ref ar), .val (.int off), .val (.int len), .val (.int (0 : Int32))] []) := fun t k => by
      refine R15 t ?_
      refine st16 _ ?_
      exact k
    obtain ⟨fs, hr, hrun, hended, hW, hsame⟩ := X16.leave (v := none) (fun _ => rfl)
    refine ⟨_, _, R17 _ ?_, hrun, hended, _, _, rfl, ?_, ⟨_, rfl⟩, hW, hsame.mono (by decide) (by decide)⟩
    · exact X16.returnOut hx Bd.returns (hb hby d15_78) hr
    · show Q_rm_reset Z o0 ar kk nn vs dv off len op ob ub us ue ua ud h0 n0 _ T16.heap _
      rw [e16]
      exact ⟨rfl, N16, K16, (((((pE.wr W1).wr W5).wr W8).wr W13).wr W16), ((((Fw1.other W5 (Or.inr (slot_ne (Or.inl (hw _ (List.mem_of_getElem? (i := 147) rfl))) (Or.inl (hw _ (List.mem_of_getElem? (i := 149) rfl))) (by decide) (t := (.array .byte)) (t' := .int) (by decide) (by decide)))).other W8 (Or.inr (slot_ne (Or.inl (hw _ (List.mem_of_getElem? (i := 147) rfl))) (Or.inl (hw _ (List.mem_of_getElem? (i := 151) rfl))) (by decide) (t := (.array .byte)) (t' := .int) (by decide) (by decide)))).other W13 (Or.inr (slot_ne (Or.inl (hw _ (List.mem_of_getElem? (i := 147) rfl))) (Or.inl (hw _ (List.mem_of_getElem? (i := 153) rfl))) (by decide) (t := (.array .byte)) (t' := .int) (by decide) (by decide)))).other W16 (Or.inr (slot_ne (Or.inl (hw _ (List.mem_of_getElem? (i := 147) rfl))) (Or.inl (hw _ (List.mem_of_getElem? (i := 155) rfl))) (by decide) (t := (.array .byte)) (t' := .int) (by decide) (by decide)))), (((Fw5.other W8 (Or.inr (slot_ne (Or.inl (hw _ (List.mem_of_getElem? (i := 149) rfl))) (Or.inl (hw _ (List.mem_of_getElem? (i := 151) rfl))) (by decide) (t := .int) (t' := .int) (by decide) (by decide)))).other W13 (Or.inr (slot_ne (Or.inl (hw _ (List.mem_of_getElem? (i := 149) rfl))) (Or.inl (hw _ (List.mem_of_getElem? (i := 153) rfl))) (by decide) (t := .int) (t' := .int) (by decide) (by decide)))).other W16 (Or.inr (slot_ne (Or.inl (hw _ (List.mem_of_getElem? (i := 149) rfl))) (Or.inl (hw _ (List.mem_of_getElem? (i := 155) rfl))) (by decide) (t := .int) (t' := .int) (by decide) (by decide)))), ((Fw8.other W13 (Or.inr (slot_ne (Or.inl (hw _ (List.mem_of_getElem? (i := 151) rfl))) (Or.inl (hw _ (List.mem_of_getElem? (i := 153) rfl))) (by decide) (t := .int) (t' := .int) (by decide) (by decide)))).other W16 (Or.inr (slot_ne (Or.inl (hw _ (List.mem_of_getElem? (i := 151) rfl))) (Or.inl (hw _ (List.mem_of_getElem? (i := 155) rfl))) (by decide) (t := .int) (t' := .int) (by decide) (by decide)))), ((by simp [own_first, hc19_9] : own_first vs off len = off).symm ▸ (Fw13.other W16 (Or.inr (slot_ne (Or.inl (hw _ (List.mem_of_getElem? (i := 153) rfl))) (Or.inl (hw _ (List.mem_of_getElem? (i := 155) rfl))) (by decide) (t := .int) (t' := .int) (by decide) (by decide))))), Fw16, (((((pf_opened.other W1 (Or.inr (slot_ne (Or.inl (hw _ (List.mem_of_getElem? (i := 179) rfl))) (Or.inl (hw _ (List.mem_of_getElem? (i := 147) rfl))) (by decide) (t := .boolean) (t' := (.array .byte)) (by decide) (by decide)))).other W5 (Or.inr (slot_ne (Or.inl (hw _ (List.mem_of_getElem? (i := 179) rfl))) (Or.inl (hw _ (List.mem_of_getElem? (i := 149) rfl))) (by decide) (t := .boolean) (t' := .int) (by decide) (by decide)))).other W8 (Or.inr (slot_ne (Or.inl (hw _ (List.mem_of_getElem? (i := 179) rfl))) (Or.inl (hw _ (List.mem_of_getElem? (i := 151) rfl))) (by decide) (t := .boolean) (t' := .int) (by decide) (by decide)))).other W13 (Or.inr (slot_ne (Or.inl (hw _ (List.mem_of_getElem? (i := 179) rfl))) (Or.inl (hw _ (List.mem_of_getElem? (i := 153) rfl))) (by decide) (t := .boolean) (t' := .int) (by decide) (by decide)))).other W16 (Or.inr (slot_ne (Or.inl (hw _ (List.mem_of_getElem? (i := 179) rfl))) (Or.inl (hw _ (List.mem_of_getElem? (i := 155) rfl))) (by decide) (t := .boolean) (t' := .int) (by decide) (by decide)))), (((((pf_objects.other W1 (Or.inr (slot_ne (Or.inr (hw _ (List.mem_of_getElem? (i := 41) rfl))) (Or.inl (hw _ (List.mem_of_getElem? (i := 147) rfl))) (by decide) (t := (.array .boolean)) (t' := (.array .byte)) (by decide) (by decide)))).other W5 (Or.inr (slot_ne (Or.inr (hw _ (List.mem_of_getElem? (i := 41) rfl))) (Or.inl (hw _ (List.mem_of_getElem? (i := 149) rfl))) (by decide) (t := (.array .boolean)) (t' := .int) (by decide) (by decide)))).other W8 (Or.inr (slot_ne (Or.inr (hw _ (List.mem_of_getElem? (i := 41) rfl))) (Or.inl (hw _ (List.mem_of_getElem? (i := 151) rfl))) (by decide) (t := (.array .boolean)) (t' := .int) (by decide) (by decide)))).other W13 (Or.inr (slot_ne (Or.inr (hw _ (List.mem_of_getElem? (i := 41) rfl))) (Or.inl (hw _ (List.mem_of_getElem? (i := 153) rfl))) (by decide) (t := (.array .boolean)) (t' := .int) (by decide) (by decide)))).other W16 (Or.inr (slot_ne (Or.inr (hw _ (List.mem_of_getElem? (i := 41) rfl))) (Or.inl (hw _ (List.mem_of_getElem? (i := 155) rfl))) (by decide) (t := (.array .boolean)) (t' := .int) (by decide) (by decide))))⟩
  · have R19 : Rch p e below (s₁.setTop (entryFrame m #[(.ref o0), (.ref ar), (.int off), (.int len)] 5)) T8 (mkF m 24 #[.val (.ref o0), .val (.ref ar), .val (.int off), .val (.int len), .unset] [(.int off), (.ref ar)]) := fun t k => by
      refine R10 t ?_
      refine XS.icmpNo X8.here hx rfl (hb hby d15_19) rfl (flt hc19_9).1 ?_
      show Steps p.tables e below (T8.setTop (mkF m 22 #[.val (.ref o0), .val (.ref ar), .val (.int off), .val (.int len), .unset] [])) t
      refine XS.aloadN X8.here hx rfl (hb hby d15_22) rfl rfl ?_
      show Steps p.tables e below (T8.setTop (mkF m 23 #[.val (.ref o0), .val (.ref ar), .val (.int off), .val (.int len), .unset] [(.ref ar)])) t
      refine XS.iloadN X8.here hx rfl (hb hby d15_23) rfl ?_
      exact k
    obtain ⟨cl18, Ar18, q18, Sz18, N18_, Hs18, G18⟩ := id (((pV.other W1 pna).other W5 pna).other W8 pna)
    have hin18 : ¬ (off < 0 ∨ cl18.slots.size ≤ (off).toNatClampNeg) := inb_of Sz18 (prd hc19_9).1.1
    have hat18 : cl18.slots[(off).toNatClampNeg]? = some (.int (own_at vs off)) := Hs18.at hin18 (prd hc19_9).1.2
    have R21 : Rch p e below (s₁.setTop (entryFrame m #[(.ref o0), (.ref ar), (.int off), (.int len)] 5)) T8 (mkF m 27 #[.val (.ref o0), .val (.ref ar), .val (.int off), .val (.int len), .unset] [(.int (-17 : Int32)), (.int (own_at vs off))]) := fun t k => by
      refine R19 t ?_
      refine X8.baloadBytes hx (j := off) (v := (.int (own_at vs off))) (by rw [e8]; exact Ar18.1) (State.isArrayOf_alike hZ.alike Ar18.2.1) Ar18.2.2 hin18 hat18 (g := (mkF m 24 #[.val (.ref o0), .val (.ref ar), .val (.int off), .val (.int len), .unset] [(.int off), (.ref ar)])) rfl rfl (hb hby d15_24) _ ?_
      show Steps p.tables e below (T8.setTop (mkF m 25 #[.val (.ref o0), .val (.ref ar), .val (.int off), .val (.int len), .unset] [(.int (own_at vs off))])) t
      refine XS.bipush X8.here hx rfl (hb hby d15_25) ?_
      exact k
    by_cases hc27_20 : (own_at vs off) = (-17 : Int32)
    · have R23 : Rch p e below (s₁.setTop (entryFrame m #[(.ref o0), (.ref ar), (.int off), (.int len)] 5)) T8 (mkF m 34 #[.val (.ref o0), .val (.ref ar), .val (.int off), .val (.int len), .unset] [(.int (off + (1 : Int32))), (.ref ar)]) := fun t k => by
        refine R21 t ?_
        refine XS.icmpNo X8.here hx rfl (hb hby d15_27) rfl (teq hc27_20).2 ?_
        show Steps p.tables e below (T8.setTop (mkF m 30 #[.val (.ref o0), .val (.ref ar), .val (.int off), .val (.int len), .unset] [])) t
        refine XS.aloadN X8.here hx rfl (hb hby d15_30) rfl rfl ?_
        show Steps p.tables e below (T8.setTop (mkF m 31 #[.val (.ref o0), .val (.ref ar), .val (.int off), .val (.int len), .unset] [(.ref ar)])) t
        refine XS.iloadN X8.here hx rfl (hb hby d15_31) rfl ?_
        show Steps p.tables e below (T8.setTop (mkF m 32 #[.val (.ref o0), .val (.ref ar), .val (.int off), .val (.int len), .unset] [(.int off), (.ref ar)])) t
        refine XS.iconst X8.here hx rfl (hb hby d15_32) ?_
        show Steps p.tables e below (T8.setTop (mkF m 33 #[.val (.ref o0), .val (.ref ar), .val (.int off), .val (.int len), .unset] [(.int (1 : Int32)), (.int off), (.ref ar)])) t
        refine XS.iadd X8.here hx rfl (hb hby d15_33) rfl ?_
        exact k
      obtain ⟨cl22, Ar22, q22, Sz22, N22_, Hs22, G22⟩ := id (((pV.other W1 pna).other W5 pna).other W8 pna)
      have hin22 : ¬ ((off + (1 : Int32)) < 0 ∨ cl22.slots.size ≤ ((off + (1 : Int32))).toNatClampNeg) := inb_of Sz22 (prd hc19_9).2.1.1
      have hat22 : cl22.slots[((off + (1 : Int32))).toNatClampNeg]? = some (.int (own_at vs (off + (1 : Int32)))) := Hs22.at hin22 (prd hc19_9).2.1.2
      have R25 : Rch p e below (s₁.setTop (entryFrame m #[(.ref o0), (.ref ar), (.int off), (.int len)] 5)) T8 (mkF m 37 #[.val (.ref o0), .val (.ref ar), .val (.int off), .val (.int len), .unset] [(.int (-69 : Int32)), (.int (own_at vs (off + (1 : Int32))))]) := fun t k => by
        refine R23 t ?_
        refine X8.baloadBytes hx (j := (off + (1 : Int32))) (v := (.int (own_at vs (off + (1 : Int32))))) (by rw [e8]; exact Ar22.1) (State.isArrayOf_alike hZ.alike Ar22.2.1) Ar22.2.2 hin22 hat22 (g := (mkF m 34 #[.val (.ref o0), .val (.ref ar), .val (.int off), .val (.int len), .unset] [(.int (off + (1 : Int32))), (.ref ar)])) rfl rfl (hb hby d15_34) _ ?_
        show Steps p.tables e below (T8.setTop (mkF m 35 #[.val (.ref o0), .val (.ref ar), .val (.int off), .val (.int len), .unset] [(.int (own_at vs (off + (1 : Int32))))])) t
        refine XS.bipush X8.here hx rfl (hb hby d15_35) ?_
        exact k
      by_cases hc37_24 : (own_at vs (off + (1 : Int32))) = (-69 : Int32)
      · have R27 : Rch p e below (s₁.setTop (entryFrame m #[(.ref o0), (.ref ar), (.int off), (.int len)] 5)) T8 (mkF m 44 #[.val (.ref o0), .val (.ref ar), .val (.int off), .val (.int len), .unset] [(.int (off + (2 : Int32))), (.ref ar)]) := fun t k => by
          refine R25 t ?_
          refine XS.icmpNo X8.here hx rfl (hb hby d15_37) rfl (teq hc37_24).2 ?_
          show Steps p.tables e below (T8.setTop (mkF m 40 #[.val (.ref o0), .val (.ref ar), .val (.int off), .val (.int len), .unset] [])) t
          refine XS.aloadN X8.here hx rfl (hb hby d15_40) rfl rfl ?_
          show Steps p.tables e below (T8.setTop (mkF m 41 #[.val (.ref o0), .val (.ref ar), .val (.int off), .val (.int len), .unset] [(.ref ar)])) t
          refine XS.iloadN X8.here hx rfl (hb hby d15_41) rfl ?_
          show Steps p.tables e below (T8.setTop (mkF m 42 #[.val (.ref o0), .val (.ref ar), .val (.int off), .val (.int len), .unset] [(.int off), (.ref ar)])) t
          refine XS.iconst X8.here hx rfl (hb hby d15_42) ?_
          show Steps p.tables e below (T8.setTop (mkF m 43 #[.val (.ref o0), .val (.ref ar), .val (.int off), .val (.int len), .unset] [(.int (2 : Int32)), (.int off), (.ref ar)])) t
          refine XS.iadd X8.here hx rfl (hb hby d15_43) rfl ?_
          exact k
        obtain ⟨cl26, Ar26, q26, Sz26, N26_, Hs26, G26⟩ := id (((pV.other W1 pna).other W5 pna).other W8 pna)
        have hin26 : ¬ ((off + (2 : Int32)) < 0 ∨ cl26.slots.size ≤ ((off + (2 : Int32))).toNatClampNeg) := inb_of Sz26 (prd hc19_9).2.2.1
        have hat26 : cl26.slots[((off + (2 : Int32))).toNatClampNeg]? = some (.int (own_at vs (off + (2 : Int32)))) := Hs26.at hin26 (prd hc19_9).2.2.2
        have R29 : Rch p e below (s₁.setTop (entryFrame m #[(.ref o0), (.ref ar), (.int off), (.int len)] 5)) T8 (mkF m 47 #[.val (.ref o0), .val (.ref ar), .val (.int off), .val (.int len), .unset] [(.int (-65 : Int32)), (.int (own_at vs (off + (2 : Int32))))]) := fun t k => by
          refine R27 t ?_
          refine X8.baloadBytes hx (j := (off + (2 : Int32))) (v := (.int (own_at vs (off + (2 : Int32))))) (by rw [e8]; exact Ar26.1) (State.isArrayOf_alike hZ.alike Ar26.2.1) Ar26.2.2 hin26 hat26 (g := (mkF m 44 #[.val (.ref o0), .val (.ref ar), .val (.int off), .val (.int len), .unset] [(.int (off + (2 : Int32))), (.ref ar)])) rfl rfl (hb hby d15_44) _ ?_
          show Steps p.tables e below (T8.setTop (mkF m 45 #[.val (.ref o0), .val (.ref ar), .val (.int off), .val (.int len), .unset] [(.int (own_at vs (off + (2 : Int32))))])) t
          refine XS.bipush X8.here hx rfl (hb hby d15_45) ?_
          exact k
        by_cases hc47_28 : (own_at vs (off + (2 : Int32))) = (-65 : Int32)
        · have R31 : Rch p e below (s₁.setTop (entryFrame m #[(.ref o0), (.ref ar), (.int off), (.int len)] 5)) T8 (mkF m 70 #[.val (.ref o0), .val (.ref ar), .val (.int off), .val (.int len), .val (.int (1 : Int32))] [(.int (off + (3 : Int32))), (.ref o0)]) := fun t k => by
            refine R29 t ?_
            refine XS.icmpNo X8.here hx rfl (hb hby d15_47) rfl (teq hc47_28).2 ?_
            show Steps p.tables e below (T8.setTop (mkF m 50 #[.val (.ref o0), .val (.ref ar), .val (.int off), .val (.int len), .unset] [])) t
            refine XS.iconst X8.here hx rfl (hb hby d15_50) ?_
            show Steps p.tables e below (T8.setTop (mkF m 51 #[.val (.ref o0), .val (.ref ar), .val (.int off), .val (.int len), .unset] [(.int (1 : Int32))])) t
            refine XS.goto X8.here hx rfl (pc0 := 51) (pc' := 55) rfl (hb hby d15_51) (by decide) (by decide) ?_
            show Steps p.tables e below (T8.setTop (mkF m 55 #[.val (.ref o0), .val (.ref ar), .val (.int off), .val (.int len), .unset] [(.int (1 : Int32))])) t
            refine XS.istore X8.here hx rfl (hb hby d15_55) rfl (l' := #[.val (.ref o0), .val (.ref ar), .val (.int off), .val (.int len), .val (.int (1 : Int32))]) rfl ?_
            show Steps p.tables e below (T8.setTop (mkF m 57 #[.val (.ref o0), .val (.ref ar), .val (.int off), .val (.int len), .val (.int (1 : Int32))] [])) t
            refine XS.aloadN X8.here hx rfl (hb hby d15_57) rfl rfl ?_
            show Steps p.tables e below (T8.setTop (mkF m 58 #[.val (.ref o0), .val (.ref ar), .val (.int off), .val (.int len), .val (.int (1 : Int32))] [(.ref o0)])) t
            refine XS.iload X8.here hx rfl (hb hby d15_58) rfl ?_
            show Steps p.tables e below (T8.setTop (mkF m 60 #[.val (.ref o0), .val (.ref ar), .val (.int off), .val (.int len), .val (.int (1 : Int32))] [(.int (1 : Int32)), (.ref o0)])) t
            refine XS.ifNo X8.here hx rfl (hb hby d15_60) rfl ((if0 _ _).trans (feq (by decide : ¬ ((1 : Int32) = (0 : Int32)))).1) ?_
            show Steps p.tables e below (T8.setTop (mkF m 63 #[.val (.ref o0), .val (.ref ar), .val (.int off), .val (.int len), .val (.int (1 : Int32))] [(.ref o0)])) t
            refine XS.iloadN X8.here hx rfl (hb hby d15_63) rfl ?_
            show Steps p.tables e below (T8.setTop (mkF m 64 #[.val (.ref o0), .val (.ref ar), .val (.int off), .val (.int len), .val (.int (1 : Int32))] [(.int off), (.ref o0)])) t
            refine XS.iconst X8.here hx rfl (hb hby d15_64) ?_
            show Steps p.tables e below (T8.setTop (mkF m 65 #[.val (.ref o0), .val (.ref ar), .val (.int off), .val (.int len), .val (.int (1 : Int32))] [(.int (3 : Int32)), (.int off), (.ref o0)])) t
            refine XS.iadd X8.here hx rfl (hb hby d15_65) rfl ?_
            show Steps p.tables e below (T8.setTop (mkF m 66 #[.val (.ref o0), .val (.ref ar), .val (.int off), .val (.int len), .val (.int (1 : Int32))] [(.int (off + (3 : Int32))), (.ref o0)])) t
            refine XS.goto X8.here hx rfl (pc0 := 66) (pc' := 70) rfl (hb hby d15_66) (by decide) (by decide) ?_
            exact k
          have f30 := (((pf_at.other W1 (Or.inr (slot_ne (Or.inl (hw _ (List.mem_of_getElem? (i := 153) rfl))) (Or.inl (hw _ (List.mem_of_getElem? (i := 147) rfl))) (by decide) (t := .int) (t' := (.array .byte)) (by decide) (by decide)))).other W5 (Or.inr (slot_ne (Or.inl (hw _ (List.mem_of_getElem? (i := 153) rfl))) (Or.inl (hw _ (List.mem_of_getElem? (i := 149) rfl))) (by decide) (t := .int) (t' := .int) (by decide) (by decide)))).other W8 (Or.inr (slot_ne (Or.inl (hw _ (List.mem_of_getElem? (i := 153) rfl))) (Or.inl (hw _ (List.mem_of_getElem? (i := 151) rfl))) (by decide) (t := .int) (t' := .int) (by decide) (by decide))))
          obtain ⟨T32, h32, X32, e32, W32, st32⟩ := putF X8 hx hZ hown (host := "") (Or.inl (hw _ (List.mem_of_getElem? (i := 152) rfl))) Via.refl e8 f30 (((pE.wr W1).wr W5).wr W8) (Or.inl (hw _ (List.mem_of_getElem? (i := 153) rfl))) (hw _ (List.mem_of_getElem? (i := 7) rfl)) (ty := .int) (by decide) rfl rfl (g := (mkF m 70 #[.val (.ref o0), .val (.ref ar), .val (.int off), .val (.int len), .val (.int (1 : Int32))] [(.int (off + (3 : Int32))), (.ref o0)])) rfl rfl (hb hby d15_70)
          have Fw32 := f30.same W32
          have K32 : Keep h0 h32 [o0] := K8.wr W32 (Or.inl (List.mem_of_getElem? (i := 0) rfl))
          have N32 := Fr.snoc X32 N8 pg
          have R34 : Rch p e below (s₁.setTop (entryFrame m #[(.ref o0), (.ref ar), (.int off), (.int len)] 5)) T32 (mkF m 75 #[.val (.ref o0), .val (.ref ar), .val (.int off), .val (.int len), .val (.int (1 : Int32))] [(.int (0 : Int32)), (.ref o0)]) := fun t k => by
            refine R31 t ?_
            refine st32 _ ?_
            show Steps p.tables e below (T32.setTop (mkF m 73 #[.val (.ref o0), .val (.ref ar), .val (.int off), .val (.int len), .val (.int (1 : Int32))] [])) t
            refine XS.aloadN X32.here hx rfl (hb hby d15_73) rfl rfl ?_
            show Steps p.tables e below (T32.setTop (mkF m 74 #[.val (.ref o0), .val (.ref ar), .val (.int off), .val (.int len), .val (.int (1 : Int32))] [(.ref o0)])) t
            refine XS.iconst X32.here hx rfl (hb hby d15_74) ?_
            exact k
          have f33 := ((((pf_depth.other W1 (Or.inr (slot_ne (Or.inl (hw _ (List.mem_of_getElem? (i := 155) rfl))) (Or.inl (hw _ (List.mem_of_getElem? (i := 147) rfl))) (by decide) (t := .int) (t' := (.array .byte)) (by decide) (by decide)))).other W5 (Or.inr (slot_ne (Or.inl (hw _ (List.mem_of_getElem? (i := 155) rfl))) (Or.inl (hw _ (List.mem_of_getElem? (i := 149) rfl))) (by decide) (t := .int) (t' := .int) (by decide) (by decide)))).other W8 (Or.inr (slot_ne (Or.inl (hw _ (List.mem_of_getElem? (i := 155) rfl))) (Or.inl (hw _ (List.mem_of_getElem? (i := 151) rfl))) (by decide) (t := .int) (t' := .int) (by decide) (by decide)))).other W32 (Or.inr (slot_ne (Or.inl (hw _ (List.mem_of_getElem? (i := 155) rfl))) (Or.inl (hw _ (List.mem_of_getElem? (i := 153) rfl))) (by decide) (t := .int) (t' := .int) (by decide) (by decide))))
          obtain ⟨T35, h35, X35, e35, W35, st35⟩ := putF X32 hx hZ hown (host := "") (Or.inl (hw _ (List.mem_of_getElem? (i := 154) rfl))) Via.refl e32 f33 ((((pE.wr W1).wr W5).wr W8).wr W32) (Or.inl (hw _ (List.mem_of_getElem? (i := 155) rfl))) (hw _ (List.mem_of_getElem? (i := 7) rfl)) (ty := .int) (by decide) rfl rfl (g := (mkF m 75 #[.val (.ref o0), .val (.ref ar), .val (.int off), .val (.int len), .val (.int (1 : Int32))] [(.int (0 : Int32)), (.ref o0)])) rfl rfl (hb hby d15_75)
          have Fw35 := f33.same W35
          have K35 : Keep h0 h35 [o0] := K32.wr W35 (Or.inl (List.mem_of_getElem? (i := 0) rfl))
          have N35 := Fr.snoc X35 N32 pg
          have R36 : Rch p e below (s₁.setTop (entryFrame m #[(.ref o0), (.ref ar), (.int off), (.int len)] 5)) T35 (mkF m 78 #[.val (.ref o0), .val (.ref ar), .val (.int off), .val (.int len), .val (.int (1 : Int32))] []) := fun t k => by
            refine R34 t ?_
            refine st35 _ ?_
            exact k
          obtain ⟨fs, hr, hrun, hended, hW, hsame⟩ := X35.leave (v := none) (fun _ => rfl)
          refine ⟨_, _, R36 _ ?_, hrun, hended, _, _, rfl, ?_, ⟨_, rfl⟩, hW, hsame.mono (by decide) (by decide)⟩
          · exact X35.returnOut hx Bd.returns (hb hby d15_78) hr
          · show Q_rm_reset Z o0 ar kk nn vs dv off len op ob ub us ue ua ud h0 n0 _ T35.heap _
            rw [e35]
            exact ⟨rfl, N35, K35, (((((pE.wr W1).wr W5).wr W8).wr W32).wr W35), ((((Fw1.other W5 (Or.inr (slot_ne (Or.inl (hw _ (List.mem_of_getElem? (i := 147) rfl))) (Or.inl (hw _ (List.mem_of_getElem? (i := 149) rfl))) (by decide) (t := (.array .byte)) (t' := .int) (by decide) (by decide)))).other W8 (Or.inr (slot_ne (Or.inl (hw _ (List.mem_of_getElem? (i := 147) rfl))) (Or.inl (hw _ (List.mem_of_getElem? (i := 151) rfl))) (by decide) (t := (.array .byte)) (t' := .int) (by decide) (by decide)))).other W32 (Or.inr (slot_ne (Or.inl (hw _ (List.mem_of_getElem? (i := 147) rfl))) (Or.inl (hw _ (List.mem_of_getElem? (i := 153) rfl))) (by decide) (t := (.array .byte)) (t' := .int) (by decide) (by decide)))).other W35 (Or.inr (slot_ne (Or.inl (hw _ (List.mem_of_getElem? (i := 147) rfl))) (Or.inl (hw _ (List.mem_of_getElem? (i := 155) rfl))) (by decide) (t := (.array .byte)) (t' := .int) (by decide) (by decide)))), (((Fw5.other W8 (Or.inr (slot_ne (Or.inl (hw _ (List.mem_of_getElem? (i := 149) rfl))) (Or.inl (hw _ (List.mem_of_getElem? (i := 151) rfl))) (by decide) (t := .int) (t' := .int) (by decide) (by decide)))).other W32 (Or.inr (slot_ne (Or.inl (hw _ (List.mem_of_getElem? (i := 149) rfl))) (Or.inl (hw _ (List.mem_of_getElem? (i := 153) rfl))) (by decide) (t := .int) (t' := .int) (by decide) (by decide)))).other W35 (Or.inr (slot_ne (Or.inl (hw _ (List.mem_of_getElem? (i := 149) rfl))) (Or.inl (hw _ (List.mem_of_getElem? (i := 155) rfl))) (by decide) (t := .int) (t' := .int) (by decide) (by decide)))), ((Fw8.other W32 (Or.inr (slot_ne (Or.inl (hw _ (List.mem_of_getElem? (i := 151) rfl))) (Or.inl (hw _ (List.mem_of_getElem? (i := 153) rfl))) (by decide) (t := .int) (t' := .int) (by decide) (by decide)))).other W35 (Or.inr (slot_ne (Or.inl (hw _ (List.mem_of_getElem? (i := 151) rfl))) (Or.inl (hw _ (List.mem_of_getElem? (i := 155) rfl))) (by decide) (t := .int) (t' := .int) (by decide) (by decide)))), ((by simp [own_first, hc19_9, hc27_20, hc37_24, hc47_28] : own_first vs off len = (off + (3 : Int32))).symm ▸ (Fw32.other W35 (Or.inr (slot_ne (Or.inl (hw _ (List.mem_of_getElem? (i := 153) rfl))) (Or.inl (hw _ (List.mem_of_getElem? (i := 155) rfl))) (by decide) (t := .int) (t' := .int) (by decide) (by decide))))), Fw35, (((((pf_opened.other W1 (Or.inr (slot_ne (Or.inl (hw _ (List.mem_of_getElem? (i := 179) rfl))) (Or.inl (hw _ (List.mem_of_getElem? (i := 147) rfl))) (by decide) (t := .boolean) (t' := (.array .byte)) (by decide) (by decide)))).other W5 (Or.inr (slot_ne (Or.inl (hw _ (List.mem_of_getElem? (i := 179) rfl))) (Or.inl (hw _ (List.mem_of_getElem? (i := 149) rfl))) (by decide) (t := .boolean) (t' := .int) (by decide) (by decide)))).other W8 (Or.inr (slot_ne (Or.inl (hw _ (List.mem_of_getElem? (i := 179) rfl))) (Or.inl (hw _ (List.mem_of_getElem? (i := 151) rfl))) (by decide) (t := .boolean) (t' := .int) (by decide) (by decide)))).other W32 (Or.inr (slot_ne (Or.inl (hw _ (List.mem_of_getElem? (i := 179) rfl))) (Or.inl (hw _ (List.mem_of_getElem? (i := 153) rfl))) (by decide) (t := .boolean) (t' := .int) (by decide) (by decide)))).other W35 (Or.inr (slot_ne (Or.inl (hw _ (List.mem_of_getElem? (i := 179) rfl))) (Or.inl (hw _ (List.mem_of_getElem? (i := 155) rfl))) (by decide) (t := .boolean) (t' := .int) (by decide) (by decide)))), (((((pf_objects.other W1 (Or.inr (slot_ne (Or.inr (hw _ (List.mem_of_getElem? (i := 41) rfl))) (Or.inl (hw _ (List.mem_of_getElem? (i := 147) rfl))) (by decide) (t := (.array .boolean)) (t' := (.array .byte)) (by decide) (by decide)))).other W5 (Or.inr (slot_ne (Or.inr (hw _ (List.mem_of_getElem? (i := 41) rfl))) (Or.inl (hw _ (List.mem_of_getElem? (i := 149) rfl))) (by decide) (t := (.array .boolean)) (t' := .int) (by decide) (by decide)))).other W8 (Or.inr (slot_ne (Or.inr (hw _ (List.mem_of_getElem? (i := 41) rfl))) (Or.inl (hw _ (List.mem_of_getElem? (i := 151) rfl))) (by decide) (t := (.array .boolean)) (t' := .int) (by decide) (by decide)))).other W32 (Or.inr (slot_ne (Or.inr (hw _ (List.mem_of_getElem? (i := 41) rfl))) (Or.inl (hw _ (List.mem_of_getElem? (i := 153) rfl))) (by decide) (t := (.array .boolean)) (t' := .int) (by decide) (by decide)))).other W35 (Or.inr (slot_ne (Or.inr (hw _ (List.mem_of_getElem? (i := 41) rfl))) (Or.inl (hw _ (List.mem_of_getElem? (i := 155) rfl))) (by decide) (t := (.array .boolean)) (t' := .int) (by decide) (by decide))))⟩
        · have R38 : Rch p e below (s₁.setTop (entryFrame m #[(.ref o0), (.ref ar), (.int off), (.int len)] 5)) T8 (mkF m 70 #[.val (.ref o0), .val (.ref ar), .val (.int off), .val (.int len), .val (.int (0 : Int32))] [(.int off), (.ref o0)]) := fun t k => by
            refine R29 t ?_
            refine XS.icmpYes X8.here hx rfl (pc0 := 47) (pc' := 54) rfl (hb hby d15_47) rfl (feq hc47_28).2 (by decide) (by decide) ?_
            show Steps p.tables e below (T8.setTop (mkF m 54 #[.val (.ref o0), .val (.ref ar), .val (.int off), .val (.int len), .unset] [])) t
            refine XS.iconst X8.here hx rfl (hb hby d15_54) ?_
            show Steps p.tables e below (T8.setTop (mkF m 55 #[.val (.ref o0), .val (.ref ar), .val (.int off), .val (.int len), .unset] [(.int (0 : Int32))])) t
            refine XS.istore X8.here hx rfl (hb hby d15_55) rfl (l' := #[.val (.ref o0), .val (.ref ar), .val (.int off), .val (.int len), .val (.int (0 : Int32))]) rfl ?_
            show Steps p.tables e below (T8.setTop (mkF m 57 #[.val (.ref o0), .val (.ref ar), .val (.int off), .val (.int len), .val (.int (0 : Int32))] [])) t
            refine XS.aloadN X8.here hx rfl (hb hby d15_57) rfl rfl ?_
            show Steps p.tables e below (T8.setTop (mkF m 58 #[.val (.ref o0), .val (.ref ar), .val (.int off), .val (.int len), .val (.int (0 : Int32))] [(.ref o0)])) t
            refine XS.iload X8.here hx rfl (hb hby d15_58) rfl ?_
            show Steps p.tables e below (T8.setTop (mkF m 60 #[.val (.ref o0), .val (.ref ar), .val (.int off), .val (.int len), .val (.int (0 : Int32))] [(.int (0 : Int32)), (.ref o0)])) t
            refine XS.ifYes X8.here hx rfl (pc0 := 60) (pc' := 69) rfl (hb hby d15_60) rfl ((if0 _ _).trans (teq (by decide : (0 : Int32) = (0 : Int32))).1) (by decide) (by decide) ?_
            show Steps p.tables e below (T8.setTop (mkF m 69 #[.val (.ref o0), .val (.ref ar), .val (.int off), .val (.int len), .val (.int (0 : Int32))] [(.ref o0)])) t
            refine XS.iloadN X8.here hx rfl (hb hby d15_69) rfl ?_
            exact k
          have f37 := (((pf_at.other W1 (Or.inr (slot_ne (Or.inl (hw _ (List.mem_of_getElem? (i := 153) rfl))) (Or.inl (hw _ (List.mem_of_getElem? (i := 147) rfl))) (by decide) (t := .int) (t' := (.array .byte)) (by decide) (by decide)))).other W5 (Or.inr (slot_ne (Or.inl (hw _ (List.mem_of_getElem? (i := 153) rfl))) (Or.inl (hw _ (List.mem_of_getElem? (i := 149) rfl))) (by decide) (t := .int) (t' := .int) (by decide) (by decide)))).other W8 (Or.inr (slot_ne (Or.inl (hw _ (List.mem_of_getElem? (i := 153) rfl))) (Or.inl (hw _ (List.mem_of_getElem? (i := 151) rfl))) (by decide) (t := .int) (t' := .int) (by decide) (by decide))))
          obtain ⟨T39, h39, X39, e39, W39, st39⟩ := putF X8 hx hZ hown (host := "") (Or.inl (hw _ (List.mem_of_getElem? (i := 152) rfl))) Via.refl e8 f37 (((pE.wr W1).wr W5).wr W8) (Or.inl (hw _ (List.mem_of_getElem? (i := 153) rfl))) (hw _ (List.mem_of_getElem? (i := 7) rfl)) (ty := .int) (by decide) rfl rfl (g := (mkF m 70 #[.val (.ref o0), .val (.ref ar), .val (.int off), .val (.int len), .val (.int (0 : Int32))] [(.int off), (.ref o0)])) rfl rfl (hb hby d15_70)
          have Fw39 := f37.same W39
          have K39 : Keep h0 h39 [o0] := K8.wr W39 (Or.inl (List.mem_of_getElem? (i := 0) rfl))
          have N39 := Fr.snoc X39 N8 pg
          have R41 : Rch p e below (s₁.setTop (entryFrame m #[(.ref o0), (.ref ar), (.int off), (.int len)] 5)) T39 (mkF m 75 #[.val (.ref o0), .val (.ref ar), .val (.int off), .val (.int len), .val (.int (0 : Int32))] [(.int (0 : Int32)), (.ref o0)]) := fun t k => by
            refine R38 t ?_
            refine st39 _ ?_
            show Steps p.tables e below (T39.setTop (mkF m 73 #[.val (.ref o0), .val (.ref ar), .val (.int off), .val (.int len), .val (.int (0 : Int32))] [])) t
            refine XS.aloadN X39.here hx rfl (hb hby d15_73) rfl rfl ?_
            show Steps p.tables e below (T39.setTop (mkF m 74 #[.val (.ref o0), .val (.ref ar), .val (.int off), .val (.int len), .val (.int (0 : Int32))] [(.ref o0)])) t
            refine XS.iconst X39.here hx rfl (hb hby d15_74) ?_
            exact k
          have f40 := ((((pf_depth.other W1 (Or.inr (slot_ne (Or.inl (hw _ (List.mem_of_getElem? (i := 155) rfl))) (Or.inl (hw _ (List.mem_of_getElem? (i := 147) rfl))) (by decide) (t := .int) (t' := (.array .byte)) (by decide) (by decide)))).other W5 (Or.inr (slot_ne (Or.inl (hw _ (List.mem_of_getElem? (i := 155) rfl))) (Or.inl (hw _ (List.mem_of_getElem? (i := 149) rfl))) (by decide) (t := .int) (t' := .int) (by decide) (by decide)))).other W8 (Or.inr (slot_ne (Or.inl (hw _ (List.mem_of_getElem? (i := 155) rfl))) (Or.inl (hw _ (List.mem_of_getElem? (i := 151) rfl))) (by decide) (t := .int) (t' := .int) (by decide) (by decide)))).other W39 (Or.inr (slot_ne (Or.inl (hw _ (List.mem_of_getElem? (i := 155) rfl))) (Or.inl (hw _ (List.mem_of_getElem? (i := 153) rfl))) (by decide) (t := .int) (t' := .int) (by decide) (by decide))))
          obtain ⟨T42, h42, X42, e42, W42, st42⟩ := putF X39 hx hZ hown (host := "") (Or.inl (hw _ (List.mem_of_getElem? (i := 154) rfl))) Via.refl e39 f40 ((((pE.wr W1).wr W5).wr W8).wr W39) (Or.inl (hw _ (List.mem_of_getElem? (i := 155) rfl))) (hw _ (List.mem_of_getElem? (i := 7) rfl)) (ty := .int) (by decide) rfl rfl (g := (mkF m 75 #[.val (.ref o0), .val (.ref ar), .val (.int off), .val (.int len), .val (.int (0 : Int32))] [(.int (0 : Int32)), (.ref o0)])) rfl rfl (hb hby d15_75)
          have Fw42 := f40.same W42
          have K42 : Keep h0 h42 [o0] := K39.wr W42 (Or.inl (List.mem_of_getElem? (i := 0) rfl))
          have N42 := Fr.snoc X42 N39 pg
          have R43 : Rch p e below (s₁.setTop (entryFrame m #[(.ref o0), (.ref ar), (.int off), (.int len)] 5)) T42 (mkF m 78 #[.val (.ref o0), .val (.ref ar), .val (.int off), .val (.int len), .val (.int (0 : Int32))] []) := fun t k => by
            refine R41 t ?_
            refine st42 _ ?_
            exact k
          obtain ⟨fs, hr, hrun, hended, hW, hsame⟩ := X42.leave (v := none) (fun _ => rfl)
          refine ⟨_, _, R43 _ ?_, hrun, hended, _, _, rfl, ?_, ⟨_, rfl⟩, hW, hsame.mono (by decide) (by decide)⟩
          · exact X42.returnOut hx Bd.returns (hb hby d15_78) hr
          · show Q_rm_reset Z o0 ar kk nn vs dv off len op ob ub us ue ua ud h0 n0 _ T42.heap _
            rw [e42]
            exact ⟨rfl, N42, K42, (((((pE.wr W1).wr W5).wr W8).wr W39).wr W42), ((((Fw1.other W5 (Or.inr (slot_ne (Or.inl (hw _ (List.mem_of_getElem? (i := 147) rfl))) (Or.inl (hw _ (List.mem_of_getElem? (i := 149) rfl))) (by decide) (t := (.array .byte)) (t' := .int) (by decide) (by decide)))).other W8 (Or.inr (slot_ne (Or.inl (hw _ (List.mem_of_getElem? (i := 147) rfl))) (Or.inl (hw _ (List.mem_of_getElem? (i := 151) rfl))) (by decide) (t := (.array .byte)) (t' := .int) (by decide) (by decide)))).other W39 (Or.inr (slot_ne (Or.inl (hw _ (List.mem_of_getElem? (i := 147) rfl))) (Or.inl (hw _ (List.mem_of_getElem? (i := 153) rfl))) (by decide) (t := (.array .byte)) (t' := .int) (by decide) (by decide)))).other W42 (Or.inr (slot_ne (Or.inl (hw _ (List.mem_of_getElem? (i := 147) rfl))) (Or.inl (hw _ (List.mem_of_getElem? (i := 155) rfl))) (by decide) (t := (.array .byte)) (t' := .int) (by decide) (by decide)))), (((Fw5.other W8 (Or.inr (slot_ne (Or.inl (hw _ (List.mem_of_getElem? (i := 149) rfl))) (Or.inl (hw _ (List.mem_of_getElem? (i := 151) rfl))) (by decide) (t := .int) (t' := .int) (by decide) (by decide)))).other W39 (Or.inr (slot_ne (Or.inl (hw _ (List.mem_of_getElem? (i := 149) rfl))) (Or.inl (hw _ (List.mem_of_getElem? (i := 153) rfl))) (by decide) (t := .int) (t' := .int) (by decide) (by decide)))).other W42 (Or.inr (slot_ne (Or.inl (hw _ (List.mem_of_getElem? (i := 149) rfl))) (Or.inl (hw _ (List.mem_of_getElem? (i := 155) rfl))) (by decide) (t := .int) (t' := .int) (by decide) (by decide)))), ((Fw8.other W39 (Or.inr (slot_ne (Or.inl (hw _ (List.mem_of_getElem? (i := 151) rfl))) (Or.inl (hw _ (List.mem_of_getElem? (i := 153) rfl))) (by decide) (t := .int) (t' := .int) (by decide) (by decide)))).other W42 (Or.inr (slot_ne (Or.inl (hw _ (List.mem_of_getElem? (i := 151) rfl))) (Or.inl (hw _ (List.mem_of_getElem? (i := 155) rfl))) (by decide) (t := .int) (t' := .int) (by decide) (by decide)))), ((by simp [own_first, hc19_9, hc27_20, hc37_24, hc47_28] : own_first vs off len = off).symm ▸ (Fw39.other W42 (Or.inr (slot_ne (Or.inl (hw _ (List.mem_of_getElem? (i := 153) rfl))) (Or.inl (hw _ (List.mem_of_getElem? (i := 155) rfl))) (by decide) (t := .int) (t' := .int) (by decide) (by decide))))), Fw42, (((((pf_opened.other W1 (Or.inr (slot_ne (Or.inl (hw _ (List.mem_of_getElem? (i := 179) rfl))) (Or.inl (hw _ (List.mem_of_getElem? (i := 147) rfl))) (by decide) (t := .boolean) (t' := (.array .byte)) (by decide) (by decide)))).other W5 (Or.inr (slot_ne (Or.inl (hw _ (List.mem_of_getElem? (i := 179) rfl))) (Or.inl (hw _ (List.mem_of_getElem? (i := 149) rfl))) (by decide) (t := .boolean) (t' := .int) (by decide) (by decide)))).other W8 (Or.inr (slot_ne (Or.inl (hw _ (List.mem_of_getElem? (i := 179) rfl))) (Or.inl (hw _ (List.mem_of_getElem? (i := 151) rfl))) (by decide) (t := .boolean) (t' := .int) (by decide) (by decide)))).other W39 (Or.inr (slot_ne (Or.inl (hw _ (List.mem_of_getElem? (i := 179) rfl))) (Or.inl (hw _ (List.mem_of_getElem? (i := 153) rfl))) (by decide) (t := .boolean) (t' := .int) (by decide) (by decide)))).other W42 (Or.inr (slot_ne (Or.inl (hw _ (List.mem_of_getElem? (i := 179) rfl))) (Or.inl (hw _ (List.mem_of_getElem? (i := 155) rfl))) (by decide) (t := .boolean) (t' := .int) (by decide) (by decide)))), (((((pf_objects.other W1 (Or.inr (slot_ne (Or.inr (hw _ (List.mem_of_getElem? (i := 41) rfl))) (Or.inl (hw _ (List.mem_of_getElem? (i := 147) rfl))) (by decide) (t := (.array .boolean)) (t' := (.array .byte)) (by decide) (by decide)))).other W5 (Or.inr (slot_ne (Or.inr (hw _ (List.mem_of_getElem? (i := 41) rfl))) (Or.inl (hw _ (List.mem_of_getElem? (i := 149) rfl))) (by decide) (t := (.array .boolean)) (t' := .int) (by decide) (by decide)))).other W8 (Or.inr (slot_ne (Or.inr (hw _ (List.mem_of_getElem? (i := 41) rfl))) (Or.inl (hw _ (List.mem_of_getElem? (i := 151) rfl))) (by decide) (t := (.array .boolean)) (t' := .int) (by decide) (by decide)))).other W39 (Or.inr (slot_ne (Or.inr (hw _ (List.mem_of_getElem? (i := 41) rfl))) (Or.inl (hw _ (List.mem_of_getElem? (i := 153) rfl))) (by decide) (t := (.array .boolean)) (t' := .int) (by decide) (by decide)))).other W42 (Or.inr (slot_ne (Or.inr (hw _ (List.mem_of_getElem? (i := 41) rfl))) (Or.inl (hw _ (List.mem_of_getElem? (i := 155) rfl))) (by decide) (t := (.array .boolean)) (t' := .int) (by decide) (by decide))))⟩
      · have R45 : Rch p e below (s₁.setTop (entryFrame m #[(.ref o0), (.ref ar), (.int off), (.int len)] 5)) T8 (mkF m 70 #[.val (.ref o0), .val (.ref ar), .val (.int off), .val (.int len), .val (.int (0 : Int32))] [(.int off), (.ref o0)]) := fun t k => by
          refine R25 t ?_
          refine XS.icmpYes X8.here hx rfl (pc0 := 37) (pc' := 54) rfl (hb hby d15_37) rfl (feq hc37_24).2 (by decide) (by decide) ?_
          show Steps p.tables e below (T8.setTop (mkF m 54 #[.val (.ref o0), .val (.ref ar), .val (.int off), .val (.int len), .unset] [])) t
          refine XS.iconst X8.here hx rfl (hb hby d15_54) ?_
          show Steps p.tables e below (T8.setTop (mkF m 55 #[.val (.ref o0), .val (.ref ar), .val (.int off), .val (.int len), .unset] [(.int (0 : Int32))])) t
          refine XS.istore X8.here hx rfl (hb hby d15_55) rfl (l' := #[.val (.ref o0), .val (.ref ar), .val (.int off), .val (.int len), .val (.int (0 : Int32))]) rfl ?_
          show Steps p.tables e below (T8.setTop (mkF m 57 #[.val (.ref o0), .val (.ref ar), .val (.int off), .val (.int len), .val (.int (0 : Int32))] [])) t
          refine XS.aloadN X8.here hx rfl (hb hby d15_57) rfl rfl ?_
          show Steps p.tables e below (T8.setTop (mkF m 58 #[.val (.ref o0), .val (.ref ar), .val (.int off), .val (.int len), .val (.int (0 : Int32))] [(.ref o0)])) t
          refine XS.iload X8.here hx rfl (hb hby d15_58) rfl ?_
          show Steps p.tables e below (T8.setTop (mkF m 60 #[.val (.ref o0), .val (.ref ar), .val (.int off), .val (.int len), .val (.int (0 : Int32))] [(.int (0 : Int32)), (.ref o0)])) t
          refine XS.ifYes X8.here hx rfl (pc0 := 60) (pc' := 69) rfl (hb hby d15_60) rfl ((if0 _ _).trans (teq (by decide : (0 : Int32) = (0 : Int32))).1) (by decide) (by decide) ?_
          show Steps p.tables e below (T8.setTop (mkF m 69 #[.val (.ref o0), .val (.ref ar), .val (.int off), .val (.int len), .val (.int (0 : Int32))] [(.ref o0)])) t
          refine XS.iloadN X8.here hx rfl (hb hby d15_69) rfl ?_
          exact k
        have f44 := (((pf_at.other W1 (Or.inr (slot_ne (Or.inl (hw _ (List.mem_of_getElem? (i := 153) rfl))) (Or.inl (hw _ (List.mem_of_getElem? (i := 147) rfl))) (by decide) (t := .int) (t' := (.array .byte)) (by decide) (by decide)))).other W5 (Or.inr (slot_ne (Or.inl (hw _ (List.mem_of_getElem? (i := 153) rfl))) (Or.inl (hw _ (List.mem_of_getElem? (i := 149) rfl))) (by decide) (t := .int) (t' := .int) (by decide) (by decide)))).other W8 (Or.inr (slot_ne (Or.inl (hw _ (List.mem_of_getElem? (i := 153) rfl))) (Or.inl (hw _ (List.mem_of_getElem? (i := 151) rfl))) (by decide) (t := .int) (t' := .int) (by decide) (by decide))))
        obtain ⟨T46, h46, X46, e46, W46, st46⟩ := putF X8 hx hZ hown (host := "") (Or.inl (hw _ (List.mem_of_getElem? (i := 152) rfl))) Via.refl e8 f44 (((pE.wr W1).wr W5).wr W8) (Or.inl (hw _ (List.mem_of_getElem? (i := 153) rfl))) (hw _ (List.mem_of_getElem? (i := 7) rfl)) (ty := .int) (by decide) rfl rfl (g := (mkF m 70 #[.val (.ref o0), .val (.ref ar), .val (.int off), .val (.int len), .val (.int (0 : Int32))] [(.int off), (.ref o0)])) rfl rfl (hb hby d15_70)
        have Fw46 := f44.same W46
        have K46 : Keep h0 h46 [o0] := K8.wr W46 (Or.inl (List.mem_of_getElem? (i := 0) rfl))
        have N46 := Fr.snoc X46 N8 pg
        have R48 : Rch p e below (s₁.setTop (entryFrame m #[(.ref o0), (.ref ar), (.int off), (.int len)] 5)) T46 (mkF m 75 #[.val (.ref o0), .val (.ref ar), .val (.int off), .val (.int len), .val (.int (0 : Int32))] [(.int (0 : Int32)), (.ref o0)]) := fun t k => by
          refine R45 t ?_
          refine st46 _ ?_
          show Steps p.tables e below (T46.setTop (mkF m 73 #[.val (.ref o0), .val (.ref ar), .val (.int off), .val (.int len), .val (.int (0 : Int32))] [])) t
          refine XS.aloadN X46.here hx rfl (hb hby d15_73) rfl rfl ?_
          show Steps p.tables e below (T46.setTop (mkF m 74 #[.val (.ref o0), .val (.ref ar), .val (.int off), .val (.int len), .val (.int (0 : Int32))] [(.ref o0)])) t
          refine XS.iconst X46.here hx rfl (hb hby d15_74) ?_
          exact k
        have f47 := ((((pf_depth.other W1 (Or.inr (slot_ne (Or.inl (hw _ (List.mem_of_getElem? (i := 155) rfl))) (Or.inl (hw _ (List.mem_of_getElem? (i := 147) rfl))) (by decide) (t := .int) (t' := (.array .byte)) (by decide) (by decide)))).other W5 (Or.inr (slot_ne (Or.inl (hw _ (List.mem_of_getElem? (i := 155) rfl))) (Or.inl (hw _ (List.mem_of_getElem? (i := 149) rfl))) (by decide) (t := .int) (t' := .int) (by decide) (by decide)))).other W8 (Or.inr (slot_ne (Or.inl (hw _ (List.mem_of_getElem? (i := 155) rfl))) (Or.inl (hw _ (List.mem_of_getElem? (i := 151) rfl))) (by decide) (t := .int) (t' := .int) (by decide) (by decide)))).other W46 (Or.inr (slot_ne (Or.inl (hw _ (List.mem_of_getElem? (i := 155) rfl))) (Or.inl (hw _ (List.mem_of_getElem? (i := 153) rfl))) (by decide) (t := .int) (t' := .int) (by decide) (by decide))))
        obtain ⟨T49, h49, X49, e49, W49, st49⟩ := putF X46 hx hZ hown (host := "") (Or.inl (hw _ (List.mem_of_getElem? (i := 154) rfl))) Via.refl e46 f47 ((((pE.wr W1).wr W5).wr W8).wr W46) (Or.inl (hw _ (List.mem_of_getElem? (i := 155) rfl))) (hw _ (List.mem_of_getElem? (i := 7) rfl)) (ty := .int) (by decide) rfl rfl (g := (mkF m 75 #[.val (.ref o0), .val (.ref ar), .val (.int off), .val (.int len), .val (.int (0 : Int32))] [(.int (0 : Int32)), (.ref o0)])) rfl rfl (hb hby d15_75)
        have Fw49 := f47.same W49
        have K49 : Keep h0 h49 [o0] := K46.wr W49 (Or.inl (List.mem_of_getElem? (i := 0) rfl))
        have N49 := Fr.snoc X49 N46 pg
        have R50 : Rch p e below (s₁.setTop (entryFrame m #[(.ref o0), (.ref ar), (.int off), (.int len)] 5)) T49 (mkF m 78 #[.val (.ref o0), .val (.ref ar), .val (.int off), .val (.int len), .val (.int (0 : Int32))] []) := fun t k => by
          refine R48 t ?_
          refine st49 _ ?_
          exact k
        obtain ⟨fs, hr, hrun, hended, hW, hsame⟩ := X49.leave (v := none) (fun _ => rfl)
        refine ⟨_, _, R50 _ ?_, hrun, hended, _, _, rfl, ?_, ⟨_, rfl⟩, hW, hsame.mono (by decide) (by decide)⟩
        · exact X49.returnOut hx Bd.returns (hb hby d15_78) hr
        · show Q_rm_reset Z o0 ar kk nn vs dv off len op ob ub us ue ua ud h0 n0 _ T49.heap _
          rw [e49]
          exact ⟨rfl, N49, K49, (((((pE.wr W1).wr W5).wr W8).wr W46).wr W49), ((((Fw1.other W5 (Or.inr (slot_ne (Or.inl (hw _ (List.mem_of_getElem? (i := 147) rfl))) (Or.inl (hw _ (List.mem_of_getElem? (i := 149) rfl))) (by decide) (t := (.array .byte)) (t' := .int) (by decide) (by decide)))).other W8 (Or.inr (slot_ne (Or.inl (hw _ (List.mem_of_getElem? (i := 147) rfl))) (Or.inl (hw _ (List.mem_of_getElem? (i := 151) rfl))) (by decide) (t := (.array .byte)) (t' := .int) (by decide) (by decide)))).other W46 (Or.inr (slot_ne (Or.inl (hw _ (List.mem_of_getElem? (i := 147) rfl))) (Or.inl (hw _ (List.mem_of_getElem? (i := 153) rfl))) (by decide) (t := (.array .byte)) (t' := .int) (by decide) (by decide)))).other W49 (Or.inr (slot_ne (Or.inl (hw _ (List.mem_of_getElem? (i := 147) rfl))) (Or.inl (hw _ (List.mem_of_getElem? (i := 155) rfl))) (by decide) (t := (.array .byte)) (t' := .int) (by decide) (by decide)))), (((Fw5.other W8 (Or.inr (slot_ne (Or.inl (hw _ (List.mem_of_getElem? (i := 149) rfl))) (Or.inl (hw _ (List.mem_of_getElem? (i := 151) rfl))) (by decide) (t := .int) (t' := .int) (by decide) (by decide)))).other W46 (Or.inr (slot_ne (Or.inl (hw _ (List.mem_of_getElem? (i := 149) rfl))) (Or.inl (hw _ (List.mem_of_getElem? (i := 153) rfl))) (by decide) (t := .int) (t' := .int) (by decide) (by decide)))).other W49 (Or.inr (slot_ne (Or.inl (hw _ (List.mem_of_getElem? (i := 149) rfl))) (Or.inl (hw _ (List.mem_of_getElem? (i := 155) rfl))) (by decide) (t := .int) (t' := .int) (by decide) (by decide)))), ((Fw8.other W46 (Or.inr (slot_ne (Or.inl (hw _ (List.mem_of_getElem? (i := 151) rfl))) (Or.inl (hw _ (List.mem_of_getElem? (i := 153) rfl))) (by decide) (t := .int) (t' := .int) (by decide) (by decide)))).other W49 (Or.inr (slot_ne (Or.inl (hw _ (List.mem_of_getElem? (i := 151) rfl))) (Or.inl (hw _ (List.mem_of_getElem? (i := 155) rfl))) (by decide) (t := .int) (t' := .int) (by decide) (by decide)))), ((by simp [own_first, hc19_9, hc27_20, hc37_24] : own_first vs off len = off).symm ▸ (Fw46.other W49 (Or.inr (slot_ne (Or.inl (hw _ (List.mem_of_getElem? (i := 153) rfl))) (Or.inl (hw _ (List.mem_of_getElem? (i := 155) rfl))) (by decide) (t := .int) (t' := .int) (by decide) (by decide))))), Fw49, (((((pf_opened.other W1 (Or.inr (slot_ne (Or.inl (hw _ (List.mem_of_getElem? (i := 179) rfl))) (Or.inl (hw _ (List.mem_of_getElem? (i := 147) rfl))) (by decide) (t := .boolean) (t' := (.array .byte)) (by decide) (by decide)))).other W5 (Or.inr (slot_ne (Or.inl (hw _ (List.mem_of_getElem? (i := 179) rfl))) (Or.inl (hw _ (List.mem_of_getElem? (i := 149) rfl))) (by decide) (t := .boolean) (t' := .int) (by decide) (by decide)))).other W8 (Or.inr (slot_ne (Or.inl (hw _ (List.mem_of_getElem? (i := 179) rfl))) (Or.inl (hw _ (List.mem_of_getElem? (i := 151) rfl))) (by decide) (t := .boolean) (t' := .int) (by decide) (by decide)))).other W46 (Or.inr (slot_ne (Or.inl (hw _ (List.mem_of_getElem? (i := 179) rfl))) (Or.inl (hw _ (List.mem_of_getElem? (i := 153) rfl))) (by decide) (t := .boolean) (t' := .int) (by decide) (by decide)))).other W49 (Or.inr (slot_ne (Or.inl (hw _ (List.mem_of_getElem? (i := 179) rfl))) (Or.inl (hw _ (List.mem_of_getElem? (i := 155) rfl))) (by decide) (t := .boolean) (t' := .int) (by decide) (by decide)))), (((((pf_objects.other W1 (Or.inr (slot_ne (Or.inr (hw _ (List.mem_of_getElem? (i := 41) rfl))) (Or.inl (hw _ (List.mem_of_getElem? (i := 147) rfl))) (by decide) (t := (.array .boolean)) (t' := (.array .byte)) (by decide) (by decide)))).other W5 (Or.inr (slot_ne (Or.inr (hw _ (List.mem_of_getElem? (i := 41) rfl))) (Or.inl (hw _ (List.mem_of_getElem? (i := 149) rfl))) (by decide) (t := (.array .boolean)) (t' := .int) (by decide) (by decide)))).other W8 (Or.inr (slot_ne (Or.inr (hw _ (List.mem_of_getElem? (i := 41) rfl))) (Or.inl (hw _ (List.mem_of_getElem? (i := 151) rfl))) (by decide) (t := (.array .boolean)) (t' := .int) (by decide) (by decide)))).other W46 (Or.inr (slot_ne (Or.inr (hw _ (List.mem_of_getElem? (i := 41) rfl))) (Or.inl (hw _ (List.mem_of_getElem? (i := 153) rfl))) (by decide) (t := (.array .boolean)) (t' := .int) (by decide) (by decide)))).other W49 (Or.inr (slot_ne (Or.inr (hw _ (List.mem_of_getElem? (i := 41) rfl))) (Or.inl (hw _ (List.mem_of_getElem? (i := 155) rfl))) (by decide) (t := (.array .boolean)) (t' := .int) (by decide) (by decide))))⟩
    · have R52 : Rch p e below (s₁.setTop (entryFrame m #[(.ref o0), (.ref ar), (.int off), (.int len)] 5)) T8 (mkF m 70 #[.val (.ref o0), .val (.ref ar), .val (.int off), .val (.int len), .val (.int (0 : Int32))] [(.int off), (.ref o0)]) := fun t k => by
        refine R21 t ?_
        refine XS.icmpYes X8.here hx rfl (pc0 := 27) (pc' := 54) rfl (hb hby d15_27) rfl (feq hc27_20).2 (by decide) (by decide) ?_
        show Steps p.tables e below (T8.setTop (mkF m 54 #[.val (.ref o0), .val (.ref ar), .val (.int off), .val (.int len), .unset] [])) t
        refine XS.iconst X8.here hx rfl (hb hby d15_54) ?_
        show Steps p.tables e below (T8.setTop (mkF m 55 #[.val (.ref o0), .val (.ref ar), .val (.int off), .val (.int len), .unset] [(.int (0 : Int32))])) t
        refine XS.istore X8.here hx rfl (hb hby d15_55) rfl (l' := #[.val (.ref o0), .val (.ref ar), .val (.int off), .val (.int len), .val (.int (0 : Int32))]) rfl ?_
        show Steps p.tables e below (T8.setTop (mkF m 57 #[.val (.ref o0), .val (.ref ar), .val (.int off), .val (.int len), .val (.int (0 : Int32))] [])) t
        refine XS.aloadN X8.here hx rfl (hb hby d15_57) rfl rfl ?_
        show Steps p.tables e below (T8.setTop (mkF m 58 #[.val (.ref o0), .val (.ref ar), .val (.int off), .val (.int len), .val (.int (0 : Int32))] [(.ref o0)])) t
        refine XS.iload X8.here hx rfl (hb hby d15_58) rfl ?_
        show Steps p.tables e below (T8.setTop (mkF m 60 #[.val (.ref o0), .val (.ref ar), .val (.int off), .val (.int len), .val (.int (0 : Int32))] [(.int (0 : Int32)), (.ref o0)])) t
        refine XS.ifYes X8.here hx rfl (pc0 := 60) (pc' := 69) rfl (hb hby d15_60) rfl ((if0 _ _).trans (teq (by decide : (0 : Int32) = (0 : Int32))).1) (by decide) (by decide) ?_
        show Steps p.tables e below (T8.setTop (mkF m 69 #[.val (.ref o0), .val (.ref ar), .val (.int off), .val (.int len), .val (.int (0 : Int32))] [(.ref o0)])) t
        refine XS.iloadN X8.here hx rfl (hb hby d15_69) rfl ?_
        exact k
      have f51 := (((pf_at.other W1 (Or.inr (slot_ne (Or.inl (hw _ (List.mem_of_getElem? (i := 153) rfl))) (Or.inl (hw _ (List.mem_of_getElem? (i := 147) rfl))) (by decide) (t := .int) (t' := (.array .byte)) (by decide) (by decide)))).other W5 (Or.inr (slot_ne (Or.inl (hw _ (List.mem_of_getElem? (i := 153) rfl))) (Or.inl (hw _ (List.mem_of_getElem? (i := 149) rfl))) (by decide) (t := .int) (t' := .int) (by decide) (by decide)))).other W8 (Or.inr (slot_ne (Or.inl (hw _ (List.mem_of_getElem? (i := 153) rfl))) (Or.inl (hw _ (List.mem_of_getElem? (i := 151) rfl))) (by decide) (t := .int) (t' := .int) (by decide) (by decide))))
      obtain ⟨T53, h53, X53, e53, W53, st53⟩ := putF X8 hx hZ hown (host := "") (Or.inl (hw _ (List.mem_of_getElem? (i := 152) rfl))) Via.refl e8 f51 (((pE.wr W1).wr W5).wr W8) (Or.inl (hw _ (List.mem_of_getElem? (i := 153) rfl))) (hw _ (List.mem_of_getElem? (i := 7) rfl)) (ty := .int) (by decide) rfl rfl (g := (mkF m 70 #[.val (.ref o0), .val (.ref ar), .val (.int off), .val (.int len), .val (.int (0 : Int32))] [(.int off), (.ref o0)])) rfl rfl (hb hby d15_70)
      have Fw53 := f51.same W53
      have K53 : Keep h0 h53 [o0] := K8.wr W53 (Or.inl (List.mem_of_getElem? (i := 0) rfl))
      have N53 := Fr.snoc X53 N8 pg
      have R55 : Rch p e below (s₁.setTop (entryFrame m #[(.ref o0), (.ref ar), (.int off), (.int len)] 5)) T53 (mkF m 75 #[.val (.ref o0), .val (.ref ar), .val (.int off), .val (.int len), .val (.int (0 : Int32))] [(.int (0 : Int32)), (.ref o0)]) := fun t k => by
        refine R52 t ?_
        refine st53 _ ?_
        show Steps p.tables e below (T53.setTop (mkF m 73 #[.val (.ref o0), .val (.ref ar), .val (.int off), .val (.int len), .val (.int (0 : Int32))] [])) t
        refine XS.aloadN X53.here hx rfl (hb hby d15_73) rfl rfl ?_
        show Steps p.tables e below (T53.setTop (mkF m 74 #[.val (.ref o0), .val (.ref ar), .val (.int off), .val (.int len), .val (.int (0 : Int32))] [(.ref o0)])) t
        refine XS.iconst X53.here hx rfl (hb hby d15_74) ?_
        exact k
      have f54 := ((((pf_depth.other W1 (Or.inr (slot_ne (Or.inl (hw _ (List.mem_of_getElem? (i := 155) rfl))) (Or.inl (hw _ (List.mem_of_getElem? (i := 147) rfl))) (by decide) (t := .int) (t' := (.array .byte)) (by decide) (by decide)))).other W5 (Or.inr (slot_ne (Or.inl (hw _ (List.mem_of_getElem? (i := 155) rfl))) (Or.inl (hw _ (List.mem_of_getElem? (i := 149) rfl))) (by decide) (t := .int) (t' := .int) (by decide) (by decide)))).other W8 (Or.inr (slot_ne (Or.inl (hw _ (List.mem_of_getElem? (i := 155) rfl))) (Or.inl (hw _ (List.mem_of_getElem? (i := 151) rfl))) (by decide) (t := .int) (t' := .int) (by decide) (by decide)))).other W53 (Or.inr (slot_ne (Or.inl (hw _ (List.mem_of_getElem? (i := 155) rfl))) (Or.inl (hw _ (List.mem_of_getElem? (i := 153) rfl))) (by decide) (t := .int) (t' := .int) (by decide) (by decide))))
      obtain ⟨T56, h56, X56, e56, W56, st56⟩ := putF X53 hx hZ hown (host := "") (Or.inl (hw _ (List.mem_of_getElem? (i := 154) rfl))) Via.refl e53 f54 ((((pE.wr W1).wr W5).wr W8).wr W53) (Or.inl (hw _ (List.mem_of_getElem? (i := 155) rfl))) (hw _ (List.mem_of_getElem? (i := 7) rfl)) (ty := .int) (by decide) rfl rfl (g := (mkF m 75 #[.val (.ref o0), .val (.ref ar), .val (.int off), .val (.int len), .val (.int (0 : Int32))] [(.int (0 : Int32)), (.ref o0)])) rfl rfl (hb hby d15_75)
      have Fw56 := f54.same W56
      have K56 : Keep h0 h56 [o0] := K53.wr W56 (Or.inl (List.mem_of_getElem? (i := 0) rfl))
      have N56 := Fr.snoc X56 N53 pg
      have R57 : Rch p e below (s₁.setTop (entryFrame m #[(.ref o0), (.ref ar), (.int off), (.int len)] 5)) T56 (mkF m 78 #[.val (.ref o0), .val (.ref ar), .val (.int off), .val (.int len), .val (.int (0 : Int32))] []) := fun t k => by
        refine R55 t ?_
        refine st56 _ ?_
        exact k
      obtain ⟨fs, hr, hrun, hended, hW, hsame⟩ := X56.leave (v := none) (fun _ => rfl)
      refine ⟨_, _, R57 _ ?_, hrun, hended, _, _, rfl, ?_, ⟨_, rfl⟩, hW, hsame.mono (by decide) (by decide)⟩
      · exact X56.returnOut hx Bd.returns (hb hby d15_78) hr
      · show Q_rm_reset Z o0 ar kk nn vs dv off len op ob ub us ue ua ud h0 n0 _ T56.heap _
        rw [e56]
        exact ⟨rfl, N56, K56, (((((pE.wr W1).wr W5).wr W8).wr W53).wr W56), ((((Fw1.other W5 (Or.inr (slot_ne (Or.inl (hw _ (List.mem_of_getElem? (i := 147) rfl))) (Or.inl (hw _ (List.mem_of_getElem? (i := 149) rfl))) (by decide) (t := (.array .byte)) (t' := .int) (by decide) (by decide)))).other W8 (Or.inr (slot_ne (Or.inl (hw _ (List.mem_of_getElem? (i := 147) rfl))) (Or.inl (hw _ (List.mem_of_getElem? (i := 151) rfl))) (by decide) (t := (.array .byte)) (t' := .int) (by decide) (by decide)))).other W53 (Or.inr (slot_ne (Or.inl (hw _ (List.mem_of_getElem? (i := 147) rfl))) (Or.inl (hw _ (List.mem_of_getElem? (i := 153) rfl))) (by decide) (t := (.array .byte)) (t' := .int) (by decide) (by decide)))).other W56 (Or.inr (slot_ne (Or.inl (hw _ (List.mem_of_getElem? (i := 147) rfl))) (Or.inl (hw _ (List.mem_of_getElem? (i := 155) rfl))) (by decide) (t := (.array .byte)) (t' := .int) (by decide) (by decide)))), (((Fw5.other W8 (Or.inr (slot_ne (Or.inl (hw _ (List.mem_of_getElem? (i := 149) rfl))) (Or.inl (hw _ (List.mem_of_getElem? (i := 151) rfl))) (by decide) (t := .int) (t' := .int) (by decide) (by decide)))).other W53 (Or.inr (slot_ne (Or.inl (hw _ (List.mem_of_getElem? (i := 149) rfl))) (Or.inl (hw _ (List.mem_of_getElem? (i := 153) rfl))) (by decide) (t := .int) (t' := .int) (by decide) (by decide)))).other W56 (Or.inr (slot_ne (Or.inl (hw _ (List.mem_of_getElem? (i := 149) rfl))) (Or.inl (hw _ (List.mem_of_getElem? (i := 155) rfl))) (by decide) (t := .int) (t' := .int) (by decide) (by decide)))), ((Fw8.other W53 (Or.inr (slot_ne (Or.inl (hw _ (List.mem_of_getElem? (i := 151) rfl))) (Or.inl (hw _ (List.mem_of_getElem? (i := 153) rfl))) (by decide) (t := .int) (t' := .int) (by decide) (by decide)))).other W56 (Or.inr (slot_ne (Or.inl (hw _ (List.mem_of_getElem? (i := 151) rfl))) (Or.inl (hw _ (List.mem_of_getElem? (i := 155) rfl))) (by decide) (t := .int) (t' := .int) (by decide) (by decide)))), ((by simp [own_first, hc19_9, hc27_20] : own_first vs off len = off).symm ▸ (Fw53.other W56 (Or.inr (slot_ne (Or.inl (hw _ (List.mem_of_getElem? (i := 153) rfl))) (Or.inl (hw _ (List.mem_of_getElem? (i := 155) rfl))) (by decide) (t := .int) (t' := .int) (by decide) (by decide))))), Fw56, (((((pf_opened.other W1 (Or.inr (slot_ne (Or.inl (hw _ (List.mem_of_getElem? (i := 179) rfl))) (Or.inl (hw _ (List.mem_of_getElem? (i := 147) rfl))) (by decide) (t := .boolean) (t' := (.array .byte)) (by decide) (by decide)))).other W5 (Or.inr (slot_ne (Or.inl (hw _ (List.mem_of_getElem? (i := 179) rfl))) (Or.inl (hw _ (List.mem_of_getElem? (i := 149) rfl))) (by decide) (t := .boolean) (t' := .int) (by decide) (by decide)))).other W8 (Or.inr (slot_ne (Or.inl (hw _ (List.mem_of_getElem? (i := 179) rfl))) (Or.inl (hw _ (List.mem_of_getElem? (i := 151) rfl))) (by decide) (t := .boolean) (t' := .int) (by decide) (by decide)))).other W53 (Or.inr (slot_ne (Or.inl (hw _ (List.mem_of_getElem? (i := 179) rfl))) (Or.inl (hw _ (List.mem_of_getElem? (i := 153) rfl))) (by decide) (t := .boolean) (t' := .int) (by decide) (by decide)))).other W56 (Or.inr (slot_ne (Or.inl (hw _ (List.mem_of_getElem? (i := 179) rfl))) (Or.inl (hw _ (List.mem_of_getElem? (i := 155) rfl))) (by decide) (t := .boolean) (t' := .int) (by decide) (by decide)))), (((((pf_objects.other W1 (Or.inr (slot_ne (Or.inr (hw _ (List.mem_of_getElem? (i := 41) rfl))) (Or.inl (hw _ (List.mem_of_getElem? (i := 147) rfl))) (by decide) (t := (.array .boolean)) (t' := (.array .byte)) (by decide) (by decide)))).other W5 (Or.inr (slot_ne (Or.inr (hw _ (List.mem_of_getElem? (i := 41) rfl))) (Or.inl (hw _ (List.mem_of_getElem? (i := 149) rfl))) (by decide) (t := (.array .boolean)) (t' := .int) (by decide) (by decide)))).other W8 (Or.inr (slot_ne (Or.inr (hw _ (List.mem_of_getElem? (i := 41) rfl))) (Or.inl (hw _ (List.mem_of_getElem? (i := 151) rfl))) (by decide) (t := (.array .boolean)) (t' := .int) (by decide) (by decide)))).other W53 (Or.inr (slot_ne (Or.inr (hw _ (List.mem_of_getElem? (i := 41) rfl))) (Or.inl (hw _ (List.mem_of_getElem? (i := 153) rfl))) (by decide) (t := (.array .boolean)) (t' := .int) (by decide) (by decide)))).other W56 (Or.inr (slot_ne (Or.inr (hw _ (List.mem_of_getElem? (i := 41) rfl))) (Or.inl (hw _ (List.mem_of_getElem? (i := 155) rfl))) (by decide) (t := (.array .boolean)) (t' := .int) (by decide) (by decide))))⟩
theorem d17_0 : decode prog_45_method_8_code 0 = .ok (.aload_n 0, 1) := by decide +kernel
theorem d17_1 : decode prog_45_method_8_code 1 = .ok (.invokevirtual 114, 3) := by decide +kernel
theorem d17_4 : decode prog_45_method_8_code 4 = .ok (.istore_n 1, 1) := by decide +kernel
theorem d17_5 : decode prog_45_method_8_code 5 = .ok (.iload_n 1, 1) := by decide +kernel
theorem d17_6 : decode prog_45_method_8_code 6 = .ok (.aload_n 0, 1) := by decide +kernel
theorem d17_7 : decode prog_45_method_8_code 7 = .ok (.getfield 98, 3) := by decide +kernel
theorem d17_10 : decode prog_45_method_8_code 10 = .ok (.if_icmp .ne 12, 3) := by decide +kernel
theorem d17_22 : decode prog_45_method_8_code 22 = .ok (.aload_n 0, 1) := by decide +kernel
theorem d17_23 : decode prog_45_method_8_code 23 = .ok (.getfield 92, 3) := by decide +kernel
theorem d17_26 : decode prog_45_method_8_code 26 = .ok (.iload_n 1, 1) := by decide +kernel
theorem d17_27 : decode prog_45_method_8_code 27 = .ok (.baload, 1) := by decide +kernel
theorem d17_28 : decode prog_45_method_8_code 28 = .ok (.istore_n 2, 1) := by decide +kernel
theorem d17_29 : decode prog_45_method_8_code 29 = .ok (.iload_n 2, 1) := by decide +kernel
theorem d17_30 : decode prog_45_method_8_code 30 = .ok (.bipush 123, 2) := by decide +kernel
theorem d17_32 : decode prog_45_method_8_code 32 = .ok (.if_icmp .eq 9, 3) := by decide +kernel
theorem d17_35 : decode prog_45_method_8_code 35 = .ok (.iload_n 2, 1) := by decide +kernel
theorem d17_36 : decode prog_45_method_8_code 36 = .ok (.bipush 91, 2) := by decide +kernel
theorem d17_38 : decode prog_45_method_8_code 38 = .ok (.if_icmp .ne 81, 3) := by decide +kernel
theorem d17_41 : decode prog_45_method_8_code 41 = .ok (.aload_n 0, 1) := by decide +kernel
theorem d17_42 : decode prog_45_method_8_code 42 = .ok (.getfield 104, 3) := by decide +kernel
theorem d17_45 : decode prog_45_method_8_code 45 = .ok (.sipush 1000, 3) := by decide +kernel
theorem d17_48 : decode prog_45_method_8_code 48 = .ok (.if_icmp .ne 12, 3) := by decide +kernel
theorem d17_60 : decode prog_45_method_8_code 60 = .ok (.iload_n 2, 1) := by decide +kernel
theorem d17_61 : decode prog_45_method_8_code 61 = .ok (.bipush 123, 2) := by decide +kernel
theorem d17_63 : decode prog_45_method_8_code 63 = .ok (.if_icmp .ne 9, 3) := by decide +kernel
theorem d17_72 : decode prog_45_method_8_code 72 = .ok (.getstatic 162, 3) := by decide +kernel
theorem d17_75 : decode prog_45_method_8_code 75 = .ok (.astore_n 3, 1) := by decide +kernel
theorem d17_76 : decode prog_45_method_8_code 76 = .ok (.aload_n 0, 1) := by decide +kernel
theorem d17_77 : decode prog_45_method_8_code 77 = .ok (.getfield 18, 3) := by decide +kernel
theorem d17_80 : decode prog_45_method_8_code 80 = .ok (.aload_n 0, 1) := by decide +kernel
theorem d17_81 : decode prog_45_method_8_code 81 = .ok (.dup, 1) := by decide +kernel
theorem d17_82 : decode prog_45_method_8_code 82 = .ok (.getfield 104, 3) := by decide +kernel
theorem d17_85 : decode prog_45_method_8_code 85 = .ok (.iconst 1, 1) := by decide +kernel
theorem d17_86 : decode prog_45_method_8_code 86 = .ok (.iadd, 1) := by decide +kernel
theorem d17_87 : decode prog_45_method_8_code 87 = .ok (.dup_x1, 1) := by decide +kernel
theorem d17_88 : decode prog_45_method_8_code 88 = .ok (.putfield 104, 3) := by decide +kernel
theorem d17_91 : decode prog_45_method_8_code 91 = .ok (.aload_n 3, 1) := by decide +kernel
theorem d17_92 : decode prog_45_method_8_code 92 = .ok (.getstatic 159, 3) := by decide +kernel
theorem d17_95 : decode prog_45_method_8_code 95 = .ok (.if_acmp .ne 7, 3) := by decide +kernel
theorem d17_102 : decode prog_45_method_8_code 102 = .ok (.iconst 0, 1) := by decide +kernel
theorem d17_103 : decode prog_45_method_8_code 103 = .ok (.bastore, 1) := by decide +kernel
theorem d17_104 : decode prog_45_method_8_code 104 = .ok (.aload_n 0, 1) := by decide +kernel
theorem d17_105 : decode prog_45_method_8_code 105 = .ok (.iconst 1, 1) := by decide +kernel
theorem d17_106 : decode prog_45_method_8_code 106 = .ok (.putfield 165, 3) := by decide +kernel
theorem d17_109 : decode prog_45_method_8_code 109 = .ok (.aload_n 0, 1) := by decide +kernel
theorem d17_110 : decode prog_45_method_8_code 110 = .ok (.iload_n 1, 1) := by decide +kernel
theorem d17_111 : decode prog_45_method_8_code 111 = .ok (.iconst 1, 1) := by decide +kernel
theorem d17_112 : decode prog_45_method_8_code 112 = .ok (.iadd, 1) := by decide +kernel
theorem d17_113 : decode prog_45_method_8_code 113 = .ok (.putfield 101, 3) := by decide +kernel
theorem d17_116 : decode prog_45_method_8_code 116 = .ok (.goto 140, 3) := by decide +kernel
theorem d17_256 : decode prog_45_method_8_code 256 = .ok (.aload_n 3, 1) := by decide +kernel
theorem d17_257 : decode prog_45_method_8_code 257 = .ok (.areturn, 1) := by decide +kernel
theorem ef_rm_vas (m : MethodId) (x0 : Addr) : entryFrame m #[(.ref x0)] 4 = mkF m 0 #[.val (.ref x0), .unset, .unset, .unset] [] := by first | (simp [entryFrame, mkF, argsToLocals, Value.category]; done) | rfl
def Q_rm_vas (Z : State) (o0 : Addr) (ar : Addr) (kk : ClassId) (op : Int32) (ob : Addr) (kb : ClassId) (li : Addr) (ox : Addr) (ut : Value) (h0 : Heap) (n0 : Nat) (v : Option Value) (h : Heap) (L : List Loc) : Prop := (v = some (.ref li)) ∧ (Fr n0 L) ∧ (Keep h0 h [o0, ob]) ∧ (Exa Z h o0 "com/example/vestwork/vestwork/io/JsonScanner") ∧ (Fld Z h o0 "com/example/vestwork/vestwork/io/JsonScanner" "bytes" "[B" (.ref ar)) ∧ (Fld Z h o0 "com/example/vestwork/vestwork/io/JsonScanner" "end" "I" (.int (1 : Int32))) ∧ (Fld Z h o0 "com/example/vestwork/vestwork/io/JsonScanner" "at" "I" (.int (1 : Int32))) ∧ (Fld Z h o0 "com/example/vestwork/vestwork/io/JsonScanner" "depth" "I" (.int (1 : Int32))) ∧ (Fld Z h o0 "com/example/vestwork/vestwork/io/JsonScanner" "opened" "Z" (.int (1 : Int32))) ∧ (Fld Z h o0 "com/example/vestwork/vestwork/io/JsonScanner" "objects" "[Z" (.ref ob)) ∧ (Fld Z h o0 "com/example/vestwork/vestwork/io/JsonScanner" "start" "I" ut)
set_option maxRecDepth 65536 in
set_option maxHeartbeats 40000000 in
theorem rm_vas (l : Launch) (Z : State) (a0 : Array Value) (hw : ∀ d ∈ tables_1, d.before a0 Z = true) (ws : List Jvm.Cond) (o0 : Addr) (ar : Addr) (kk : ClassId) (op : Int32) (ob : Addr) (kb : ClassId) (li : Addr) (ox : Addr) (ut : Value) (h0 : Heap) (n0 : Nat) (Z0 : n0 ≤ h0.size) (pE : Exa Z h0 o0 "com/example/vestwork/vestwork/io/JsonScanner") (pg : n0 ≤ o0) (pna : ar ≠ o0) (pf_bytes : Fld Z h0 o0 "com/example/vestwork/vestwork/io/JsonScanner" "bytes" "[B" (.ref ar)) (pf_end : Fld Z h0 o0 "com/example/vestwork/vestwork/io/JsonScanner" "end" "I" (.int (1 : Int32))) (pf_at : Fld Z h0 o0 "com/example/vestwork/vestwork/io/JsonScanner" "at" "I" (.int (0 : Int32))) (pf_depth : Fld Z h0 o0 "com/example/vestwork/vestwork/io/JsonScanner" "depth" "I" (.int (0 : Int32))) (pf_opened : Fld Z h0 o0 "com/example/vestwork/vestwork/io/JsonScanner" "opened" "Z" (.int op)) (pf_objects : Fld Z h0 o0 "com/example/vestwork/vestwork/io/JsonScanner" "objects" "[Z" (.ref ob)) (pf_start : Fld Z h0 o0 "com/example/vestwork/vestwork/io/JsonScanner" "start" "I" ut) (pV : Arv Z h0 ar kk .byte (1 : Int32) [(.int (91 : Int32))] (.int (0 : Int32))) (pB : Arv Z h0 ob kb .boolean (1001 : Int32) [] (.int (0 : Int32))) (pgb : n0 ≤ ob) (pnb : ob ≠ o0) (pnab : ar ≠ ob) (pLI : Sta Z h0 "com/example/vestwork/vestwork/io/JsonScanner$Kind" "LIST" "Lcom/example/vestwork/vestwork/io/JsonScanner$Kind;" (.ref li)) (pOX : Sta Z h0 "com/example/vestwork/vestwork/io/JsonScanner$Kind" "OBJECT" "Lcom/example/vestwork/vestwork/io/JsonScanner$Kind;" (.ref ox)) (plo : li ≠ ox) :
    MetFree l (⟨"com/example/vestwork/vestwork/io/JsonScanner", "valueAfterSpace", "()Lcom/example/vestwork/vestwork/io/JsonScanner$Kind;"⟩ : MethodName) (head1 (Jvm.Cond.code (⟨"com/example/vestwork/vestwork/io/JsonScanner", "valueAfterSpace", "()Lcom/example/vestwork/vestwork/io/JsonScanner$Kind;"⟩ : MethodName) prog_45_method_8_code 4 (some (.object "com/example/vestwork/vestwork/io/JsonScanner$Kind")) :: ws) ({ frames := 2, cells := 0, slots := 0, locals := 27 } : Room)) (fun a U => a = #[(.ref o0)] ∧ Z.Warmed39 U.vm ∧ U.heap = h0) (fun _ _ _ _ _ => True) (fun _ U o U' => ∃ v L, o = .returned v ∧ Q_rm_vas Z o0 ar kk op ob kb li ox ut h0 n0 v U'.heap L ∧ FrameEnd U o U' L ({ frames := 2, cells := 0, slots := 0, locals := 27 } : Room).cells ({ frames := 2, cells := 0, slots := 0, locals := 27 } : Room).slots) := by
  refine MetFree.of_bodySF (plainFor_of_name pn_8) hisR ?_
  intro p e s m args below meth c s₁ Bd hml0 hP hK
  obtain ⟨rfl, hZ, hh⟩ := hP
  have hx := Bd.exec
  have hby := Bd.bytes
  have hml : c.maxLocals = 4 := hml0
  have hown : s.vm.findClass "com/example/vestwork/vestwork/io/JsonScanner" = some m.cls := findClass_of_methodNamed Bd.named
  have hnm := (name_of_methodNamed Bd.named Bd.method).1
  have X0 : Stand p l e ({ frames := 2, cells := 0, slots := 0, locals := 27 } : Room) s m #[(.ref o0)] below meth c s₁ [] 0 0 := Stand.of_body Bd
  have e0 : s₁.heap = h0 := by rw [← hh, Bd.state]; rfl
  have N0 := Fr.nil n0
  have K0 : Keep h0 h0 [o0, ob] := Keep.refl _ _
  have R0 : Rch p e below (s₁.setTop (entryFrame m #[(.ref o0)] 4)) s₁ (mkF m 0 #[.val (.ref o0), .unset, .unset, .unset] []) := fun t k => castTop (ef_rm_vas m o0) k
  have R2 : Rch p e below (s₁.setTop (entryFrame m #[(.ref o0)] 4)) s₁ (mkF m 1 #[.val (.ref o0), .unset, .unset, .unset] [(.ref o0)]) := fun t k => by
    refine R0 t ?_
    refine XS.aloadN X0.here hx rfl (hb hby d17_0) rfl rfl ?_
    exact k
  obtain ⟨cq1, q1, q1'⟩ := pE.cell
  obtain ⟨_, _, ⟨T1, L1, k1, n1⟩, -, X1, ⟨Lc1, hQ1, l1, y1, z1⟩, st1⟩ := X0.privateBack hx (y := (⟨"com/example/vestwork/vestwork/io/JsonScanner", "space", "()I"⟩ : MethodName)) hown (mvT hZ (hw _ (List.mem_of_getElem? (i := 165) rfl))) (mvT hZ (hw _ (List.mem_of_getElem? (i := 166) rfl))) (own_selp hZ (hw _ (List.mem_of_getElem? (i := 7) rfl)) (hw _ (List.mem_of_getElem? (i := 167) rfl)) (hw _ (List.mem_of_getElem? (i := 166) rfl)) (by decide)) (Cond.privateMethod_at (mvP hZ (hw _ (List.mem_of_getElem? (i := 167) rfl)) (args := #[]))) (mvT hZ (hw _ (List.mem_of_getElem? (i := 168) rfl))) (by decide) (backOf (W := 0) (rm_space l Z a0 hw [] o0 ar kk (1 : Int32) [(.int (91 : Int32))] (.int (0 : Int32)) (1 : Int32) (0 : Int32) (0 : Int32) op ob ut h0 n0 (Nat.le_trans Z0 K0.1) pE pg pna pf_bytes pf_end pf_at pf_depth pf_opened pf_objects pf_start pV (fun _ => ⟨own_rd1, own_nsp1⟩)) hZ (hw _ (List.mem_of_getElem? (i := 168) rfl)) (hw _ (List.mem_of_getElem? (i := 8) rfl)) (by decide) (by decide)) (g := (mkF m 1 #[.val (.ref o0), .unset, .unset, .unset] [(.ref o0)])) rfl (by rw [hml]; rfl) (Steps.refl _) (a := o0) (by rw [e0]; exact q1) q1' (argsL := []) (rest := []) (lenOf pd_7 rfl) rfl (by show 2 * 0 + _ ≤ _; exact Nat.le_of_eq rfl) (hb hby d17_1) (fun _ _ => ⟨rfl, e0, (by decide : 0 + 0 ≤ _), (by decide : 0 + 0 ≤ _)⟩)
  dsimp only [Pt.U, Pt.locs, Pt.cells, Pt.slots] at X1 l1 y1 z1 st1 hQ1
  subst l1 y1 z1
  obtain ⟨rfl, N1q, Kc1, c1_E, c1_f_bytes, c1_f_end, c1_f_at, c1_f_depth, c1_f_opened, c1_f_objects, c1_f_start⟩ := hQ1
  have N1 := Fr.app N0 N1q
  have K1 : Keep h0 T1.heap [o0, ob] := K0.trans Kc1 (allS (Or.inl (List.mem_of_getElem? (i := 0) rfl)) all0)
  have R4 : Rch p e below (s₁.setTop (entryFrame m #[(.ref o0)] 4)) T1 (mkF m 7 #[.val (.ref o0), .val (.int (0 : Int32)), .unset, .unset] [(.ref o0), (.int (0 : Int32))]) := fun t k => by
    refine R2 t ?_
    refine st1.trans ?_
    show Steps p.tables e below (T1.setTop (mkF m 4 #[.val (.ref o0), .unset, .unset, .unset] [(.int (0 : Int32))])) t
    refine XS.istoreN X1.here hx rfl (hb hby d17_4) rfl (l' := #[.val (.ref o0), .val (.int (0 : Int32)), .unset, .unset]) rfl ?_
    show Steps p.tables e below (T1.setTop (mkF m 5 #[.val (.ref o0), .val (.int (0 : Int32)), .unset, .unset] [])) t
    refine XS.iloadN X1.here hx rfl (hb hby d17_5) rfl ?_
    show Steps p.tables e below (T1.setTop (mkF m 6 #[.val (.ref o0), .val (.int (0 : Int32)), .unset, .unset] [(.int (0 : Int32))])) t
    refine XS.aloadN X1.here hx rfl (hb hby d17_6) rfl rfl ?_
    exact k
  obtain ⟨T3, X3, e3, st3⟩ := getF X1 hx hZ hown (host := "") (Or.inl (hw _ (List.mem_of_getElem? (i := 150) rfl))) Via.refl rfl c1_f_end (g := (mkF m 7 #[.val (.ref o0), .val (.int (0 : Int32)), .unset, .unset] [(.ref o0), (.int (0 : Int32))])) rfl rfl (hb hby d17_7)
  have R6 : Rch p e below (s₁.setTop (entryFrame m #[(.ref o0)] 4)) T3 (mkF m 23 #[.val (.ref o0), .val (.int (0 : Int32)), .unset, .unset] [(.ref o0)]) := fun t k => by
    refine R4 t ?_
    refine st3 _ ?_
    show Steps p.tables e below (T3.setTop (mkF m 10 #[.val (.ref o0), .val (.int (0 : Int32)), .unset, .unset] [(.int (1 : Int32)), (.int (0 : Int32))])) t
    refine XS.icmpYes X3.here hx rfl (pc0 := 10) (pc' := 22) rfl (hb hby d17_10) rfl (feq (by decide : ¬ ((0 : Int32) = (1 : Int32)))).2 (by decide) (by decide) ?_
    show Steps p.tables e below (T3.setTop (mkF m 22 #[.val (.ref o0), .val (.int (0 : Int32)), .unset, .unset] [])) t
    refine XS.aloadN X3.here hx rfl (hb hby d17_22) rfl rfl ?_
    exact k
  obtain ⟨T5, X5, e5, st5⟩ := getF X3 hx hZ hown (host := "") (Or.inl (hw _ (List.mem_of_getElem? (i := 146) rfl))) Via.refl e3 c1_f_bytes (g := (mkF m 23 #[.val (.ref o0), .val (.int (0 : Int32)), .unset, .unset] [(.ref o0)])) rfl rfl (hb hby d17_23)
  have R8 : Rch p e below (s₁.setTop (entryFrame m #[(.ref o0)] 4)) T5 (mkF m 27 #[.val (.ref o0), .val (.int (0 : Int32)), .unset, .unset] [(.int (0 : Int32)), (.ref ar)]) := fun t k => by
    refine R6 t ?_
    refine st5 _ ?_
    show Steps p.tables e below (T5.setTop (mkF m 26 #[.val (.ref o0), .val (.int (0 : Int32)), .unset, .unset] [(.ref ar)])) t
    refine XS.iloadN X5.here hx rfl (hb hby d17_26) rfl ?_
    exact k
  obtain ⟨cl7, Ar7, q7, Sz7, N7_, Hs7, G7⟩ := id (pV.keep Kc1 (ninS pna nin0))
  have hin7 : ¬ ((0 : Int32) < 0 ∨ cl7.slots.size ≤ ((0 : Int32)).toNatClampNeg) := inb_of Sz7 ⟨by decide, by decide⟩
  have hat7 : cl7.slots[((0 : Int32)).toNatClampNeg]? = some (.int (91 : Int32)) := Hs7.at hin7 rfl
  have R10 : Rch p e below (s₁.setTop (entryFrame m #[(.ref o0)] 4)) T5 (mkF m 42 #[.val (.ref o0), .val (.int (0 : Int32)), .val (.int (91 : Int32)), .unset] [(.ref o0)]) := fun t k => by
    refine R8 t ?_
    refine X5.baloadBytes hx (j := (0 : Int32)) (v := (.int (91 : Int32))) (by rw [e5]; exact Ar7.1) (State.isArrayOf_alike hZ.alike Ar7.2.1) Ar7.2.2 hin7 hat7 (g := (mkF m 27 #[.val (.ref o0), .val (.int (0 : Int32)), .unset, .unset] [(.int (0 : Int32)), (.ref ar)])) rfl rfl (hb hby d17_27) _ ?_
    show Steps p.tables e below (T5.setTop (mkF m 28 #[.val (.ref o0), .val (.int (0 : Int32)), .unset, .unset] [(.int (91 : Int32))])) t
    refine XS.istoreN X5.here hx rfl (hb hby d17_28) rfl (l' := #[.val (.ref o0), .val (.int (0 : Int32)), .val (.int (91 : Int32)), .unset]) rfl ?_
    show Steps p.tables e below (T5.setTop (mkF m 29 #[.val (.ref o0), .val (.int (0 : Int32)), .val (.int (91 : Int32)), .unset] [])) t
    refine XS.iloadN X5.here hx rfl (hb hby d17_29) rfl ?_
    show Steps p.tables e below (T5.setTop (mkF m 30 #[.val (.ref o0), .val (.int (0 : Int32)), .val (.int (91 : Int32)), .unset] [(.int (91 : Int32))])) t
    refine XS.bipush X5.here hx rfl (hb hby d17_30) ?_
    show Steps p.tables e below (T5.setTop (mkF m 32 #[.val (.ref o0), .val (.int (0 : Int32)), .val (.int (91 : Int32)), .unset] [(.int (123 : Int32)), (.int (91 : Int32))])) t
    refine XS.icmpNo X5.here hx rfl (hb hby d17_32) rfl (feq (by decide : ¬ ((91 : Int32) = (123 : Int32)))).1 ?_
    show Steps p.tables e below (T5.setTop (mkF m 35 #[.val (.ref o0), .val (.int (0 : Int32)), .val (.int (91 : Int32)), .unset] [])) t
    refine XS.iloadN X5.here hx rfl (hb hby d17_35) rfl ?_
    show Steps p.tables e below (T5.setTop (mkF m 36 #[.val (.ref o0), .val (.int (0 : Int32)), .val (.int (91 : Int32)), .unset] [(.int (91 : Int32))])) t
    refine XS.bipush X5.here hx rfl (hb hby d17_36) ?_
    show Steps p.tables e below (T5.setTop (mkF m 38 #[.val (.ref o0), .val (.int (0 : Int32)), .val (.int (91 : Int32)), .unset] [(.int (91 : Int32)), (.int (91 : Int32))])) t
    refine XS.icmpNo X5.here hx rfl (hb hby d17_38) rfl (teq (by decide : (91 : Int32) = (91 : Int32))).2 ?_
    show Steps p.tables e below (T5.setTop (mkF m 41 #[.val (.ref o0), .val (.int (0 : Int32)), .val (.int (91 : Int32)), .unset] [])) t
    refine XS.aloadN X5.here hx rfl (hb hby d17_41) rfl rfl ?_
    exact k
  obtain ⟨T9, X9, e9, st9⟩ := getF X5 hx hZ hown (host := "") (Or.inl (hw _ (List.mem_of_getElem? (i := 154) rfl))) Via.refl e5 c1_f_depth (g := (mkF m 42 #[.val (.ref o0), .val (.int (0 : Int32)), .val (.int (91 : Int32)), .unset] [(.ref o0)])) rfl rfl (hb hby d17_42)
  have R12 : Rch p e below (s₁.setTop (entryFrame m #[(.ref o0)] 4)) T9 (mkF m 72 #[.val (.ref o0), .val (.int (0 : Int32)), .val (.int (91 : Int32)), .unset] []) := fun t k => by
    refine R10 t ?_
    refine st9 _ ?_
    show Steps p.tables e below (T9.setTop (mkF m 45 #[.val (.ref o0), .val (.int (0 : Int32)), .val (.int (91 : Int32)), .unset] [(.int (0 : Int32))])) t
    refine XS.sipush X9.here hx rfl (hb hby d17_45) ?_
    show Steps p.tables e below (T9.setTop (mkF m 48 #[.val (.ref o0), .val (.int (0 : Int32)), .val (.int (91 : Int32)), .unset] [(.int (1000 : Int32)), (.int (0 : Int32))])) t
    refine XS.icmpYes X9.here hx rfl (pc0 := 48) (pc' := 60) rfl (hb hby d17_48) rfl (feq (by decide : ¬ ((0 : Int32) = (1000 : Int32)))).2 (by decide) (by decide) ?_
    show Steps p.tables e below (T9.setTop (mkF m 60 #[.val (.ref o0), .val (.int (0 : Int32)), .val (.int (91 : Int32)), .unset] [])) t
    refine XS.iloadN X9.here hx rfl (hb hby d17_60) rfl ?_
    show Steps p.tables e below (T9.setTop (mkF m 61 #[.val (.ref o0), .val (.int (0 : Int32)), .val (.int (91 : Int32)), .unset] [(.int (91 : Int32))])) t
    refine XS.bipush X9.here hx rfl (hb hby d17_61) ?_
    show Steps p.tables e below (T9.setTop (mkF m 63 #[.val (.ref o0), .val (.int (0 : Int32)), .val (.int (91 : Int32)), .unset] [(.int (123 : Int32)), (.int (91 : Int32))])) t
    refine XS.icmpYes X9.here hx rfl (pc0 := 63) (pc' := 72) rfl (hb hby d17_63) rfl (feq (by decide : ¬ ((91 : Int32) = (123 : Int32)))).2 (by decide) (by decide) ?_
    exact k
  obtain ⟨T11, X11, e11, st11⟩ := getS2 X9 hx hZ hown (host := "") (Or.inl (hw _ (List.mem_of_getElem? (i := 173) rfl))) Via.refl e9 (own_sta_keep pLI Kc1 (allS pE.nostat all0)) (g := (mkF m 72 #[.val (.ref o0), .val (.int (0 : Int32)), .val (.int (91 : Int32)), .unset] [])) rfl (hb hby d17_72)
  have R14 : Rch p e below (s₁.setTop (entryFrame m #[(.ref o0)] 4)) T11 (mkF m 77 #[.val (.ref o0), .val (.int (0 : Int32)), .val (.int (91 : Int32)), .val (.ref li)] [(.ref o0)]) := fun t k => by
    refine R12 t ?_
    refine st11 _ ?_
    show Steps p.tables e below (T11.setTop (mkF m 75 #[.val (.ref o0), .val (.int (0 : Int32)), .val (.int (91 : Int32)), .unset] [(.ref li)])) t
    refine XS.astoreN X11.here hx rfl (hb hby d17_75) rfl rfl (l' := #[.val (.ref o0), .val (.int (0 : Int32)), .val (.int (91 : Int32)), .val (.ref li)]) rfl ?_
    show Steps p.tables e below (T11.setTop (mkF m 76 #[.val (.ref o0), .val (.int (0 : Int32)), .val (.int (91 : Int32)), .val (.ref li)] [])) t
    refine XS.aloadN X11.here hx rfl (hb hby d17_76) rfl rfl ?_
    exact k
  obtain ⟨T13, X13, e13, st13⟩ := getF X11 hx hZ hown (host := "") (Or.inl (hw _ (List.mem_of_getElem? (i := 40) rfl))) Via.refl e11 c1_f_objects (g := (mkF m 77 #[.val (.ref o0), .val (.int (0 : Int32)), .val (.int (91 : Int32)), .val (.ref li)] [(.ref o0)])) rfl rfl (hb hby d17_77)
  have R16 : Rch p e below (s₁.setTop (entryFrame m #[(.ref o0)] 4)) T13 (mkF m 82 #[.val (.ref o0), .val (.int (0 : Int32)), .val (.int (91 : Int32)), .val (.ref li)] [(.ref o0), (.ref o0), (.ref ob)]) := fun t k => by
    refine R14 t ?_
    refine st13 _ ?_
    show Steps p.tables e below (T13.setTop (mkF m 80 #[.val (.ref o0), .val (.int (0 : Int32)), .val (.int (91 : Int32)), .val (.ref li)] [(.ref ob)])) t
    refine XS.aloadN X13.here hx rfl (hb hby d17_80) rfl rfl ?_
    show Steps p.tables e below (T13.setTop (mkF m 81 #[.val (.ref o0), .val (.int (0 : Int32)), .val (.int (91 : Int32)), .val (.ref li)] [(.ref o0), (.ref ob)])) t
    refine XS.dup X13.here hx rfl (hb hby d17_81) rfl rfl ?_
    exact k
  obtain ⟨T15, X15, e15, st15⟩ := getF X13 hx hZ hown (host := "") (Or.inl (hw _ (List.mem_of_getElem? (i := 154) rfl))) Via.refl e13 c1_f_depth (g := (mkF m 82 #[.val (.ref o0), .val (.int (0 : Int32)), .val (.int (91 : Int32)), .val (.ref li)] [(.ref o0), (.ref o0), (.ref ob)])) rfl rfl (hb hby d17_82)
  have R18 : Rch p e below (s₁.setTop (entryFrame m #[(.ref o0)] 4)) T15 (mkF m 88 #[.val (.ref o0), .val (.int (0 : Int32)), .val (.int (91 : Int32)), .val (.ref li)] [(.int (1 : Int32)), (.ref o0), (.int (1 : Int32)), (.ref ob)]) := fun t k => by
    refine R16 t ?_
    refine st15 _ ?_
    show Steps p.tables e below (T15.setTop (mkF m 85 #[.val (.ref o0), .val (.int (0 : Int32)), .val (.int (91 : Int32)), .val (.ref li)] [(.int (0 : Int32)), (.ref o0), (.ref ob)])) t
    refine XS.iconst X15.here hx rfl (hb hby d17_85) ?_
    show Steps p.tables e below (T15.setTop (mkF m 86 #[.val (.ref o0), .val (.int (0 : Int32)), .val (.int (91 : Int32)), .val (.ref li)] [(.int (1 : Int32)), (.int (0 : Int32)), (.ref o0), (.ref ob)])) t
    refine XS.iadd X15.here hx rfl (hb hby d17_86) rfl ?_
    show Steps p.tables e below (T15.setTop (mkF m 87 #[.val (.ref o0), .val (.int (0 : Int32)), .val (.int (91 : Int32)), .val (.ref li)] [(.int (1 : Int32)), (.ref o0), (.ref ob)])) t
    refine XS.dupX1 X15.here hx rfl (hb hby d17_87) rfl rfl rfl ?_
    exact k
  obtain ⟨T17, h17, X17, e17, W17, st17⟩ := putF X15 hx hZ hown (host := "") (Or.inl (hw _ (List.mem_of_getElem? (i := 154) rfl))) Via.refl e15 c1_f_depth c1_E (Or.inl (hw _ (List.mem_of_getElem? (i := 155) rfl))) (hw _ (List.mem_of_getElem? (i := 7) rfl)) (ty := .int) (by decide) rfl rfl (g := (mkF m 88 #[.val (.ref o0), .val (.int (0 : Int32)), .val (.int (91 : Int32)), .val (.ref li)] [(.int (1 : Int32)), (.ref o0), (.int (1 : Int32)), (.ref ob)])) rfl rfl (hb hby d17_88)
  have Fw17 := c1_f_depth.same W17
  have K17 : Keep h0 h17 [o0, ob] := K1.wr W17 (Or.inl (List.mem_of_getElem? (i := 0) rfl))
  have N17 := Fr.snoc X17 N1 pg
  have R20 : Rch p e below (s₁.setTop (entryFrame m #[(.ref o0)] 4)) T17 (mkF m 92 #[.val (.ref o0), .val (.int (0 : Int32)), .val (.int (91 : Int32)), .val (.ref li)] [(.ref li), (.int (1 : Int32)), (.ref ob)]) := fun t k => by
    refine R18 t ?_
    refine st17 _ ?_
    show Steps p.tables e below (T17.setTop (mkF m 91 #[.val (.ref o0), .val (.int (0 : Int32)), .val (.int (91 : Int32)), .val (.ref li)] [(.int (1 : Int32)), (.ref ob)])) t
    refine XS.aloadN X17.here hx rfl (hb hby d17_91) rfl rfl ?_
    exact k
  obtain ⟨T19, X19, e19, st19⟩ := getS2 X17 hx hZ hown (host := "") (Or.inl (hw _ (List.mem_of_getElem? (i := 176) rfl))) Via.refl e17 ((own_sta_keep pOX Kc1 (allS pE.nostat all0)).wr W17) (g := (mkF m 92 #[.val (.ref o0), .val (.int (0 : Int32)), .val (.int (91 : Int32)), .val (.ref li)] [(.ref li), (.int (1 : Int32)), (.ref ob)])) rfl (hb hby d17_92)
  have R22 : Rch p e below (s₁.setTop (entryFrame m #[(.ref o0)] 4)) T19 (mkF m 103 #[.val (.ref o0), .val (.int (0 : Int32)), .val (.int (91 : Int32)), .val (.ref li)] [(.int (0 : Int32)), (.int (1 : Int32)), (.ref ob)]) := fun t k => by
    refine R20 t ?_
    refine st19 _ ?_
    show Steps p.tables e below (T19.setTop (mkF m 95 #[.val (.ref o0), .val (.int (0 : Int32)), .val (.int (91 : Int32)), .val (.ref li)] [(.ref ox), (.ref li), (.int (1 : Int32)), (.ref ob)])) t
    refine Jvm.RoadKit.acmp (g := (mkF m 95 #[.val (.ref o0), .val (.int (0 : Int32)), .val (.int (91 : Int32)), .val (.ref li)] [(.ref ox), (.ref li), (.int (1 : Int32)), (.ref ob)])) X19 hx rfl rfl rfl (pc0 := 95) (pc' := 102) (same := false) rfl (hb hby d17_95) rfl (decide_eq_false (fun q => plo (Value.ref.inj q))) (by decide) (by decide) ?_
    show Steps p.tables e below (T19.setTop (mkF m 102 #[.val (.ref o0), .val (.int (0 : Int32)), .val (.int (91 : Int32)), .val (.ref li)] [(.int (1 : Int32)), (.ref ob)])) t
    refine XS.iconst X19.here hx rfl (hb hby d17_102) ?_
    exact k
  have Vp21 : Arv Z h17 ob kb .boolean (1001 : Int32) [(.int (0 : Int32)), (.int (0 : Int32))] (.int (0 : Int32)) := ((pB.keep Kc1 (ninS pnb nin0)).other W17 pnb).pad (pad_rep [] (.int (0 : Int32)) 2)
  obtain ⟨cl21, Ar21, q21, Sz21, N21_, Hs21, G21⟩ := id Vp21
  have hin21 : ¬ ((1 : Int32) < 0 ∨ cl21.slots.size ≤ ((1 : Int32)).toNatClampNeg) := inb_of Sz21 ⟨by decide, by decide⟩
  obtain ⟨T23, h23, X23, e23, W23, st23⟩ := stZ X19 hx hZ e19 Ar21 (j := (1 : Int32)) hin21 (g := (mkF m 103 #[.val (.ref o0), .val (.int (0 : Int32)), .val (.int (91 : Int32)), .val (.ref li)] [(.int (0 : Int32)), (.int (1 : Int32)), (.ref ob)])) rfl rfl (hb hby d17_103)
  have V23 : Arv Z h23 ob kb .boolean (1001 : Int32) [(.int (0 : Int32)), (.int (0 : Int32))] (.int (0 : Int32)) := Arv.set Ar21 q21 Sz21 N21_ Hs21 G21 (by decide) W23 1 rfl (Nat.le_of_ble_eq_true rfl)
  have K23 : Keep h0 h23 [o0, ob] := K17.wr W23 (Or.inl (List.mem_of_getElem? (i := 1) rfl))
  have N23 := Fr.snoc X23 N17 pgb
  have R25 : Rch p e below (s₁.setTop (entryFrame m #[(.ref o0)] 4)) T23 (mkF m 106 #[.val (.ref o0), .val (.int (0 : Int32)), .val (.int (91 : Int32)), .val (.ref li)] [(.int (1 : Int32)), (.ref o0)]) := fun t k => by
    refine R22 t ?_
    refine st23 _ ?_
    show Steps p.tables e below (T23.setTop (mkF m 104 #[.val (.ref o0), .val (.int (0 : Int32)), .val (.int (91 : Int32)), .val (.ref li)] [])) t
    refine XS.aloadN X23.here hx rfl (hb hby d17_104) rfl rfl ?_
    show Steps p.tables e below (T23.setTop (mkF m 105 #[.val (.ref o0), .val (.int (0 : Int32)), .val (.int (91 : Int32)), .val (.ref li)] [(.ref o0)])) t
    refine XS.iconst X23.here hx rfl (hb hby d17_105) ?_
    exact k
  have f24 := ((c1_f_opened.other W17 (Or.inr (slot_ne (Or.inl (hw _ (List.mem_of_getElem? (i := 179) rfl))) (Or.inl (hw _ (List.mem_of_getElem? (i := 155) rfl))) (by decide) (t := .boolean) (t' := .int) (by decide) (by decide)))).other W23 (Or.inl (Ne.symm pnb)))
  obtain ⟨T26, h26, X26, e26, W26, st26⟩ := putFN X23 hx hZ hown (hw _ (List.mem_of_getElem? (i := 178) rfl)) Via.refl e23 f24 ((c1_E.wr W17).wr W23) (Or.inl (hw _ (List.mem_of_getElem? (i := 179) rfl))) (hw _ (List.mem_of_getElem? (i := 7) rfl)) (ty := .boolean) (v' := (.int (1 : Int32))) (by decide) rfl rfl (g := (mkF m 106 #[.val (.ref o0), .val (.int (0 : Int32)), .val (.int (91 : Int32)), .val (.ref li)] [(.int (1 : Int32)), (.ref o0)])) rfl rfl (hb hby d17_106)
  have Fw26 := f24.same W26
  have K26 : Keep h0 h26 [o0, ob] := K23.wr W26 (Or.inl (List.mem_of_getElem? (i := 0) rfl))
  have N26 := Fr.snoc X26 N23 pg
  have R28 : Rch p e below (s₁.setTop (entryFrame m #[(.ref o0)] 4)) T26 (mkF m 113 #[.val (.ref o0), .val (.int (0 : Int32)), .val (.int (91 : Int32)), .val (.ref li)] [(.int (1 : Int32)), (.ref o0)]) := fun t k => by
    refine R25 t ?_
    refine st26 _ ?_
    show Steps p.tables e below (T26.setTop (mkF m 109 #[.val (.ref o0), .val (.int (0 : Int32)), .val (.int (91 : Int32)), .val (.ref li)] [])) t
    refine XS.aloadN X26.here hx rfl (hb hby d17_109) rfl rfl ?_
    show Steps p.tables e below (T26.setTop (mkF m 110 #[.val (.ref o0), .val (.int (0 : Int32)), .val (.int (91 : Int32)), .val (.ref li)] [(.ref o0)])) t
    refine XS.iloadN X26.here hx rfl (hb hby d17_110) rfl ?_
    show Steps p.tables e below (T26.setTop (mkF m 111 #[.val (.ref o0), .val (.int (0 : Int32)), .val (.int (91 : Int32)), .val (.ref li)] [(.int (0 : Int32)), (.ref o0)])) t
    refine XS.iconst X26.here hx rfl (hb hby d17_111) ?_
    show Steps p.tables e below (T26.setTop (mkF m 112 #[.val (.ref o0), .val (.int (0 : Int32)), .val (.int (91 : Int32)), .val (.ref li)] [(.int (1 : Int32)), (.int (0 : Int32)), (.ref o0)])) t
    refine XS.iadd X26.here hx rfl (hb hby d17_112) rfl ?_
    exact k
  have f27 := (((c1_f_at.other W17 (Or.inr (slot_ne (Or.inl (hw _ (List.mem_of_getElem? (i := 153) rfl))) (Or.inl (hw _ (List.mem_of_getElem? (i := 155) rfl))) (by decide) (t := .int) (t' := .int) (by decide) (by decide)))).other W23 (Or.inl (Ne.symm pnb))).other W26 (Or.inr (slot_ne (Or.inl (hw _ (List.mem_of_getElem? (i := 153) rfl))) (Or.inl (hw _ (List.mem_of_getElem? (i := 179) rfl))) (by decide) (t := .int) (t' := .boolean) (by decide) (by decide))))
  obtain ⟨T29, h29, X29, e29, W29, st29⟩ := putF X26 hx hZ hown (host := "") (Or.inl (hw _ (List.mem_of_getElem? (i := 152) rfl))) Via.refl e26 f27 (((c1_E.wr W17).wr W23).wr W26) (Or.inl (hw _ (List.mem_of_getElem? (i := 153) rfl))) (hw _ (List.mem_of_getElem? (i := 7) rfl)) (ty := .int) (by decide) rfl rfl (g := (mkF m 113 #[.val (.ref o0), .val (.int (0 : Int32)), .val (.int (91 : Int32)), .val (.ref li)] [(.int (1 : Int32)), (.ref o0)])) rfl rfl (hb hby d17_113)
  have Fw29 := f27.same W29
  have K29 : Keep h0 h29 [o0, ob] := K26.wr W29 (Or.inl (List.mem_of_getElem? (i := 0) rfl))
  have N29 := Fr.snoc X29 N26 pg
  have R30 : Rch p e below (s₁.setTop (entryFrame m #[(.ref o0)] 4)) T29 (mkF m 257 #[.val (.ref o0), .val (.int (0 : Int32)), .val (.int (91 : Int32)), .val (.ref li)] [(.ref li)]) := fun t k => by
    refine R28 t ?_
    refine st29 _ ?_
    show Steps p.tables e below (T29.setTop (mkF m 116 #[.val (.ref o0), .val (.int (0 : Int32)), .val (.int (91 : Int32)), .val (.ref li)] [])) t
    refine XS.goto X29.here hx rfl (pc0 := 116) (pc' := 256) rfl (hb hby d17_116) (by decide) (by decide) ?_
    show Steps p.tables e below (T29.setTop (mkF m 256 #[.val (.ref o0), .val (.int (0 : Int32)), .val (.int (91 : Int32)), .val (.ref li)] [])) t
    refine XS.aloadN X29.here hx rfl (hb hby d17_256) rfl rfl ?_
    exact k
  obtain ⟨fs, hr, hrun, hended, hW, hsame⟩ := X29.leave (v := some (.ref li)) (fun h => by rw [Bd.returns] at h; cases h)
  refine ⟨_, _, R30 _ ?_, hrun, hended, _, _, rfl, ?_, ⟨_, rfl⟩, hW, hsame.mono (by decide) (by decide)⟩
  · jvm_step X29.here [X29.here.top, hx, (hb hby d17_257), X29.method', Bd.returns, Value.isRef, FieldType.isReference]
    first | (intro acts; rw [hr _ acts rfl rfl rfl]) | rw [hr _ _ rfl rfl rfl]
    exact Steps.refl _
  · show Q_rm_vas Z o0 ar kk op ob kb li ox ut h0 n0 _ T29.heap _
    rw [e29]
    exact ⟨rfl, N29, K29, ((((c1_E.wr W17).wr W23).wr W26).wr W29), ((((c1_f_bytes.other W17 (Or.inr (slot_ne (Or.inl (hw _ (List.mem_of_getElem? (i := 147) rfl))) (Or.inl (hw _ (List.mem_of_getElem? (i := 155) rfl))) (by decide) (t := (.array .byte)) (t' := .int) (by decide) (by decide)))).other W23 (Or.inl (Ne.symm pnb))).other W26 (Or.inr (slot_ne (Or.inl (hw _ (List.mem_of_getElem? (i := 147) rfl))) (Or.inl (hw _ (List.mem_of_getElem? (i := 179) rfl))) (by decide) (t := (.array .byte)) (t' := .boolean) (by decide) (by decide)))).other W29 (Or.inr (slot_ne (Or.inl (hw _ (List.mem_of_getElem? (i := 147) rfl))) (Or.inl (hw _ (List.mem_of_getElem? (i := 153) rfl))) (by decide) (t := (.array .byte)) (t' := .int) (by decide) (by decide)))), ((((c1_f_end.other W17 (Or.inr (slot_ne (Or.inl (hw _ (List.mem_of_getElem? (i := 151) rfl))) (Or.inl (hw _ (List.mem_of_getElem? (i := 155) rfl))) (by decide) (t := .int) (t' := .int) (by decide) (by decide)))).other W23 (Or.inl (Ne.symm pnb))).other W26 (Or.inr (slot_ne (Or.inl (hw _ (List.mem_of_getElem? (i := 151) rfl))) (Or.inl (hw _ (List.mem_of_getElem? (i := 179) rfl))) (by decide) (t := .int) (t' := .boolean) (by decide) (by decide)))).other W29 (Or.inr (slot_ne (Or.inl (hw _ (List.mem_of_getElem? (i := 151) rfl))) (Or.inl (hw _ (List.mem_of_getElem? (i := 153) rfl))) (by decide) (t := .int) (t' := .int) (by decide) (by decide)))), Fw29, (((Fw17.other W23 (Or.inl (Ne.symm pnb))).other W26 (Or.inr (slot_ne (Or.inl (hw _ (List.mem_of_getElem? (i := 155) rfl))) (Or.inl (hw _ (List.mem_of_getElem? (i := 179) rfl))) (by decide) (t := .int) (t' := .boolean) (by decide) (by decide)))).other W29 (Or.inr (slot_ne (Or.inl (hw _ (List.mem_of_getElem? (i := 155) rfl))) (Or.inl (hw _ (List.mem_of_getElem? (i := 153) rfl))) (by decide) (t := .int) (t' := .int) (by decide) (by decide)))), (Fw26.other W29 (Or.inr (slot_ne (Or.inl (hw _ (List.mem_of_getElem? (i := 179) rfl))) (Or.inl (hw _ (List.mem_of_getElem? (i := 153) rfl))) (by decide) (t := .boolean) (t' := .int) (by decide) (by decide)))), ((((c1_f_objects.other W17 (Or.inr (slot_ne (Or.inr (hw _ (List.mem_of_getElem? (i := 41) rfl))) (Or.inl (hw _ (List.mem_of_getElem? (i := 155) rfl))) (by decide) (t := (.array .boolean)) (t' := .int) (by decide) (by decide)))).other W23 (Or.inl (Ne.symm pnb))).other W26 (Or.inr (slot_ne (Or.inr (hw _ (List.mem_of_getElem? (i := 41) rfl))) (Or.inl (hw _ (List.mem_of_getElem? (i := 179) rfl))) (by decide) (t := (.array .boolean)) (t' := .boolean) (by decide) (by decide)))).other W29 (Or.inr (slot_ne (Or.inr (hw _ (List.mem_of_getElem? (i := 41) rfl))) (Or.inl (hw _ (List.mem_of_getElem? (i := 153) rfl))) (by decide) (t := (.array .boolean)) (t' := .int) (by decide) (by decide)))), ((((c1_f_start.other W17 (Or.inr (slot_ne (Or.inl (hw _ (List.mem_of_getElem? (i := 149) rfl))) (Or.inl (hw _ (List.mem_of_getElem? (i := 155) rfl))) (by decide) (t := .int) (t' := .int) (by decide) (by decide)))).other W23 (Or.inl (Ne.symm pnb))).other W26 (Or.inr (slot_ne (Or.inl (hw _ (List.mem_of_getElem? (i := 149) rfl))) (Or.inl (hw _ (List.mem_of_getElem? (i := 179) rfl))) (by decide) (t := .int) (t' := .boolean) (by decide) (by decide)))).other W29 (Or.inr (slot_ne (Or.inl (hw _ (List.mem_of_getElem? (i := 149) rfl))) (Or.inl (hw _ (List.mem_of_getElem? (i := 153) rfl))) (by decide) (t := .int) (t' := .int) (by decide) (by decide))))⟩
theorem d16_0 : decode prog_45_method_6_code 0 = .ok (.aload_n 0, 1) := by decide +kernel
theorem d16_1 : decode prog_45_method_6_code 1 = .ok (.getfield 101, 3) := by decide +kernel
theorem d16_4 : decode prog_45_method_6_code 4 = .ok (.aload_n 0, 1) := by decide +kernel
theorem d16_5 : decode prog_45_method_6_code 5 = .ok (.getfield 98, 3) := by decide +kernel
theorem d16_8 : decode prog_45_method_6_code 8 = .ok (.if_icmp .ge 15, 3) := by decide +kernel
theorem d16_11 : decode prog_45_method_6_code 11 = .ok (.aload_n 0, 1) := by decide +kernel
theorem d16_12 : decode prog_45_method_6_code 12 = .ok (.getfield 92, 3) := by decide +kernel
theorem d16_15 : decode prog_45_method_6_code 15 = .ok (.aload_n 0, 1) := by decide +kernel
theorem d16_16 : decode prog_45_method_6_code 16 = .ok (.getfield 101, 3) := by decide +kernel
theorem d16_19 : decode prog_45_method_6_code 19 = .ok (.baload, 1) := by decide +kernel
theorem d16_20 : decode prog_45_method_6_code 20 = .ok (.goto 4, 3) := by decide +kernel
theorem d16_24 : decode prog_45_method_6_code 24 = .ok (.istore_n 1, 1) := by decide +kernel
theorem d16_25 : decode prog_45_method_6_code 25 = .ok (.iload_n 1, 1) := by decide +kernel
theorem d16_26 : decode prog_45_method_6_code 26 = .ok (.bipush 34, 2) := by decide +kernel
theorem d16_28 : decode prog_45_method_6_code 28 = .ok (.if_icmp .ne 24, 3) := by decide +kernel
theorem d16_52 : decode prog_45_method_6_code 52 = .ok (.iload_n 1, 1) := by decide +kernel
theorem d16_53 : decode prog_45_method_6_code 53 = .ok (.bipush 49, 2) := by decide +kernel
theorem d16_55 : decode prog_45_method_6_code 55 = .ok (.if_icmp .lt 28, 3) := by decide +kernel
theorem d16_58 : decode prog_45_method_6_code 58 = .ok (.iload_n 1, 1) := by decide +kernel
theorem d16_59 : decode prog_45_method_6_code 59 = .ok (.bipush 57, 2) := by decide +kernel
theorem d16_61 : decode prog_45_method_6_code 61 = .ok (.if_icmp .gt 22, 3) := by decide +kernel
theorem d16_83 : decode prog_45_method_6_code 83 = .ok (.aload_n 0, 1) := by decide +kernel
theorem d16_84 : decode prog_45_method_6_code 84 = .ok (.invokevirtual 141, 3) := by decide +kernel
theorem pd_9 : parseMethodDescriptor "()Lcom/example/vestwork/vestwork/io/JsonScanner$Kind;" = some ⟨[], some (.object "com/example/vestwork/vestwork/io/JsonScanner$Kind")⟩ := by decide +kernel
theorem d16_87 : decode prog_45_method_6_code 87 = .ok (.astore_n 2, 1) := by decide +kernel
theorem d16_88 : decode prog_45_method_6_code 88 = .ok (.aload_n 2, 1) := by decide +kernel
theorem d16_89 : decode prog_45_method_6_code 89 = .ok (.areturn, 1) := by decide +kernel
theorem ef_rm_value (m : MethodId) (x0 : Addr) : entryFrame m #[(.ref x0)] 3 = mkF m 0 #[.val (.ref x0), .unset, .unset] [] := by first | (simp [entryFrame, mkF, argsToLocals, Value.category]; done) | rfl
def Q_rm_value (Z : State) (o0 : Addr) (ar : Addr) (kk : ClassId) (op : Int32) (ob : Addr) (kb : ClassId) (li : Addr) (ox : Addr) (ut : Value) (h0 : Heap) (n0 : Nat) (v : Option Value) (h : Heap) (L : List Loc) : Prop := (v = some (.ref li)) ∧ (Fr n0 L) ∧ (Keep h0 h [o0, ob]) ∧ (Exa Z h o0 "com/example/vestwork/vestwork/io/JsonScanner") ∧ (Fld Z h o0 "com/example/vestwork/vestwork/io/JsonScanner" "bytes" "[B" (.ref ar)) ∧ (Fld Z h o0 "com/example/vestwork/vestwork/io/JsonScanner" "end" "I" (.int (1 : Int32))) ∧ (Fld Z h o0 "com/example/vestwork/vestwork/io/JsonScanner" "at" "I" (.int (1 : Int32))) ∧ (Fld Z h o0 "com/example/vestwork/vestwork/io/JsonScanner" "depth" "I" (.int (1 : Int32))) ∧ (Fld Z h o0 "com/example/vestwork/vestwork/io/JsonScanner" "opened" "Z" (.int (1 : Int32))) ∧ (Fld Z h o0 "com/example/vestwork/vestwork/io/JsonScanner" "objects" "[Z" (.ref ob)) ∧ (Fld Z h o0 "com/example/vestwork/vestwork/io/JsonScanner" "start" "I" ut)
set_option maxRecDepth 65536 in
set_option maxHeartbeats 40000000 in
theorem rm_value (l : Launch) (Z : State) (a0 : Array Value) (hw : ∀ d ∈ tables_1, d.before a0 Z = true) (ws : List Jvm.Cond) (o0 : Addr) (ar : Addr) (kk : ClassId) (op : Int32) (ob : Addr) (kb : ClassId) (li : Addr) (ox : Addr) (ut : Value) (h0 : Heap) (n0 : Nat) (Z0 : n0 ≤ h0.size) (pE : Exa Z h0 o0 "com/example/vestwork/vestwork/io/JsonScanner") (pg : n0 ≤ o0) (pna : ar ≠ o0) (pf_bytes : Fld Z h0 o0 "com/example/vestwork/vestwork/io/JsonScanner" "bytes" "[B" (.ref ar)) (pf_end : Fld Z h0 o0 "com/example/vestwork/vestwork/io/JsonScanner" "end" "I" (.int (1 : Int32))) (pf_at : Fld Z h0 o0 "com/example/vestwork/vestwork/io/JsonScanner" "at" "I" (.int (0 : Int32))) (pf_depth : Fld Z h0 o0 "com/example/vestwork/vestwork/io/JsonScanner" "depth" "I" (.int (0 : Int32))) (pf_opened : Fld Z h0 o0 "com/example/vestwork/vestwork/io/JsonScanner" "opened" "Z" (.int op)) (pf_objects : Fld Z h0 o0 "com/example/vestwork/vestwork/io/JsonScanner" "objects" "[Z" (.ref ob)) (pf_start : Fld Z h0 o0 "com/example/vestwork/vestwork/io/JsonScanner" "start" "I" ut) (pV : Arv Z h0 ar kk .byte (1 : Int32) [(.int (91 : Int32))] (.int (0 : Int32))) (pB : Arv Z h0 ob kb .boolean (1001 : Int32) [] (.int (0 : Int32))) (pgb : n0 ≤ ob) (pnb : ob ≠ o0) (pnab : ar ≠ ob) (pLI : Sta Z h0 "com/example/vestwork/vestwork/io/JsonScanner$Kind" "LIST" "Lcom/example/vestwork/vestwork/io/JsonScanner$Kind;" (.ref li)) (pOX : Sta Z h0 "com/example/vestwork/vestwork/io/JsonScanner$Kind" "OBJECT" "Lcom/example/vestwork/vestwork/io/JsonScanner$Kind;" (.ref ox)) (plo : li ≠ ox) :
    MetFree l (⟨"com/example/vestwork/vestwork/io/JsonScanner", "value", "()Lcom/example/vestwork/vestwork/io/JsonScanner$Kind;"⟩ : MethodName) (head1 (Jvm.Cond.code (⟨"com/example/vestwork/vestwork/io/JsonScanner", "value", "()Lcom/example/vestwork/vestwork/io/JsonScanner$Kind;"⟩ : MethodName) prog_45_method_6_code 3 (some (.object "com/example/vestwork/vestwork/io/JsonScanner$Kind")) :: ws) ({ frames := 3, cells := 0, slots := 0, locals := 42 } : Room)) (fun a U => a = #[(.ref o0)] ∧ Z.Warmed39 U.vm ∧ U.heap = h0) (fun _ _ _ _ _ => True) (fun _ U o U' => ∃ v L, o = .returned v ∧ Q_rm_value Z o0 ar kk op ob kb li ox ut h0 n0 v U'.heap L ∧ FrameEnd U o U' L ({ frames := 3, cells := 0, slots := 0, locals := 42 } : Room).cells ({ frames := 3, cells := 0, slots := 0, locals := 42 } : Room).slots) := by
  refine MetFree.of_bodySF (plainFor_of_name pn_8) hisR ?_
  intro p e s m args below meth c s₁ Bd hml0 hP hK
  obtain ⟨rfl, hZ, hh⟩ := hP
  have hx := Bd.exec
  have hby := Bd.bytes
  have hml : c.maxLocals = 3 := hml0
  have hown : s.vm.findClass "com/example/vestwork/vestwork/io/JsonScanner" = some m.cls := findClass_of_methodNamed Bd.named
  have hnm := (name_of_methodNamed Bd.named Bd.method).1
  have X0 : Stand p l e ({ frames := 3, cells := 0, slots := 0, locals := 42 } : Room) s m #[(.ref o0)] below meth c s₁ [] 0 0 := Stand.of_body Bd
  have e0 : s₁.heap = h0 := by rw [← hh, Bd.state]; rfl
  have N0 := Fr.nil n0
  have K0 : Keep h0 h0 [o0, ob] := Keep.refl _ _
  have R0 : Rch p e below (s₁.setTop (entryFrame m #[(.ref o0)] 3)) s₁ (mkF m 0 #[.val (.ref o0), .unset, .unset] []) := fun t k => castTop (ef_rm_value m o0) k
  have R2 : Rch p e below (s₁.setTop (entryFrame m #[(.ref o0)] 3)) s₁ (mkF m 1 #[.val (.ref o0), .unset, .unset] [(.ref o0)]) := fun t k => by
    refine R0 t ?_
    refine XS.aloadN X0.here hx rfl (hb hby d16_0) rfl rfl ?_
    exact k
  obtain ⟨T1, X1, e1, st1⟩ := getF X0 hx hZ hown (host := "") (Or.inl (hw _ (List.mem_of_getElem? (i := 152) rfl))) Via.refl e0 pf_at (g := (mkF m 1 #[.val (.ref o0), .unset, .unset] [(.ref o0)])) rfl rfl (hb hby d16_1)
  have R4 : Rch p e below (s₁.setTop (entryFrame m #[(.ref o0)] 3)) T1 (mkF m 5 #[.val (.ref o0), .unset, .unset] [(.ref o0), (.int (0 : Int32))]) := fun t k => by
    refine R2 t ?_
    refine st1 _ ?_
    show Steps p.tables e below (T1.setTop (mkF m 4 #[.val (.ref o0), .unset, .unset] [(.int (0 : Int32))])) t
    refine XS.aloadN X1.here hx rfl (hb hby d16_4) rfl rfl ?_
    exact k
  obtain ⟨T3, X3, e3, st3⟩ := getF X1 hx hZ hown (host := "") (Or.inl (hw _ (List.mem_of_getElem? (i := 150) rfl))) Via.refl e1 pf_end (g := (mkF m 5 #[.val (.ref o0), .unset, .unset] [(.ref o0), (.int (0 : Int32))])) rfl rfl (hb hby d16_5)
  have R6 : Rch p e below (s₁.setTop (entryFrame m #[(.ref o0)] 3)) T3 (mkF m 12 #[.val (.ref o0), .unset, .unset] [(.ref o0)]) := fun t k => by
    refine R4 t ?_
    refine st3 _ ?_
    show Steps p.tables e below (T3.setTop (mkF m 8 #[.val (.ref o0), .unset, .unset] [(.int (1 : Int32)), (.int (0 : Int32))])) t
    refine XS.icmpNo X3.here hx rfl (hb hby d16_8) rfl (tlt (by decide : (0 : Int32) < (1 : Int32))).2.1 ?_
    show Steps p.tables e below (T3.setTop (mkF m 11 #[.val (.ref o0), .unset, .unset] [])) t
    refine XS.aloadN X3.here hx rfl (hb hby d16_11) rfl rfl ?_
    exact k
  obtain ⟨T5, X5, e5, st5⟩ := getF X3 hx hZ hown (host := "") (Or.inl (hw _ (List.mem_of_getElem? (i := 146) rfl))) Via.refl e3 pf_bytes (g := (mkF m 12 #[.val (.ref o0), .unset, .unset] [(.ref o0)])) rfl rfl (hb hby d16_12)
  have R8 : Rch p e below (s₁.setTop (entryFrame m #[(.ref o0)] 3)) T5 (mkF m 16 #[.val (.ref o0), .unset, .unset] [(.ref o0), (.ref ar)]) := fun t k => by
    refine R6 t ?_
    refine st5 _ ?_
    show Steps p.tables e below (T5.setTop (mkF m 15 #[.val (.ref o0), .unset, .unset] [(.ref ar)])) t
    refine XS.aloadN X5.here hx rfl (hb hby d16_15) rfl rfl ?_
    exact k
  obtain ⟨T7, X7, e7, st7⟩ := getF X5 hx hZ hown (host := "") (Or.inl (hw _ (List.mem_of_getElem? (i := 152) rfl))) Via.refl e5 pf_at (g := (mkF m 16 #[.val (.ref o0), .unset, .unset] [(.ref o0), (.ref ar)])) rfl rfl (hb hby d16_16)
  have R10 : Rch p e below (s₁.setTop (entryFrame m #[(.ref o0)] 3)) T7 (mkF m 19 #[.val (.ref o0), .unset, .unset] [(.int (0 : Int32)), (.ref ar)]) := fun t k => by
    refine R8 t ?_
    refine st7 _ ?_
    exact k
  obtain ⟨cl9, Ar9, q9, Sz9, N9_, Hs9, G9⟩ := id pV
  have hin9 : ¬ ((0 : Int32) < 0 ∨ cl9.slots.size ≤ ((0 : Int32)).toNatClampNeg) := inb_of Sz9 ⟨by decide, by decide⟩
  have hat9 : cl9.slots[((0 : Int32)).toNatClampNeg]? = some (.int (91 : Int32)) := Hs9.at hin9 rfl
  have R12 : Rch p e below (s₁.setTop (entryFrame m #[(.ref o0)] 3)) T7 (mkF m 84 #[.val (.ref o0), .val (.int (91 : Int32)), .unset] [(.ref o0)]) := fun t k => by
    refine R10 t ?_
    refine X7.baloadBytes hx (j := (0 : Int32)) (v := (.int (91 : Int32))) (by rw [e7]; exact Ar9.1) (State.isArrayOf_alike hZ.alike Ar9.2.1) Ar9.2.2 hin9 hat9 (g := (mkF m 19 #[.val (.ref o0), .unset, .unset] [(.int (0 : Int32)), (.ref ar)])) rfl rfl (hb hby d16_19) _ ?_
    show Steps p.tables e below (T7.setTop (mkF m 20 #[.val (.ref o0), .unset, .unset] [(.int (91 : Int32))])) t
    refine XS.goto X7.here hx rfl (pc0 := 20) (pc' := 24) rfl (hb hby d16_20) (by decide) (by decide) ?_
    show Steps p.tables e below (T7.setTop (mkF m 24 #[.val (.ref o0), .unset, .unset] [(.int (91 : Int32))])) t
    refine XS.istoreN X7.here hx rfl (hb hby d16_24) rfl (l' := #[.val (.ref o0), .val (.int (91 : Int32)), .unset]) rfl ?_
    show Steps p.tables e below (T7.setTop (mkF m 25 #[.val (.ref o0), .val (.int (91 : Int32)), .unset] [])) t
    refine XS.iloadN X7.here hx rfl (hb hby d16_25) rfl ?_
    show Steps p.tables e below (T7.setTop (mkF m 26 #[.val (.ref o0), .val (.int (91 : Int32)), .unset] [(.int (91 : Int32))])) t
    refine XS.bipush X7.here hx rfl (hb hby d16_26) ?_
    show Steps p.tables e below (T7.setTop (mkF m 28 #[.val (.ref o0), .val (.int (91 : Int32)), .unset] [(.int (34 : Int32)), (.int (91 : Int32))])) t
    refine XS.icmpYes X7.here hx rfl (pc0 := 28) (pc' := 52) rfl (hb hby d16_28) rfl (feq (by decide : ¬ ((91 : Int32) = (34 : Int32)))).2 (by decide) (by decide) ?_
    show Steps p.tables e below (T7.setTop (mkF m 52 #[.val (.ref o0), .val (.int (91 : Int32)), .unset] [])) t
    refine XS.iloadN X7.here hx rfl (hb hby d16_52) rfl ?_
    show Steps p.tables e below (T7.setTop (mkF m 53 #[.val (.ref o0), .val (.int (91 : Int32)), .unset] [(.int (91 : Int32))])) t
    refine XS.bipush X7.here hx rfl (hb hby d16_53) ?_
    show Steps p.tables e below (T7.setTop (mkF m 55 #[.val (.ref o0), .val (.int (91 : Int32)), .unset] [(.int (49 : Int32)), (.int (91 : Int32))])) t
    refine XS.icmpNo X7.here hx rfl (hb hby d16_55) rfl (flt (by decide : ¬ ((91 : Int32) < (49 : Int32)))).1 ?_
    show Steps p.tables e below (T7.setTop (mkF m 58 #[.val (.ref o0), .val (.int (91 : Int32)), .unset] [])) t
    refine XS.iloadN X7.here hx rfl (hb hby d16_58) rfl ?_
    show Steps p.tables e below (T7.setTop (mkF m 59 #[.val (.ref o0), .val (.int (91 : Int32)), .unset] [(.int (91 : Int32))])) t
    refine XS.bipush X7.here hx rfl (hb hby d16_59) ?_
    show Steps p.tables e below (T7.setTop (mkF m 61 #[.val (.ref o0), .val (.int (91 : Int32)), .unset] [(.int (57 : Int32)), (.int (91 : Int32))])) t
    refine XS.icmpYes X7.here hx rfl (pc0 := 61) (pc' := 83) rfl (hb hby d16_61) rfl (tlt (by decide : (57 : Int32) < (91 : Int32))).2.2.1 (by decide) (by decide) ?_
    show Steps p.tables e below (T7.setTop (mkF m 83 #[.val (.ref o0), .val (.int (91 : Int32)), .unset] [])) t
    refine XS.aloadN X7.here hx rfl (hb hby d16_83) rfl rfl ?_
    exact k
  obtain ⟨cq11, q11, q11'⟩ := pE.cell
  obtain ⟨_, _, ⟨T11, L11, k11, n11⟩, -, X11, ⟨Lc11, hQ11, l11, y11, z11⟩, st11⟩ := X7.privateBack hx (y := (⟨"com/example/vestwork/vestwork/io/JsonScanner", "valueAfterSpace", "()Lcom/example/vestwork/vestwork/io/JsonScanner$Kind;"⟩ : MethodName)) hown (mvT hZ (hw _ (List.mem_of_getElem? (i := 161) rfl))) (mvT hZ (hw _ (List.mem_of_getElem? (i := 162) rfl))) (own_selp hZ (hw _ (List.mem_of_getElem? (i := 7) rfl)) (hw _ (List.mem_of_getElem? (i := 163) rfl)) (hw _ (List.mem_of_getElem? (i := 162) rfl)) (by decide)) (Cond.privateMethod_at (mvP hZ (hw _ (List.mem_of_getElem? (i := 163) rfl)) (args := #[]))) (mvT hZ (hw _ (List.mem_of_getElem? (i := 164) rfl))) (by decide) (backOf (W := 0) (rm_vas l Z a0 hw [] o0 ar kk op ob kb li ox ut h0 n0 (Nat.le_trans Z0 K0.1) pE pg pna pf_bytes pf_end pf_at pf_depth pf_opened pf_objects pf_start pV pB pgb pnb pnab pLI pOX plo) hZ (hw _ (List.mem_of_getElem? (i := 164) rfl)) (hw _ (List.mem_of_getElem? (i := 8) rfl)) (by decide) (by decide)) (g := (mkF m 84 #[.val (.ref o0), .val (.int (91 : Int32)), .unset] [(.ref o0)])) rfl (by rw [hml]; rfl) (Steps.refl _) (a := o0) (by rw [e7]; exact q11) q11' (argsL := []) (rest := []) (lenOf pd_9 rfl) rfl (by show 2 * 0 + _ ≤ _; exact Nat.le_of_eq rfl) (hb hby d16_84) (fun _ _ => ⟨rfl, e7, (by decide : 0 + 0 ≤ _), (by decide : 0 + 0 ≤ _)⟩)
  dsimp only [Pt.U, Pt.locs, Pt.cells, Pt.slots] at X11 l11 y11 z11 st11 hQ11
  subst l11 y11 z11
  obtain ⟨rfl, N11q, Kc11, c11_E, c11_f_bytes, c11_f_end, c11_f_at, c11_f_depth, c11_f_opened, c11_f_objects, c11_f_start⟩ := hQ11
  have N11 := Fr.app N0 N11q
  have K11 : Keep h0 T11.heap [o0, ob] := K0.trans Kc11 (allS (Or.inl (List.mem_of_getElem? (i := 0) rfl)) (allS (Or.inl (List.mem_of_getElem? (i := 1) rfl)) all0))
  have R13 : Rch p e below (s₁.setTop (entryFrame m #[(.ref o0)] 3)) T11 (mkF m 89 #[.val (.ref o0), .val (.int (91 : Int32)), .val (.ref li)] [(.ref li)]) := fun t k => by
    refine R12 t ?_
    refine st11.trans ?_
    show Steps p.tables e below (T11.setTop (mkF m 87 #[.val (.ref o0), .val (.int (91 : Int32)), .unset] [(.ref li)])) t
    refine XS.astoreN X11.here hx rfl (hb hby d16_87) rfl rfl (l' := #[.val (.ref o0), .val (.int (91 : Int32)), .val (.ref li)]) rfl ?_
    show Steps p.tables e below (T11.setTop (mkF m 88 #[.val (.ref o0), .val (.int (91 : Int32)), .val (.ref li)] [])) t
    refine XS.aloadN X11.here hx rfl (hb hby d16_88) rfl rfl ?_
    exact k
  obtain ⟨fs, hr, hrun, hended, hW, hsame⟩ := X11.leave (v := some (.ref li)) (fun h => by rw [Bd.returns] at h; cases h)
  refine ⟨_, _, R13 _ ?_, hrun, hended, _, _, rfl, ?_, ⟨_, rfl⟩, hW, hsame.mono (by decide) (by decide)⟩
  · jvm_step X11.here [X11.here.top, hx, (hb hby d16_89), X11.method', Bd.returns, Value.isRef, FieldType.isReference]
    first | (intro acts; rw [hr _ acts rfl rfl rfl]) | rw [hr _ _ rfl rfl rfl]
    exact Steps.refl _
  · show Q_rm_value Z o0 ar kk op ob kb li ox ut h0 n0 _ T11.heap _
    exact ⟨rfl, N11, K11, c11_E, c11_f_bytes, c11_f_end, c11_f_at, c11_f_depth, c11_f_opened, c11_f_objects, c11_f_start⟩
theorem pd_10 : parseMethodDescriptor "(I)B" = some ⟨[.int], some .byte⟩ := by decide +kernel
theorem pd_11 : parseMethodDescriptor "(Ljava/util/List;)V" = some ⟨[(.object "java/util/List")], none⟩ := by decide +kernel
theorem pd_12 : parseMethodDescriptor "([BII)V" = some ⟨[(.array .byte), .int, .int], none⟩ := by decide +kernel
theorem pd_13 : parseMethodDescriptor "()[B" = some ⟨[], some (.array .byte)⟩ := by decide +kernel
theorem ef_rm0 (m : MethodId) (x0 : Int32) (x1 : Int32) (x2 : Int32) (x3 : Int32) : entryFrame m #[(.int x0), (.int x1), (.int x2), (.int x3)] maxLocals = mkF m 0 #[.val (.int x0), .val (.int x1), .val (.int x2), .val (.int x3), .unset, .unset, .unset, .unset, .unset, .unset, .unset, .unset, .unset, .unset, .unset, .unset] [] := by first | (simp [entryFrame, mkF, argsToLocals, Value.category, maxLocals]; done) | rfl
def Q_rm0 (Z : State) (q0 : Int32) (q1 : Int32) (q2 : Int32) (q3 : Int32) (li : Addr) (ox : Addr) (dce : Addr) (emp : Addr) (h0 : Heap) (n0 : Nat) (v : Option Value) (h : Heap) (L : List Loc) : Prop := (v = some (.int (1 : Int32))) ∧ (Fr n0 L) ∧ (Keep h0 h [])
set_option maxRecDepth 65536 in
set_option maxHeartbeats 40000000 in
theorem rm0 (l : Launch) (Z : State) (a0 : Array Value) (hw : ∀ d ∈ tables_1, d.before a0 Z = true) (ws : List Jvm.Cond) (q0 : Int32) (q1 : Int32) (q2 : Int32) (q3 : Int32) (li : Addr) (ox : Addr) (dce : Addr) (emp : Addr) (h0 : Heap) (n0 : Nat) (Z0 : n0 ≤ h0.size) (pLI : Sta Z h0 "com/example/vestwork/vestwork/io/JsonScanner$Kind" "LIST" "Lcom/example/vestwork/vestwork/io/JsonScanner$Kind;" (.ref li)) (pOX : Sta Z h0 "com/example/vestwork/vestwork/io/JsonScanner$Kind" "OBJECT" "Lcom/example/vestwork/vestwork/io/JsonScanner$Kind;" (.ref ox)) (plo : li ≠ ox) (pDC : Sta Z h0 "java/util/ArrayList" "DEFAULTCAPACITY_EMPTY_ELEMENTDATA" "[Ljava/lang/Object;" (.ref dce)) (pEM : Sta Z h0 "java/util/ImmutableCollections" "EMPTY_MAP" "Ljava/util/ImmutableCollections$MapN;" (.ref emp)) :
    MetFree l x (head1 (Jvm.Cond.code x code maxLocals ret :: ws) room_1) (fun a U => a = #[(.int q0), (.int q1), (.int q2), (.int q3)] ∧ Z.Warmed39 U.vm ∧ U.heap = h0) (fun _ _ _ _ _ => True) (fun _ U o U' => ∃ v L, o = .returned v ∧ Q_rm0 Z q0 q1 q2 q3 li ox dce emp h0 n0 v U'.heap L ∧ FrameEnd U o U' L room_1.cells room_1.slots) := by
  refine MetFree.of_bodySF (plainFor_of_name pn_0) hisR ?_
  intro p e s m args below meth c s₁ Bd hml0 hP hK
  obtain ⟨rfl, hZ, hh⟩ := hP
  have hx := Bd.exec
  have hby := Bd.bytes
  have hml : c.maxLocals = 16 := hml0
  have hown : s.vm.findClass "com/example/vestwork/vestwork/io/JsonScannerResetPinLaw" = some m.cls := findClass_of_methodNamed Bd.named
  have hnm := (name_of_methodNamed Bd.named Bd.method).1
  have X0 : Stand p l e room_1 s m #[(.int q0), (.int q1), (.int q2), (.int q3)] below meth c s₁ [] 0 0 := Stand.of_body Bd
  have e0 : s₁.heap = h0 := by rw [← hh, Bd.state]; rfl
  have N0 := Fr.nil n0
  have K0 : Keep h0 h0 [] := Keep.refl _ _
  have R0 : Rch p e below (s₁.setTop (entryFrame m #[(.int q0), (.int q1), (.int q2), (.int q3)] maxLocals)) s₁ (mkF m 0 #[.val (.int q0), .val (.int q1), .val (.int q2), .val (.int q3), .unset, .unset, .unset, .unset, .unset, .unset, .unset, .unset, .unset, .unset, .unset, .unset] []) := fun t k => castTop (ef_rm0 m q0 q1 q2 q3) k
  have R1 : Rch p e below (s₁.setTop (entryFrame m #[(.int q0), (.int q1), (.int q2), (.int q3)] maxLocals)) s₁ (mkF m 5 #[.val (.int q0), .val (.int q1), .val (.int q2), .val (.int q3), .val (.int (q0 &&& (3 : Int32))), .unset, .unset, .unset, .unset, .unset, .unset, .unset, .unset, .unset, .unset, .unset] []) := fun t k => by
    refine R0 t ?_
    refine XS.iloadN X0.here hx rfl (hb hby at_0) rfl ?_
    show Steps p.tables e below (s₁.setTop (mkF m 1 #[.val (.int q0), .val (.int q1), .val (.int q2), .val (.int q3), .unset, .unset, .unset, .unset, .unset, .unset, .unset, .unset, .unset, .unset, .unset, .unset] [(.int q0)])) t
    refine XS.iconst X0.here hx rfl (hb hby at_1) ?_
    show Steps p.tables e below (s₁.setTop (mkF m 2 #[.val (.int q0), .val (.int q1), .val (.int q2), .val (.int q3), .unset, .unset, .unset, .unset, .unset, .unset, .unset, .unset, .unset, .unset, .unset, .unset] [(.int (3 : Int32)), (.int q0)])) t
    refine XS.iand X0.here hx rfl (hb hby at_2) rfl ?_
    show Steps p.tables e below (s₁.setTop (mkF m 3 #[.val (.int q0), .val (.int q1), .val (.int q2), .val (.int q3), .unset, .unset, .unset, .unset, .unset, .unset, .unset, .unset, .unset, .unset, .unset, .unset] [(.int (q0 &&& (3 : Int32)))])) t
    refine XS.istore X0.here hx rfl (hb hby at_3) rfl (l' := #[.val (.int q0), .val (.int q1), .val (.int q2), .val (.int q3), .val (.int (q0 &&& (3 : Int32))), .unset, .unset, .unset, .unset, .unset, .unset, .unset, .unset, .unset, .unset, .unset]) rfl ?_
    exact k
  obtain ⟨off, hoff⟩ : ∃ z, z = (q0 &&& (3 : Int32)) := ⟨_, rfl⟩
  have ho : 0 ≤ off.toInt ∧ off.toInt ≤ 3 := by rw [hoff]; exact own_off q0
  rw [← hoff] at R1
  have R2 : Rch p e below (s₁.setTop (entryFrame m #[(.int q0), (.int q1), (.int q2), (.int q3)] maxLocals)) s₁ (mkF m 17 #[.val (.int q0), .val (.int q1), .val (.int q2), .val (.int q3), .val (.int off), .val (.int ((q1 &&& (2147483647 : Int32)) % ((9 : Int32) - off))), .unset, .unset, .unset, .unset, .unset, .unset, .unset, .unset, .unset, .unset] []) := fun t k => by
    refine R1 t ?_
    refine XS.iloadN X0.here hx rfl (hb hby at_5) rfl ?_
    show Steps p.tables e below (s₁.setTop (mkF m 6 #[.val (.int q0), .val (.int q1), .val (.int q2), .val (.int q3), .val (.int off), .unset, .unset, .unset, .unset, .unset, .unset, .unset, .unset, .unset, .unset, .unset] [(.int q1)])) t
    refine X0.ldcInt hx hown (mvT hZ (hw _ (List.mem_of_getElem? (i := 0) rfl))) (g := (mkF m 6 #[.val (.int q0), .val (.int q1), .val (.int q2), .val (.int q3), .val (.int off), .unset, .unset, .unset, .unset, .unset, .unset, .unset, .unset, .unset, .unset, .unset] [(.int q1)])) rfl (hb hby at_6) _ ?_
    show Steps p.tables e below (s₁.setTop (mkF m 8 #[.val (.int q0), .val (.int q1), .val (.int q2), .val (.int q3), .val (.int off), .unset, .unset, .unset, .unset, .unset, .unset, .unset, .unset, .unset, .unset, .unset] [(.int (2147483647 : Int32)), (.int q1)])) t
    refine XS.iand X0.here hx rfl (hb hby at_8) rfl ?_
    show Steps p.tables e below (s₁.setTop (mkF m 9 #[.val (.int q0), .val (.int q1), .val (.int q2), .val (.int q3), .val (.int off), .unset, .unset, .unset, .unset, .unset, .unset, .unset, .unset, .unset, .unset, .unset] [(.int (q1 &&& (2147483647 : Int32)))])) t
    refine XS.bipush X0.here hx rfl (hb hby at_9) ?_
    show Steps p.tables e below (s₁.setTop (mkF m 11 #[.val (.int q0), .val (.int q1), .val (.int q2), .val (.int q3), .val (.int off), .unset, .unset, .unset, .unset, .unset, .unset, .unset, .unset, .unset, .unset, .unset] [(.int (9 : Int32)), (.int (q1 &&& (2147483647 : Int32)))])) t
    refine XS.iload X0.here hx rfl (hb hby at_11) rfl ?_
    show Steps p.tables e below (s₁.setTop (mkF m 13 #[.val (.int q0), .val (.int q1), .val (.int q2), .val (.int q3), .val (.int off), .unset, .unset, .unset, .unset, .unset, .unset, .unset, .unset, .unset, .unset, .unset] [(.int off), (.int (9 : Int32)), (.int (q1 &&& (2147483647 : Int32)))])) t
    refine XS.isub X0.here hx rfl (hb hby at_13) rfl ?_
    show Steps p.tables e below (s₁.setTop (mkF m 14 #[.val (.int q0), .val (.int q1), .val (.int q2), .val (.int q3), .val (.int off), .unset, .unset, .unset, .unset, .unset, .unset, .unset, .unset, .unset, .unset, .unset] [(.int ((9 : Int32) - off)), (.int (q1 &&& (2147483647 : Int32)))])) t
    refine iremM X0 hx rfl (hb hby at_14) rfl (own_nz ho) ?_
    show Steps p.tables e below (s₁.setTop (mkF m 15 #[.val (.int q0), .val (.int q1), .val (.int q2), .val (.int q3), .val (.int off), .unset, .unset, .unset, .unset, .unset, .unset, .unset, .unset, .unset, .unset, .unset] [(.int ((q1 &&& (2147483647 : Int32)) % ((9 : Int32) - off)))])) t
    refine XS.istore X0.here hx rfl (hb hby at_15) rfl (l' := #[.val (.int q0), .val (.int q1), .val (.int q2), .val (.int q3), .val (.int off), .val (.int ((q1 &&& (2147483647 : Int32)) % ((9 : Int32) - off))), .unset, .unset, .unset, .unset, .unset, .unset, .unset, .unset, .unset, .unset]) rfl ?_
    exact k
  obtain ⟨len, hlen⟩ : ∃ z, z = ((q1 &&& (2147483647 : Int32)) % ((9 : Int32) - off)) := ⟨_, rfl⟩
  have hl : 0 ≤ len.toInt ∧ len.toInt ≤ 8 - off.toInt := by rw [hlen]; exact own_len q1 ho
  rw [← hlen] at R2
  have ho1 : (off + 1).toInt = off.toInt + 1 := own_add (by rw [own_one]; omega) (by rw [own_one]; omega)
  have ho2 : (off + 2).toInt = off.toInt + 2 := own_add (by rw [own_two]; omega) (by rw [own_two]; omega)
  have ho3 : (off + 3).toInt = off.toInt + 3 := own_add (by rw [own_three]; omega) (by rw [own_three]; omega)
  have hol : (off + len).toInt = off.toInt + len.toInt := own_add (by omega) (by omega)
  have R4 : Rch p e below (s₁.setTop (entryFrame m #[(.int q0), (.int q1), (.int q2), (.int q3)] maxLocals)) s₁ (mkF m 19 #[.val (.int q0), .val (.int q1), .val (.int q2), .val (.int q3), .val (.int off), .val (.int len), .unset, .unset, .unset, .unset, .unset, .unset, .unset, .unset, .unset, .unset] [(.int (8 : Int32))]) := fun t k => by
    refine R2 t ?_
    refine XS.bipush X0.here hx rfl (hb hby at_17) ?_
    exact k
  obtain ⟨T3, h3, k3, X3, e3, E3, A3, st3⟩ := newP X0 hx hZ (hw _ (List.mem_of_getElem? (i := 1) rfl)) e0 (g := (mkF m 19 #[.val (.int q0), .val (.int q1), .val (.int q2), .val (.int q3), .val (.int off), .val (.int len), .unset, .unset, .unset, .unset, .unset, .unset, .unset, .unset, .unset, .unset] [(.int (8 : Int32))])) rfl (hb hby at_19) rfl (by decide) (cap := 8) (by decide) (by decide) (by decide) (by decide)
  obtain ⟨b3, g3⟩ : ∃ z, z = h0.size := ⟨_, rfl⟩
  rw [← g3] at A3 st3
  have g_b3 : n0 ≤ b3 := Nat.le_trans (Nat.le_trans Z0 K0.1) (Nat.le_of_eq g3.symm)
  have sz_b3 : h0.size ≤ b3 := Nat.le_trans K0.1 (Nat.le_of_eq g3.symm)
  have K3 : Keep h0 h3 [] := K0.ext E3
  have V3 : Arv Z h3 b3 k3 .byte (8 : Int32) [(.int (0 : Int32)), (.int (0 : Int32)), (.int (0 : Int32)), (.int (0 : Int32)), (.int (0 : Int32)), (.int (0 : Int32)), (.int (0 : Int32)), (.int (0 : Int32))] (.int (0 : Int32)) := (Arv.new A3 (by decide)).pad (pad_rep [] (.int (0 : Int32)) 8)
  have R6 : Rch p e below (s₁.setTop (entryFrame m #[(.int q0), (.int q1), (.int q2), (.int q3)] maxLocals)) T3 (mkF m 27 #[.val (.int q0), .val (.int q1), .val (.int q2), .val (.int q3), .val (.int off), .val (.int len), .val (.ref b3), .unset, .unset, .unset, .unset, .unset, .unset, .unset, .unset, .unset] [(.int q2), (.int (0 : Int32)), (.ref b3)]) := fun t k => by
    refine R4 t ?_
    refine st3 _ ?_
    show Steps p.tables e below (T3.setTop (mkF m 21 #[.val (.int q0), .val (.int q1), .val (.int q2), .val (.int q3), .val (.int off), .val (.int len), .unset, .unset, .unset, .unset, .unset, .unset, .unset, .unset, .unset, .unset] [(.ref b3)])) t
    refine XS.astore X3.here hx rfl (hb hby at_21) rfl rfl (l' := #[.val (.int q0), .val (.int q1), .val (.int q2), .val (.int q3), .val (.int off), .val (.int len), .val (.ref b3), .unset, .unset, .unset, .unset, .unset, .unset, .unset, .unset, .unset]) rfl ?_
    show Steps p.tables e below (T3.setTop (mkF m 23 #[.val (.int q0), .val (.int q1), .val (.int q2), .val (.int q3), .val (.int off), .val (.int len), .val (.ref b3), .unset, .unset, .unset, .unset, .unset, .unset, .unset, .unset, .unset] [])) t
    refine XS.aload X3.here hx rfl (hb hby at_23) rfl rfl ?_
    show Steps p.tables e below (T3.setTop (mkF m 25 #[.val (.int q0), .val (.int q1), .val (.int q2), .val (.int q3), .val (.int off), .val (.int len), .val (.ref b3), .unset, .unset, .unset, .unset, .unset, .unset, .unset, .unset, .unset] [(.ref b3)])) t
    refine XS.iconst X3.here hx rfl (hb hby at_25) ?_
    show Steps p.tables e below (T3.setTop (mkF m 26 #[.val (.int q0), .val (.int q1), .val (.int q2), .val (.int q3), .val (.int off), .val (.int len), .val (.ref b3), .unset, .unset, .unset, .unset, .unset, .unset, .unset, .unset, .unset] [(.int (0 : Int32)), (.ref b3)])) t
    refine XS.iloadN X3.here hx rfl (hb hby at_26) rfl ?_
    exact k
  obtain ⟨_, _, ⟨T5, L5, k5, n5⟩, -, X5, ⟨Lc5, hQ5, l5, y5, z5⟩, st5⟩ := Jvm.LawKit.callS X3 hx (y := (⟨"com/example/vestwork/vestwork/io/JsonScannerResetPinLaw", "pal", "(I)B"⟩ : MethodName)) hown (mvT hZ (hw _ (List.mem_of_getElem? (i := 2) rfl))) (mvT hZ (hw _ (List.mem_of_getElem? (i := 3) rfl))) (mvT hZ (hw _ (List.mem_of_getElem? (i := 4) rfl))) (mvT hZ (hw _ (List.mem_of_getElem? (i := 5) rfl))) (by decide) (backOf (W := 2) (rm_pal l Z a0 hw [] q2 h3 n0 (Nat.le_trans Z0 K3.1) ) hZ (hw _ (List.mem_of_getElem? (i := 5) rfl)) (hw _ (List.mem_of_getElem? (i := 4) rfl)) (by decide) (by decide)) (g := (mkF m 27 #[.val (.int q0), .val (.int q1), .val (.int q2), .val (.int q3), .val (.int off), .val (.int len), .val (.ref b3), .unset, .unset, .unset, .unset, .unset, .unset, .unset, .unset, .unset] [(.int q2), (.int (0 : Int32)), (.ref b3)])) rfl (by rw [hml]; rfl) (argsL := [(.int q2)]) (rest := [(.int (0 : Int32)), (.ref b3)]) (lenOf pd_10 rfl) rfl (by show 2 * 0 + _ ≤ _; exact Nat.le_of_eq rfl) (hb hby at_27) (fun _ _ => ⟨rfl, e3, (by decide : 1 + 0 ≤ _), (by decide : 8 + 0 ≤ _)⟩)
  dsimp only [Pt.U, Pt.locs, Pt.cells, Pt.slots] at X5 l5 y5 z5 st5 hQ5
  subst l5 y5 z5
  obtain ⟨rfl, N5q, e5⟩ := hQ5
  have N5 := Fr.app N0 N5q
  have R8 : Rch p e below (s₁.setTop (entryFrame m #[(.int q0), (.int q1), (.int q2), (.int q3)] maxLocals)) T5 (mkF m 30 #[.val (.int q0), .val (.int q1), .val (.int q2), .val (.int q3), .val (.int off), .val (.int len), .val (.ref b3), .unset, .unset, .unset, .unset, .unset, .unset, .unset, .unset, .unset] [(.int (own_pal q2)), (.int (0 : Int32)), (.ref b3)]) := fun t k => by
    refine R6 t ?_
    refine st5 _ ?_
    exact k
  obtain ⟨cl7, Ar7, q7, Sz7, N7_, Hs7, G7⟩ := id V3
  have hin7 : ¬ ((0 : Int32) < 0 ∨ cl7.slots.size ≤ ((0 : Int32)).toNatClampNeg) := inb_of Sz7 ⟨by decide, by decide⟩
  obtain ⟨T9, h9, X9, e9, W9, st9⟩ := stB X5 hx hZ e5 Ar7 (j := (0 : Int32)) hin7 (g := (mkF m 30 #[.val (.int q0), .val (.int q1), .val (.int q2), .val (.int q3), .val (.int off), .val (.int len), .val (.ref b3), .unset, .unset, .unset, .unset, .unset, .unset, .unset, .unset, .unset] [(.int (own_pal q2)), (.int (0 : Int32)), (.ref b3)])) rfl rfl (hb hby at_30)
  rw [own_pal_nar] at W9
  have V9 : Arv Z h9 b3 k3 .byte (8 : Int32) [(.int (own_pal q2)), (.int (0 : Int32)), (.int (0 : Int32)), (.int (0 : Int32)), (.int (0 : Int32)), (.int (0 : Int32)), (.int (0 : Int32)), (.int (0 : Int32))] (.int (0 : Int32)) := Arv.set Ar7 q7 Sz7 N7_ Hs7 G7 (by rw [← own_pal_nar]; exact fits_nar_byte _) W9 0 rfl (Nat.le_of_ble_eq_true rfl)
  have K9 : Keep h0 h9 [] := K3.wr W9 (Or.inr sz_b3)
  have N9 := Fr.snoc X9 N5 g_b3
  have R11 : Rch p e below (s₁.setTop (entryFrame m #[(.int q0), (.int q1), (.int q2), (.int q3)] maxLocals)) T9 (mkF m 37 #[.val (.int q0), .val (.int q1), .val (.int q2), .val (.int q3), .val (.int off), .val (.int len), .val (.ref b3), .unset, .unset, .unset, .unset, .unset, .unset, .unset, .unset, .unset] [(.int ((q2.toUInt32 >>> ((3 : Int32) &&& 31).toUInt32).toInt32)), (.int (1 : Int32)), (.ref b3)]) := fun t k => by
    refine R8 t ?_
    refine st9 _ ?_
    show Steps p.tables e below (T9.setTop (mkF m 31 #[.val (.int q0), .val (.int q1), .val (.int q2), .val (.int q3), .val (.int off), .val (.int len), .val (.ref b3), .unset, .unset, .unset, .unset, .unset, .unset, .unset, .unset, .unset] [])) t
    refine XS.aload X9.here hx rfl (hb hby at_31) rfl rfl ?_
    show Steps p.tables e below (T9.setTop (mkF m 33 #[.val (.int q0), .val (.int q1), .val (.int q2), .val (.int q3), .val (.int off), .val (.int len), .val (.ref b3), .unset, .unset, .unset, .unset, .unset, .unset, .unset, .unset, .unset] [(.ref b3)])) t
    refine XS.iconst X9.here hx rfl (hb hby at_33) ?_
    show Steps p.tables e below (T9.setTop (mkF m 34 #[.val (.int q0), .val (.int q1), .val (.int q2), .val (.int q3), .val (.int off), .val (.int len), .val (.ref b3), .unset, .unset, .unset, .unset, .unset, .unset, .unset, .unset, .unset] [(.int (1 : Int32)), (.ref b3)])) t
    refine XS.iloadN X9.here hx rfl (hb hby at_34) rfl ?_
    show Steps p.tables e below (T9.setTop (mkF m 35 #[.val (.int q0), .val (.int q1), .val (.int q2), .val (.int q3), .val (.int off), .val (.int len), .val (.ref b3), .unset, .unset, .unset, .unset, .unset, .unset, .unset, .unset, .unset] [(.int q2), (.int (1 : Int32)), (.ref b3)])) t
    refine XS.iconst X9.here hx rfl (hb hby at_35) ?_
    show Steps p.tables e below (T9.setTop (mkF m 36 #[.val (.int q0), .val (.int q1), .val (.int q2), .val (.int q3), .val (.int off), .val (.int len), .val (.ref b3), .unset, .unset, .unset, .unset, .unset, .unset, .unset, .unset, .unset] [(.int (3 : Int32)), (.int q2), (.int (1 : Int32)), (.ref b3)])) t
    refine XS.iushr X9.here hx rfl (hb hby at_36) rfl ?_
    exact k
  obtain ⟨_, _, ⟨T10, L10, k10, n10⟩, -, X10, ⟨Lc10, hQ10, l10, y10, z10⟩, st10⟩ := Jvm.LawKit.callS X9 hx (y := (⟨"com/example/vestwork/vestwork/io/JsonScannerResetPinLaw", "pal", "(I)B"⟩ : MethodName)) hown (mvT hZ (hw _ (List.mem_of_getElem? (i := 2) rfl))) (mvT hZ (hw _ (List.mem_of_getElem? (i := 3) rfl))) (mvT hZ (hw _ (List.mem_of_getElem? (i := 4) rfl))) (mvT hZ (hw _ (List.mem_of_getElem? (i := 5) rfl))) (by decide) (backOf (W := 2) (rm_pal l Z a0 hw [] ((q2.toUInt32 >>> ((3 : Int32) &&& 31).toUInt32).toInt32) h9 n0 (Nat.le_trans Z0 K9.1) ) hZ (hw _ (List.mem_of_getElem? (i := 5) rfl)) (hw _ (List.mem_of_getElem? (i := 4) rfl)) (by decide) (by decide)) (g := (mkF m 37 #[.val (.int q0), .val (.int q1), .val (.int q2), .val (.int q3), .val (.int off), .val (.int len), .val (.ref b3), .unset, .unset, .unset, .unset, .unset, .unset, .unset, .unset, .unset] [(.int ((q2.toUInt32 >>> ((3 : Int32) &&& 31).toUInt32).toInt32)), (.int (1 : Int32)), (.ref b3)])) rfl (by rw [hml]; rfl) (argsL := [(.int ((q2.toUInt32 >>> ((3 : Int32) &&& 31).toUInt32).toInt32))]) (rest := [(.int (1 : Int32)), (.ref b3)]) (lenOf pd_10 rfl) rfl (by show 2 * 0 + _ ≤ _; exact Nat.le_of_eq rfl) (hb hby at_37) (fun _ _ => ⟨rfl, e9, (by decide : 1 + 0 ≤ _), (by decide : 8 + 0 ≤ _)⟩)
  dsimp only [Pt.U, Pt.locs, Pt.cells, Pt.slots] at X10 l10 y10 z10 st10 hQ10
  subst l10 y10 z10
  obtain ⟨rfl, N10q, e10⟩ := hQ10
  have N10 := Fr.app N9 N10q
  have R13 : Rch p e below (s₁.setTop (entryFrame m #[(.int q0), (.int q1), (.int q2), (.int q3)] maxLocals)) T10 (mkF m 40 #[.val (.int q0), .val (.int q1), .val (.int q2), .val (.int q3), .val (.int off), .val (.int len), .val (.ref b3), .unset, .unset, .unset, .unset, .unset, .unset, .unset, .unset, .unset] [(.int (own_pal ((q2.toUInt32 >>> ((3 : Int32) &&& 31).toUInt32).toInt32))), (.int (1 : Int32)), (.ref b3)]) := fun t k => by
    refine R11 t ?_
    refine st10 _ ?_
    exact k
  obtain ⟨cl12, Ar12, q12, Sz12, N12_, Hs12, G12⟩ := id V9
  have hin12 : ¬ ((1 : Int32) < 0 ∨ cl12.slots.size ≤ ((1 : Int32)).toNatClampNeg) := inb_of Sz12 ⟨by decide, by decide⟩
  obtain ⟨T14, h14, X14, e14, W14, st14⟩ := stB X10 hx hZ e10 Ar12 (j := (1 : Int32)) hin12 (g := (mkF m 40 #[.val (.int q0), .val (.int q1), .val (.int q2), .val (.int q3), .val (.int off), .val (.int len), .val (.ref b3), .unset, .unset, .unset, .unset, .unset, .unset, .unset, .unset, .unset] [(.int (own_pal ((q2.toUInt32 >>> ((3 : Int32) &&& 31).toUInt32).toInt32))), (.int (1 : Int32)), (.ref b3)])) rfl rfl (hb hby at_40)
  rw [own_pal_nar] at W14
  have V14 : Arv Z h14 b3 k3 .byte (8 : Int32) [(.int (own_pal q2)), (.int (own_pal ((q2.toUInt32 >>> ((3 : Int32) &&& 31).toUInt32).toInt32))), (.int (0 : Int32)), (.int (0 : Int32)), (.int (0 : Int32)), (.int (0 : Int32)), (.int (0 : Int32)), (.int (0 : Int32))] (.int (0 : Int32)) := Arv.set Ar12 q12 Sz12 N12_ Hs12 G12 (by rw [← own_pal_nar]; exact fits_nar_byte _) W14 1 rfl (Nat.le_of_ble_eq_true rfl)
  have K14 : Keep h0 h14 [] := K9.wr W14 (Or.inr sz_b3)
  have N14 := Fr.snoc X14 N10 g_b3
  have R16 : Rch p e below (s₁.setTop (entryFrame m #[(.int q0), (.int q1), (.int q2), (.int q3)] maxLocals)) T14 (mkF m 48 #[.val (.int q0), .val (.int q1), .val (.int q2), .val (.int q3), .val (.int off), .val (.int len), .val (.ref b3), .unset, .unset, .unset, .unset, .unset, .unset, .unset, .unset, .unset] [(.int ((q2.toUInt32 >>> ((6 : Int32) &&& 31).toUInt32).toInt32)), (.int (2 : Int32)), (.ref b3)]) := fun t k => by
    refine R13 t ?_
    refine st14 _ ?_
    show Steps p.tables e below (T14.setTop (mkF m 41 #[.val (.int q0), .val (.int q1), .val (.int q2), .val (.int q3), .val (.int off), .val (.int len), .val (.ref b3), .unset, .unset, .unset, .unset, .unset, .unset, .unset, .unset, .unset] [])) t
    refine XS.aload X14.here hx rfl (hb hby at_41) rfl rfl ?_
    show Steps p.tables e below (T14.setTop (mkF m 43 #[.val (.int q0), .val (.int q1), .val (.int q2), .val (.int q3), .val (.int off), .val (.int len), .val (.ref b3), .unset, .unset, .unset, .unset, .unset, .unset, .unset, .unset, .unset] [(.ref b3)])) t
    refine XS.iconst X14.here hx rfl (hb hby at_43) ?_
    show Steps p.tables e below (T14.setTop (mkF m 44 #[.val (.int q0), .val (.int q1), .val (.int q2), .val (.int q3), .val (.int off), .val (.int len), .val (.ref b3), .unset, .unset, .unset, .unset, .unset, .unset, .unset, .unset, .unset] [(.int (2 : Int32)), (.ref b3)])) t
    refine XS.iloadN X14.here hx rfl (hb hby at_44) rfl ?_
    show Steps p.tables e below (T14.setTop (mkF m 45 #[.val (.int q0), .val (.int q1), .val (.int q2), .val (.int q3), .val (.int off), .val (.int len), .val (.ref b3), .unset, .unset, .unset, .unset, .unset, .unset, .unset, .unset, .unset] [(.int q2), (.int (2 : Int32)), (.ref b3)])) t
    refine XS.bipush X14.here hx rfl (hb hby at_45) ?_
    show Steps p.tables e below (T14.setTop (mkF m 47 #[.val (.int q0), .val (.int q1), .val (.int q2), .val (.int q3), .val (.int off), .val (.int len), .val (.ref b3), .unset, .unset, .unset, .unset, .unset, .unset, .unset, .unset, .unset] [(.int (6 : Int32)), (.int q2), (.int (2 : Int32)), (.ref b3)])) t
    refine XS.iushr X14.here hx rfl (hb hby at_47) rfl ?_
    exact k
  obtain ⟨_, _, ⟨T15, L15, k15, n15⟩, -, X15, ⟨Lc15, hQ15, l15, y15, z15⟩, st15⟩ := Jvm.LawKit.callS X14 hx (y := (⟨"com/example/vestwork/vestwork/io/JsonScannerResetPinLaw", "pal", "(I)B"⟩ : MethodName)) hown (mvT hZ (hw _ (List.mem_of_getElem? (i := 2) rfl))) (mvT hZ (hw _ (List.mem_of_getElem? (i := 3) rfl))) (mvT hZ (hw _ (List.mem_of_getElem? (i := 4) rfl))) (mvT hZ (hw _ (List.mem_of_getElem? (i := 5) rfl))) (by decide) (backOf (W := 2) (rm_pal l Z a0 hw [] ((q2.toUInt32 >>> ((6 : Int32) &&& 31).toUInt32).toInt32) h14 n0 (Nat.le_trans Z0 K14.1) ) hZ (hw _ (List.mem_of_getElem? (i := 5) rfl)) (hw _ (List.mem_of_getElem? (i := 4) rfl)) (by decide) (by decide)) (g := (mkF m 48 #[.val (.int q0), .val (.int q1), .val (.int q2), .val (.int q3), .val (.int off), .val (.int len), .val (.ref b3), .unset, .unset, .unset, .unset, .unset, .unset, .unset, .unset, .unset] [(.int ((q2.toUInt32 >>> ((6 : Int32) &&& 31).toUInt32).toInt32)), (.int (2 : Int32)), (.ref b3)])) rfl (by rw [hml]; rfl) (argsL := [(.int ((q2.toUInt32 >>> ((6 : Int32) &&& 31).toUInt32).toInt32))]) (rest := [(.int (2 : Int32)), (.ref b3)]) (lenOf pd_10 rfl) rfl (by show 2 * 0 + _ ≤ _; exact Nat.le_of_eq rfl) (hb hby at_48) (fun _ _ => ⟨rfl, e14, (by decide : 1 + 0 ≤ _), (by decide : 8 + 0 ≤ _)⟩)
  dsimp only [Pt.U, Pt.locs, Pt.cells, Pt.slots] at X15 l15 y15 z15 st15 hQ15
  subst l15 y15 z15
  obtain ⟨rfl, N15q, e15⟩ := hQ15
  have N15 := Fr.app N14 N15q
  have R18 : Rch p e below (s₁.setTop (entryFrame m #[(.int q0), (.int q1), (.int q2), (.int q3)] maxLocals)) T15 (mkF m 51 #[.val (.int q0), .val (.int q1), .val (.int q2), .val (.int q3), .val (.int off), .val (.int len), .val (.ref b3), .unset, .unset, .unset, .unset, .unset, .unset, .unset, .unset, .unset] [(.int (own_pal ((q2.toUInt32 >>> ((6 : Int32) &&& 31).toUInt32).toInt32))), (.int (2 : Int32)), (.ref b3)]) := fun t k => by
    refine R16 t ?_
    refine st15 _ ?_
    exact k
  obtain ⟨cl17, Ar17, q17, Sz17, N17_, Hs17, G17⟩ := id V14
  have hin17 : ¬ ((2 : Int32) < 0 ∨ cl17.slots.size ≤ ((2 : Int32)).toNatClampNeg) := inb_of Sz17 ⟨by decide, by decide⟩
  obtain ⟨T19, h19, X19, e19, W19, st19⟩ := stB X15 hx hZ e15 Ar17 (j := (2 : Int32)) hin17 (g := (mkF m 51 #[.val (.int q0), .val (.int q1), .val (.int q2), .val (.int q3), .val (.int off), .val (.int len), .val (.ref b3), .unset, .unset, .unset, .unset, .unset, .unset, .unset, .unset, .unset] [(.int (own_pal ((q2.toUInt32 >>> ((6 : Int32) &&& 31).toUInt32).toInt32))), (.int (2 : Int32)), (.ref b3)])) rfl rfl (hb hby at_51)
  rw [own_pal_nar] at W19
  have V19 : Arv Z h19 b3 k3 .byte (8 : Int32) [(.int (own_pal q2)), (.int (own_pal ((q2.toUInt32 >>> ((3 : Int32) &&& 31).toUInt32).toInt32))), (.int (own_pal ((q2.toUInt32 >>> ((6 : Int32) &&& 31).toUInt32).toInt32))), (.int (0 : Int32)), (.int (0 : Int32)), (.int (0 : Int32)), (.int (0 : Int32)), (.int (0 : Int32))] (.int (0 : Int32)) := Arv.set Ar17 q17 Sz17 N17_ Hs17 G17 (by rw [← own_pal_nar]; exact fits_nar_byte _) W19 2 rfl (Nat.le_of_ble_eq_true rfl)
  have K19 : Keep h0 h19 [] := K14.wr W19 (Or.inr sz_b3)
  have N19 := Fr.snoc X19 N15 g_b3
  have R21 : Rch p e below (s₁.setTop (entryFrame m #[(.int q0), (.int q1), (.int q2), (.int q3)] maxLocals)) T19 (mkF m 59 #[.val (.int q0), .val (.int q1), .val (.int q2), .val (.int q3), .val (.int off), .val (.int len), .val (.ref b3), .unset, .unset, .unset, .unset, .unset, .unset, .unset, .unset, .unset] [(.int ((q2.toUInt32 >>> ((9 : Int32) &&& 31).toUInt32).toInt32)), (.int (3 : Int32)), (.ref b3)]) := fun t k => by
    refine R18 t ?_
    refine st19 _ ?_
    show Steps p.tables e below (T19.setTop (mkF m 52 #[.val (.int q0), .val (.int q1), .val (.int q2), .val (.int q3), .val (.int off), .val (.int len), .val (.ref b3), .unset, .unset, .unset, .unset, .unset, .unset, .unset, .unset, .unset] [])) t
    refine XS.aload X19.here hx rfl (hb hby at_52) rfl rfl ?_
    show Steps p.tables e below (T19.setTop (mkF m 54 #[.val (.int q0), .val (.int q1), .val (.int q2), .val (.int q3), .val (.int off), .val (.int len), .val (.ref b3), .unset, .unset, .unset, .unset, .unset, .unset, .unset, .unset, .unset] [(.ref b3)])) t
    refine XS.iconst X19.here hx rfl (hb hby at_54) ?_
    show Steps p.tables e below (T19.setTop (mkF m 55 #[.val (.int q0), .val (.int q1), .val (.int q2), .val (.int q3), .val (.int off), .val (.int len), .val (.ref b3), .unset, .unset, .unset, .unset, .unset, .unset, .unset, .unset, .unset] [(.int (3 : Int32)), (.ref b3)])) t
    refine XS.iloadN X19.here hx rfl (hb hby at_55) rfl ?_
    show Steps p.tables e below (T19.setTop (mkF m 56 #[.val (.int q0), .val (.int q1), .val (.int q2), .val (.int q3), .val (.int off), .val (.int len), .val (.ref b3), .unset, .unset, .unset, .unset, .unset, .unset, .unset, .unset, .unset] [(.int q2), (.int (3 : Int32)), (.ref b3)])) t
    refine XS.bipush X19.here hx rfl (hb hby at_56) ?_
    show Steps p.tables e below (T19.setTop (mkF m 58 #[.val (.int q0), .val (.int q1), .val (.int q2), .val (.int q3), .val (.int off), .val (.int len), .val (.ref b3), .unset, .unset, .unset, .unset, .unset, .unset, .unset, .unset, .unset] [(.int (9 : Int32)), (.int q2), (.int (3 : Int32)), (.ref b3)])) t
    refine XS.iushr X19.here hx rfl (hb hby at_58) rfl ?_
    exact k
  obtain ⟨_, _, ⟨T20, L20, k20, n20⟩, -, X20, ⟨Lc20, hQ20, l20, y20, z20⟩, st20⟩ := Jvm.LawKit.callS X19 hx (y := (⟨"com/example/vestwork/vestwork/io/JsonScannerResetPinLaw", "pal", "(I)B"⟩ : MethodName)) hown (mvT hZ (hw _ (List.mem_of_getElem? (i := 2) rfl))) (mvT hZ (hw _ (List.mem_of_getElem? (i := 3) rfl))) (mvT hZ (hw _ (List.mem_of_getElem? (i := 4) rfl))) (mvT hZ (hw _ (List.mem_of_getElem? (i := 5) rfl))) (by decide) (backOf (W := 2) (rm_pal l Z a0 hw [] ((q2.toUInt32 >>> ((9 : Int32) &&& 31).toUInt32).toInt32) h19 n0 (Nat.le_trans Z0 K19.1) ) hZ (hw _ (List.mem_of_getElem? (i := 5) rfl)) (hw _ (List.mem_of_getElem? (i := 4) rfl)) (by decide) (by decide)) (g := (mkF m 59 #[.val (.int q0), .val (.int q1), .val (.int q2), .val (.int q3), .val (.int off), .val (.int len), .val (.ref b3), .unset, .unset, .unset, .unset, .unset, .unset, .unset, .unset, .unset] [(.int ((q2.toUInt32 >>> ((9 : Int32) &&& 31).toUInt32).toInt32)), (.int (3 : Int32)), (.ref b3)])) rfl (by rw [hml]; rfl) (argsL := [(.int ((q2.toUInt32 >>> ((9 : Int32) &&& 31).toUInt32).toInt32))]) (rest := [(.int (3 : Int32)), (.ref b3)]) (lenOf pd_10 rfl) rfl (by show 2 * 0 + _ ≤ _; exact Nat.le_of_eq rfl) (hb hby at_59) (fun _ _ => ⟨rfl, e19, (by decide : 1 + 0 ≤ _), (by decide : 8 + 0 ≤ _)⟩)
  dsimp only [Pt.U, Pt.locs, Pt.cells, Pt.slots] at X20 l20 y20 z20 st20 hQ20
  subst l20 y20 z20
  obtain ⟨rfl, N20q, e20⟩ := hQ20
  have N20 := Fr.app N19 N20q
  have R23 : Rch p e below (s₁.setTop (entryFrame m #[(.int q0), (.int q1), (.int q2), (.int q3)] maxLocals)) T20 (mkF m 62 #[.val (.int q0), .val (.int q1), .val (.int q2), .val (.int q3), .val (.int off), .val (.int len), .val (.ref b3), .unset, .unset, .unset, .unset, .unset, .unset, .unset, .unset, .unset] [(.int (own_pal ((q2.toUInt32 >>> ((9 : Int32) &&& 31).toUInt32).toInt32))), (.int (3 : Int32)), (.ref b3)]) := fun t k => by
    refine R21 t ?_
    refine st20 _ ?_
    exact k
  obtain ⟨cl22, Ar22, q22, Sz22, N22_, Hs22, G22⟩ := id V19
  have hin22 : ¬ ((3 : Int32) < 0 ∨ cl22.slots.size ≤ ((3 : Int32)).toNatClampNeg) := inb_of Sz22 ⟨by decide, by decide⟩
  obtain ⟨T24, h24, X24, e24, W24, st24⟩ := stB X20 hx hZ e20 Ar22 (j := (3 : Int32)) hin22 (g := (mkF m 62 #[.val (.int q0), .val (.int q1), .val (.int q2), .val (.int q3), .val (.int off), .val (.int len), .val (.ref b3), .unset, .unset, .unset, .unset, .unset, .unset, .unset, .unset, .unset] [(.int (own_pal ((q2.toUInt32 >>> ((9 : Int32) &&& 31).toUInt32).toInt32))), (.int (3 : Int32)), (.ref b3)])) rfl rfl (hb hby at_62)
  rw [own_pal_nar] at W24
  have V24 : Arv Z h24 b3 k3 .byte (8 : Int32) [(.int (own_pal q2)), (.int (own_pal ((q2.toUInt32 >>> ((3 : Int32) &&& 31).toUInt32).toInt32))), (.int (own_pal ((q2.toUInt32 >>> ((6 : Int32) &&& 31).toUInt32).toInt32))), (.int (own_pal ((q2.toUInt32 >>> ((9 : Int32) &&& 31).toUInt32).toInt32))), (.int (0 : Int32)), (.int (0 : Int32)), (.int (0 : Int32)), (.int (0 : Int32))] (.int (0 : Int32)) := Arv.set Ar22 q22 Sz22 N22_ Hs22 G22 (by rw [← own_pal_nar]; exact fits_nar_byte _) W24 3 rfl (Nat.le_of_ble_eq_true rfl)
  have K24 : Keep h0 h24 [] := K19.wr W24 (Or.inr sz_b3)
  have N24 := Fr.snoc X24 N20 g_b3
  have R26 : Rch p e below (s₁.setTop (entryFrame m #[(.int q0), (.int q1), (.int q2), (.int q3)] maxLocals)) T24 (mkF m 70 #[.val (.int q0), .val (.int q1), .val (.int q2), .val (.int q3), .val (.int off), .val (.int len), .val (.ref b3), .unset, .unset, .unset, .unset, .unset, .unset, .unset, .unset, .unset] [(.int ((q2.toUInt32 >>> ((12 : Int32) &&& 31).toUInt32).toInt32)), (.int (4 : Int32)), (.ref b3)]) := fun t k => by
    refine R23 t ?_
    refine st24 _ ?_
    show Steps p.tables e below (T24.setTop (mkF m 63 #[.val (.int q0), .val (.int q1), .val (.int q2), .val (.int q3), .val (.int off), .val (.int len), .val (.ref b3), .unset, .unset, .unset, .unset, .unset, .unset, .unset, .unset, .unset] [])) t
    refine XS.aload X24.here hx rfl (hb hby at_63) rfl rfl ?_
    show Steps p.tables e below (T24.setTop (mkF m 65 #[.val (.int q0), .val (.int q1), .val (.int q2), .val (.int q3), .val (.int off), .val (.int len), .val (.ref b3), .unset, .unset, .unset, .unset, .unset, .unset, .unset, .unset, .unset] [(.ref b3)])) t
    refine XS.iconst X24.here hx rfl (hb hby at_65) ?_
    show Steps p.tables e below (T24.setTop (mkF m 66 #[.val (.int q0), .val (.int q1), .val (.int q2), .val (.int q3), .val (.int off), .val (.int len), .val (.ref b3), .unset, .unset, .unset, .unset, .unset, .unset, .unset, .unset, .unset] [(.int (4 : Int32)), (.ref b3)])) t
    refine XS.iloadN X24.here hx rfl (hb hby at_66) rfl ?_
    show Steps p.tables e below (T24.setTop (mkF m 67 #[.val (.int q0), .val (.int q1), .val (.int q2), .val (.int q3), .val (.int off), .val (.int len), .val (.ref b3), .unset, .unset, .unset, .unset, .unset, .unset, .unset, .unset, .unset] [(.int q2), (.int (4 : Int32)), (.ref b3)])) t
    refine XS.bipush X24.here hx rfl (hb hby at_67) ?_
    show Steps p.tables e below (T24.setTop (mkF m 69 #[.val (.int q0), .val (.int q1), .val (.int q2), .val (.int q3), .val (.int off), .val (.int len), .val (.ref b3), .unset, .unset, .unset, .unset, .unset, .unset, .unset, .unset, .unset] [(.int (12 : Int32)), (.int q2), (.int (4 : Int32)), (.ref b3)])) t
    refine XS.iushr X24.here hx rfl (hb hby at_69) rfl ?_
    exact k
  obtain ⟨_, _, ⟨T25, L25, k25, n25⟩, -, X25, ⟨Lc25, hQ25, l25, y25, z25⟩, st25⟩ := Jvm.LawKit.callS X24 hx (y := (⟨"com/example/vestwork/vestwork/io/JsonScannerResetPinLaw", "pal", "(I)B"⟩ : MethodName)) hown (mvT hZ (hw _ (List.mem_of_getElem? (i := 2) rfl))) (mvT hZ (hw _ (List.mem_of_getElem? (i := 3) rfl))) (mvT hZ (hw _ (List.mem_of_getElem? (i := 4) rfl))) (mvT hZ (hw _ (List.mem_of_getElem? (i := 5) rfl))) (by decide) (backOf (W := 2) (rm_pal l Z a0 hw [] ((q2.toUInt32 >>> ((12 : Int32) &&& 31).toUInt32).toInt32) h24 n0 (Nat.le_trans Z0 K24.1) ) hZ (hw _ (List.mem_of_getElem? (i := 5) rfl)) (hw _ (List.mem_of_getElem? (i := 4) rfl)) (by decide) (by decide)) (g := (mkF m 70 #[.val (.int q0), .val (.int q1), .val (.int q2), .val (.int q3), .val (.int off), .val (.int len), .val (.ref b3), .unset, .unset, .unset, .unset, .unset, .unset, .unset, .unset, .unset] [(.int ((q2.toUInt32 >>> ((12 : Int32) &&& 31).toUInt32).toInt32)), (.int (4 : Int32)), (.ref b3)])) rfl (by rw [hml]; rfl) (argsL := [(.int ((q2.toUInt32 >>> ((12 : Int32) &&& 31).toUInt32).toInt32))]) (rest := [(.int (4 : Int32)), (.ref b3)]) (lenOf pd_10 rfl) rfl (by show 2 * 0 + _ ≤ _; exact Nat.le_of_eq rfl) (hb hby at_70) (fun _ _ => ⟨rfl, e24, (by decide : 1 + 0 ≤ _), (by decide : 8 + 0 ≤ _)⟩)
  dsimp only [Pt.U, Pt.locs, Pt.cells, Pt.slots] at X25 l25 y25 z25 st25 hQ25
  subst l25 y25 z25
  obtain ⟨rfl, N25q, e25⟩ := hQ25
  have N25 := Fr.app N24 N25q
  have R28 : Rch p e below (s₁.setTop (entryFrame m #[(.int q0), (.int q1), (.int q2), (.int q3)] maxLocals)) T25 (mkF m 73 #[.val (.int q0), .val (.int q1), .val (.int q2), .val (.int q3), .val (.int off), .val (.int len), .val (.ref b3), .unset, .unset, .unset, .unset, .unset, .unset, .unset, .unset, .unset] [(.int (own_pal ((q2.toUInt32 >>> ((12 : Int32) &&& 31).toUInt32).toInt32))), (.int (4 : Int32)), (.ref b3)]) := fun t k => by
    refine R26 t ?_
    refine st25 _ ?_
    exact k
  obtain ⟨cl27, Ar27, q27, Sz27, N27_, Hs27, G27⟩ := id V24
  have hin27 : ¬ ((4 : Int32) < 0 ∨ cl27.slots.size ≤ ((4 : Int32)).toNatClampNeg) := inb_of Sz27 ⟨by decide, by decide⟩
  obtain ⟨T29, h29, X29, e29, W29, st29⟩ := stB X25 hx hZ e25 Ar27 (j := (4 : Int32)) hin27 (g := (mkF m 73 #[.val (.int q0), .val (.int q1), .val (.int q2), .val (.int q3), .val (.int off), .val (.int len), .val (.ref b3), .unset, .unset, .unset, .unset, .unset, .unset, .unset, .unset, .unset] [(.int (own_pal ((q2.toUInt32 >>> ((12 : Int32) &&& 31).toUInt32).toInt32))), (.int (4 : Int32)), (.ref b3)])) rfl rfl (hb hby at_73)
  rw [own_pal_nar] at W29
  have V29 : Arv Z h29 b3 k3 .byte (8 : Int32) [(.int (own_pal q2)), (.int (own_pal ((q2.toUInt32 >>> ((3 : Int32) &&& 31).toUInt32).toInt32))), (.int (own_pal ((q2.toUInt32 >>> ((6 : Int32) &&& 31).toUInt32).toInt32))), (.int (own_pal ((q2.toUInt32 >>> ((9 : Int32) &&& 31).toUInt32).toInt32))), (.int (own_pal ((q2.toUInt32 >>> ((12 : Int32) &&& 31).toUInt32).toInt32))), (.int (0 : Int32)), (.int (0 : Int32)), (.int (0 : Int32))] (.int (0 : Int32)) := Arv.set Ar27 q27 Sz27 N27_ Hs27 G27 (by rw [← own_pal_nar]; exact fits_nar_byte _) W29 4 rfl (Nat.le_of_ble_eq_true rfl)
  have K29 : Keep h0 h29 [] := K24.wr W29 (Or.inr sz_b3)
  have N29 := Fr.snoc X29 N25 g_b3
  have R31 : Rch p e below (s₁.setTop (entryFrame m #[(.int q0), (.int q1), (.int q2), (.int q3)] maxLocals)) T29 (mkF m 81 #[.val (.int q0), .val (.int q1), .val (.int q2), .val (.int q3), .val (.int off), .val (.int len), .val (.ref b3), .unset, .unset, .unset, .unset, .unset, .unset, .unset, .unset, .unset] [(.int ((q2.toUInt32 >>> ((15 : Int32) &&& 31).toUInt32).toInt32)), (.int (5 : Int32)), (.ref b3)]) := fun t k => by
    refine R28 t ?_
    refine st29 _ ?_
    show Steps p.tables e below (T29.setTop (mkF m 74 #[.val (.int q0), .val (.int q1), .val (.int q2), .val (.int q3), .val (.int off), .val (.int len), .val (.ref b3), .unset, .unset, .unset, .unset, .unset, .unset, .unset, .unset, .unset] [])) t
    refine XS.aload X29.here hx rfl (hb hby at_74) rfl rfl ?_
    show Steps p.tables e below (T29.setTop (mkF m 76 #[.val (.int q0), .val (.int q1), .val (.int q2), .val (.int q3), .val (.int off), .val (.int len), .val (.ref b3), .unset, .unset, .unset, .unset, .unset, .unset, .unset, .unset, .unset] [(.ref b3)])) t
    refine XS.iconst X29.here hx rfl (hb hby at_76) ?_
    show Steps p.tables e below (T29.setTop (mkF m 77 #[.val (.int q0), .val (.int q1), .val (.int q2), .val (.int q3), .val (.int off), .val (.int len), .val (.ref b3), .unset, .unset, .unset, .unset, .unset, .unset, .unset, .unset, .unset] [(.int (5 : Int32)), (.ref b3)])) t
    refine XS.iloadN X29.here hx rfl (hb hby at_77) rfl ?_
    show Steps p.tables e below (T29.setTop (mkF m 78 #[.val (.int q0), .val (.int q1), .val (.int q2), .val (.int q3), .val (.int off), .val (.int len), .val (.ref b3), .unset, .unset, .unset, .unset, .unset, .unset, .unset, .unset, .unset] [(.int q2), (.int (5 : Int32)), (.ref b3)])) t
    refine XS.bipush X29.here hx rfl (hb hby at_78) ?_
    show Steps p.tables e below (T29.setTop (mkF m 80 #[.val (.int q0), .val (.int q1), .val (.int q2), .val (.int q3), .val (.int off), .val (.int len), .val (.ref b3), .unset, .unset, .unset, .unset, .unset, .unset, .unset, .unset, .unset] [(.int (15 : Int32)), (.int q2), (.int (5 : Int32)), (.ref b3)])) t
    refine XS.iushr X29.here hx rfl (hb hby at_80) rfl ?_
    exact k
  obtain ⟨_, _, ⟨T30, L30, k30, n30⟩, -, X30, ⟨Lc30, hQ30, l30, y30, z30⟩, st30⟩ := Jvm.LawKit.callS X29 hx (y := (⟨"com/example/vestwork/vestwork/io/JsonScannerResetPinLaw", "pal", "(I)B"⟩ : MethodName)) hown (mvT hZ (hw _ (List.mem_of_getElem? (i := 2) rfl))) (mvT hZ (hw _ (List.mem_of_getElem? (i := 3) rfl))) (mvT hZ (hw _ (List.mem_of_getElem? (i := 4) rfl))) (mvT hZ (hw _ (List.mem_of_getElem? (i := 5) rfl))) (by decide) (backOf (W := 2) (rm_pal l Z a0 hw [] ((q2.toUInt32 >>> ((15 : Int32) &&& 31).toUInt32).toInt32) h29 n0 (Nat.le_trans Z0 K29.1) ) hZ (hw _ (List.mem_of_getElem? (i := 5) rfl)) (hw _ (List.mem_of_getElem? (i := 4) rfl)) (by decide) (by decide)) (g := (mkF m 81 #[.val (.int q0), .val (.int q1), .val (.int q2), .val (.int q3), .val (.int off), .val (.int len), .val (.ref b3), .unset, .unset, .unset, .unset, .unset, .unset, .unset, .unset, .unset] [(.int ((q2.toUInt32 >>> ((15 : Int32) &&& 31).toUInt32).toInt32)), (.int (5 : Int32)), (.ref b3)])) rfl (by rw [hml]; rfl) (argsL := [(.int ((q2.toUInt32 >>> ((15 : Int32) &&& 31).toUInt32).toInt32))]) (rest := [(.int (5 : Int32)), (.ref b3)]) (lenOf pd_10 rfl) rfl (by show 2 * 0 + _ ≤ _; exact Nat.le_of_eq rfl) (hb hby at_81) (fun _ _ => ⟨rfl, e29, (by decide : 1 + 0 ≤ _), (by decide : 8 + 0 ≤ _)⟩)
  dsimp only [Pt.U, Pt.locs, Pt.cells, Pt.slots] at X30 l30 y30 z30 st30 hQ30
  subst l30 y30 z30
  obtain ⟨rfl, N30q, e30⟩ := hQ30
  have N30 := Fr.app N29 N30q
  have R33 : Rch p e below (s₁.setTop (entryFrame m #[(.int q0), (.int q1), (.int q2), (.int q3)] maxLocals)) T30 (mkF m 84 #[.val (.int q0), .val (.int q1), .val (.int q2), .val (.int q3), .val (.int off), .val (.int len), .val (.ref b3), .unset, .unset, .unset, .unset, .unset, .unset, .unset, .unset, .unset] [(.int (own_pal ((q2.toUInt32 >>> ((15 : Int32) &&& 31).toUInt32).toInt32))), (.int (5 : Int32)), (.ref b3)]) := fun t k => by
    refine R31 t ?_
    refine st30 _ ?_
    exact k
  obtain ⟨cl32, Ar32, q32, Sz32, N32_, Hs32, G32⟩ := id V29
  have hin32 : ¬ ((5 : Int32) < 0 ∨ cl32.slots.size ≤ ((5 : Int32)).toNatClampNeg) := inb_of Sz32 ⟨by decide, by decide⟩
  obtain ⟨T34, h34, X34, e34, W34, st34⟩ := stB X30 hx hZ e30 Ar32 (j := (5 : Int32)) hin32 (g := (mkF m 84 #[.val (.int q0), .val (.int q1), .val (.int q2), .val (.int q3), .val (.int off), .val (.int len), .val (.ref b3), .unset, .unset, .unset, .unset, .unset, .unset, .unset, .unset, .unset] [(.int (own_pal ((q2.toUInt32 >>> ((15 : Int32) &&& 31).toUInt32).toInt32))), (.int (5 : Int32)), (.ref b3)])) rfl rfl (hb hby at_84)
  rw [own_pal_nar] at W34
  have V34 : Arv Z h34 b3 k3 .byte (8 : Int32) [(.int (own_pal q2)), (.int (own_pal ((q2.toUInt32 >>> ((3 : Int32) &&& 31).toUInt32).toInt32))), (.int (own_pal ((q2.toUInt32 >>> ((6 : Int32) &&& 31).toUInt32).toInt32))), (.int (own_pal ((q2.toUInt32 >>> ((9 : Int32) &&& 31).toUInt32).toInt32))), (.int (own_pal ((q2.toUInt32 >>> ((12 : Int32) &&& 31).toUInt32).toInt32))), (.int (own_pal ((q2.toUInt32 >>> ((15 : Int32) &&& 31).toUInt32).toInt32))), (.int (0 : Int32)), (.int (0 : Int32))] (.int (0 : Int32)) := Arv.set Ar32 q32 Sz32 N32_ Hs32 G32 (by rw [← own_pal_nar]; exact fits_nar_byte _) W34 5 rfl (Nat.le_of_ble_eq_true rfl)
  have K34 : Keep h0 h34 [] := K29.wr W34 (Or.inr sz_b3)
  have N34 := Fr.snoc X34 N30 g_b3
  have R36 : Rch p e below (s₁.setTop (entryFrame m #[(.int q0), (.int q1), (.int q2), (.int q3)] maxLocals)) T34 (mkF m 93 #[.val (.int q0), .val (.int q1), .val (.int q2), .val (.int q3), .val (.int off), .val (.int len), .val (.ref b3), .unset, .unset, .unset, .unset, .unset, .unset, .unset, .unset, .unset] [(.int ((q2.toUInt32 >>> ((18 : Int32) &&& 31).toUInt32).toInt32)), (.int (6 : Int32)), (.ref b3)]) := fun t k => by
    refine R33 t ?_
    refine st34 _ ?_
    show Steps p.tables e below (T34.setTop (mkF m 85 #[.val (.int q0), .val (.int q1), .val (.int q2), .val (.int q3), .val (.int off), .val (.int len), .val (.ref b3), .unset, .unset, .unset, .unset, .unset, .unset, .unset, .unset, .unset] [])) t
    refine XS.aload X34.here hx rfl (hb hby at_85) rfl rfl ?_
    show Steps p.tables e below (T34.setTop (mkF m 87 #[.val (.int q0), .val (.int q1), .val (.int q2), .val (.int q3), .val (.int off), .val (.int len), .val (.ref b3), .unset, .unset, .unset, .unset, .unset, .unset, .unset, .unset, .unset] [(.ref b3)])) t
    refine XS.bipush X34.here hx rfl (hb hby at_87) ?_
    show Steps p.tables e below (T34.setTop (mkF m 89 #[.val (.int q0), .val (.int q1), .val (.int q2), .val (.int q3), .val (.int off), .val (.int len), .val (.ref b3), .unset, .unset, .unset, .unset, .unset, .unset, .unset, .unset, .unset] [(.int (6 : Int32)), (.ref b3)])) t
    refine XS.iloadN X34.here hx rfl (hb hby at_89) rfl ?_
    show Steps p.tables e below (T34.setTop (mkF m 90 #[.val (.int q0), .val (.int q1), .val (.int q2), .val (.int q3), .val (.int off), .val (.int len), .val (.ref b3), .unset, .unset, .unset, .unset, .unset, .unset, .unset, .unset, .unset] [(.int q2), (.int (6 : Int32)), (.ref b3)])) t
    refine XS.bipush X34.here hx rfl (hb hby at_90) ?_
    show Steps p.tables e below (T34.setTop (mkF m 92 #[.val (.int q0), .val (.int q1), .val (.int q2), .val (.int q3), .val (.int off), .val (.int len), .val (.ref b3), .unset, .unset, .unset, .unset, .unset, .unset, .unset, .unset, .unset] [(.int (18 : Int32)), (.int q2), (.int (6 : Int32)), (.ref b3)])) t
    refine XS.iushr X34.here hx rfl (hb hby at_92) rfl ?_
    exact k
  obtain ⟨_, _, ⟨T35, L35, k35, n35⟩, -, X35, ⟨Lc35, hQ35, l35, y35, z35⟩, st35⟩ := Jvm.LawKit.callS X34 hx (y := (⟨"com/example/vestwork/vestwork/io/JsonScannerResetPinLaw", "pal", "(I)B"⟩ : MethodName)) hown (mvT hZ (hw _ (List.mem_of_getElem? (i := 2) rfl))) (mvT hZ (hw _ (List.mem_of_getElem? (i := 3) rfl))) (mvT hZ (hw _ (List.mem_of_getElem? (i := 4) rfl))) (mvT hZ (hw _ (List.mem_of_getElem? (i := 5) rfl))) (by decide) (backOf (W := 2) (rm_pal l Z a0 hw [] ((q2.toUInt32 >>> ((18 : Int32) &&& 31).toUInt32).toInt32) h34 n0 (Nat.le_trans Z0 K34.1) ) hZ (hw _ (List.mem_of_getElem? (i := 5) rfl)) (hw _ (List.mem_of_getElem? (i := 4) rfl)) (by decide) (by decide)) (g := (mkF m 93 #[.val (.int q0), .val (.int q1), .val (.int q2), .val (.int q3), .val (.int off), .val (.int len), .val (.ref b3), .unset, .unset, .unset, .unset, .unset, .unset, .unset, .unset, .unset] [(.int ((q2.toUInt32 >>> ((18 : Int32) &&& 31).toUInt32).toInt32)), (.int (6 : Int32)), (.ref b3)])) rfl (by rw [hml]; rfl) (argsL := [(.int ((q2.toUInt32 >>> ((18 : Int32) &&& 31).toUInt32).toInt32))]) (rest := [(.int (6 : Int32)), (.ref b3)]) (lenOf pd_10 rfl) rfl (by show 2 * 0 + _ ≤ _; exact Nat.le_of_eq rfl) (hb hby at_93) (fun _ _ => ⟨rfl, e34, (by decide : 1 + 0 ≤ _), (by decide : 8 + 0 ≤ _)⟩)
  dsimp only [Pt.U, Pt.locs, Pt.cells, Pt.slots] at X35 l35 y35 z35 st35 hQ35
  subst l35 y35 z35
  obtain ⟨rfl, N35q, e35⟩ := hQ35
  have N35 := Fr.app N34 N35q
  have R38 : Rch p e below (s₁.setTop (entryFrame m #[(.int q0), (.int q1), (.int q2), (.int q3)] maxLocals)) T35 (mkF m 96 #[.val (.int q0), .val (.int q1), .val (.int q2), .val (.int q3), .val (.int off), .val (.int len), .val (.ref b3), .unset, .unset, .unset, .unset, .unset, .unset, .unset, .unset, .unset] [(.int (own_pal ((q2.toUInt32 >>> ((18 : Int32) &&& 31).toUInt32).toInt32))), (.int (6 : Int32)), (.ref b3)]) := fun t k => by
    refine R36 t ?_
    refine st35 _ ?_
    exact k
  obtain ⟨cl37, Ar37, q37, Sz37, N37_, Hs37, G37⟩ := id V34
  have hin37 : ¬ ((6 : Int32) < 0 ∨ cl37.slots.size ≤ ((6 : Int32)).toNatClampNeg) := inb_of Sz37 ⟨by decide, by decide⟩
  obtain ⟨T39, h39, X39, e39, W39, st39⟩ := stB X35 hx hZ e35 Ar37 (j := (6 : Int32)) hin37 (g := (mkF m 96 #[.val (.int q0), .val (.int q1), .val (.int q2), .val (.int q3), .val (.int off), .val (.int len), .val (.ref b3), .unset, .unset, .unset, .unset, .unset, .unset, .unset, .unset, .unset] [(.int (own_pal ((q2.toUInt32 >>> ((18 : Int32) &&& 31).toUInt32).toInt32))), (.int (6 : Int32)), (.ref b3)])) rfl rfl (hb hby at_96)
  rw [own_pal_nar] at W39
  have V39 : Arv Z h39 b3 k3 .byte (8 : Int32) [(.int (own_pal q2)), (.int (own_pal ((q2.toUInt32 >>> ((3 : Int32) &&& 31).toUInt32).toInt32))), (.int (own_pal ((q2.toUInt32 >>> ((6 : Int32) &&& 31).toUInt32).toInt32))), (.int (own_pal ((q2.toUInt32 >>> ((9 : Int32) &&& 31).toUInt32).toInt32))), (.int (own_pal ((q2.toUInt32 >>> ((12 : Int32) &&& 31).toUInt32).toInt32))), (.int (own_pal ((q2.toUInt32 >>> ((15 : Int32) &&& 31).toUInt32).toInt32))), (.int (own_pal ((q2.toUInt32 >>> ((18 : Int32) &&& 31).toUInt32).toInt32))), (.int (0 : Int32))] (.int (0 : Int32)) := Arv.set Ar37 q37 Sz37 N37_ Hs37 G37 (by rw [← own_pal_nar]; exact fits_nar_byte _) W39 6 rfl (Nat.le_of_ble_eq_true rfl)
  have K39 : Keep h0 h39 [] := K34.wr W39 (Or.inr sz_b3)
  have N39 := Fr.snoc X39 N35 g_b3
  have R41 : Rch p e below (s₁.setTop (entryFrame m #[(.int q0), (.int q1), (.int q2), (.int q3)] maxLocals)) T39 (mkF m 105 #[.val (.int q0), .val (.int q1), .val (.int q2), .val (.int q3), .val (.int off), .val (.int len), .val (.ref b3), .unset, .unset, .unset, .unset, .unset, .unset, .unset, .unset, .unset] [(.int ((q2.toUInt32 >>> ((21 : Int32) &&& 31).toUInt32).toInt32)), (.int (7 : Int32)), (.ref b3)]) := fun t k => by
    refine R38 t ?_
    refine st39 _ ?_
    show Steps p.tables e below (T39.setTop (mkF m 97 #[.val (.int q0), .val (.int q1), .val (.int q2), .val (.int q3), .val (.int off), .val (.int len), .val (.ref b3), .unset, .unset, .unset, .unset, .unset, .unset, .unset, .unset, .unset] [])) t
    refine XS.aload X39.here hx rfl (hb hby at_97) rfl rfl ?_
    show Steps p.tables e below (T39.setTop (mkF m 99 #[.val (.int q0), .val (.int q1), .val (.int q2), .val (.int q3), .val (.int off), .val (.int len), .val (.ref b3), .unset, .unset, .unset, .unset, .unset, .unset, .unset, .unset, .unset] [(.ref b3)])) t
    refine XS.bipush X39.here hx rfl (hb hby at_99) ?_
    show Steps p.tables e below (T39.setTop (mkF m 101 #[.val (.int q0), .val (.int q1), .val (.int q2), .val (.int q3), .val (.int off), .val (.int len), .val (.ref b3), .unset, .unset, .unset, .unset, .unset, .unset, .unset, .unset, .unset] [(.int (7 : Int32)), (.ref b3)])) t
    refine XS.iloadN X39.here hx rfl (hb hby at_101) rfl ?_
    show Steps p.tables e below (T39.setTop (mkF m 102 #[.val (.int q0), .val (.int q1), .val (.int q2), .val (.int q3), .val (.int off), .val (.int len), .val (.ref b3), .unset, .unset, .unset, .unset, .unset, .unset, .unset, .unset, .unset] [(.int q2), (.int (7 : Int32)), (.ref b3)])) t
    refine XS.bipush X39.here hx rfl (hb hby at_102) ?_
    show Steps p.tables e below (T39.setTop (mkF m 104 #[.val (.int q0), .val (.int q1), .val (.int q2), .val (.int q3), .val (.int off), .val (.int len), .val (.ref b3), .unset, .unset, .unset, .unset, .unset, .unset, .unset, .unset, .unset] [(.int (21 : Int32)), (.int q2), (.int (7 : Int32)), (.ref b3)])) t
    refine XS.iushr X39.here hx rfl (hb hby at_104) rfl ?_
    exact k
  obtain ⟨_, _, ⟨T40, L40, k40, n40⟩, -, X40, ⟨Lc40, hQ40, l40, y40, z40⟩, st40⟩ := Jvm.LawKit.callS X39 hx (y := (⟨"com/example/vestwork/vestwork/io/JsonScannerResetPinLaw", "pal", "(I)B"⟩ : MethodName)) hown (mvT hZ (hw _ (List.mem_of_getElem? (i := 2) rfl))) (mvT hZ (hw _ (List.mem_of_getElem? (i := 3) rfl))) (mvT hZ (hw _ (List.mem_of_getElem? (i := 4) rfl))) (mvT hZ (hw _ (List.mem_of_getElem? (i := 5) rfl))) (by decide) (backOf (W := 2) (rm_pal l Z a0 hw [] ((q2.toUInt32 >>> ((21 : Int32) &&& 31).toUInt32).toInt32) h39 n0 (Nat.le_trans Z0 K39.1) ) hZ (hw _ (List.mem_of_getElem? (i := 5) rfl)) (hw _ (List.mem_of_getElem? (i := 4) rfl)) (by decide) (by decide)) (g := (mkF m 105 #[.val (.int q0), .val (.int q1), .val (.int q2), .val (.int q3), .val (.int off), .val (.int len), .val (.ref b3), .unset, .unset, .unset, .unset, .unset, .unset, .unset, .unset, .unset] [(.int ((q2.toUInt32 >>> ((21 : Int32) &&& 31).toUInt32).toInt32)), (.int (7 : Int32)), (.ref b3)])) rfl (by rw [hml]; rfl) (argsL := [(.int ((q2.toUInt32 >>> ((21 : Int32) &&& 31).toUInt32).toInt32))]) (rest := [(.int (7 : Int32)), (.ref b3)]) (lenOf pd_10 rfl) rfl (by show 2 * 0 + _ ≤ _; exact Nat.le_of_eq rfl) (hb hby at_105) (fun _ _ => ⟨rfl, e39, (by decide : 1 + 0 ≤ _), (by decide : 8 + 0 ≤ _)⟩)
  dsimp only [Pt.U, Pt.locs, Pt.cells, Pt.slots] at X40 l40 y40 z40 st40 hQ40
  subst l40 y40 z40
  obtain ⟨rfl, N40q, e40⟩ := hQ40
  have N40 := Fr.app N39 N40q
  have R43 : Rch p e below (s₁.setTop (entryFrame m #[(.int q0), (.int q1), (.int q2), (.int q3)] maxLocals)) T40 (mkF m 108 #[.val (.int q0), .val (.int q1), .val (.int q2), .val (.int q3), .val (.int off), .val (.int len), .val (.ref b3), .unset, .unset, .unset, .unset, .unset, .unset, .unset, .unset, .unset] [(.int (own_pal ((q2.toUInt32 >>> ((21 : Int32) &&& 31).toUInt32).toInt32))), (.int (7 : Int32)), (.ref b3)]) := fun t k => by
    refine R41 t ?_
    refine st40 _ ?_
    exact k
  obtain ⟨cl42, Ar42, q42, Sz42, N42_, Hs42, G42⟩ := id V39
  have hin42 : ¬ ((7 : Int32) < 0 ∨ cl42.slots.size ≤ ((7 : Int32)).toNatClampNeg) := inb_of Sz42 ⟨by decide, by decide⟩
  obtain ⟨T44, h44, X44, e44, W44, st44⟩ := stB X40 hx hZ e40 Ar42 (j := (7 : Int32)) hin42 (g := (mkF m 108 #[.val (.int q0), .val (.int q1), .val (.int q2), .val (.int q3), .val (.int off), .val (.int len), .val (.ref b3), .unset, .unset, .unset, .unset, .unset, .unset, .unset, .unset, .unset] [(.int (own_pal ((q2.toUInt32 >>> ((21 : Int32) &&& 31).toUInt32).toInt32))), (.int (7 : Int32)), (.ref b3)])) rfl rfl (hb hby at_108)
  rw [own_pal_nar] at W44
  have V44 : Arv Z h44 b3 k3 .byte (8 : Int32) [(.int (own_pal q2)), (.int (own_pal ((q2.toUInt32 >>> ((3 : Int32) &&& 31).toUInt32).toInt32))), (.int (own_pal ((q2.toUInt32 >>> ((6 : Int32) &&& 31).toUInt32).toInt32))), (.int (own_pal ((q2.toUInt32 >>> ((9 : Int32) &&& 31).toUInt32).toInt32))), (.int (own_pal ((q2.toUInt32 >>> ((12 : Int32) &&& 31).toUInt32).toInt32))), (.int (own_pal ((q2.toUInt32 >>> ((15 : Int32) &&& 31).toUInt32).toInt32))), (.int (own_pal ((q2.toUInt32 >>> ((18 : Int32) &&& 31).toUInt32).toInt32))), (.int (own_pal ((q2.toUInt32 >>> ((21 : Int32) &&& 31).toUInt32).toInt32)))] (.int (0 : Int32)) := Arv.set Ar42 q42 Sz42 N42_ Hs42 G42 (by rw [← own_pal_nar]; exact fits_nar_byte _) W44 7 rfl (Nat.le_of_ble_eq_true rfl)
  have K44 : Keep h0 h44 [] := K39.wr W44 (Or.inr sz_b3)
  have N44 := Fr.snoc X44 N40 g_b3
  have R45 : Rch p e below (s₁.setTop (entryFrame m #[(.int q0), (.int q1), (.int q2), (.int q3)] maxLocals)) T44 (mkF m 109 #[.val (.int q0), .val (.int q1), .val (.int q2), .val (.int q3), .val (.int off), .val (.int len), .val (.ref b3), .unset, .unset, .unset, .unset, .unset, .unset, .unset, .unset, .unset] []) := fun t k => by
    refine R43 t ?_
    refine st44 _ ?_
    exact k
  obtain ⟨vs0, hvs0⟩ : ∃ z : List Value, z = [(.int (own_pal q2)), (.int (own_pal ((q2.toUInt32 >>> ((3 : Int32) &&& 31).toUInt32).toInt32))), (.int (own_pal ((q2.toUInt32 >>> ((6 : Int32) &&& 31).toUInt32).toInt32))), (.int (own_pal ((q2.toUInt32 >>> ((9 : Int32) &&& 31).toUInt32).toInt32))), (.int (own_pal ((q2.toUInt32 >>> ((12 : Int32) &&& 31).toUInt32).toInt32))), (.int (own_pal ((q2.toUInt32 >>> ((15 : Int32) &&& 31).toUInt32).toInt32))), (.int (own_pal ((q2.toUInt32 >>> ((18 : Int32) &&& 31).toUInt32).toInt32))), (.int (own_pal ((q2.toUInt32 >>> ((21 : Int32) &&& 31).toUInt32).toInt32)))] := ⟨_, rfl⟩
  rw [← hvs0] at V44
  have P0 : own_Pal vs0 := by rw [hvs0]; exact own_Pal_mk (own_pal_is _) (own_pal_is _) (own_pal_is _) (own_pal_is _) (own_pal_is _) (own_pal_is _) (own_pal_is _) (own_pal_is _)
  obtain ⟨TJ, hJ, LJ, vsJ, XJ, eJ, NJ, KJ, VJ, PJ, RJ⟩ : ∃ (T : State) (h : Heap) (locs : List Loc) (vs : List Value), Stand p l e room_1 s m #[(.int q0), (.int q1), (.int q2), (.int q3)] below meth c T locs 1 8 ∧ T.heap = h ∧ Fr n0 locs ∧ Keep h0 h [] ∧ Arv Z h b3 k3 .byte (8 : Int32) vs (.int (0 : Int32)) ∧ own_Pal vs ∧ Rch p e below (s₁.setTop (entryFrame m #[(.int q0), (.int q1), (.int q2), (.int q3)] maxLocals)) T (mkF m 156 #[.val (.int q0), .val (.int q1), .val (.int q2), .val (.int q3), .val (.int off), .val (.int len), .val (.ref b3), .val (.int (q3 &&& (3 : Int32))), .unset, .unset, .unset, .unset, .unset, .unset, .unset, .unset] []) := by
    have R47 : Rch p e below (s₁.setTop (entryFrame m #[(.int q0), (.int q1), (.int q2), (.int q3)] maxLocals)) T44 (mkF m 117 #[.val (.int q0), .val (.int q1), .val (.int q2), .val (.int q3), .val (.int off), .val (.int len), .val (.ref b3), .val (.int (q3 &&& (3 : Int32))), .unset, .unset, .unset, .unset, .unset, .unset, .unset, .unset] [(.int (2 : Int32)), (.int (q3 &&& (3 : Int32)))]) := fun t k => by
      refine R45 t ?_
      refine XS.iloadN X44.here hx rfl (hb hby at_109) rfl ?_
      show Steps p.tables e below (T44.setTop (mkF m 110 #[.val (.int q0), .val (.int q1), .val (.int q2), .val (.int q3), .val (.int off), .val (.int len), .val (.ref b3), .unset, .unset, .unset, .unset, .unset, .unset, .unset, .unset, .unset] [(.int q3)])) t
      refine XS.iconst X44.here hx rfl (hb hby at_110) ?_
      show Steps p.tables e below (T44.setTop (mkF m 111 #[.val (.int q0), .val (.int q1), .val (.int q2), .val (.int q3), .val (.int off), .val (.int len), .val (.ref b3), .unset, .unset, .unset, .unset, .unset, .unset, .unset, .unset, .unset] [(.int (3 : Int32)), (.int q3)])) t
      refine XS.iand X44.here hx rfl (hb hby at_111) rfl ?_
      show Steps p.tables e below (T44.setTop (mkF m 112 #[.val (.int q0), .val (.int q1), .val (.int q2), .val (.int q3), .val (.int off), .val (.int len), .val (.ref b3), .unset, .unset, .unset, .unset, .unset, .unset, .unset, .unset, .unset] [(.int (q3 &&& (3 : Int32)))])) t
      refine XS.istore X44.here hx rfl (hb hby at_112) rfl (l' := #[.val (.int q0), .val (.int q1), .val (.int q2), .val (.int q3), .val (.int off), .val (.int len), .val (.ref b3), .val (.int (q3 &&& (3 : Int32))), .unset, .unset, .unset, .unset, .unset, .unset, .unset, .unset]) rfl ?_
      show Steps p.tables e below (T44.setTop (mkF m 114 #[.val (.int q0), .val (.int q1), .val (.int q2), .val (.int q3), .val (.int off), .val (.int len), .val (.ref b3), .val (.int (q3 &&& (3 : Int32))), .unset, .unset, .unset, .unset, .unset, .unset, .unset, .unset] [])) t
      refine XS.iload X44.here hx rfl (hb hby at_114) rfl ?_
      show Steps p.tables e below (T44.setTop (mkF m 116 #[.val (.int q0), .val (.int q1), .val (.int q2), .val (.int q3), .val (.int off), .val (.int len), .val (.ref b3), .val (.int (q3 &&& (3 : Int32))), .unset, .unset, .unset, .unset, .unset, .unset, .unset, .unset] [(.int (q3 &&& (3 : Int32)))])) t
      refine XS.iconst X44.here hx rfl (hb hby at_116) ?_
      exact k
    by_cases hc117_46 : (2 : Int32) < (q3 &&& (3 : Int32))
    · have R49 : Rch p e below (s₁.setTop (entryFrame m #[(.int q0), (.int q1), (.int q2), (.int q3)] maxLocals)) T44 (mkF m 130 #[.val (.int q0), .val (.int q1), .val (.int q2), .val (.int q3), .val (.int off), .val (.int len), .val (.ref b3), .val (.int (q3 &&& (3 : Int32))), .unset, .unset, .unset, .unset, .unset, .unset, .unset, .unset] [(.int (1 : Int32)), (.int (q3 &&& (3 : Int32)))]) := fun t k => by
        refine R47 t ?_
        refine XS.icmpYes X44.here hx rfl (pc0 := 117) (pc' := 127) rfl (hb hby at_117) rfl (tlt hc117_46).2.2.1 (by decide) (by decide) ?_
        show Steps p.tables e below (T44.setTop (mkF m 127 #[.val (.int q0), .val (.int q1), .val (.int q2), .val (.int q3), .val (.int off), .val (.int len), .val (.ref b3), .val (.int (q3 &&& (3 : Int32))), .unset, .unset, .unset, .unset, .unset, .unset, .unset, .unset] [])) t
        refine XS.iload X44.here hx rfl (hb hby at_127) rfl ?_
        show Steps p.tables e below (T44.setTop (mkF m 129 #[.val (.int q0), .val (.int q1), .val (.int q2), .val (.int q3), .val (.int off), .val (.int len), .val (.ref b3), .val (.int (q3 &&& (3 : Int32))), .unset, .unset, .unset, .unset, .unset, .unset, .unset, .unset] [(.int (q3 &&& (3 : Int32)))])) t
        refine XS.iconst X44.here hx rfl (hb hby at_129) ?_
        exact k
      by_cases hc130_48 : (1 : Int32) < (q3 &&& (3 : Int32))
      · have R51 : Rch p e below (s₁.setTop (entryFrame m #[(.int q0), (.int q1), (.int q2), (.int q3)] maxLocals)) T44 (mkF m 144 #[.val (.int q0), .val (.int q1), .val (.int q2), .val (.int q3), .val (.int off), .val (.int len), .val (.ref b3), .val (.int (q3 &&& (3 : Int32))), .unset, .unset, .unset, .unset, .unset, .unset, .unset, .unset] [(.int (q3 &&& (3 : Int32)))]) := fun t k => by
          refine R49 t ?_
          refine XS.icmpYes X44.here hx rfl (pc0 := 130) (pc' := 142) rfl (hb hby at_130) rfl (tlt hc130_48).2.2.1 (by decide) (by decide) ?_
          show Steps p.tables e below (T44.setTop (mkF m 142 #[.val (.int q0), .val (.int q1), .val (.int q2), .val (.int q3), .val (.int off), .val (.int len), .val (.ref b3), .val (.int (q3 &&& (3 : Int32))), .unset, .unset, .unset, .unset, .unset, .unset, .unset, .unset] [])) t
          refine XS.iload X44.here hx rfl (hb hby at_142) rfl ?_
          exact k
        by_cases hc144_50 : (q3 &&& (3 : Int32)) = (0 : Int32)
        · have R53 : Rch p e below (s₁.setTop (entryFrame m #[(.int q0), (.int q1), (.int q2), (.int q3)] maxLocals)) T44 (mkF m 155 #[.val (.int q0), .val (.int q1), .val (.int q2), .val (.int q3), .val (.int off), .val (.int len), .val (.ref b3), .val (.int (q3 &&& (3 : Int32))), .unset, .unset, .unset, .unset, .unset, .unset, .unset, .unset] [(.int (-65 : Int32)), (.int (off + (2 : Int32))), (.ref b3)]) := fun t k => by
            refine R51 t ?_
            refine XS.ifNo X44.here hx rfl (hb hby at_144) rfl ((if0 _ _).trans (teq hc144_50).2) ?_
            show Steps p.tables e below (T44.setTop (mkF m 147 #[.val (.int q0), .val (.int q1), .val (.int q2), .val (.int q3), .val (.int off), .val (.int len), .val (.ref b3), .val (.int (q3 &&& (3 : Int32))), .unset, .unset, .unset, .unset, .unset, .unset, .unset, .unset] [])) t
            refine XS.aload X44.here hx rfl (hb hby at_147) rfl rfl ?_
            show Steps p.tables e below (T44.setTop (mkF m 149 #[.val (.int q0), .val (.int q1), .val (.int q2), .val (.int q3), .val (.int off), .val (.int len), .val (.ref b3), .val (.int (q3 &&& (3 : Int32))), .unset, .unset, .unset, .unset, .unset, .unset, .unset, .unset] [(.ref b3)])) t
            refine XS.iload X44.here hx rfl (hb hby at_149) rfl ?_
            show Steps p.tables e below (T44.setTop (mkF m 151 #[.val (.int q0), .val (.int q1), .val (.int q2), .val (.int q3), .val (.int off), .val (.int len), .val (.ref b3), .val (.int (q3 &&& (3 : Int32))), .unset, .unset, .unset, .unset, .unset, .unset, .unset, .unset] [(.int off), (.ref b3)])) t
            refine XS.iconst X44.here hx rfl (hb hby at_151) ?_
            show Steps p.tables e below (T44.setTop (mkF m 152 #[.val (.int q0), .val (.int q1), .val (.int q2), .val (.int q3), .val (.int off), .val (.int len), .val (.ref b3), .val (.int (q3 &&& (3 : Int32))), .unset, .unset, .unset, .unset, .unset, .unset, .unset, .unset] [(.int (2 : Int32)), (.int off), (.ref b3)])) t
            refine XS.iadd X44.here hx rfl (hb hby at_152) rfl ?_
            show Steps p.tables e below (T44.setTop (mkF m 153 #[.val (.int q0), .val (.int q1), .val (.int q2), .val (.int q3), .val (.int off), .val (.int len), .val (.ref b3), .val (.int (q3 &&& (3 : Int32))), .unset, .unset, .unset, .unset, .unset, .unset, .unset, .unset] [(.int (off + (2 : Int32))), (.ref b3)])) t
            refine XS.bipush X44.here hx rfl (hb hby at_153) ?_
            exact k
          obtain ⟨cl52, Ar52, q52, Sz52, N52_, Hs52, G52⟩ := id V44
          have hin52 : ¬ ((off + (2 : Int32)) < 0 ∨ cl52.slots.size ≤ ((off + (2 : Int32))).toNatClampNeg) := inb_of Sz52 (own_inb (by rw [ho2]; omega) (by rw [ho2]; omega))
          obtain ⟨T54, h54, X54, e54, W54, st54⟩ := stB X44 hx hZ e44 Ar52 (j := (off + (2 : Int32))) hin52 (g := (mkF m 155 #[.val (.int q0), .val (.int q1), .val (.int q2), .val (.int q3), .val (.int off), .val (.int len), .val (.ref b3), .val (.int (q3 &&& (3 : Int32))), .unset, .unset, .unset, .unset, .unset, .unset, .unset, .unset] [(.int (-65 : Int32)), (.int (off + (2 : Int32))), (.ref b3)])) rfl rfl (hb hby at_155)
          have hna52 := own_nat (j := (off + (2 : Int32))) (by rw [ho2]; omega)
          have hnb52 : ((off + (2 : Int32))).toInt < 8 := by rw [ho2]; omega
          have hlt52 : ((off + (2 : Int32))).toNatClampNeg < vs0.length := by rw [P0.1]; omega
          have V54 := Arv.set Ar52 q52 Sz52 N52_ Hs52 G52 (by decide) W54 ((off + (2 : Int32))).toNatClampNeg rfl hlt52
          have P54 := own_Pal_set P0 ((off + (2 : Int32))).toNatClampNeg (z := (-65 : Int32)) (by simp [own_isPal])
          have K54 : Keep h0 h54 [] := K44.wr W54 (Or.inr sz_b3)
          have N54 := Fr.snoc X54 N44 g_b3
          have R55 : Rch p e below (s₁.setTop (entryFrame m #[(.int q0), (.int q1), (.int q2), (.int q3)] maxLocals)) T54 (mkF m 156 #[.val (.int q0), .val (.int q1), .val (.int q2), .val (.int q3), .val (.int off), .val (.int len), .val (.ref b3), .val (.int (q3 &&& (3 : Int32))), .unset, .unset, .unset, .unset, .unset, .unset, .unset, .unset] []) := fun t k => by
            refine R53 t ?_
            refine st54 _ ?_
            exact k
          exact ⟨T54, h54, _, _, X54, e54, N54, K54, V54, P54, R55⟩
        · have R56 : Rch p e below (s₁.setTop (entryFrame m #[(.int q0), (.int q1), (.int q2), (.int q3)] maxLocals)) T44 (mkF m 156 #[.val (.int q0), .val (.int q1), .val (.int q2), .val (.int q3), .val (.int off), .val (.int len), .val (.ref b3), .val (.int (q3 &&& (3 : Int32))), .unset, .unset, .unset, .unset, .unset, .unset, .unset, .unset] []) := fun t k => by
            refine R51 t ?_
            refine XS.ifYes X44.here hx rfl (pc0 := 144) (pc' := 156) rfl (hb hby at_144) rfl ((if0 _ _).trans (feq hc144_50).2) (by decide) (by decide) ?_
            exact k
          exact ⟨T44, h44, _, _, X44, e44, N44, K44, V44, P0, R56⟩
      · have R58 : Rch p e below (s₁.setTop (entryFrame m #[(.int q0), (.int q1), (.int q2), (.int q3)] maxLocals)) T44 (mkF m 141 #[.val (.int q0), .val (.int q1), .val (.int q2), .val (.int q3), .val (.int off), .val (.int len), .val (.ref b3), .val (.int (q3 &&& (3 : Int32))), .unset, .unset, .unset, .unset, .unset, .unset, .unset, .unset] [(.int (-69 : Int32)), (.int (off + (1 : Int32))), (.ref b3)]) := fun t k => by
          refine R49 t ?_
          refine XS.icmpNo X44.here hx rfl (hb hby at_130) rfl (flt hc130_48).2.2.1 ?_
          show Steps p.tables e below (T44.setTop (mkF m 133 #[.val (.int q0), .val (.int q1), .val (.int q2), .val (.int q3), .val (.int off), .val (.int len), .val (.ref b3), .val (.int (q3 &&& (3 : Int32))), .unset, .unset, .unset, .unset, .unset, .unset, .unset, .unset] [])) t
          refine XS.aload X44.here hx rfl (hb hby at_133) rfl rfl ?_
          show Steps p.tables e below (T44.setTop (mkF m 135 #[.val (.int q0), .val (.int q1), .val (.int q2), .val (.int q3), .val (.int off), .val (.int len), .val (.ref b3), .val (.int (q3 &&& (3 : Int32))), .unset, .unset, .unset, .unset, .unset, .unset, .unset, .unset] [(.ref b3)])) t
          refine XS.iload X44.here hx rfl (hb hby at_135) rfl ?_
          show Steps p.tables e below (T44.setTop (mkF m 137 #[.val (.int q0), .val (.int q1), .val (.int q2), .val (.int q3), .val (.int off), .val (.int len), .val (.ref b3), .val (.int (q3 &&& (3 : Int32))), .unset, .unset, .unset, .unset, .unset, .unset, .unset, .unset] [(.int off), (.ref b3)])) t
          refine XS.iconst X44.here hx rfl (hb hby at_137) ?_
          show Steps p.tables e below (T44.setTop (mkF m 138 #[.val (.int q0), .val (.int q1), .val (.int q2), .val (.int q3), .val (.int off), .val (.int len), .val (.ref b3), .val (.int (q3 &&& (3 : Int32))), .unset, .unset, .unset, .unset, .unset, .unset, .unset, .unset] [(.int (1 : Int32)), (.int off), (.ref b3)])) t
          refine XS.iadd X44.here hx rfl (hb hby at_138) rfl ?_
          show Steps p.tables e below (T44.setTop (mkF m 139 #[.val (.int q0), .val (.int q1), .val (.int q2), .val (.int q3), .val (.int off), .val (.int len), .val (.ref b3), .val (.int (q3 &&& (3 : Int32))), .unset, .unset, .unset, .unset, .unset, .unset, .unset, .unset] [(.int (off + (1 : Int32))), (.ref b3)])) t
          refine XS.bipush X44.here hx rfl (hb hby at_139) ?_
          exact k
        obtain ⟨cl57, Ar57, q57, Sz57, N57_, Hs57, G57⟩ := id V44
        have hin57 : ¬ ((off + (1 : Int32)) < 0 ∨ cl57.slots.size ≤ ((off + (1 : Int32))).toNatClampNeg) := inb_of Sz57 (own_inb (by rw [ho1]; omega) (by rw [ho1]; omega))
        obtain ⟨T59, h59, X59, e59, W59, st59⟩ := stB X44 hx hZ e44 Ar57 (j := (off + (1 : Int32))) hin57 (g := (mkF m 141 #[.val (.int q0), .val (.int q1), .val (.int q2), .val (.int q3), .val (.int off), .val (.int len), .val (.ref b3), .val (.int (q3 &&& (3 : Int32))), .unset, .unset, .unset, .unset, .unset, .unset, .unset, .unset] [(.int (-69 : Int32)), (.int (off + (1 : Int32))), (.ref b3)])) rfl rfl (hb hby at_141)
        have hna57 := own_nat (j := (off + (1 : Int32))) (by rw [ho1]; omega)
        have hnb57 : ((off + (1 : Int32))).toInt < 8 := by rw [ho1]; omega
        have hlt57 : ((off + (1 : Int32))).toNatClampNeg < vs0.length := by rw [P0.1]; omega
        have V59 := Arv.set Ar57 q57 Sz57 N57_ Hs57 G57 (by decide) W59 ((off + (1 : Int32))).toNatClampNeg rfl hlt57
        have P59 := own_Pal_set P0 ((off + (1 : Int32))).toNatClampNeg (z := (-69 : Int32)) (by simp [own_isPal])
        have K59 : Keep h0 h59 [] := K44.wr W59 (Or.inr sz_b3)
        have N59 := Fr.snoc X59 N44 g_b3
        have R61 : Rch p e below (s₁.setTop (entryFrame m #[(.int q0), (.int q1), (.int q2), (.int q3)] maxLocals)) T59 (mkF m 144 #[.val (.int q0), .val (.int q1), .val (.int q2), .val (.int q3), .val (.int off), .val (.int len), .val (.ref b3), .val (.int (q3 &&& (3 : Int32))), .unset, .unset, .unset, .unset, .unset, .unset, .unset, .unset] [(.int (q3 &&& (3 : Int32)))]) := fun t k => by
          refine R58 t ?_
          refine st59 _ ?_
          show Steps p.tables e below (T59.setTop (mkF m 142 #[.val (.int q0), .val (.int q1), .val (.int q2), .val (.int q3), .val (.int off), .val (.int len), .val (.ref b3), .val (.int (q3 &&& (3 : Int32))), .unset, .unset, .unset, .unset, .unset, .unset, .unset, .unset] [])) t
          refine XS.iload X59.here hx rfl (hb hby at_142) rfl ?_
          exact k
        by_cases hc144_60 : (q3 &&& (3 : Int32)) = (0 : Int32)
        · have R63 : Rch p e below (s₁.setTop (entryFrame m #[(.int q0), (.int q1), (.int q2), (.int q3)] maxLocals)) T59 (mkF m 155 #[.val (.int q0), .val (.int q1), .val (.int q2), .val (.int q3), .val (.int off), .val (.int len), .val (.ref b3), .val (.int (q3 &&& (3 : Int32))), .unset, .unset, .unset, .unset, .unset, .unset, .unset, .unset] [(.int (-65 : Int32)), (.int (off + (2 : Int32))), (.ref b3)]) := fun t k => by
            refine R61 t ?_
            refine XS.ifNo X59.here hx rfl (hb hby at_144) rfl ((if0 _ _).trans (teq hc144_60).2) ?_
            show Steps p.tables e below (T59.setTop (mkF m 147 #[.val (.int q0), .val (.int q1), .val (.int q2), .val (.int q3), .val (.int off), .val (.int len), .val (.ref b3), .val (.int (q3 &&& (3 : Int32))), .unset, .unset, .unset, .unset, .unset, .unset, .unset, .unset] [])) t
            refine XS.aload X59.here hx rfl (hb hby at_147) rfl rfl ?_
            show Steps p.tables e below (T59.setTop (mkF m 149 #[.val (.int q0), .val (.int q1), .val (.int q2), .val (.int q3), .val (.int off), .val (.int len), .val (.ref b3), .val (.int (q3 &&& (3 : Int32))), .unset, .unset, .unset, .unset, .unset, .unset, .unset, .unset] [(.ref b3)])) t
            refine XS.iload X59.here hx rfl (hb hby at_149) rfl ?_
            show Steps p.tables e below (T59.setTop (mkF m 151 #[.val (.int q0), .val (.int q1), .val (.int q2), .val (.int q3), .val (.int off), .val (.int len), .val (.ref b3), .val (.int (q3 &&& (3 : Int32))), .unset, .unset, .unset, .unset, .unset, .unset, .unset, .unset] [(.int off), (.ref b3)])) t
            refine XS.iconst X59.here hx rfl (hb hby at_151) ?_
            show Steps p.tables e below (T59.setTop (mkF m 152 #[.val (.int q0), .val (.int q1), .val (.int q2), .val (.int q3), .val (.int off), .val (.int len), .val (.ref b3), .val (.int (q3 &&& (3 : Int32))), .unset, .unset, .unset, .unset, .unset, .unset, .unset, .unset] [(.int (2 : Int32)), (.int off), (.ref b3)])) t
            refine XS.iadd X59.here hx rfl (hb hby at_152) rfl ?_
            show Steps p.tables e below (T59.setTop (mkF m 153 #[.val (.int q0), .val (.int q1), .val (.int q2), .val (.int q3), .val (.int off), .val (.int len), .val (.ref b3), .val (.int (q3 &&& (3 : Int32))), .unset, .unset, .unset, .unset, .unset, .unset, .unset, .unset] [(.int (off + (2 : Int32))), (.ref b3)])) t
            refine XS.bipush X59.here hx rfl (hb hby at_153) ?_
            exact k
          obtain ⟨cl62, Ar62, q62, Sz62, N62_, Hs62, G62⟩ := id V59
          have hin62 : ¬ ((off + (2 : Int32)) < 0 ∨ cl62.slots.size ≤ ((off + (2 : Int32))).toNatClampNeg) := inb_of Sz62 (own_inb (by rw [ho2]; omega) (by rw [ho2]; omega))
          obtain ⟨T64, h64, X64, e64, W64, st64⟩ := stB X59 hx hZ e59 Ar62 (j := (off + (2 : Int32))) hin62 (g := (mkF m 155 #[.val (.int q0), .val (.int q1), .val (.int q2), .val (.int q3), .val (.int off), .val (.int len), .val (.ref b3), .val (.int (q3 &&& (3 : Int32))), .unset, .unset, .unset, .unset, .unset, .unset, .unset, .unset] [(.int (-65 : Int32)), (.int (off + (2 : Int32))), (.ref b3)])) rfl rfl (hb hby at_155)
          have hna62 := own_nat (j := (off + (2 : Int32))) (by rw [ho2]; omega)
          have hnb62 : ((off + (2 : Int32))).toInt < 8 := by rw [ho2]; omega
          have hlt62 : ((off + (2 : Int32))).toNatClampNeg < (vs0.set ((off + (1 : Int32))).toNatClampNeg (.int (-69 : Int32))).length := by rw [P59.1]; omega
          have V64 := Arv.set Ar62 q62 Sz62 N62_ Hs62 G62 (by decide) W64 ((off + (2 : Int32))).toNatClampNeg rfl hlt62
          have P64 := own_Pal_set P59 ((off + (2 : Int32))).toNatClampNeg (z := (-65 : Int32)) (by simp [own_isPal])
          have K64 : Keep h0 h64 [] := K59.wr W64 (Or.inr sz_b3)
          have N64 := Fr.snoc X64 N59 g_b3
          have R65 : Rch p e below (s₁.setTop (entryFrame m #[(.int q0), (.int q1), (.int q2), (.int q3)] maxLocals)) T64 (mkF m 156 #[.val (.int q0), .val (.int q1), .val (.int q2), .val (.int q3), .val (.int off), .val (.int len), .val (.ref b3), .val (.int (q3 &&& (3 : Int32))), .unset, .unset, .unset, .unset, .unset, .unset, .unset, .unset] []) := fun t k => by
            refine R63 t ?_
            refine st64 _ ?_
            exact k
          exact ⟨T64, h64, _, _, X64, e64, N64, K64, V64, P64, R65⟩
        · have R66 : Rch p e below (s₁.setTop (entryFrame m #[(.int q0), (.int q1), (.int q2), (.int q3)] maxLocals)) T59 (mkF m 156 #[.val (.int q0), .val (.int q1), .val (.int q2), .val (.int q3), .val (.int off), .val (.int len), .val (.ref b3), .val (.int (q3 &&& (3 : Int32))), .unset, .unset, .unset, .unset, .unset, .unset, .unset, .unset] []) := fun t k => by
            refine R61 t ?_
            refine XS.ifYes X59.here hx rfl (pc0 := 144) (pc' := 156) rfl (hb hby at_144) rfl ((if0 _ _).trans (feq hc144_60).2) (by decide) (by decide) ?_
            exact k
          exact ⟨T59, h59, _, _, X59, e59, N59, K59, V59, P59, R66⟩
    · have R68 : Rch p e below (s₁.setTop (entryFrame m #[(.int q0), (.int q1), (.int q2), (.int q3)] maxLocals)) T44 (mkF m 126 #[.val (.int q0), .val (.int q1), .val (.int q2), .val (.int q3), .val (.int off), .val (.int len), .val (.ref b3), .val (.int (q3 &&& (3 : Int32))), .unset, .unset, .unset, .unset, .unset, .unset, .unset, .unset] [(.int (-17 : Int32)), (.int off), (.ref b3)]) := fun t k => by
        refine R47 t ?_
        refine XS.icmpNo X44.here hx rfl (hb hby at_117) rfl (flt hc117_46).2.2.1 ?_
        show Steps p.tables e below (T44.setTop (mkF m 120 #[.val (.int q0), .val (.int q1), .val (.int q2), .val (.int q3), .val (.int off), .val (.int len), .val (.ref b3), .val (.int (q3 &&& (3 : Int32))), .unset, .unset, .unset, .unset, .unset, .unset, .unset, .unset] [])) t
        refine XS.aload X44.here hx rfl (hb hby at_120) rfl rfl ?_
        show Steps p.tables e below (T44.setTop (mkF m 122 #[.val (.int q0), .val (.int q1), .val (.int q2), .val (.int q3), .val (.int off), .val (.int len), .val (.ref b3), .val (.int (q3 &&& (3 : Int32))), .unset, .unset, .unset, .unset, .unset, .unset, .unset, .unset] [(.ref b3)])) t
        refine XS.iload X44.here hx rfl (hb hby at_122) rfl ?_
        show Steps p.tables e below (T44.setTop (mkF m 124 #[.val (.int q0), .val (.int q1), .val (.int q2), .val (.int q3), .val (.int off), .val (.int len), .val (.ref b3), .val (.int (q3 &&& (3 : Int32))), .unset, .unset, .unset, .unset, .unset, .unset, .unset, .unset] [(.int off), (.ref b3)])) t
        refine XS.bipush X44.here hx rfl (hb hby at_124) ?_
        exact k
      obtain ⟨cl67, Ar67, q67, Sz67, N67_, Hs67, G67⟩ := id V44
      have hin67 : ¬ (off < 0 ∨ cl67.slots.size ≤ (off).toNatClampNeg) := inb_of Sz67 (own_inb (by omega) (by omega))
      obtain ⟨T69, h69, X69, e69, W69, st69⟩ := stB X44 hx hZ e44 Ar67 (j := off) hin67 (g := (mkF m 126 #[.val (.int q0), .val (.int q1), .val (.int q2), .val (.int q3), .val (.int off), .val (.int len), .val (.ref b3), .val (.int (q3 &&& (3 : Int32))), .unset, .unset, .unset, .unset, .unset, .unset, .unset, .unset] [(.int (-17 : Int32)), (.int off), (.ref b3)])) rfl rfl (hb hby at_126)
      have hna67 := own_nat (j := off) (by omega)
      have hnb67 : (off).toInt < 8 := by omega
      have hlt67 : (off).toNatClampNeg < vs0.length := by rw [P0.1]; omega
      have V69 := Arv.set Ar67 q67 Sz67 N67_ Hs67 G67 (by decide) W69 (off).toNatClampNeg rfl hlt67
      have P69 := own_Pal_set P0 (off).toNatClampNeg (z := (-17 : Int32)) (by simp [own_isPal])
      have K69 : Keep h0 h69 [] := K44.wr W69 (Or.inr sz_b3)
      have N69 := Fr.snoc X69 N44 g_b3
      have R71 : Rch p e below (s₁.setTop (entryFrame m #[(.int q0), (.int q1), (.int q2), (.int q3)] maxLocals)) T69 (mkF m 130 #[.val (.int q0), .val (.int q1), .val (.int q2), .val (.int q3), .val (.int off), .val (.int len), .val (.ref b3), .val (.int (q3 &&& (3 : Int32))), .unset, .unset, .unset, .unset, .unset, .unset, .unset, .unset] [(.int (1 : Int32)), (.int (q3 &&& (3 : Int32)))]) := fun t k => by
        refine R68 t ?_
        refine st69 _ ?_
        show Steps p.tables e below (T69.setTop (mkF m 127 #[.val (.int q0), .val (.int q1), .val (.int q2), .val (.int q3), .val (.int off), .val (.int len), .val (.ref b3), .val (.int (q3 &&& (3 : Int32))), .unset, .unset, .unset, .unset, .unset, .unset, .unset, .unset] [])) t
        refine XS.iload X69.here hx rfl (hb hby at_127) rfl ?_
        show Steps p.tables e below (T69.setTop (mkF m 129 #[.val (.int q0), .val (.int q1), .val (.int q2), .val (.int q3), .val (.int off), .val (.int len), .val (.ref b3), .val (.int (q3 &&& (3 : Int32))), .unset, .unset, .unset, .unset, .unset, .unset, .unset, .unset] [(.int (q3 &&& (3 : Int32)))])) t
        refine XS.iconst X69.here hx rfl (hb hby at_129) ?_
        exact k
      by_cases hc130_70 : (1 : Int32) < (q3 &&& (3 : Int32))
      · have R73 : Rch p e below (s₁.setTop (entryFrame m #[(.int q0), (.int q1), (.int q2), (.int q3)] maxLocals)) T69 (mkF m 144 #[.val (.int q0), .val (.int q1), .val (.int q2), .val (.int q3), .val (.int off), .val (.int len), .val (.ref b3), .val (.int (q3 &&& (3 : Int32))), .unset, .unset, .unset, .unset, .unset, .unset, .unset, .unset] [(.int (q3 &&& (3 : Int32)))]) := fun t k => by
          refine R71 t ?_
          refine XS.icmpYes X69.here hx rfl (pc0 := 130) (pc' := 142) rfl (hb hby at_130) rfl (tlt hc130_70).2.2.1 (by decide) (by decide) ?_
          show Steps p.tables e below (T69.setTop (mkF m 142 #[.val (.int q0), .val (.int q1), .val (.int q2), .val (.int q3), .val (.int off), .val (.int len), .val (.ref b3), .val (.int (q3 &&& (3 : Int32))), .unset, .unset, .unset, .unset, .unset, .unset, .unset, .unset] [])) t
          refine XS.iload X69.here hx rfl (hb hby at_142) rfl ?_
          exact k
        by_cases hc144_72 : (q3 &&& (3 : Int32)) = (0 : Int32)
        · have R75 : Rch p e below (s₁.setTop (entryFrame m #[(.int q0), (.int q1), (.int q2), (.int q3)] maxLocals)) T69 (mkF m 155 #[.val (.int q0), .val (.int q1), .val (.int q2), .val (.int q3), .val (.int off), .val (.int len), .val (.ref b3), .val (.int (q3 &&& (3 : Int32))), .unset, .unset, .unset, .unset, .unset, .unset, .unset, .unset] [(.int (-65 : Int32)), (.int (off + (2 : Int32))), (.ref b3)]) := fun t k => by
            refine R73 t ?_
            refine XS.ifNo X69.here hx rfl (hb hby at_144) rfl ((if0 _ _).trans (teq hc144_72).2) ?_
            show Steps p.tables e below (T69.setTop (mkF m 147 #[.val (.int q0), .val (.int q1), .val (.int q2), .val (.int q3), .val (.int off), .val (.int len), .val (.ref b3), .val (.int (q3 &&& (3 : Int32))), .unset, .unset, .unset, .unset, .unset, .unset, .unset, .unset] [])) t
            refine XS.aload X69.here hx rfl (hb hby at_147) rfl rfl ?_
            show Steps p.tables e below (T69.setTop (mkF m 149 #[.val (.int q0), .val (.int q1), .val (.int q2), .val (.int q3), .val (.int off), .val (.int len), .val (.ref b3), .val (.int (q3 &&& (3 : Int32))), .unset, .unset, .unset, .unset, .unset, .unset, .unset, .unset] [(.ref b3)])) t
            refine XS.iload X69.here hx rfl (hb hby at_149) rfl ?_
            show Steps p.tables e below (T69.setTop (mkF m 151 #[.val (.int q0), .val (.int q1), .val (.int q2), .val (.int q3), .val (.int off), .val (.int len), .val (.ref b3), .val (.int (q3 &&& (3 : Int32))), .unset, .unset, .unset, .unset, .unset, .unset, .unset, .unset] [(.int off), (.ref b3)])) t
            refine XS.iconst X69.here hx rfl (hb hby at_151) ?_
            show Steps p.tables e below (T69.setTop (mkF m 152 #[.val (.int q0), .val (.int q1), .val (.int q2), .val (.int q3), .val (.int off), .val (.int len), .val (.ref b3), .val (.int (q3 &&& (3 : Int32))), .unset, .unset, .unset, .unset, .unset, .unset, .unset, .unset] [(.int (2 : Int32)), (.int off), (.ref b3)])) t
            refine XS.iadd X69.here hx rfl (hb hby at_152) rfl ?_
            show Steps p.tables e below (T69.setTop (mkF m 153 #[.val (.int q0), .val (.int q1), .val (.int q2), .val (.int q3), .val (.int off), .val (.int len), .val (.ref b3), .val (.int (q3 &&& (3 : Int32))), .unset, .unset, .unset, .unset, .unset, .unset, .unset, .unset] [(.int (off + (2 : Int32))), (.ref b3)])) t
            refine XS.bipush X69.here hx rfl (hb hby at_153) ?_
            exact k
          obtain ⟨cl74, Ar74, q74, Sz74, N74_, Hs74, G74⟩ := id V69
          have hin74 : ¬ ((off + (2 : Int32)) < 0 ∨ cl74.slots.size ≤ ((off + (2 : Int32))).toNatClampNeg) := inb_of Sz74 (own_inb (by rw [ho2]; omega) (by rw [ho2]; omega))
          obtain ⟨T76, h76, X76, e76, W76, st76⟩ := stB X69 hx hZ e69 Ar74 (j := (off + (2 : Int32))) hin74 (g := (mkF m 155 #[.val (.int q0), .val (.int q1), .val (.int q2), .val (.int q3), .val (.int off), .val (.int len), .val (.ref b3), .val (.int (q3 &&& (3 : Int32))), .unset, .unset, .unset, .unset, .unset, .unset, .unset, .unset] [(.int (-65 : Int32)), (.int (off + (2 : Int32))), (.ref b3)])) rfl rfl (hb hby at_155)
          have hna74 := own_nat (j := (off + (2 : Int32))) (by rw [ho2]; omega)
          have hnb74 : ((off + (2 : Int32))).toInt < 8 := by rw [ho2]; omega
          have hlt74 : ((off + (2 : Int32))).toNatClampNeg < (vs0.set (off).toNatClampNeg (.int (-17 : Int32))).length := by rw [P69.1]; omega
          have V76 := Arv.set Ar74 q74 Sz74 N74_ Hs74 G74 (by decide) W76 ((off + (2 : Int32))).toNatClampNeg rfl hlt74
          have P76 := own_Pal_set P69 ((off + (2 : Int32))).toNatClampNeg (z := (-65 : Int32)) (by simp [own_isPal])
          have K76 : Keep h0 h76 [] := K69.wr W76 (Or.inr sz_b3)
          have N76 := Fr.snoc X76 N69 g_b3
          have R77 : Rch p e below (s₁.setTop (entryFrame m #[(.int q0), (.int q1), (.int q2), (.int q3)] maxLocals)) T76 (mkF m 156 #[.val (.int q0), .val (.int q1), .val (.int q2), .val (.int q3), .val (.int off), .val (.int len), .val (.ref b3), .val (.int (q3 &&& (3 : Int32))), .unset, .unset, .unset, .unset, .unset, .unset, .unset, .unset] []) := fun t k => by
            refine R75 t ?_
            refine st76 _ ?_
            exact k
          exact ⟨T76, h76, _, _, X76, e76, N76, K76, V76, P76, R77⟩
        · have R78 : Rch p e below (s₁.setTop (entryFrame m #[(.int q0), (.int q1), (.int q2), (.int q3)] maxLocals)) T69 (mkF m 156 #[.val (.int q0), .val (.int q1), .val (.int q2), .val (.int q3), .val (.int off), .val (.int len), .val (.ref b3), .val (.int (q3 &&& (3 : Int32))), .unset, .unset, .unset, .unset, .unset, .unset, .unset, .unset] []) := fun t k => by
            refine R73 t ?_
            refine XS.ifYes X69.here hx rfl (pc0 := 144) (pc' := 156) rfl (hb hby at_144) rfl ((if0 _ _).trans (feq hc144_72).2) (by decide) (by decide) ?_
            exact k
          exact ⟨T69, h69, _, _, X69, e69, N69, K69, V69, P69, R78⟩
      · have R80 : Rch p e below (s₁.setTop (entryFrame m #[(.int q0), (.int q1), (.int q2), (.int q3)] maxLocals)) T69 (mkF m 141 #[.val (.int q0), .val (.int q1), .val (.int q2), .val (.int q3), .val (.int off), .val (.int len), .val (.ref b3), .val (.int (q3 &&& (3 : Int32))), .unset, .unset, .unset, .unset, .unset, .unset, .unset, .unset] [(.int (-69 : Int32)), (.int (off + (1 : Int32))), (.ref b3)]) := fun t k => by
          refine R71 t ?_
          refine XS.icmpNo X69.here hx rfl (hb hby at_130) rfl (flt hc130_70).2.2.1 ?_
          show Steps p.tables e below (T69.setTop (mkF m 133 #[.val (.int q0), .val (.int q1), .val (.int q2), .val (.int q3), .val (.int off), .val (.int len), .val (.ref b3), .val (.int (q3 &&& (3 : Int32))), .unset, .unset, .unset, .unset, .unset, .unset, .unset, .unset] [])) t
          refine XS.aload X69.here hx rfl (hb hby at_133) rfl rfl ?_
          show Steps p.tables e below (T69.setTop (mkF m 135 #[.val (.int q0), .val (.int q1), .val (.int q2), .val (.int q3), .val (.int off), .val (.int len), .val (.ref b3), .val (.int (q3 &&& (3 : Int32))), .unset, .unset, .unset, .unset, .unset, .unset, .unset, .unset] [(.ref b3)])) t
          refine XS.iload X69.here hx rfl (hb hby at_135) rfl ?_
          show Steps p.tables e below (T69.setTop (mkF m 137 #[.val (.int q0), .val (.int q1), .val (.int q2), .val (.int q3), .val (.int off), .val (.int len), .val (.ref b3), .val (.int (q3 &&& (3 : Int32))), .unset, .unset, .unset, .unset, .unset, .unset, .unset, .unset] [(.int off), (.ref b3)])) t
          refine XS.iconst X69.here hx rfl (hb hby at_137) ?_
          show Steps p.tables e below (T69.setTop (mkF m 138 #[.val (.int q0), .val (.int q1), .val (.int q2), .val (.int q3), .val (.int off), .val (.int len), .val (.ref b3), .val (.int (q3 &&& (3 : Int32))), .unset, .unset, .unset, .unset, .unset, .unset, .unset, .unset] [(.int (1 : Int32)), (.int off), (.ref b3)])) t
          refine XS.iadd X69.here hx rfl (hb hby at_138) rfl ?_
          show Steps p.tables e below (T69.setTop (mkF m 139 #[.val (.int q0), .val (.int q1), .val (.int q2), .val (.int q3), .val (.int off), .val (.int len), .val (.ref b3), .val (.int (q3 &&& (3 : Int32))), .unset, .unset, .unset, .unset, .unset, .unset, .unset, .unset] [(.int (off + (1 : Int32))), (.ref b3)])) t
          refine XS.bipush X69.here hx rfl (hb hby at_139) ?_
          exact k
        obtain ⟨cl79, Ar79, q79, Sz79, N79_, Hs79, G79⟩ := id V69
        have hin79 : ¬ ((off + (1 : Int32)) < 0 ∨ cl79.slots.size ≤ ((off + (1 : Int32))).toNatClampNeg) := inb_of Sz79 (own_inb (by rw [ho1]; omega) (by rw [ho1]; omega))
        obtain ⟨T81, h81, X81, e81, W81, st81⟩ := stB X69 hx hZ e69 Ar79 (j := (off + (1 : Int32))) hin79 (g := (mkF m 141 #[.val (.int q0), .val (.int q1), .val (.int q2), .val (.int q3), .val (.int off), .val (.int len), .val (.ref b3), .val (.int (q3 &&& (3 : Int32))), .unset, .unset, .unset, .unset, .unset, .unset, .unset, .unset] [(.int (-69 : Int32)), (.int (off + (1 : Int32))), (.ref b3)])) rfl rfl (hb hby at_141)
        have hna79 := own_nat (j := (off + (1 : Int32))) (by rw [ho1]; omega)
        have hnb79 : ((off + (1 : Int32))).toInt < 8 := by rw [ho1]; omega
        have hlt79 : ((off + (1 : Int32))).toNatClampNeg < (vs0.set (off).toNatClampNeg (.int (-17 : Int32))).length := by rw [P69.1]; omega
        have V81 := Arv.set Ar79 q79 Sz79 N79_ Hs79 G79 (by decide) W81 ((off + (1 : Int32))).toNatClampNeg rfl hlt79
        have P81 := own_Pal_set P69 ((off + (1 : Int32))).toNatClampNeg (z := (-69 : Int32)) (by simp [own_isPal])
        have K81 : Keep h0 h81 [] := K69.wr W81 (Or.inr sz_b3)
        have N81 := Fr.snoc X81 N69 g_b3
        have R83 : Rch p e below (s₁.setTop (entryFrame m #[(.int q0), (.int q1), (.int q2), (.int q3)] maxLocals)) T81 (mkF m 144 #[.val (.int q0), .val (.int q1), .val (.int q2), .val (.int q3), .val (.int off), .val (.int len), .val (.ref b3), .val (.int (q3 &&& (3 : Int32))), .unset, .unset, .unset, .unset, .unset, .unset, .unset, .unset] [(.int (q3 &&& (3 : Int32)))]) := fun t k => by
          refine R80 t ?_
          refine st81 _ ?_
          show Steps p.tables e below (T81.setTop (mkF m 142 #[.val (.int q0), .val (.int q1), .val (.int q2), .val (.int q3), .val (.int off), .val (.int len), .val (.ref b3), .val (.int (q3 &&& (3 : Int32))), .unset, .unset, .unset, .unset, .unset, .unset, .unset, .unset] [])) t
          refine XS.iload X81.here hx rfl (hb hby at_142) rfl ?_
          exact k
        by_cases hc144_82 : (q3 &&& (3 : Int32)) = (0 : Int32)
        · have R85 : Rch p e below (s₁.setTop (entryFrame m #[(.int q0), (.int q1), (.int q2), (.int q3)] maxLocals)) T81 (mkF m 155 #[.val (.int q0), .val (.int q1), .val (.int q2), .val (.int q3), .val (.int off), .val (.int len), .val (.ref b3), .val (.int (q3 &&& (3 : Int32))), .unset, .unset, .unset, .unset, .unset, .unset, .unset, .unset] [(.int (-65 : Int32)), (.int (off + (2 : Int32))), (.ref b3)]) := fun t k => by
            refine R83 t ?_
            refine XS.ifNo X81.here hx rfl (hb hby at_144) rfl ((if0 _ _).trans (teq hc144_82).2) ?_
            show Steps p.tables e below (T81.setTop (mkF m 147 #[.val (.int q0), .val (.int q1), .val (.int q2), .val (.int q3), .val (.int off), .val (.int len), .val (.ref b3), .val (.int (q3 &&& (3 : Int32))), .unset, .unset, .unset, .unset, .unset, .unset, .unset, .unset] [])) t
            refine XS.aload X81.here hx rfl (hb hby at_147) rfl rfl ?_
            show Steps p.tables e below (T81.setTop (mkF m 149 #[.val (.int q0), .val (.int q1), .val (.int q2), .val (.int q3), .val (.int off), .val (.int len), .val (.ref b3), .val (.int (q3 &&& (3 : Int32))), .unset, .unset, .unset, .unset, .unset, .unset, .unset, .unset] [(.ref b3)])) t
            refine XS.iload X81.here hx rfl (hb hby at_149) rfl ?_
            show Steps p.tables e below (T81.setTop (mkF m 151 #[.val (.int q0), .val (.int q1), .val (.int q2), .val (.int q3), .val (.int off), .val (.int len), .val (.ref b3), .val (.int (q3 &&& (3 : Int32))), .unset, .unset, .unset, .unset, .unset, .unset, .unset, .unset] [(.int off), (.ref b3)])) t
            refine XS.iconst X81.here hx rfl (hb hby at_151) ?_
            show Steps p.tables e below (T81.setTop (mkF m 152 #[.val (.int q0), .val (.int q1), .val (.int q2), .val (.int q3), .val (.int off), .val (.int len), .val (.ref b3), .val (.int (q3 &&& (3 : Int32))), .unset, .unset, .unset, .unset, .unset, .unset, .unset, .unset] [(.int (2 : Int32)), (.int off), (.ref b3)])) t
            refine XS.iadd X81.here hx rfl (hb hby at_152) rfl ?_
            show Steps p.tables e below (T81.setTop (mkF m 153 #[.val (.int q0), .val (.int q1), .val (.int q2), .val (.int q3), .val (.int off), .val (.int len), .val (.ref b3), .val (.int (q3 &&& (3 : Int32))), .unset, .unset, .unset, .unset, .unset, .unset, .unset, .unset] [(.int (off + (2 : Int32))), (.ref b3)])) t
            refine XS.bipush X81.here hx rfl (hb hby at_153) ?_
            exact k
          obtain ⟨cl84, Ar84, q84, Sz84, N84_, Hs84, G84⟩ := id V81
          have hin84 : ¬ ((off + (2 : Int32)) < 0 ∨ cl84.slots.size ≤ ((off + (2 : Int32))).toNatClampNeg) := inb_of Sz84 (own_inb (by rw [ho2]; omega) (by rw [ho2]; omega))
          obtain ⟨T86, h86, X86, e86, W86, st86⟩ := stB X81 hx hZ e81 Ar84 (j := (off + (2 : Int32))) hin84 (g := (mkF m 155 #[.val (.int q0), .val (.int q1), .val (.int q2), .val (.int q3), .val (.int off), .val (.int len), .val (.ref b3), .val (.int (q3 &&& (3 : Int32))), .unset, .unset, .unset, .unset, .unset, .unset, .unset, .unset] [(.int (-65 : Int32)), (.int (off + (2 : Int32))), (.ref b3)])) rfl rfl (hb hby at_155)
          have hna84 := own_nat (j := (off + (2 : Int32))) (by rw [ho2]; omega)
          have hnb84 : ((off + (2 : Int32))).toInt < 8 := by rw [ho2]; omega
          have hlt84 : ((off + (2 : Int32))).toNatClampNeg < ((vs0.set (off).toNatClampNeg (.int (-17 : Int32))).set ((off + (1 : Int32))).toNatClampNeg (.int (-69 : Int32))).length := by rw [P81.1]; omega
          have V86 := Arv.set Ar84 q84 Sz84 N84_ Hs84 G84 (by decide) W86 ((off + (2 : Int32))).toNatClampNeg rfl hlt84
          have P86 := own_Pal_set P81 ((off + (2 : Int32))).toNatClampNeg (z := (-65 : Int32)) (by simp [own_isPal])
          have K86 : Keep h0 h86 [] := K81.wr W86 (Or.inr sz_b3)
          have N86 := Fr.snoc X86 N81 g_b3
          have R87 : Rch p e below (s₁.setTop (entryFrame m #[(.int q0), (.int q1), (.int q2), (.int q3)] maxLocals)) T86 (mkF m 156 #[.val (.int q0), .val (.int q1), .val (.int q2), .val (.int q3), .val (.int off), .val (.int len), .val (.ref b3), .val (.int (q3 &&& (3 : Int32))), .unset, .unset, .unset, .unset, .unset, .unset, .unset, .unset] []) := fun t k => by
            refine R85 t ?_
            refine st86 _ ?_
            exact k
          exact ⟨T86, h86, _, _, X86, e86, N86, K86, V86, P86, R87⟩
        · have R88 : Rch p e below (s₁.setTop (entryFrame m #[(.int q0), (.int q1), (.int q2), (.int q3)] maxLocals)) T81 (mkF m 156 #[.val (.int q0), .val (.int q1), .val (.int q2), .val (.int q3), .val (.int off), .val (.int len), .val (.ref b3), .val (.int (q3 &&& (3 : Int32))), .unset, .unset, .unset, .unset, .unset, .unset, .unset, .unset] []) := fun t k => by
            refine R83 t ?_
            refine XS.ifYes X81.here hx rfl (pc0 := 144) (pc' := 156) rfl (hb hby at_144) rfl ((if0 _ _).trans (feq hc144_82).2) (by decide) (by decide) ?_
            exact k
          exact ⟨T81, h81, _, _, X81, e81, N81, K81, V81, P81, R88⟩
  have R90 : Rch p e below (s₁.setTop (entryFrame m #[(.int q0), (.int q1), (.int q2), (.int q3)] maxLocals)) TJ (mkF m 157 #[.val (.int q0), .val (.int q1), .val (.int q2), .val (.int q3), .val (.int off), .val (.int len), .val (.ref b3), .val (.int (q3 &&& (3 : Int32))), .unset, .unset, .unset, .unset, .unset, .unset, .unset, .unset] [(.int (1 : Int32))]) := fun t k => by
    refine RJ t ?_
    refine XS.iconst XJ.here hx rfl (hb hby at_156) ?_
    exact k
  obtain ⟨T89, h89, k89, X89, e89, E89, A89, st89⟩ := newP XJ hx hZ (hw _ (List.mem_of_getElem? (i := 1) rfl)) eJ (g := (mkF m 157 #[.val (.int q0), .val (.int q1), .val (.int q2), .val (.int q3), .val (.int off), .val (.int len), .val (.ref b3), .val (.int (q3 &&& (3 : Int32))), .unset, .unset, .unset, .unset, .unset, .unset, .unset, .unset] [(.int (1 : Int32))])) rfl (hb hby at_157) rfl (by decide) (cap := 1) (by decide) (by decide) (by decide) (by decide)
  obtain ⟨b89, g89⟩ : ∃ z, z = hJ.size := ⟨_, rfl⟩
  rw [← g89] at A89 st89
  have g_b89 : n0 ≤ b89 := Nat.le_trans (Nat.le_trans Z0 KJ.1) (Nat.le_of_eq g89.symm)
  have sz_b89 : h0.size ≤ b89 := Nat.le_trans KJ.1 (Nat.le_of_eq g89.symm)
  have K89 : Keep h0 h89 [] := KJ.ext E89
  have V89 : Arv Z h89 b89 k89 .byte (1 : Int32) [(.int (0 : Int32))] (.int (0 : Int32)) := (Arv.new A89 (by decide)).pad (pad_rep [] (.int (0 : Int32)) 1)
  have R92 : Rch p e below (s₁.setTop (entryFrame m #[(.int q0), (.int q1), (.int q2), (.int q3)] maxLocals)) T89 (mkF m 163 #[.val (.int q0), .val (.int q1), .val (.int q2), .val (.int q3), .val (.int off), .val (.int len), .val (.ref b3), .val (.int (q3 &&& (3 : Int32))), .unset, .unset, .unset, .unset, .unset, .unset, .unset, .unset] [(.int (91 : Int32)), (.int (0 : Int32)), (.ref b89), (.ref b89)]) := fun t k => by
    refine R90 t ?_
    refine st89 _ ?_
    show Steps p.tables e below (T89.setTop (mkF m 159 #[.val (.int q0), .val (.int q1), .val (.int q2), .val (.int q3), .val (.int off), .val (.int len), .val (.ref b3), .val (.int (q3 &&& (3 : Int32))), .unset, .unset, .unset, .unset, .unset, .unset, .unset, .unset] [(.ref b89)])) t
    refine XS.dup X89.here hx rfl (hb hby at_159) rfl rfl ?_
    show Steps p.tables e below (T89.setTop (mkF m 160 #[.val (.int q0), .val (.int q1), .val (.int q2), .val (.int q3), .val (.int off), .val (.int len), .val (.ref b3), .val (.int (q3 &&& (3 : Int32))), .unset, .unset, .unset, .unset, .unset, .unset, .unset, .unset] [(.ref b89), (.ref b89)])) t
    refine XS.iconst X89.here hx rfl (hb hby at_160) ?_
    show Steps p.tables e below (T89.setTop (mkF m 161 #[.val (.int q0), .val (.int q1), .val (.int q2), .val (.int q3), .val (.int off), .val (.int len), .val (.ref b3), .val (.int (q3 &&& (3 : Int32))), .unset, .unset, .unset, .unset, .unset, .unset, .unset, .unset] [(.int (0 : Int32)), (.ref b89), (.ref b89)])) t
    refine XS.bipush X89.here hx rfl (hb hby at_161) ?_
    exact k
  obtain ⟨cl91, Ar91, q91, Sz91, N91_, Hs91, G91⟩ := id V89
  have hin91 : ¬ ((0 : Int32) < 0 ∨ cl91.slots.size ≤ ((0 : Int32)).toNatClampNeg) := inb_of Sz91 ⟨by decide, by decide⟩
  obtain ⟨T93, h93, X93, e93, W93, st93⟩ := stB X89 hx hZ e89 Ar91 (j := (0 : Int32)) hin91 (g := (mkF m 163 #[.val (.int q0), .val (.int q1), .val (.int q2), .val (.int q3), .val (.int off), .val (.int len), .val (.ref b3), .val (.int (q3 &&& (3 : Int32))), .unset, .unset, .unset, .unset, .unset, .unset, .unset, .unset] [(.int (91 : Int32)), (.int (0 : Int32)), (.ref b89), (.ref b89)])) rfl rfl (hb hby at_163)
  have V93 : Arv Z h93 b89 k89 .byte (1 : Int32) [(.int (91 : Int32))] (.int (0 : Int32)) := Arv.set Ar91 q91 Sz91 N91_ Hs91 G91 (by decide) W93 0 rfl (Nat.le_of_ble_eq_true rfl)
  have K93 : Keep h0 h93 [] := K89.wr W93 (Or.inr sz_b89)
  have N93 := Fr.snoc X93 NJ g_b89
  have R95 : Rch p e below (s₁.setTop (entryFrame m #[(.int q0), (.int q1), (.int q2), (.int q3)] maxLocals)) T93 (mkF m 166 #[.val (.int q0), .val (.int q1), .val (.int q2), .val (.int q3), .val (.int off), .val (.int len), .val (.ref b3), .val (.int (q3 &&& (3 : Int32))), .val (.ref b89), .unset, .unset, .unset, .unset, .unset, .unset, .unset] []) := fun t k => by
    refine R92 t ?_
    refine st93 _ ?_
    show Steps p.tables e below (T93.setTop (mkF m 164 #[.val (.int q0), .val (.int q1), .val (.int q2), .val (.int q3), .val (.int off), .val (.int len), .val (.ref b3), .val (.int (q3 &&& (3 : Int32))), .unset, .unset, .unset, .unset, .unset, .unset, .unset, .unset] [(.ref b89)])) t
    refine XS.astore X93.here hx rfl (hb hby at_164) rfl rfl (l' := #[.val (.int q0), .val (.int q1), .val (.int q2), .val (.int q3), .val (.int off), .val (.int len), .val (.ref b3), .val (.int (q3 &&& (3 : Int32))), .val (.ref b89), .unset, .unset, .unset, .unset, .unset, .unset, .unset]) rfl ?_
    exact k
  obtain ⟨T94, h94, X94, e94, E94, A94, D94, -, st94⟩ := newO X93 hx hZ hown (hw _ (List.mem_of_getElem? (i := 6) rfl)) (hw _ (List.mem_of_getElem? (i := 7) rfl)) (hw _ (List.mem_of_getElem? (i := 8) rfl)) e93 (g := (mkF m 166 #[.val (.int q0), .val (.int q1), .val (.int q2), .val (.int q3), .val (.int off), .val (.int len), .val (.ref b3), .val (.int (q3 &&& (3 : Int32))), .val (.ref b89), .unset, .unset, .unset, .unset, .unset, .unset, .unset] [])) rfl (hb hby at_166) (by decide) (by decide)
  obtain ⟨b94, g94⟩ : ∃ z, z = h93.size := ⟨_, rfl⟩
  rw [← g94] at A94 D94 st94
  have g_b94 : n0 ≤ b94 := Nat.le_trans (Nat.le_trans Z0 K93.1) (Nat.le_of_eq g94.symm)
  have sz_b94 : h0.size ≤ b94 := Nat.le_trans K93.1 (Nat.le_of_eq g94.symm)
  have K94 : Keep h0 h94 [] := K93.ext E94
  have F94_objects : Fld Z h94 b94 "com/example/vestwork/vestwork/io/JsonScanner" "objects" "[Z" .null := D94 (Or.inr (hw _ (List.mem_of_getElem? (i := 41) rfl))) (ty := (.array .boolean)) (by decide)
  have F94_nameBytes : Fld Z h94 b94 "com/example/vestwork/vestwork/io/JsonScanner" "nameBytes" "[[B" .null := D94 (Or.inr (hw _ (List.mem_of_getElem? (i := 45) rfl))) (ty := (.array (.array .byte))) (by decide)
  have F94_names : Fld Z h94 b94 "com/example/vestwork/vestwork/io/JsonScanner" "names" "[Ljava/lang/String;" .null := D94 (Or.inr (hw _ (List.mem_of_getElem? (i := 49) rfl))) (ty := (.array (.object "java/lang/String"))) (by decide)
  have F94_places : Fld Z h94 b94 "com/example/vestwork/vestwork/io/JsonScanner" "places" "[I" .null := D94 (Or.inr (hw _ (List.mem_of_getElem? (i := 52) rfl))) (ty := (.array .int)) (by decide)
  have F94_leading : Fld Z h94 b94 "com/example/vestwork/vestwork/io/JsonScanner" "leading" "[I" .null := D94 (Or.inr (hw _ (List.mem_of_getElem? (i := 54) rfl))) (ty := (.array .int)) (by decide)
  have F94_leadingLengths : Fld Z h94 b94 "com/example/vestwork/vestwork/io/JsonScanner" "leadingLengths" "[I" .null := D94 (Or.inr (hw _ (List.mem_of_getElem? (i := 56) rfl))) (ty := (.array .int)) (by decide)
  have F94_leadingCounts : Fld Z h94 b94 "com/example/vestwork/vestwork/io/JsonScanner" "leadingCounts" "[I" .null := D94 (Or.inr (hw _ (List.mem_of_getElem? (i := 58) rfl))) (ty := (.array .int)) (by decide)
  have F94_foreseen : Fld Z h94 b94 "com/example/vestwork/vestwork/io/JsonScanner" "foreseen" "I" (.int (0 : Int32)) := D94 (Or.inl (hw _ (List.mem_of_getElem? (i := 60) rfl))) (ty := .int) (by decide)
  have F94_known : Fld Z h94 b94 "com/example/vestwork/vestwork/io/JsonScanner" "known" "Ljava/util/Map;" .null := D94 (Or.inr (hw _ (List.mem_of_getElem? (i := 140) rfl))) (ty := (.object "java/util/Map")) (by decide)
  have F94_bytes : Fld Z h94 b94 "com/example/vestwork/vestwork/io/JsonScanner" "bytes" "[B" .null := D94 (Or.inl (hw _ (List.mem_of_getElem? (i := 147) rfl))) (ty := (.array .byte)) (by decide)
  have F94_start : Fld Z h94 b94 "com/example/vestwork/vestwork/io/JsonScanner" "start" "I" (.int (0 : Int32)) := D94 (Or.inl (hw _ (List.mem_of_getElem? (i := 149) rfl))) (ty := .int) (by decide)
  have F94_end : Fld Z h94 b94 "com/example/vestwork/vestwork/io/JsonScanner" "end" "I" (.int (0 : Int32)) := D94 (Or.inl (hw _ (List.mem_of_getElem? (i := 151) rfl))) (ty := .int) (by decide)
  have F94_at : Fld Z h94 b94 "com/example/vestwork/vestwork/io/JsonScanner" "at" "I" (.int (0 : Int32)) := D94 (Or.inl (hw _ (List.mem_of_getElem? (i := 153) rfl))) (ty := .int) (by decide)
  have F94_depth : Fld Z h94 b94 "com/example/vestwork/vestwork/io/JsonScanner" "depth" "I" (.int (0 : Int32)) := D94 (Or.inl (hw _ (List.mem_of_getElem? (i := 155) rfl))) (ty := .int) (by decide)
  have F94_opened : Fld Z h94 b94 "com/example/vestwork/vestwork/io/JsonScanner" "opened" "Z" (.int (0 : Int32)) := D94 (Or.inl (hw _ (List.mem_of_getElem? (i := 179) rfl))) (ty := .boolean) (by decide)
  have R97 : Rch p e below (s₁.setTop (entryFrame m #[(.int q0), (.int q1), (.int q2), (.int q3)] maxLocals)) T94 (mkF m 170 #[.val (.int q0), .val (.int q1), .val (.int q2), .val (.int q3), .val (.int off), .val (.int len), .val (.ref b3), .val (.int (q3 &&& (3 : Int32))), .val (.ref b89), .unset, .unset, .unset, .unset, .unset, .unset, .unset] [(.ref b94), (.ref b94)]) := fun t k => by
    refine R95 t ?_
    refine st94 _ ?_
    show Steps p.tables e below (T94.setTop (mkF m 169 #[.val (.int q0), .val (.int q1), .val (.int q2), .val (.int q3), .val (.int off), .val (.int len), .val (.ref b3), .val (.int (q3 &&& (3 : Int32))), .val (.ref b89), .unset, .unset, .unset, .unset, .unset, .unset, .unset] [(.ref b94)])) t
    refine XS.dup X94.here hx rfl (hb hby at_169) rfl rfl ?_
    exact k
  obtain ⟨T96, h96, X96, e96, E96, A96, D96, -, st96⟩ := newO X94 hx hZ hown (hw _ (List.mem_of_getElem? (i := 9) rfl)) (hw _ (List.mem_of_getElem? (i := 10) rfl)) (hw _ (List.mem_of_getElem? (i := 11) rfl)) e94 (g := (mkF m 170 #[.val (.int q0), .val (.int q1), .val (.int q2), .val (.int q3), .val (.int off), .val (.int len), .val (.ref b3), .val (.int (q3 &&& (3 : Int32))), .val (.ref b89), .unset, .unset, .unset, .unset, .unset, .unset, .unset] [(.ref b94), (.ref b94)])) rfl (hb hby at_170) (by decide) (by decide)
  obtain ⟨b96, g96⟩ : ∃ z, z = h94.size := ⟨_, rfl⟩
  rw [← g96] at A96 D96 st96
  have g_b96 : n0 ≤ b96 := Nat.le_trans (Nat.le_trans Z0 K94.1) (Nat.le_of_eq g96.symm)
  have sz_b96 : h0.size ≤ b96 := Nat.le_trans K94.1 (Nat.le_of_eq g96.symm)
  have K96 : Keep h0 h96 [] := K94.ext E96
  have F96_modCount : Fld Z h96 b96 "java/util/AbstractList" "modCount" "I" (.int (0 : Int32)) := D96 (Or.inl (hw _ (List.mem_of_getElem? (i := 31) rfl))) (ty := .int) (by decide)
  have F96_elementData : Fld Z h96 b96 "java/util/ArrayList" "elementData" "[Ljava/lang/Object;" .null := D96 (Or.inl (hw _ (List.mem_of_getElem? (i := 34) rfl))) (ty := (.array (.object "java/lang/Object"))) (by decide)
  have F96_size : Fld Z h96 b96 "java/util/ArrayList" "size" "I" (.int (0 : Int32)) := D96 (Or.inl (hw _ (List.mem_of_getElem? (i := 114) rfl))) (ty := .int) (by decide)
  have R99 : Rch p e below (s₁.setTop (entryFrame m #[(.int q0), (.int q1), (.int q2), (.int q3)] maxLocals)) T96 (mkF m 174 #[.val (.int q0), .val (.int q1), .val (.int q2), .val (.int q3), .val (.int off), .val (.int len), .val (.ref b3), .val (.int (q3 &&& (3 : Int32))), .val (.ref b89), .unset, .unset, .unset, .unset, .unset, .unset, .unset] [(.ref b96), (.ref b96), (.ref b94), (.ref b94)]) := fun t k => by
    refine R97 t ?_
    refine st96 _ ?_
    show Steps p.tables e below (T96.setTop (mkF m 173 #[.val (.int q0), .val (.int q1), .val (.int q2), .val (.int q3), .val (.int off), .val (.int len), .val (.ref b3), .val (.int (q3 &&& (3 : Int32))), .val (.ref b89), .unset, .unset, .unset, .unset, .unset, .unset, .unset] [(.ref b96), (.ref b94), (.ref b94)])) t
    refine XS.dup X96.here hx rfl (hb hby at_173) rfl rfl ?_
    exact k
  obtain ⟨_, _, ⟨T98, L98, k98, n98⟩, -, X98, ⟨Lc98, hQ98, l98, y98, z98⟩, st98⟩ := X96.specialBack hx (y := (⟨"java/util/ArrayList", "<init>", "()V"⟩ : MethodName)) rfl hown (mvT hZ (hw _ (List.mem_of_getElem? (i := 12) rfl))) (mvT hZ (hw _ (List.mem_of_getElem? (i := 13) rfl))) (mvT hZ (hw _ (List.mem_of_getElem? (i := 14) rfl))) (by decide) (backOf (W := 3) (rm_arl l Z a0 hw [] b96 dce h96 n0 (Nat.le_trans Z0 K96.1) A96 g_b96 F96_modCount F96_elementData F96_size (((((own_sta_keep pDC KJ all0).ext E89).wr W93).ext E94).ext E96)) hZ (hw _ (List.mem_of_getElem? (i := 14) rfl)) (hw _ (List.mem_of_getElem? (i := 11) rfl)) (by decide) (by decide)) (g := (mkF m 174 #[.val (.int q0), .val (.int q1), .val (.int q2), .val (.int q3), .val (.int off), .val (.int len), .val (.ref b3), .val (.int (q3 &&& (3 : Int32))), .val (.ref b89), .unset, .unset, .unset, .unset, .unset, .unset, .unset] [(.ref b96), (.ref b96), (.ref b94), (.ref b94)])) rfl (by rw [hml]; rfl) (Steps.refl _) (a := b96) (argsL := []) (rest := [(.ref b96), (.ref b94), (.ref b94)]) (lenOf pd_0 rfl) rfl (by show 2 * 0 + _ ≤ _; exact Nat.le_of_eq rfl) (hb hby at_174) (fun _ _ => ⟨rfl, e96, (by decide : 4 + 0 ≤ _), (by decide : 37 + 0 ≤ _)⟩)
  dsimp only [Pt.U, Pt.locs, Pt.cells, Pt.slots] at X98 l98 y98 z98 st98 hQ98
  subst l98 y98 z98
  obtain ⟨rfl, N98q, Kc98, c98_E, c98_m, c98_s⟩ := hQ98
  have N98 := Fr.app N93 N98q
  have K98 : Keep h0 T98.heap [] := K96.trans Kc98 (allS (Or.inr sz_b96) all0)
  have R101 : Rch p e below (s₁.setTop (entryFrame m #[(.int q0), (.int q1), (.int q2), (.int q3)] maxLocals)) T98 (mkF m 177 #[.val (.int q0), .val (.int q1), .val (.int q2), .val (.int q3), .val (.int off), .val (.int len), .val (.ref b3), .val (.int (q3 &&& (3 : Int32))), .val (.ref b89), .unset, .unset, .unset, .unset, .unset, .unset, .unset] [(.ref b96), (.ref b94), (.ref b94)]) := fun t k => by
    refine R99 t ?_
    refine st98.trans ?_
    exact k
  obtain ⟨_, _, ⟨T100, L100, k100, n100⟩, -, X100, ⟨Lc100, hQ100, l100, y100, z100⟩, st100⟩ := X98.specialBack hx (y := (⟨"com/example/vestwork/vestwork/io/JsonScanner", "<init>", "(Ljava/util/List;)V"⟩ : MethodName)) rfl hown (mvT hZ (hw _ (List.mem_of_getElem? (i := 35) rfl))) (mvT hZ (hw _ (List.mem_of_getElem? (i := 36) rfl))) (mvT hZ (hw _ (List.mem_of_getElem? (i := 37) rfl))) (by decide) (backOf (W := 1) (rm_js l Z a0 hw [] b94 b96 emp T98.heap n0 (Nat.le_trans Z0 K98.1) ((A94.ext E96).keep Kc98) g_b94 ((F94_objects.ext E96).keep Kc98 (ninS (Nat.ne_of_lt (Nat.lt_of_lt_of_le A94.lt (Nat.le_of_eq g96.symm))) nin0)) ((F94_nameBytes.ext E96).keep Kc98 (ninS (Nat.ne_of_lt (Nat.lt_of_lt_of_le A94.lt (Nat.le_of_eq g96.symm))) nin0)) ((F94_names.ext E96).keep Kc98 (ninS (Nat.ne_of_lt (Nat.lt_of_lt_of_le A94.lt (Nat.le_of_eq g96.symm))) nin0)) ((F94_places.ext E96).keep Kc98 (ninS (Nat.ne_of_lt (Nat.lt_of_lt_of_le A94.lt (Nat.le_of_eq g96.symm))) nin0)) ((F94_leading.ext E96).keep Kc98 (ninS (Nat.ne_of_lt (Nat.lt_of_lt_of_le A94.lt (Nat.le_of_eq g96.symm))) nin0)) ((F94_leadingLengths.ext E96).keep Kc98 (ninS (Nat.ne_of_lt (Nat.lt_of_lt_of_le A94.lt (Nat.le_of_eq g96.symm))) nin0)) ((F94_leadingCounts.ext E96).keep Kc98 (ninS (Nat.ne_of_lt (Nat.lt_of_lt_of_le A94.lt (Nat.le_of_eq g96.symm))) nin0)) ((F94_foreseen.ext E96).keep Kc98 (ninS (Nat.ne_of_lt (Nat.lt_of_lt_of_le A94.lt (Nat.le_of_eq g96.symm))) nin0)) ((F94_known.ext E96).keep Kc98 (ninS (Nat.ne_of_lt (Nat.lt_of_lt_of_le A94.lt (Nat.le_of_eq g96.symm))) nin0)) ((F94_bytes.ext E96).keep Kc98 (ninS (Nat.ne_of_lt (Nat.lt_of_lt_of_le A94.lt (Nat.le_of_eq g96.symm))) nin0)) ((F94_start.ext E96).keep Kc98 (ninS (Nat.ne_of_lt (Nat.lt_of_lt_of_le A94.lt (Nat.le_of_eq g96.symm))) nin0)) ((F94_end.ext E96).keep Kc98 (ninS (Nat.ne_of_lt (Nat.lt_of_lt_of_le A94.lt (Nat.le_of_eq g96.symm))) nin0)) ((F94_at.ext E96).keep Kc98 (ninS (Nat.ne_of_lt (Nat.lt_of_lt_of_le A94.lt (Nat.le_of_eq g96.symm))) nin0)) ((F94_depth.ext E96).keep Kc98 (ninS (Nat.ne_of_lt (Nat.lt_of_lt_of_le A94.lt (Nat.le_of_eq g96.symm))) nin0)) ((F94_opened.ext E96).keep Kc98 (ninS (Nat.ne_of_lt (Nat.lt_of_lt_of_le A94.lt (Nat.le_of_eq g96.symm))) nin0)) c98_E c98_m c98_s (Ne.symm (Nat.ne_of_lt (Nat.lt_of_lt_of_le A94.lt (Nat.le_of_eq g96.symm)))) (own_sta_keep (((((own_sta_keep pEM KJ all0).ext E89).wr W93).ext E94).ext E96) Kc98 (allS A96.nostat all0))) hZ (hw _ (List.mem_of_getElem? (i := 37) rfl)) (hw _ (List.mem_of_getElem? (i := 8) rfl)) (by decide) (by decide)) (g := (mkF m 177 #[.val (.int q0), .val (.int q1), .val (.int q2), .val (.int q3), .val (.int off), .val (.int len), .val (.ref b3), .val (.int (q3 &&& (3 : Int32))), .val (.ref b89), .unset, .unset, .unset, .unset, .unset, .unset, .unset] [(.ref b96), (.ref b94), (.ref b94)])) rfl (by rw [hml]; rfl) (Steps.refl _) (a := b94) (argsL := [(.ref b96)]) (rest := [(.ref b94)]) (lenOf pd_11 rfl) rfl (by show 2 * 0 + _ ≤ _; exact Nat.le_of_eq rfl) (hb hby at_177) (fun _ _ => ⟨rfl, rfl, (by decide : 4 + 9 ≤ _), (by decide : 37 + 11509 ≤ _)⟩)
  dsimp only [Pt.U, Pt.locs, Pt.cells, Pt.slots] at X100 l100 y100 z100 st100 hQ100
  subst l100 y100 z100
  obtain ⟨rfl, N100q, Kc100, c100_E, c100_f_bytes, c100_f_start, c100_f_end, c100_f_at, c100_f_depth, c100_f_opened, c100_f_objects, c100_arr⟩ := hQ100
  have N100 := Fr.app N98 N100q
  have K100 : Keep h0 T100.heap [] := K98.trans Kc100 (allS (Or.inr sz_b94) all0)
  obtain ⟨ob, hob⟩ : ∃ z, z = T98.heap.size := ⟨_, rfl⟩
  rw [← hob] at c100_f_objects c100_arr
  obtain ⟨kb, VB⟩ := c100_arr
  have g_ob : n0 ≤ ob := Nat.le_trans (Nat.le_trans Z0 K98.1) (Nat.le_of_eq hob.symm)
  have sz_ob : h0.size ≤ ob := Nat.le_trans K98.1 (Nat.le_of_eq hob.symm)
  have R103 : Rch p e below (s₁.setTop (entryFrame m #[(.int q0), (.int q1), (.int q2), (.int q3)] maxLocals)) T100 (mkF m 188 #[.val (.int q0), .val (.int q1), .val (.int q2), .val (.int q3), .val (.int off), .val (.int len), .val (.ref b3), .val (.int (q3 &&& (3 : Int32))), .val (.ref b89), .val (.ref b94), .unset, .unset, .unset, .unset, .unset, .unset] [(.int (1 : Int32)), (.int (0 : Int32)), (.ref b89), (.ref b94)]) := fun t k => by
    refine R101 t ?_
    refine st100.trans ?_
    show Steps p.tables e below (T100.setTop (mkF m 180 #[.val (.int q0), .val (.int q1), .val (.int q2), .val (.int q3), .val (.int off), .val (.int len), .val (.ref b3), .val (.int (q3 &&& (3 : Int32))), .val (.ref b89), .unset, .unset, .unset, .unset, .unset, .unset, .unset] [(.ref b94)])) t
    refine XS.astore X100.here hx rfl (hb hby at_180) rfl rfl (l' := #[.val (.int q0), .val (.int q1), .val (.int q2), .val (.int q3), .val (.int off), .val (.int len), .val (.ref b3), .val (.int (q3 &&& (3 : Int32))), .val (.ref b89), .val (.ref b94), .unset, .unset, .unset, .unset, .unset, .unset]) rfl ?_
    show Steps p.tables e below (T100.setTop (mkF m 182 #[.val (.int q0), .val (.int q1), .val (.int q2), .val (.int q3), .val (.int off), .val (.int len), .val (.ref b3), .val (.int (q3 &&& (3 : Int32))), .val (.ref b89), .val (.ref b94), .unset, .unset, .unset, .unset, .unset, .unset] [])) t
    refine XS.aload X100.here hx rfl (hb hby at_182) rfl rfl ?_
    show Steps p.tables e below (T100.setTop (mkF m 184 #[.val (.int q0), .val (.int q1), .val (.int q2), .val (.int q3), .val (.int off), .val (.int len), .val (.ref b3), .val (.int (q3 &&& (3 : Int32))), .val (.ref b89), .val (.ref b94), .unset, .unset, .unset, .unset, .unset, .unset] [(.ref b94)])) t
    refine XS.aload X100.here hx rfl (hb hby at_184) rfl rfl ?_
    show Steps p.tables e below (T100.setTop (mkF m 186 #[.val (.int q0), .val (.int q1), .val (.int q2), .val (.int q3), .val (.int off), .val (.int len), .val (.ref b3), .val (.int (q3 &&& (3 : Int32))), .val (.ref b89), .val (.ref b94), .unset, .unset, .unset, .unset, .unset, .unset] [(.ref b89), (.ref b94)])) t
    refine XS.iconst X100.here hx rfl (hb hby at_186) ?_
    show Steps p.tables e below (T100.setTop (mkF m 187 #[.val (.int q0), .val (.int q1), .val (.int q2), .val (.int q3), .val (.int off), .val (.int len), .val (.ref b3), .val (.int (q3 &&& (3 : Int32))), .val (.ref b89), .val (.ref b94), .unset, .unset, .unset, .unset, .unset, .unset] [(.int (0 : Int32)), (.ref b89), (.ref b94)])) t
    refine XS.iconst X100.here hx rfl (hb hby at_187) ?_
    exact k
  obtain ⟨cq102, kq102, q102a, q102b, q102c⟩ := isOf hZ rfl c100_E
  obtain ⟨_, _, ⟨T102, L102, k102, n102⟩, -, X102, ⟨Lc102, hQ102, l102, y102, z102⟩, st102⟩ := X100.virtualBack hx (y := (⟨"com/example/vestwork/vestwork/io/JsonScanner", "reset", "([BII)V"⟩ : MethodName)) (z := (⟨"com/example/vestwork/vestwork/io/JsonScanner", "reset", "([BII)V"⟩ : MethodName)) hown (mvT hZ (hw _ (List.mem_of_getElem? (i := 141) rfl))) (mvT hZ (hw _ (List.mem_of_getElem? (i := 142) rfl))) (notFace_of_selects (args := #[]) (mvT hZ (hw _ (List.mem_of_getElem? (i := 144) rfl)))) (mvT hZ (hw _ (List.mem_of_getElem? (i := 144) rfl))) (mvT hZ (hw _ (List.mem_of_getElem? (i := 143) rfl))) (by decide) (backOf (W := 0) (rm_reset l Z a0 hw [] b94 b89 k89 (1 : Int32) [(.int (91 : Int32))] (.int (0 : Int32)) (0 : Int32) (1 : Int32) (0 : Int32) ob .null (.int (0 : Int32)) (.int (0 : Int32)) (.int (0 : Int32)) (.int (0 : Int32)) T100.heap n0 (Nat.le_trans Z0 K100.1) c100_E g_b94 (Nat.ne_of_lt (Nat.lt_of_lt_of_le V93.lt (Nat.le_of_eq g94.symm))) c100_f_bytes c100_f_start c100_f_end c100_f_at c100_f_depth c100_f_opened c100_f_objects ((((V93.ext E94).ext E96).keep Kc98 (ninS (Nat.ne_of_lt (Nat.lt_of_lt_of_le (V93.ext E94).lt (Nat.le_of_eq g96.symm))) nin0)).keep Kc100 (ninS (Nat.ne_of_lt (Nat.lt_of_lt_of_le V93.lt (Nat.le_of_eq g94.symm))) nin0)) (fun hq => absurd (by decide : (1 : Int32) < 3) hq)) hZ (hw _ (List.mem_of_getElem? (i := 145) rfl)) (hw _ (List.mem_of_getElem? (i := 8) rfl)) (by decide) (by decide)) q102a q102c (g := (mkF m 188 #[.val (.int q0), .val (.int q1), .val (.int q2), .val (.int q3), .val (.int off), .val (.int len), .val (.ref b3), .val (.int (q3 &&& (3 : Int32))), .val (.ref b89), .val (.ref b94), .unset, .unset, .unset, .unset, .unset, .unset] [(.int (1 : Int32)), (.int (0 : Int32)), (.ref b89), (.ref b94)])) rfl (by rw [hml]; rfl) (Steps.refl _) (argsL := [(.ref b89), (.int (0 : Int32)), (.int (1 : Int32))]) (rest := []) (lenOf pd_12 rfl) rfl (by show 2 * 0 + _ ≤ _; exact Nat.le_of_eq rfl) (hb hby at_188) (fun _ _ => ⟨rfl, rfl, (by decide : 13 + 0 ≤ _), (by decide : 11546 + 0 ≤ _)⟩)
  dsimp only [Pt.U, Pt.locs, Pt.cells, Pt.slots] at X102 l102 y102 z102 st102 hQ102
  subst l102 y102 z102
  obtain ⟨rfl, N102q, Kc102, c102_E, c102_f_bytes, c102_f_start, c102_f_end, c102_f_at, c102_f_depth, c102_f_opened, c102_f_objects⟩ := hQ102
  have N102 := Fr.app N100 N102q
  have K102 : Keep h0 T102.heap [] := K100.trans Kc102 (allS (Or.inr sz_b94) all0)
  have hfi102 : own_first [(.int (91 : Int32))] 0 1 = (0 : Int32) := by decide
  rw [hfi102] at c102_f_at
  have hen102 : ((0 : Int32) + (1 : Int32)) = (1 : Int32) := by decide
  rw [hen102] at c102_f_end
  have R105 : Rch p e below (s₁.setTop (entryFrame m #[(.int q0), (.int q1), (.int q2), (.int q3)] maxLocals)) T102 (mkF m 193 #[.val (.int q0), .val (.int q1), .val (.int q2), .val (.int q3), .val (.int off), .val (.int len), .val (.ref b3), .val (.int (q3 &&& (3 : Int32))), .val (.ref b89), .val (.ref b94), .unset, .unset, .unset, .unset, .unset, .unset] [(.ref b94)]) := fun t k => by
    refine R103 t ?_
    refine st102.trans ?_
    show Steps p.tables e below (T102.setTop (mkF m 191 #[.val (.int q0), .val (.int q1), .val (.int q2), .val (.int q3), .val (.int off), .val (.int len), .val (.ref b3), .val (.int (q3 &&& (3 : Int32))), .val (.ref b89), .val (.ref b94), .unset, .unset, .unset, .unset, .unset, .unset] [])) t
    refine XS.aload X102.here hx rfl (hb hby at_191) rfl rfl ?_
    exact k
  obtain ⟨cq104, kq104, q104a, q104b, q104c⟩ := isOf hZ rfl c102_E
  obtain ⟨_, _, ⟨T104, L104, k104, n104⟩, -, X104, ⟨Lc104, hQ104, l104, y104, z104⟩, st104⟩ := X102.virtualBack hx (y := (⟨"com/example/vestwork/vestwork/io/JsonScanner", "value", "()Lcom/example/vestwork/vestwork/io/JsonScanner$Kind;"⟩ : MethodName)) (z := (⟨"com/example/vestwork/vestwork/io/JsonScanner", "value", "()Lcom/example/vestwork/vestwork/io/JsonScanner$Kind;"⟩ : MethodName)) hown (mvT hZ (hw _ (List.mem_of_getElem? (i := 156) rfl))) (mvT hZ (hw _ (List.mem_of_getElem? (i := 157) rfl))) (notFace_of_selects (args := #[]) (mvT hZ (hw _ (List.mem_of_getElem? (i := 159) rfl)))) (mvT hZ (hw _ (List.mem_of_getElem? (i := 159) rfl))) (mvT hZ (hw _ (List.mem_of_getElem? (i := 158) rfl))) (by decide) (backOf (W := 0) (rm_value l Z a0 hw [] b94 b89 k89 (0 : Int32) ob kb li ox (.int (0 : Int32)) T102.heap n0 (Nat.le_trans Z0 K102.1) c102_E g_b94 (Nat.ne_of_lt (Nat.lt_of_lt_of_le V93.lt (Nat.le_of_eq g94.symm))) c102_f_bytes c102_f_end c102_f_at c102_f_depth c102_f_opened c102_f_objects c102_f_start (((((V93.ext E94).ext E96).keep Kc98 (ninS (Nat.ne_of_lt (Nat.lt_of_lt_of_le (V93.ext E94).lt (Nat.le_of_eq g96.symm))) nin0)).keep Kc100 (ninS (Nat.ne_of_lt (Nat.lt_of_lt_of_le V93.lt (Nat.le_of_eq g94.symm))) nin0)).keep Kc102 (ninS (Nat.ne_of_lt (Nat.lt_of_lt_of_le V93.lt (Nat.le_of_eq g94.symm))) nin0)) (VB.keep Kc102 (ninS (Ne.symm (Nat.ne_of_lt (Nat.lt_of_lt_of_le ((A94.ext E96).keep Kc98).lt (Nat.le_of_eq hob.symm)))) nin0)) g_ob (Ne.symm (Nat.ne_of_lt (Nat.lt_of_lt_of_le ((A94.ext E96).keep Kc98).lt (Nat.le_of_eq hob.symm)))) (Nat.ne_of_lt (Nat.lt_of_lt_of_le (((V93.ext E94).ext E96).keep Kc98 (ninS (Nat.ne_of_lt (Nat.lt_of_lt_of_le (V93.ext E94).lt (Nat.le_of_eq g96.symm))) nin0)).lt (Nat.le_of_eq hob.symm))) (own_sta_keep (own_sta_keep (own_sta_keep (((((own_sta_keep pLI KJ all0).ext E89).wr W93).ext E94).ext E96) Kc98 (allS A96.nostat all0)) Kc100 (allS ((A94.ext E96).keep Kc98).nostat all0)) Kc102 (allS c100_E.nostat all0)) (own_sta_keep (own_sta_keep (own_sta_keep (((((own_sta_keep pOX KJ all0).ext E89).wr W93).ext E94).ext E96) Kc98 (allS A96.nostat all0)) Kc100 (allS ((A94.ext E96).keep Kc98).nostat all0)) Kc102 (allS c100_E.nostat all0)) plo) hZ (hw _ (List.mem_of_getElem? (i := 160) rfl)) (hw _ (List.mem_of_getElem? (i := 8) rfl)) (by decide) (by decide)) q104a q104c (g := (mkF m 193 #[.val (.int q0), .val (.int q1), .val (.int q2), .val (.int q3), .val (.int off), .val (.int len), .val (.ref b3), .val (.int (q3 &&& (3 : Int32))), .val (.ref b89), .val (.ref b94), .unset, .unset, .unset, .unset, .unset, .unset] [(.ref b94)])) rfl (by rw [hml]; rfl) (Steps.refl _) (argsL := []) (rest := []) (lenOf pd_9 rfl) rfl (by show 2 * 0 + _ ≤ _; exact Nat.le_of_eq rfl) (hb hby at_193) (fun _ _ => ⟨rfl, rfl, (by decide : 13 + 0 ≤ _), (by decide : 11546 + 0 ≤ _)⟩)
  dsimp only [Pt.U, Pt.locs, Pt.cells, Pt.slots] at X104 l104 y104 z104 st104 hQ104
  subst l104 y104 z104
  obtain ⟨rfl, N104q, Kc104, c104_E, c104_f_bytes, c104_f_end, c104_f_at, c104_f_depth, c104_f_opened, c104_f_objects, c104_f_start⟩ := hQ104
  have N104 := Fr.app N102 N104q
  have K104 : Keep h0 T104.heap [] := K102.trans Kc104 (allS (Or.inr sz_b94) (allS (Or.inr sz_ob) all0))
  have R107 : Rch p e below (s₁.setTop (entryFrame m #[(.int q0), (.int q1), (.int q2), (.int q3)] maxLocals)) T104 (mkF m 205 #[.val (.int q0), .val (.int q1), .val (.int q2), .val (.int q3), .val (.int off), .val (.int len), .val (.ref b3), .val (.int (q3 &&& (3 : Int32))), .val (.ref b89), .val (.ref b94), .unset, .unset, .unset, .unset, .unset, .unset] [(.int len), (.int off), (.ref b3), (.ref b94)]) := fun t k => by
    refine R105 t ?_
    refine st104.trans ?_
    show Steps p.tables e below (T104.setTop (mkF m 196 #[.val (.int q0), .val (.int q1), .val (.int q2), .val (.int q3), .val (.int off), .val (.int len), .val (.ref b3), .val (.int (q3 &&& (3 : Int32))), .val (.ref b89), .val (.ref b94), .unset, .unset, .unset, .unset, .unset, .unset] [(.ref li)])) t
    refine XS.pop X104.here hx rfl (hb hby at_196) rfl rfl ?_
    show Steps p.tables e below (T104.setTop (mkF m 197 #[.val (.int q0), .val (.int q1), .val (.int q2), .val (.int q3), .val (.int off), .val (.int len), .val (.ref b3), .val (.int (q3 &&& (3 : Int32))), .val (.ref b89), .val (.ref b94), .unset, .unset, .unset, .unset, .unset, .unset] [])) t
    refine XS.aload X104.here hx rfl (hb hby at_197) rfl rfl ?_
    show Steps p.tables e below (T104.setTop (mkF m 199 #[.val (.int q0), .val (.int q1), .val (.int q2), .val (.int q3), .val (.int off), .val (.int len), .val (.ref b3), .val (.int (q3 &&& (3 : Int32))), .val (.ref b89), .val (.ref b94), .unset, .unset, .unset, .unset, .unset, .unset] [(.ref b94)])) t
    refine XS.aload X104.here hx rfl (hb hby at_199) rfl rfl ?_
    show Steps p.tables e below (T104.setTop (mkF m 201 #[.val (.int q0), .val (.int q1), .val (.int q2), .val (.int q3), .val (.int off), .val (.int len), .val (.ref b3), .val (.int (q3 &&& (3 : Int32))), .val (.ref b89), .val (.ref b94), .unset, .unset, .unset, .unset, .unset, .unset] [(.ref b3), (.ref b94)])) t
    refine XS.iload X104.here hx rfl (hb hby at_201) rfl ?_
    show Steps p.tables e below (T104.setTop (mkF m 203 #[.val (.int q0), .val (.int q1), .val (.int q2), .val (.int q3), .val (.int off), .val (.int len), .val (.ref b3), .val (.int (q3 &&& (3 : Int32))), .val (.ref b89), .val (.ref b94), .unset, .unset, .unset, .unset, .unset, .unset] [(.int off), (.ref b3), (.ref b94)])) t
    refine XS.iload X104.here hx rfl (hb hby at_203) rfl ?_
    exact k
  have prd106 : ¬ len < 3 → own_rd vsJ (.int (0 : Int32)) 8 off ∧ own_rd vsJ (.int (0 : Int32)) 8 (off + 1) ∧ own_rd vsJ (.int (0 : Int32)) 8 (off + 2) := fun hq => by
    have hq' : ¬ len.toInt < 3 := fun z => hq (own_lt.mpr (by rw [own_three]; exact z))
    exact ⟨(own_rd_pal PJ (by omega) (by omega)).1, (own_rd_pal PJ (by rw [ho1]; omega) (by rw [ho1]; omega)).1, (own_rd_pal PJ (by rw [ho2]; omega) (by rw [ho2]; omega)).1⟩
  obtain ⟨cq108, kq108, q108a, q108b, q108c⟩ := isOf hZ rfl c104_E
  obtain ⟨_, _, ⟨T108, L108, k108, n108⟩, -, X108, ⟨Lc108, hQ108, l108, y108, z108⟩, st108⟩ := X104.virtualBack hx (y := (⟨"com/example/vestwork/vestwork/io/JsonScanner", "reset", "([BII)V"⟩ : MethodName)) (z := (⟨"com/example/vestwork/vestwork/io/JsonScanner", "reset", "([BII)V"⟩ : MethodName)) hown (mvT hZ (hw _ (List.mem_of_getElem? (i := 141) rfl))) (mvT hZ (hw _ (List.mem_of_getElem? (i := 142) rfl))) (notFace_of_selects (args := #[]) (mvT hZ (hw _ (List.mem_of_getElem? (i := 144) rfl)))) (mvT hZ (hw _ (List.mem_of_getElem? (i := 144) rfl))) (mvT hZ (hw _ (List.mem_of_getElem? (i := 143) rfl))) (by decide) (backOf (W := 0) (rm_reset l Z a0 hw [] b94 b3 k3 (8 : Int32) vsJ (.int (0 : Int32)) off len (1 : Int32) ob (.ref b89) (.int (0 : Int32)) (.int (1 : Int32)) (.int (1 : Int32)) (.int (1 : Int32)) T104.heap n0 (Nat.le_trans Z0 K104.1) c104_E g_b94 (Nat.ne_of_lt (Nat.lt_of_lt_of_le ((VJ.ext E89).other W93 (Nat.ne_of_lt (Nat.lt_of_lt_of_le VJ.lt (Nat.le_of_eq g89.symm)))).lt (Nat.le_of_eq g94.symm))) c104_f_bytes c104_f_start c104_f_end c104_f_at c104_f_depth c104_f_opened c104_f_objects ((((((((VJ.ext E89).other W93 (Nat.ne_of_lt (Nat.lt_of_lt_of_le VJ.lt (Nat.le_of_eq g89.symm)))).ext E94).ext E96).keep Kc98 (ninS (Nat.ne_of_lt (Nat.lt_of_lt_of_le (((VJ.ext E89).other W93 (Nat.ne_of_lt (Nat.lt_of_lt_of_le VJ.lt (Nat.le_of_eq g89.symm)))).ext E94).lt (Nat.le_of_eq g96.symm))) nin0)).keep Kc100 (ninS (Nat.ne_of_lt (Nat.lt_of_lt_of_le ((VJ.ext E89).other W93 (Nat.ne_of_lt (Nat.lt_of_lt_of_le VJ.lt (Nat.le_of_eq g89.symm)))).lt (Nat.le_of_eq g94.symm))) nin0)).keep Kc102 (ninS (Nat.ne_of_lt (Nat.lt_of_lt_of_le ((VJ.ext E89).other W93 (Nat.ne_of_lt (Nat.lt_of_lt_of_le VJ.lt (Nat.le_of_eq g89.symm)))).lt (Nat.le_of_eq g94.symm))) nin0)).keep Kc104 (ninS (Nat.ne_of_lt (Nat.lt_of_lt_of_le ((VJ.ext E89).other W93 (Nat.ne_of_lt (Nat.lt_of_lt_of_le VJ.lt (Nat.le_of_eq g89.symm)))).lt (Nat.le_of_eq g94.symm))) (ninS (Nat.ne_of_lt (Nat.lt_of_lt_of_le (((((VJ.ext E89).other W93 (Nat.ne_of_lt (Nat.lt_of_lt_of_le VJ.lt (Nat.le_of_eq g89.symm)))).ext E94).ext E96).keep Kc98 (ninS (Nat.ne_of_lt (Nat.lt_of_lt_of_le (((VJ.ext E89).other W93 (Nat.ne_of_lt (Nat.lt_of_lt_of_le VJ.lt (Nat.le_of_eq g89.symm)))).ext E94).lt (Nat.le_of_eq g96.symm))) nin0)).lt (Nat.le_of_eq hob.symm))) nin0))) prd106) hZ (hw _ (List.mem_of_getElem? (i := 145) rfl)) (hw _ (List.mem_of_getElem? (i := 8) rfl)) (by decide) (by decide)) q108a q108c (g := (mkF m 205 #[.val (.int q0), .val (.int q1), .val (.int q2), .val (.int q3), .val (.int off), .val (.int len), .val (.ref b3), .val (.int (q3 &&& (3 : Int32))), .val (.ref b89), .val (.ref b94), .unset, .unset, .unset, .unset, .unset, .unset] [(.int len), (.int off), (.ref b3), (.ref b94)])) rfl (by rw [hml]; rfl) (Steps.refl _) (argsL := [(.ref b3), (.int off), (.int len)]) (rest := []) (lenOf pd_12 rfl) rfl (by show 2 * 0 + _ ≤ _; exact Nat.le_of_eq rfl) (hb hby at_205) (fun _ _ => ⟨rfl, rfl, (by decide : 13 + 0 ≤ _), (by decide : 11546 + 0 ≤ _)⟩)
  dsimp only [Pt.U, Pt.locs, Pt.cells, Pt.slots] at X108 l108 y108 z108 st108 hQ108
  subst l108 y108 z108
  obtain ⟨rfl, N108q, Kc108, c108_E, c108_f_bytes, c108_f_start, c108_f_end, c108_f_at, c108_f_depth, c108_f_opened, c108_f_objects⟩ := hQ108
  have N108 := Fr.app N104 N108q
  have K108 : Keep h0 T108.heap [] := K104.trans Kc108 (allS (Or.inr sz_b94) all0)
  have R109 : Rch p e below (s₁.setTop (entryFrame m #[(.int q0), (.int q1), (.int q2), (.int q3)] maxLocals)) T108 (mkF m 215 #[.val (.int q0), .val (.int q1), .val (.int q2), .val (.int q3), .val (.int off), .val (.int len), .val (.ref b3), .val (.int (q3 &&& (3 : Int32))), .val (.ref b89), .val (.ref b94), .val (.int (off + len)), .unset, .unset, .unset, .unset, .unset] []) := fun t k => by
    refine R107 t ?_
    refine st108.trans ?_
    show Steps p.tables e below (T108.setTop (mkF m 208 #[.val (.int q0), .val (.int q1), .val (.int q2), .val (.int q3), .val (.int off), .val (.int len), .val (.ref b3), .val (.int (q3 &&& (3 : Int32))), .val (.ref b89), .val (.ref b94), .unset, .unset, .unset, .unset, .unset, .unset] [])) t
    refine XS.iload X108.here hx rfl (hb hby at_208) rfl ?_
    show Steps p.tables e below (T108.setTop (mkF m 210 #[.val (.int q0), .val (.int q1), .val (.int q2), .val (.int q3), .val (.int off), .val (.int len), .val (.ref b3), .val (.int (q3 &&& (3 : Int32))), .val (.ref b89), .val (.ref b94), .unset, .unset, .unset, .unset, .unset, .unset] [(.int off)])) t
    refine XS.iload X108.here hx rfl (hb hby at_210) rfl ?_
    show Steps p.tables e below (T108.setTop (mkF m 212 #[.val (.int q0), .val (.int q1), .val (.int q2), .val (.int q3), .val (.int off), .val (.int len), .val (.ref b3), .val (.int (q3 &&& (3 : Int32))), .val (.ref b89), .val (.ref b94), .unset, .unset, .unset, .unset, .unset, .unset] [(.int len), (.int off)])) t
    refine XS.iadd X108.here hx rfl (hb hby at_212) rfl ?_
    show Steps p.tables e below (T108.setTop (mkF m 213 #[.val (.int q0), .val (.int q1), .val (.int q2), .val (.int q3), .val (.int off), .val (.int len), .val (.ref b3), .val (.int (q3 &&& (3 : Int32))), .val (.ref b89), .val (.ref b94), .unset, .unset, .unset, .unset, .unset, .unset] [(.int (off + len))])) t
    refine XS.istore X108.here hx rfl (hb hby at_213) rfl (l' := #[.val (.int q0), .val (.int q1), .val (.int q2), .val (.int q3), .val (.int off), .val (.int len), .val (.ref b3), .val (.int (q3 &&& (3 : Int32))), .val (.ref b89), .val (.ref b94), .val (.int (off + len)), .unset, .unset, .unset, .unset, .unset]) rfl ?_
    exact k
  obtain ⟨mk, RM⟩ : ∃ mk : Int32, Rch p e below (s₁.setTop (entryFrame m #[(.int q0), (.int q1), (.int q2), (.int q3)] maxLocals)) T108 (mkF m 278 #[.val (.int q0), .val (.int q1), .val (.int q2), .val (.int q3), .val (.int off), .val (.int len), .val (.ref b3), .val (.int (q3 &&& (3 : Int32))), .val (.ref b89), .val (.ref b94), .val (.int (off + len)), .val (.int mk), .val (.int (own_first vsJ off len)), .unset, .unset, .unset] []) := by
    have R111 : Rch p e below (s₁.setTop (entryFrame m #[(.int q0), (.int q1), (.int q2), (.int q3)] maxLocals)) T108 (mkF m 218 #[.val (.int q0), .val (.int q1), .val (.int q2), .val (.int q3), .val (.int off), .val (.int len), .val (.ref b3), .val (.int (q3 &&& (3 : Int32))), .val (.ref b89), .val (.ref b94), .val (.int (off + len)), .unset, .unset, .unset, .unset, .unset] [(.int (3 : Int32)), (.int len)]) := fun t k => by
      refine R109 t ?_
      refine XS.iload X108.here hx rfl (hb hby at_215) rfl ?_
      show Steps p.tables e below (T108.setTop (mkF m 217 #[.val (.int q0), .val (.int q1), .val (.int q2), .val (.int q3), .val (.int off), .val (.int len), .val (.ref b3), .val (.int (q3 &&& (3 : Int32))), .val (.ref b89), .val (.ref b94), .val (.int (off + len)), .unset, .unset, .unset, .unset, .unset] [(.int len)])) t
      refine XS.iconst X108.here hx rfl (hb hby at_217) ?_
      exact k
    by_cases hc218_110 : len < (3 : Int32)
    · have R112 : Rch p e below (s₁.setTop (entryFrame m #[(.int q0), (.int q1), (.int q2), (.int q3)] maxLocals)) T108 (mkF m 278 #[.val (.int q0), .val (.int q1), .val (.int q2), .val (.int q3), .val (.int off), .val (.int len), .val (.ref b3), .val (.int (q3 &&& (3 : Int32))), .val (.ref b89), .val (.ref b94), .val (.int (off + len)), .val (.int (0 : Int32)), .val (.int off), .unset, .unset, .unset] []) := fun t k => by
        refine R111 t ?_
        refine XS.icmpYes X108.here hx rfl (pc0 := 218) (pc' := 259) rfl (hb hby at_218) rfl (tlt hc218_110).1 (by decide) (by decide) ?_
        show Steps p.tables e below (T108.setTop (mkF m 259 #[.val (.int q0), .val (.int q1), .val (.int q2), .val (.int q3), .val (.int off), .val (.int len), .val (.ref b3), .val (.int (q3 &&& (3 : Int32))), .val (.ref b89), .val (.ref b94), .val (.int (off + len)), .unset, .unset, .unset, .unset, .unset] [])) t
        refine XS.iconst X108.here hx rfl (hb hby at_259) ?_
        show Steps p.tables e below (T108.setTop (mkF m 260 #[.val (.int q0), .val (.int q1), .val (.int q2), .val (.int q3), .val (.int off), .val (.int len), .val (.ref b3), .val (.int (q3 &&& (3 : Int32))), .val (.ref b89), .val (.ref b94), .val (.int (off + len)), .unset, .unset, .unset, .unset, .unset] [(.int (0 : Int32))])) t
        refine XS.istore X108.here hx rfl (hb hby at_260) rfl (l' := #[.val (.int q0), .val (.int q1), .val (.int q2), .val (.int q3), .val (.int off), .val (.int len), .val (.ref b3), .val (.int (q3 &&& (3 : Int32))), .val (.ref b89), .val (.ref b94), .val (.int (off + len)), .val (.int (0 : Int32)), .unset, .unset, .unset, .unset]) rfl ?_
        show Steps p.tables e below (T108.setTop (mkF m 262 #[.val (.int q0), .val (.int q1), .val (.int q2), .val (.int q3), .val (.int off), .val (.int len), .val (.ref b3), .val (.int (q3 &&& (3 : Int32))), .val (.ref b89), .val (.ref b94), .val (.int (off + len)), .val (.int (0 : Int32)), .unset, .unset, .unset, .unset] [])) t
        refine XS.iload X108.here hx rfl (hb hby at_262) rfl ?_
        show Steps p.tables e below (T108.setTop (mkF m 264 #[.val (.int q0), .val (.int q1), .val (.int q2), .val (.int q3), .val (.int off), .val (.int len), .val (.ref b3), .val (.int (q3 &&& (3 : Int32))), .val (.ref b89), .val (.ref b94), .val (.int (off + len)), .val (.int (0 : Int32)), .unset, .unset, .unset, .unset] [(.int (0 : Int32))])) t
        refine XS.ifYes X108.here hx rfl (pc0 := 264) (pc' := 274) rfl (hb hby at_264) rfl ((if0 _ _).trans (teq (by decide : (0 : Int32) = (0 : Int32))).1) (by decide) (by decide) ?_
        show Steps p.tables e below (T108.setTop (mkF m 274 #[.val (.int q0), .val (.int q1), .val (.int q2), .val (.int q3), .val (.int off), .val (.int len), .val (.ref b3), .val (.int (q3 &&& (3 : Int32))), .val (.ref b89), .val (.ref b94), .val (.int (off + len)), .val (.int (0 : Int32)), .unset, .unset, .unset, .unset] [])) t
        refine XS.iload X108.here hx rfl (hb hby at_274) rfl ?_
        show Steps p.tables e below (T108.setTop (mkF m 276 #[.val (.int q0), .val (.int q1), .val (.int q2), .val (.int q3), .val (.int off), .val (.int len), .val (.ref b3), .val (.int (q3 &&& (3 : Int32))), .val (.ref b89), .val (.ref b94), .val (.int (off + len)), .val (.int (0 : Int32)), .unset, .unset, .unset, .unset] [(.int off)])) t
        refine XS.istore X108.here hx rfl (hb hby at_276) rfl (l' := #[.val (.int q0), .val (.int q1), .val (.int q2), .val (.int q3), .val (.int off), .val (.int len), .val (.ref b3), .val (.int (q3 &&& (3 : Int32))), .val (.ref b89), .val (.ref b94), .val (.int (off + len)), .val (.int (0 : Int32)), .val (.int off), .unset, .unset, .unset]) rfl ?_
        exact k
      have hfi113 : own_first vsJ off len = off := by simp [own_first, hc218_110]
      exact ⟨(0 : Int32), by rw [hfi113]; exact R112⟩
    · have R115 : Rch p e below (s₁.setTop (entryFrame m #[(.int q0), (.int q1), (.int q2), (.int q3)] maxLocals)) T108 (mkF m 225 #[.val (.int q0), .val (.int q1), .val (.int q2), .val (.int q3), .val (.int off), .val (.int len), .val (.ref b3), .val (.int (q3 &&& (3 : Int32))), .val (.ref b89), .val (.ref b94), .val (.int (off + len)), .unset, .unset, .unset, .unset, .unset] [(.int off), (.ref b3)]) := fun t k => by
        refine R111 t ?_
        refine XS.icmpNo X108.here hx rfl (hb hby at_218) rfl (flt hc218_110).1 ?_
        show Steps p.tables e below (T108.setTop (mkF m 221 #[.val (.int q0), .val (.int q1), .val (.int q2), .val (.int q3), .val (.int off), .val (.int len), .val (.ref b3), .val (.int (q3 &&& (3 : Int32))), .val (.ref b89), .val (.ref b94), .val (.int (off + len)), .unset, .unset, .unset, .unset, .unset] [])) t
        refine XS.aload X108.here hx rfl (hb hby at_221) rfl rfl ?_
        show Steps p.tables e below (T108.setTop (mkF m 223 #[.val (.int q0), .val (.int q1), .val (.int q2), .val (.int q3), .val (.int off), .val (.int len), .val (.ref b3), .val (.int (q3 &&& (3 : Int32))), .val (.ref b89), .val (.ref b94), .val (.int (off + len)), .unset, .unset, .unset, .unset, .unset] [(.ref b3)])) t
        refine XS.iload X108.here hx rfl (hb hby at_223) rfl ?_
        exact k
      obtain ⟨cl114, Ar114, q114, Sz114, N114_, Hs114, G114⟩ := id (((((((((VJ.ext E89).other W93 (Nat.ne_of_lt (Nat.lt_of_lt_of_le VJ.lt (Nat.le_of_eq g89.symm)))).ext E94).ext E96).keep Kc98 (ninS (Nat.ne_of_lt (Nat.lt_of_lt_of_le (((VJ.ext E89).other W93 (Nat.ne_of_lt (Nat.lt_of_lt_of_le VJ.lt (Nat.le_of_eq g89.symm)))).ext E94).lt (Nat.le_of_eq g96.symm))) nin0)).keep Kc100 (ninS (Nat.ne_of_lt (Nat.lt_of_lt_of_le ((VJ.ext E89).other W93 (Nat.ne_of_lt (Nat.lt_of_lt_of_le VJ.lt (Nat.le_of_eq g89.symm)))).lt (Nat.le_of_eq g94.symm))) nin0)).keep Kc102 (ninS (Nat.ne_of_lt (Nat.lt_of_lt_of_le ((VJ.ext E89).other W93 (Nat.ne_of_lt (Nat.lt_of_lt_of_le VJ.lt (Nat.le_of_eq g89.symm)))).lt (Nat.le_of_eq g94.symm))) nin0)).keep Kc104 (ninS (Nat.ne_of_lt (Nat.lt_of_lt_of_le ((VJ.ext E89).other W93 (Nat.ne_of_lt (Nat.lt_of_lt_of_le VJ.lt (Nat.le_of_eq g89.symm)))).lt (Nat.le_of_eq g94.symm))) (ninS (Nat.ne_of_lt (Nat.lt_of_lt_of_le (((((VJ.ext E89).other W93 (Nat.ne_of_lt (Nat.lt_of_lt_of_le VJ.lt (Nat.le_of_eq g89.symm)))).ext E94).ext E96).keep Kc98 (ninS (Nat.ne_of_lt (Nat.lt_of_lt_of_le (((VJ.ext E89).other W93 (Nat.ne_of_lt (Nat.lt_of_lt_of_le VJ.lt (Nat.le_of_eq g89.symm)))).ext E94).lt (Nat.le_of_eq g96.symm))) nin0)).lt (Nat.le_of_eq hob.symm))) nin0))).keep Kc108 (ninS (Nat.ne_of_lt (Nat.lt_of_lt_of_le ((VJ.ext E89).other W93 (Nat.ne_of_lt (Nat.lt_of_lt_of_le VJ.lt (Nat.le_of_eq g89.symm)))).lt (Nat.le_of_eq g94.symm))) nin0))
      have hin114 : ¬ (off < 0 ∨ cl114.slots.size ≤ (off).toNatClampNeg) := inb_of Sz114 (own_rd_pal PJ (j := off) (by omega) (by omega)).1.1
      have hat114 : cl114.slots[(off).toNatClampNeg]? = some (.int (own_at vsJ off)) := Hs114.at hin114 (own_rd_pal PJ (j := off) (by omega) (by omega)).1.2
      have R117 : Rch p e below (s₁.setTop (entryFrame m #[(.int q0), (.int q1), (.int q2), (.int q3)] maxLocals)) T108 (mkF m 228 #[.val (.int q0), .val (.int q1), .val (.int q2), .val (.int q3), .val (.int off), .val (.int len), .val (.ref b3), .val (.int (q3 &&& (3 : Int32))), .val (.ref b89), .val (.ref b94), .val (.int (off + len)), .unset, .unset, .unset, .unset, .unset] [(.int (-17 : Int32)), (.int (own_at vsJ off))]) := fun t k => by
        refine R115 t ?_
        refine X108.baloadBytes hx (j := off) (v := (.int (own_at vsJ off))) Ar114.1 (State.isArrayOf_alike hZ.alike Ar114.2.1) Ar114.2.2 hin114 hat114 (g := (mkF m 225 #[.val (.int q0), .val (.int q1), .val (.int q2), .val (.int q3), .val (.int off), .val (.int len), .val (.ref b3), .val (.int (q3 &&& (3 : Int32))), .val (.ref b89), .val (.ref b94), .val (.int (off + len)), .unset, .unset, .unset, .unset, .unset] [(.int off), (.ref b3)])) rfl rfl (hb hby at_225) _ ?_
        show Steps p.tables e below (T108.setTop (mkF m 226 #[.val (.int q0), .val (.int q1), .val (.int q2), .val (.int q3), .val (.int off), .val (.int len), .val (.ref b3), .val (.int (q3 &&& (3 : Int32))), .val (.ref b89), .val (.ref b94), .val (.int (off + len)), .unset, .unset, .unset, .unset, .unset] [(.int (own_at vsJ off))])) t
        refine XS.bipush X108.here hx rfl (hb hby at_226) ?_
        exact k
      by_cases hc228_116 : (own_at vsJ off) = (-17 : Int32)
      · have R119 : Rch p e below (s₁.setTop (entryFrame m #[(.int q0), (.int q1), (.int q2), (.int q3)] maxLocals)) T108 (mkF m 237 #[.val (.int q0), .val (.int q1), .val (.int q2), .val (.int q3), .val (.int off), .val (.int len), .val (.ref b3), .val (.int (q3 &&& (3 : Int32))), .val (.ref b89), .val (.ref b94), .val (.int (off + len)), .unset, .unset, .unset, .unset, .unset] [(.int (off + (1 : Int32))), (.ref b3)]) := fun t k => by
          refine R117 t ?_
          refine XS.icmpNo X108.here hx rfl (hb hby at_228) rfl (teq hc228_116).2 ?_
          show Steps p.tables e below (T108.setTop (mkF m 231 #[.val (.int q0), .val (.int q1), .val (.int q2), .val (.int q3), .val (.int off), .val (.int len), .val (.ref b3), .val (.int (q3 &&& (3 : Int32))), .val (.ref b89), .val (.ref b94), .val (.int (off + len)), .unset, .unset, .unset, .unset, .unset] [])) t
          refine XS.aload X108.here hx rfl (hb hby at_231) rfl rfl ?_
          show Steps p.tables e below (T108.setTop (mkF m 233 #[.val (.int q0), .val (.int q1), .val (.int q2), .val (.int q3), .val (.int off), .val (.int len), .val (.ref b3), .val (.int (q3 &&& (3 : Int32))), .val (.ref b89), .val (.ref b94), .val (.int (off + len)), .unset, .unset, .unset, .unset, .unset] [(.ref b3)])) t
          refine XS.iload X108.here hx rfl (hb hby at_233) rfl ?_
          show Steps p.tables e below (T108.setTop (mkF m 235 #[.val (.int q0), .val (.int q1), .val (.int q2), .val (.int q3), .val (.int off), .val (.int len), .val (.ref b3), .val (.int (q3 &&& (3 : Int32))), .val (.ref b89), .val (.ref b94), .val (.int (off + len)), .unset, .unset, .unset, .unset, .unset] [(.int off), (.ref b3)])) t
          refine XS.iconst X108.here hx rfl (hb hby at_235) ?_
          show Steps p.tables e below (T108.setTop (mkF m 236 #[.val (.int q0), .val (.int q1), .val (.int q2), .val (.int q3), .val (.int off), .val (.int len), .val (.ref b3), .val (.int (q3 &&& (3 : Int32))), .val (.ref b89), .val (.ref b94), .val (.int (off + len)), .unset, .unset, .unset, .unset, .unset] [(.int (1 : Int32)), (.int off), (.ref b3)])) t
          refine XS.iadd X108.here hx rfl (hb hby at_236) rfl ?_
          exact k
        obtain ⟨cl118, Ar118, q118, Sz118, N118_, Hs118, G118⟩ := id (((((((((VJ.ext E89).other W93 (Nat.ne_of_lt (Nat.lt_of_lt_of_le VJ.lt (Nat.le_of_eq g89.symm)))).ext E94).ext E96).keep Kc98 (ninS (Nat.ne_of_lt (Nat.lt_of_lt_of_le (((VJ.ext E89).other W93 (Nat.ne_of_lt (Nat.lt_of_lt_of_le VJ.lt (Nat.le_of_eq g89.symm)))).ext E94).lt (Nat.le_of_eq g96.symm))) nin0)).keep Kc100 (ninS (Nat.ne_of_lt (Nat.lt_of_lt_of_le ((VJ.ext E89).other W93 (Nat.ne_of_lt (Nat.lt_of_lt_of_le VJ.lt (Nat.le_of_eq g89.symm)))).lt (Nat.le_of_eq g94.symm))) nin0)).keep Kc102 (ninS (Nat.ne_of_lt (Nat.lt_of_lt_of_le ((VJ.ext E89).other W93 (Nat.ne_of_lt (Nat.lt_of_lt_of_le VJ.lt (Nat.le_of_eq g89.symm)))).lt (Nat.le_of_eq g94.symm))) nin0)).keep Kc104 (ninS (Nat.ne_of_lt (Nat.lt_of_lt_of_le ((VJ.ext E89).other W93 (Nat.ne_of_lt (Nat.lt_of_lt_of_le VJ.lt (Nat.le_of_eq g89.symm)))).lt (Nat.le_of_eq g94.symm))) (ninS (Nat.ne_of_lt (Nat.lt_of_lt_of_le (((((VJ.ext E89).other W93 (Nat.ne_of_lt (Nat.lt_of_lt_of_le VJ.lt (Nat.le_of_eq g89.symm)))).ext E94).ext E96).keep Kc98 (ninS (Nat.ne_of_lt (Nat.lt_of_lt_of_le (((VJ.ext E89).other W93 (Nat.ne_of_lt (Nat.lt_of_lt_of_le VJ.lt (Nat.le_of_eq g89.symm)))).ext E94).lt (Nat.le_of_eq g96.symm))) nin0)).lt (Nat.le_of_eq hob.symm))) nin0))).keep Kc108 (ninS (Nat.ne_of_lt (Nat.lt_of_lt_of_le ((VJ.ext E89).other W93 (Nat.ne_of_lt (Nat.lt_of_lt_of_le VJ.lt (Nat.le_of_eq g89.symm)))).lt (Nat.le_of_eq g94.symm))) nin0))
        have hin118 : ¬ ((off + (1 : Int32)) < 0 ∨ cl118.slots.size ≤ ((off + (1 : Int32))).toNatClampNeg) := inb_of Sz118 (own_rd_pal PJ (j := (off + (1 : Int32))) (by rw [ho1]; omega) (by rw [ho1]; omega)).1.1
        have hat118 : cl118.slots[((off + (1 : Int32))).toNatClampNeg]? = some (.int (own_at vsJ (off + (1 : Int32)))) := Hs118.at hin118 (own_rd_pal PJ (j := (off + (1 : Int32))) (by rw [ho1]; omega) (by rw [ho1]; omega)).1.2
        have R121 : Rch p e below (s₁.setTop (entryFrame m #[(.int q0), (.int q1), (.int q2), (.int q3)] maxLocals)) T108 (mkF m 240 #[.val (.int q0), .val (.int q1), .val (.int q2), .val (.int q3), .val (.int off), .val (.int len), .val (.ref b3), .val (.int (q3 &&& (3 : Int32))), .val (.ref b89), .val (.ref b94), .val (.int (off + len)), .unset, .unset, .unset, .unset, .unset] [(.int (-69 : Int32)), (.int (own_at vsJ (off + (1 : Int32))))]) := fun t k => by
          refine R119 t ?_
          refine X108.baloadBytes hx (j := (off + (1 : Int32))) (v := (.int (own_at vsJ (off + (1 : Int32))))) Ar118.1 (State.isArrayOf_alike hZ.alike Ar118.2.1) Ar118.2.2 hin118 hat118 (g := (mkF m 237 #[.val (.int q0), .val (.int q1), .val (.int q2), .val (.int q3), .val (.int off), .val (.int len), .val (.ref b3), .val (.int (q3 &&& (3 : Int32))), .val (.ref b89), .val (.ref b94), .val (.int (off + len)), .unset, .unset, .unset, .unset, .unset] [(.int (off + (1 : Int32))), (.ref b3)])) rfl rfl (hb hby at_237) _ ?_
          show Steps p.tables e below (T108.setTop (mkF m 238 #[.val (.int q0), .val (.int q1), .val (.int q2), .val (.int q3), .val (.int off), .val (.int len), .val (.ref b3), .val (.int (q3 &&& (3 : Int32))), .val (.ref b89), .val (.ref b94), .val (.int (off + len)), .unset, .unset, .unset, .unset, .unset] [(.int (own_at vsJ (off + (1 : Int32))))])) t
          refine XS.bipush X108.here hx rfl (hb hby at_238) ?_
          exact k
        by_cases hc240_120 : (own_at vsJ (off + (1 : Int32))) = (-69 : Int32)
        · have R123 : Rch p e below (s₁.setTop (entryFrame m #[(.int q0), (.int q1), (.int q2), (.int q3)] maxLocals)) T108 (mkF m 249 #[.val (.int q0), .val (.int q1), .val (.int q2), .val (.int q3), .val (.int off), .val (.int len), .val (.ref b3), .val (.int (q3 &&& (3 : Int32))), .val (.ref b89), .val (.ref b94), .val (.int (off + len)), .unset, .unset, .unset, .unset, .unset] [(.int (off + (2 : Int32))), (.ref b3)]) := fun t k => by
            refine R121 t ?_
            refine XS.icmpNo X108.here hx rfl (hb hby at_240) rfl (teq hc240_120).2 ?_
            show Steps p.tables e below (T108.setTop (mkF m 243 #[.val (.int q0), .val (.int q1), .val (.int q2), .val (.int q3), .val (.int off), .val (.int len), .val (.ref b3), .val (.int (q3 &&& (3 : Int32))), .val (.ref b89), .val (.ref b94), .val (.int (off + len)), .unset, .unset, .unset, .unset, .unset] [])) t
            refine XS.aload X108.here hx rfl (hb hby at_243) rfl rfl ?_
            show Steps p.tables e below (T108.setTop (mkF m 245 #[.val (.int q0), .val (.int q1), .val (.int q2), .val (.int q3), .val (.int off), .val (.int len), .val (.ref b3), .val (.int (q3 &&& (3 : Int32))), .val (.ref b89), .val (.ref b94), .val (.int (off + len)), .unset, .unset, .unset, .unset, .unset] [(.ref b3)])) t
            refine XS.iload X108.here hx rfl (hb hby at_245) rfl ?_
            show Steps p.tables e below (T108.setTop (mkF m 247 #[.val (.int q0), .val (.int q1), .val (.int q2), .val (.int q3), .val (.int off), .val (.int len), .val (.ref b3), .val (.int (q3 &&& (3 : Int32))), .val (.ref b89), .val (.ref b94), .val (.int (off + len)), .unset, .unset, .unset, .unset, .unset] [(.int off), (.ref b3)])) t
            refine XS.iconst X108.here hx rfl (hb hby at_247) ?_
            show Steps p.tables e below (T108.setTop (mkF m 248 #[.val (.int q0), .val (.int q1), .val (.int q2), .val (.int q3), .val (.int off), .val (.int len), .val (.ref b3), .val (.int (q3 &&& (3 : Int32))), .val (.ref b89), .val (.ref b94), .val (.int (off + len)), .unset, .unset, .unset, .unset, .unset] [(.int (2 : Int32)), (.int off), (.ref b3)])) t
            refine XS.iadd X108.here hx rfl (hb hby at_248) rfl ?_
            exact k
          obtain ⟨cl122, Ar122, q122, Sz122, N122_, Hs122, G122⟩ := id (((((((((VJ.ext E89).other W93 (Nat.ne_of_lt (Nat.lt_of_lt_of_le VJ.lt (Nat.le_of_eq g89.symm)))).ext E94).ext E96).keep Kc98 (ninS (Nat.ne_of_lt (Nat.lt_of_lt_of_le (((VJ.ext E89).other W93 (Nat.ne_of_lt (Nat.lt_of_lt_of_le VJ.lt (Nat.le_of_eq g89.symm)))).ext E94).lt (Nat.le_of_eq g96.symm))) nin0)).keep Kc100 (ninS (Nat.ne_of_lt (Nat.lt_of_lt_of_le ((VJ.ext E89).other W93 (Nat.ne_of_lt (Nat.lt_of_lt_of_le VJ.lt (Nat.le_of_eq g89.symm)))).lt (Nat.le_of_eq g94.symm))) nin0)).keep Kc102 (ninS (Nat.ne_of_lt (Nat.lt_of_lt_of_le ((VJ.ext E89).other W93 (Nat.ne_of_lt (Nat.lt_of_lt_of_le VJ.lt (Nat.le_of_eq g89.symm)))).lt (Nat.le_of_eq g94.symm))) nin0)).keep Kc104 (ninS (Nat.ne_of_lt (Nat.lt_of_lt_of_le ((VJ.ext E89).other W93 (Nat.ne_of_lt (Nat.lt_of_lt_of_le VJ.lt (Nat.le_of_eq g89.symm)))).lt (Nat.le_of_eq g94.symm))) (ninS (Nat.ne_of_lt (Nat.lt_of_lt_of_le (((((VJ.ext E89).other W93 (Nat.ne_of_lt (Nat.lt_of_lt_of_le VJ.lt (Nat.le_of_eq g89.symm)))).ext E94).ext E96).keep Kc98 (ninS (Nat.ne_of_lt (Nat.lt_of_lt_of_le (((VJ.ext E89).other W93 (Nat.ne_of_lt (Nat.lt_of_lt_of_le VJ.lt (Nat.le_of_eq g89.symm)))).ext E94).lt (Nat.le_of_eq g96.symm))) nin0)).lt (Nat.le_of_eq hob.symm))) nin0))).keep Kc108 (ninS (Nat.ne_of_lt (Nat.lt_of_lt_of_le ((VJ.ext E89).other W93 (Nat.ne_of_lt (Nat.lt_of_lt_of_le VJ.lt (Nat.le_of_eq g89.symm)))).lt (Nat.le_of_eq g94.symm))) nin0))
          have hin122 : ¬ ((off + (2 : Int32)) < 0 ∨ cl122.slots.size ≤ ((off + (2 : Int32))).toNatClampNeg) := inb_of Sz122 (own_rd_pal PJ (j := (off + (2 : Int32))) (by rw [ho2]; omega) (by rw [ho2]; omega)).1.1
          have hat122 : cl122.slots[((off + (2 : Int32))).toNatClampNeg]? = some (.int (own_at vsJ (off + (2 : Int32)))) := Hs122.at hin122 (own_rd_pal PJ (j := (off + (2 : Int32))) (by rw [ho2]; omega) (by rw [ho2]; omega)).1.2
          have R125 : Rch p e below (s₁.setTop (entryFrame m #[(.int q0), (.int q1), (.int q2), (.int q3)] maxLocals)) T108 (mkF m 252 #[.val (.int q0), .val (.int q1), .val (.int q2), .val (.int q3), .val (.int off), .val (.int len), .val (.ref b3), .val (.int (q3 &&& (3 : Int32))), .val (.ref b89), .val (.ref b94), .val (.int (off + len)), .unset, .unset, .unset, .unset, .unset] [(.int (-65 : Int32)), (.int (own_at vsJ (off + (2 : Int32))))]) := fun t k => by
            refine R123 t ?_
            refine X108.baloadBytes hx (j := (off + (2 : Int32))) (v := (.int (own_at vsJ (off + (2 : Int32))))) Ar122.1 (State.isArrayOf_alike hZ.alike Ar122.2.1) Ar122.2.2 hin122 hat122 (g := (mkF m 249 #[.val (.int q0), .val (.int q1), .val (.int q2), .val (.int q3), .val (.int off), .val (.int len), .val (.ref b3), .val (.int (q3 &&& (3 : Int32))), .val (.ref b89), .val (.ref b94), .val (.int (off + len)), .unset, .unset, .unset, .unset, .unset] [(.int (off + (2 : Int32))), (.ref b3)])) rfl rfl (hb hby at_249) _ ?_
            show Steps p.tables e below (T108.setTop (mkF m 250 #[.val (.int q0), .val (.int q1), .val (.int q2), .val (.int q3), .val (.int off), .val (.int len), .val (.ref b3), .val (.int (q3 &&& (3 : Int32))), .val (.ref b89), .val (.ref b94), .val (.int (off + len)), .unset, .unset, .unset, .unset, .unset] [(.int (own_at vsJ (off + (2 : Int32))))])) t
            refine XS.bipush X108.here hx rfl (hb hby at_250) ?_
            exact k
          by_cases hc252_124 : (own_at vsJ (off + (2 : Int32))) = (-65 : Int32)
          · have R126 : Rch p e below (s₁.setTop (entryFrame m #[(.int q0), (.int q1), (.int q2), (.int q3)] maxLocals)) T108 (mkF m 278 #[.val (.int q0), .val (.int q1), .val (.int q2), .val (.int q3), .val (.int off), .val (.int len), .val (.ref b3), .val (.int (q3 &&& (3 : Int32))), .val (.ref b89), .val (.ref b94), .val (.int (off + len)), .val (.int (1 : Int32)), .val (.int (off + (3 : Int32))), .unset, .unset, .unset] []) := fun t k => by
              refine R125 t ?_
              refine XS.icmpNo X108.here hx rfl (hb hby at_252) rfl (teq hc252_124).2 ?_
              show Steps p.tables e below (T108.setTop (mkF m 255 #[.val (.int q0), .val (.int q1), .val (.int q2), .val (.int q3), .val (.int off), .val (.int len), .val (.ref b3), .val (.int (q3 &&& (3 : Int32))), .val (.ref b89), .val (.ref b94), .val (.int (off + len)), .unset, .unset, .unset, .unset, .unset] [])) t
              refine XS.iconst X108.here hx rfl (hb hby at_255) ?_
              show Steps p.tables e below (T108.setTop (mkF m 256 #[.val (.int q0), .val (.int q1), .val (.int q2), .val (.int q3), .val (.int off), .val (.int len), .val (.ref b3), .val (.int (q3 &&& (3 : Int32))), .val (.ref b89), .val (.ref b94), .val (.int (off + len)), .unset, .unset, .unset, .unset, .unset] [(.int (1 : Int32))])) t
              refine XS.goto X108.here hx rfl (pc0 := 256) (pc' := 260) rfl (hb hby at_256) (by decide) (by decide) ?_
              show Steps p.tables e below (T108.setTop (mkF m 260 #[.val (.int q0), .val (.int q1), .val (.int q2), .val (.int q3), .val (.int off), .val (.int len), .val (.ref b3), .val (.int (q3 &&& (3 : Int32))), .val (.ref b89), .val (.ref b94), .val (.int (off + len)), .unset, .unset, .unset, .unset, .unset] [(.int (1 : Int32))])) t
              refine XS.istore X108.here hx rfl (hb hby at_260) rfl (l' := #[.val (.int q0), .val (.int q1), .val (.int q2), .val (.int q3), .val (.int off), .val (.int len), .val (.ref b3), .val (.int (q3 &&& (3 : Int32))), .val (.ref b89), .val (.ref b94), .val (.int (off + len)), .val (.int (1 : Int32)), .unset, .unset, .unset, .unset]) rfl ?_
              show Steps p.tables e below (T108.setTop (mkF m 262 #[.val (.int q0), .val (.int q1), .val (.int q2), .val (.int q3), .val (.int off), .val (.int len), .val (.ref b3), .val (.int (q3 &&& (3 : Int32))), .val (.ref b89), .val (.ref b94), .val (.int (off + len)), .val (.int (1 : Int32)), .unset, .unset, .unset, .unset] [])) t
              refine XS.iload X108.here hx rfl (hb hby at_262) rfl ?_
              show Steps p.tables e below (T108.setTop (mkF m 264 #[.val (.int q0), .val (.int q1), .val (.int q2), .val (.int q3), .val (.int off), .val (.int len), .val (.ref b3), .val (.int (q3 &&& (3 : Int32))), .val (.ref b89), .val (.ref b94), .val (.int (off + len)), .val (.int (1 : Int32)), .unset, .unset, .unset, .unset] [(.int (1 : Int32))])) t
              refine XS.ifNo X108.here hx rfl (hb hby at_264) rfl ((if0 _ _).trans (feq (by decide : ¬ ((1 : Int32) = (0 : Int32)))).1) ?_
              show Steps p.tables e below (T108.setTop (mkF m 267 #[.val (.int q0), .val (.int q1), .val (.int q2), .val (.int q3), .val (.int off), .val (.int len), .val (.ref b3), .val (.int (q3 &&& (3 : Int32))), .val (.ref b89), .val (.ref b94), .val (.int (off + len)), .val (.int (1 : Int32)), .unset, .unset, .unset, .unset] [])) t
              refine XS.iload X108.here hx rfl (hb hby at_267) rfl ?_
              show Steps p.tables e below (T108.setTop (mkF m 269 #[.val (.int q0), .val (.int q1), .val (.int q2), .val (.int q3), .val (.int off), .val (.int len), .val (.ref b3), .val (.int (q3 &&& (3 : Int32))), .val (.ref b89), .val (.ref b94), .val (.int (off + len)), .val (.int (1 : Int32)), .unset, .unset, .unset, .unset] [(.int off)])) t
              refine XS.iconst X108.here hx rfl (hb hby at_269) ?_
              show Steps p.tables e below (T108.setTop (mkF m 270 #[.val (.int q0), .val (.int q1), .val (.int q2), .val (.int q3), .val (.int off), .val (.int len), .val (.ref b3), .val (.int (q3 &&& (3 : Int32))), .val (.ref b89), .val (.ref b94), .val (.int (off + len)), .val (.int (1 : Int32)), .unset, .unset, .unset, .unset] [(.int (3 : Int32)), (.int off)])) t
              refine XS.iadd X108.here hx rfl (hb hby at_270) rfl ?_
              show Steps p.tables e below (T108.setTop (mkF m 271 #[.val (.int q0), .val (.int q1), .val (.int q2), .val (.int q3), .val (.int off), .val (.int len), .val (.ref b3), .val (.int (q3 &&& (3 : Int32))), .val (.ref b89), .val (.ref b94), .val (.int (off + len)), .val (.int (1 : Int32)), .unset, .unset, .unset, .unset] [(.int (off + (3 : Int32)))])) t
              refine XS.goto X108.here hx rfl (pc0 := 271) (pc' := 276) rfl (hb hby at_271) (by decide) (by decide) ?_
              show Steps p.tables e below (T108.setTop (mkF m 276 #[.val (.int q0), .val (.int q1), .val (.int q2), .val (.int q3), .val (.int off), .val (.int len), .val (.ref b3), .val (.int (q3 &&& (3 : Int32))), .val (.ref b89), .val (.ref b94), .val (.int (off + len)), .val (.int (1 : Int32)), .unset, .unset, .unset, .unset] [(.int (off + (3 : Int32)))])) t
              refine XS.istore X108.here hx rfl (hb hby at_276) rfl (l' := #[.val (.int q0), .val (.int q1), .val (.int q2), .val (.int q3), .val (.int off), .val (.int len), .val (.ref b3), .val (.int (q3 &&& (3 : Int32))), .val (.ref b89), .val (.ref b94), .val (.int (off + len)), .val (.int (1 : Int32)), .val (.int (off + (3 : Int32))), .unset, .unset, .unset]) rfl ?_
              exact k
            have hfi127 : own_first vsJ off len = (off + (3 : Int32)) := by simp [own_first, hc218_110, hc228_116, hc240_120, hc252_124]
            exact ⟨(1 : Int32), by rw [hfi127]; exact R126⟩
          · have R128 : Rch p e below (s₁.setTop (entryFrame m #[(.int q0), (.int q1), (.int q2), (.int q3)] maxLocals)) T108 (mkF m 278 #[.val (.int q0), .val (.int q1), .val (.int q2), .val (.int q3), .val (.int off), .val (.int len), .val (.ref b3), .val (.int (q3 &&& (3 : Int32))), .val (.ref b89), .val (.ref b94), .val (.int (off + len)), .val (.int (0 : Int32)), .val (.int off), .unset, .unset, .unset] []) := fun t k => by
              refine R125 t ?_
              refine XS.icmpYes X108.here hx rfl (pc0 := 252) (pc' := 259) rfl (hb hby at_252) rfl (feq hc252_124).2 (by decide) (by decide) ?_
              show Steps p.tables e below (T108.setTop (mkF m 259 #[.val (.int q0), .val (.int q1), .val (.int q2), .val (.int q3), .val (.int off), .val (.int len), .val (.ref b3), .val (.int (q3 &&& (3 : Int32))), .val (.ref b89), .val (.ref b94), .val (.int (off + len)), .unset, .unset, .unset, .unset, .unset] [])) t
              refine XS.iconst X108.here hx rfl (hb hby at_259) ?_
              show Steps p.tables e below (T108.setTop (mkF m 260 #[.val (.int q0), .val (.int q1), .val (.int q2), .val (.int q3), .val (.int off), .val (.int len), .val (.ref b3), .val (.int (q3 &&& (3 : Int32))), .val (.ref b89), .val (.ref b94), .val (.int (off + len)), .unset, .unset, .unset, .unset, .unset] [(.int (0 : Int32))])) t
              refine XS.istore X108.here hx rfl (hb hby at_260) rfl (l' := #[.val (.int q0), .val (.int q1), .val (.int q2), .val (.int q3), .val (.int off), .val (.int len), .val (.ref b3), .val (.int (q3 &&& (3 : Int32))), .val (.ref b89), .val (.ref b94), .val (.int (off + len)), .val (.int (0 : Int32)), .unset, .unset, .unset, .unset]) rfl ?_
              show Steps p.tables e below (T108.setTop (mkF m 262 #[.val (.int q0), .val (.int q1), .val (.int q2), .val (.int q3), .val (.int off), .val (.int len), .val (.ref b3), .val (.int (q3 &&& (3 : Int32))), .val (.ref b89), .val (.ref b94), .val (.int (off + len)), .val (.int (0 : Int32)), .unset, .unset, .unset, .unset] [])) t
              refine XS.iload X108.here hx rfl (hb hby at_262) rfl ?_
              show Steps p.tables e below (T108.setTop (mkF m 264 #[.val (.int q0), .val (.int q1), .val (.int q2), .val (.int q3), .val (.int off), .val (.int len), .val (.ref b3), .val (.int (q3 &&& (3 : Int32))), .val (.ref b89), .val (.ref b94), .val (.int (off + len)), .val (.int (0 : Int32)), .unset, .unset, .unset, .unset] [(.int (0 : Int32))])) t
              refine XS.ifYes X108.here hx rfl (pc0 := 264) (pc' := 274) rfl (hb hby at_264) rfl ((if0 _ _).trans (teq (by decide : (0 : Int32) = (0 : Int32))).1) (by decide) (by decide) ?_
              show Steps p.tables e below (T108.setTop (mkF m 274 #[.val (.int q0), .val (.int q1), .val (.int q2), .val (.int q3), .val (.int off), .val (.int len), .val (.ref b3), .val (.int (q3 &&& (3 : Int32))), .val (.ref b89), .val (.ref b94), .val (.int (off + len)), .val (.int (0 : Int32)), .unset, .unset, .unset, .unset] [])) t
              refine XS.iload X108.here hx rfl (hb hby at_274) rfl ?_
              show Steps p.tables e below (T108.setTop (mkF m 276 #[.val (.int q0), .val (.int q1), .val (.int q2), .val (.int q3), .val (.int off), .val (.int len), .val (.ref b3), .val (.int (q3 &&& (3 : Int32))), .val (.ref b89), .val (.ref b94), .val (.int (off + len)), .val (.int (0 : Int32)), .unset, .unset, .unset, .unset] [(.int off)])) t
              refine XS.istore X108.here hx rfl (hb hby at_276) rfl (l' := #[.val (.int q0), .val (.int q1), .val (.int q2), .val (.int q3), .val (.int off), .val (.int len), .val (.ref b3), .val (.int (q3 &&& (3 : Int32))), .val (.ref b89), .val (.ref b94), .val (.int (off + len)), .val (.int (0 : Int32)), .val (.int off), .unset, .unset, .unset]) rfl ?_
              exact k
            have hfi129 : own_first vsJ off len = off := by simp [own_first, hc218_110, hc228_116, hc240_120, hc252_124]
            exact ⟨(0 : Int32), by rw [hfi129]; exact R128⟩
        · have R130 : Rch p e below (s₁.setTop (entryFrame m #[(.int q0), (.int q1), (.int q2), (.int q3)] maxLocals)) T108 (mkF m 278 #[.val (.int q0), .val (.int q1), .val (.int q2), .val (.int q3), .val (.int off), .val (.int len), .val (.ref b3), .val (.int (q3 &&& (3 : Int32))), .val (.ref b89), .val (.ref b94), .val (.int (off + len)), .val (.int (0 : Int32)), .val (.int off), .unset, .unset, .unset] []) := fun t k => by
            refine R121 t ?_
            refine XS.icmpYes X108.here hx rfl (pc0 := 240) (pc' := 259) rfl (hb hby at_240) rfl (feq hc240_120).2 (by decide) (by decide) ?_
            show Steps p.tables e below (T108.setTop (mkF m 259 #[.val (.int q0), .val (.int q1), .val (.int q2), .val (.int q3), .val (.int off), .val (.int len), .val (.ref b3), .val (.int (q3 &&& (3 : Int32))), .val (.ref b89), .val (.ref b94), .val (.int (off + len)), .unset, .unset, .unset, .unset, .unset] [])) t
            refine XS.iconst X108.here hx rfl (hb hby at_259) ?_
            show Steps p.tables e below (T108.setTop (mkF m 260 #[.val (.int q0), .val (.int q1), .val (.int q2), .val (.int q3), .val (.int off), .val (.int len), .val (.ref b3), .val (.int (q3 &&& (3 : Int32))), .val (.ref b89), .val (.ref b94), .val (.int (off + len)), .unset, .unset, .unset, .unset, .unset] [(.int (0 : Int32))])) t
            refine XS.istore X108.here hx rfl (hb hby at_260) rfl (l' := #[.val (.int q0), .val (.int q1), .val (.int q2), .val (.int q3), .val (.int off), .val (.int len), .val (.ref b3), .val (.int (q3 &&& (3 : Int32))), .val (.ref b89), .val (.ref b94), .val (.int (off + len)), .val (.int (0 : Int32)), .unset, .unset, .unset, .unset]) rfl ?_
            show Steps p.tables e below (T108.setTop (mkF m 262 #[.val (.int q0), .val (.int q1), .val (.int q2), .val (.int q3), .val (.int off), .val (.int len), .val (.ref b3), .val (.int (q3 &&& (3 : Int32))), .val (.ref b89), .val (.ref b94), .val (.int (off + len)), .val (.int (0 : Int32)), .unset, .unset, .unset, .unset] [])) t
            refine XS.iload X108.here hx rfl (hb hby at_262) rfl ?_
            show Steps p.tables e below (T108.setTop (mkF m 264 #[.val (.int q0), .val (.int q1), .val (.int q2), .val (.int q3), .val (.int off), .val (.int len), .val (.ref b3), .val (.int (q3 &&& (3 : Int32))), .val (.ref b89), .val (.ref b94), .val (.int (off + len)), .val (.int (0 : Int32)), .unset, .unset, .unset, .unset] [(.int (0 : Int32))])) t
            refine XS.ifYes X108.here hx rfl (pc0 := 264) (pc' := 274) rfl (hb hby at_264) rfl ((if0 _ _).trans (teq (by decide : (0 : Int32) = (0 : Int32))).1) (by decide) (by decide) ?_
            show Steps p.tables e below (T108.setTop (mkF m 274 #[.val (.int q0), .val (.int q1), .val (.int q2), .val (.int q3), .val (.int off), .val (.int len), .val (.ref b3), .val (.int (q3 &&& (3 : Int32))), .val (.ref b89), .val (.ref b94), .val (.int (off + len)), .val (.int (0 : Int32)), .unset, .unset, .unset, .unset] [])) t
            refine XS.iload X108.here hx rfl (hb hby at_274) rfl ?_
            show Steps p.tables e below (T108.setTop (mkF m 276 #[.val (.int q0), .val (.int q1), .val (.int q2), .val (.int q3), .val (.int off), .val (.int len), .val (.ref b3), .val (.int (q3 &&& (3 : Int32))), .val (.ref b89), .val (.ref b94), .val (.int (off + len)), .val (.int (0 : Int32)), .unset, .unset, .unset, .unset] [(.int off)])) t
            refine XS.istore X108.here hx rfl (hb hby at_276) rfl (l' := #[.val (.int q0), .val (.int q1), .val (.int q2), .val (.int q3), .val (.int off), .val (.int len), .val (.ref b3), .val (.int (q3 &&& (3 : Int32))), .val (.ref b89), .val (.ref b94), .val (.int (off + len)), .val (.int (0 : Int32)), .val (.int off), .unset, .unset, .unset]) rfl ?_
            exact k
          have hfi131 : own_first vsJ off len = off := by simp [own_first, hc218_110, hc228_116, hc240_120]
          exact ⟨(0 : Int32), by rw [hfi131]; exact R130⟩
      · have R132 : Rch p e below (s₁.setTop (entryFrame m #[(.int q0), (.int q1), (.int q2), (.int q3)] maxLocals)) T108 (mkF m 278 #[.val (.int q0), .val (.int q1), .val (.int q2), .val (.int q3), .val (.int off), .val (.int len), .val (.ref b3), .val (.int (q3 &&& (3 : Int32))), .val (.ref b89), .val (.ref b94), .val (.int (off + len)), .val (.int (0 : Int32)), .val (.int off), .unset, .unset, .unset] []) := fun t k => by
          refine R117 t ?_
          refine XS.icmpYes X108.here hx rfl (pc0 := 228) (pc' := 259) rfl (hb hby at_228) rfl (feq hc228_116).2 (by decide) (by decide) ?_
          show Steps p.tables e below (T108.setTop (mkF m 259 #[.val (.int q0), .val (.int q1), .val (.int q2), .val (.int q3), .val (.int off), .val (.int len), .val (.ref b3), .val (.int (q3 &&& (3 : Int32))), .val (.ref b89), .val (.ref b94), .val (.int (off + len)), .unset, .unset, .unset, .unset, .unset] [])) t
          refine XS.iconst X108.here hx rfl (hb hby at_259) ?_
          show Steps p.tables e below (T108.setTop (mkF m 260 #[.val (.int q0), .val (.int q1), .val (.int q2), .val (.int q3), .val (.int off), .val (.int len), .val (.ref b3), .val (.int (q3 &&& (3 : Int32))), .val (.ref b89), .val (.ref b94), .val (.int (off + len)), .unset, .unset, .unset, .unset, .unset] [(.int (0 : Int32))])) t
          refine XS.istore X108.here hx rfl (hb hby at_260) rfl (l' := #[.val (.int q0), .val (.int q1), .val (.int q2), .val (.int q3), .val (.int off), .val (.int len), .val (.ref b3), .val (.int (q3 &&& (3 : Int32))), .val (.ref b89), .val (.ref b94), .val (.int (off + len)), .val (.int (0 : Int32)), .unset, .unset, .unset, .unset]) rfl ?_
          show Steps p.tables e below (T108.setTop (mkF m 262 #[.val (.int q0), .val (.int q1), .val (.int q2), .val (.int q3), .val (.int off), .val (.int len), .val (.ref b3), .val (.int (q3 &&& (3 : Int32))), .val (.ref b89), .val (.ref b94), .val (.int (off + len)), .val (.int (0 : Int32)), .unset, .unset, .unset, .unset] [])) t
          refine XS.iload X108.here hx rfl (hb hby at_262) rfl ?_
          show Steps p.tables e below (T108.setTop (mkF m 264 #[.val (.int q0), .val (.int q1), .val (.int q2), .val (.int q3), .val (.int off), .val (.int len), .val (.ref b3), .val (.int (q3 &&& (3 : Int32))), .val (.ref b89), .val (.ref b94), .val (.int (off + len)), .val (.int (0 : Int32)), .unset, .unset, .unset, .unset] [(.int (0 : Int32))])) t
          refine XS.ifYes X108.here hx rfl (pc0 := 264) (pc' := 274) rfl (hb hby at_264) rfl ((if0 _ _).trans (teq (by decide : (0 : Int32) = (0 : Int32))).1) (by decide) (by decide) ?_
          show Steps p.tables e below (T108.setTop (mkF m 274 #[.val (.int q0), .val (.int q1), .val (.int q2), .val (.int q3), .val (.int off), .val (.int len), .val (.ref b3), .val (.int (q3 &&& (3 : Int32))), .val (.ref b89), .val (.ref b94), .val (.int (off + len)), .val (.int (0 : Int32)), .unset, .unset, .unset, .unset] [])) t
          refine XS.iload X108.here hx rfl (hb hby at_274) rfl ?_
          show Steps p.tables e below (T108.setTop (mkF m 276 #[.val (.int q0), .val (.int q1), .val (.int q2), .val (.int q3), .val (.int off), .val (.int len), .val (.ref b3), .val (.int (q3 &&& (3 : Int32))), .val (.ref b89), .val (.ref b94), .val (.int (off + len)), .val (.int (0 : Int32)), .unset, .unset, .unset, .unset] [(.int off)])) t
          refine XS.istore X108.here hx rfl (hb hby at_276) rfl (l' := #[.val (.int q0), .val (.int q1), .val (.int q2), .val (.int q3), .val (.int off), .val (.int len), .val (.ref b3), .val (.int (q3 &&& (3 : Int32))), .val (.ref b89), .val (.ref b94), .val (.int (off + len)), .val (.int (0 : Int32)), .val (.int off), .unset, .unset, .unset]) rfl ?_
          exact k
        have hfi133 : own_first vsJ off len = off := by simp [own_first, hc218_110, hc228_116]
        exact ⟨(0 : Int32), by rw [hfi133]; exact R132⟩
  obtain ⟨fi, hfi⟩ : ∃ z, z = own_first vsJ off len := ⟨_, rfl⟩
  rw [← hfi] at c108_f_at
  have hfb : 0 ≤ fi.toInt := by
    rcases own_first_cases vsJ off len with h | h
    · rw [hfi, h]; omega
    · rw [hfi, h, ho3]; omega
  rw [← hfi] at RM
  have R135 : Rch p e below (s₁.setTop (entryFrame m #[(.int q0), (.int q1), (.int q2), (.int q3)] maxLocals)) T108 (mkF m 282 #[.val (.int q0), .val (.int q1), .val (.int q2), .val (.int q3), .val (.int off), .val (.int len), .val (.ref b3), .val (.int (q3 &&& (3 : Int32))), .val (.ref b89), .val (.ref b94), .val (.int (off + len)), .val (.int mk), .val (.int fi), .unset, .unset, .unset] [(.int (off + len)), (.int fi)]) := fun t k => by
    refine RM t ?_
    refine XS.iload X108.here hx rfl (hb hby at_278) rfl ?_
    show Steps p.tables e below (T108.setTop (mkF m 280 #[.val (.int q0), .val (.int q1), .val (.int q2), .val (.int q3), .val (.int off), .val (.int len), .val (.ref b3), .val (.int (q3 &&& (3 : Int32))), .val (.ref b89), .val (.ref b94), .val (.int (off + len)), .val (.int mk), .val (.int fi), .unset, .unset, .unset] [(.int fi)])) t
    refine XS.iload X108.here hx rfl (hb hby at_280) rfl ?_
    exact k
  by_cases hc282_134 : fi < (off + len)
  · have R137 : Rch p e below (s₁.setTop (entryFrame m #[(.int q0), (.int q1), (.int q2), (.int q3)] maxLocals)) T108 (mkF m 289 #[.val (.int q0), .val (.int q1), .val (.int q2), .val (.int q3), .val (.int off), .val (.int len), .val (.ref b3), .val (.int (q3 &&& (3 : Int32))), .val (.ref b89), .val (.ref b94), .val (.int (off + len)), .val (.int mk), .val (.int fi), .unset, .unset, .unset] [(.int fi), (.ref b3)]) := fun t k => by
      refine R135 t ?_
      refine XS.icmpNo X108.here hx rfl (hb hby at_282) rfl (tlt hc282_134).2.1 ?_
      show Steps p.tables e below (T108.setTop (mkF m 285 #[.val (.int q0), .val (.int q1), .val (.int q2), .val (.int q3), .val (.int off), .val (.int len), .val (.ref b3), .val (.int (q3 &&& (3 : Int32))), .val (.ref b89), .val (.ref b94), .val (.int (off + len)), .val (.int mk), .val (.int fi), .unset, .unset, .unset] [])) t
      refine XS.aload X108.here hx rfl (hb hby at_285) rfl rfl ?_
      show Steps p.tables e below (T108.setTop (mkF m 287 #[.val (.int q0), .val (.int q1), .val (.int q2), .val (.int q3), .val (.int off), .val (.int len), .val (.ref b3), .val (.int (q3 &&& (3 : Int32))), .val (.ref b89), .val (.ref b94), .val (.int (off + len)), .val (.int mk), .val (.int fi), .unset, .unset, .unset] [(.ref b3)])) t
      refine XS.iload X108.here hx rfl (hb hby at_287) rfl ?_
      exact k
    obtain ⟨cl136, Ar136, q136, Sz136, N136_, Hs136, G136⟩ := id (((((((((VJ.ext E89).other W93 (Nat.ne_of_lt (Nat.lt_of_lt_of_le VJ.lt (Nat.le_of_eq g89.symm)))).ext E94).ext E96).keep Kc98 (ninS (Nat.ne_of_lt (Nat.lt_of_lt_of_le (((VJ.ext E89).other W93 (Nat.ne_of_lt (Nat.lt_of_lt_of_le VJ.lt (Nat.le_of_eq g89.symm)))).ext E94).lt (Nat.le_of_eq g96.symm))) nin0)).keep Kc100 (ninS (Nat.ne_of_lt (Nat.lt_of_lt_of_le ((VJ.ext E89).other W93 (Nat.ne_of_lt (Nat.lt_of_lt_of_le VJ.lt (Nat.le_of_eq g89.symm)))).lt (Nat.le_of_eq g94.symm))) nin0)).keep Kc102 (ninS (Nat.ne_of_lt (Nat.lt_of_lt_of_le ((VJ.ext E89).other W93 (Nat.ne_of_lt (Nat.lt_of_lt_of_le VJ.lt (Nat.le_of_eq g89.symm)))).lt (Nat.le_of_eq g94.symm))) nin0)).keep Kc104 (ninS (Nat.ne_of_lt (Nat.lt_of_lt_of_le ((VJ.ext E89).other W93 (Nat.ne_of_lt (Nat.lt_of_lt_of_le VJ.lt (Nat.le_of_eq g89.symm)))).lt (Nat.le_of_eq g94.symm))) (ninS (Nat.ne_of_lt (Nat.lt_of_lt_of_le (((((VJ.ext E89).other W93 (Nat.ne_of_lt (Nat.lt_of_lt_of_le VJ.lt (Nat.le_of_eq g89.symm)))).ext E94).ext E96).keep Kc98 (ninS (Nat.ne_of_lt (Nat.lt_of_lt_of_le (((VJ.ext E89).other W93 (Nat.ne_of_lt (Nat.lt_of_lt_of_le VJ.lt (Nat.le_of_eq g89.symm)))).ext E94).lt (Nat.le_of_eq g96.symm))) nin0)).lt (Nat.le_of_eq hob.symm))) nin0))).keep Kc108 (ninS (Nat.ne_of_lt (Nat.lt_of_lt_of_le ((VJ.ext E89).other W93 (Nat.ne_of_lt (Nat.lt_of_lt_of_le VJ.lt (Nat.le_of_eq g89.symm)))).lt (Nat.le_of_eq g94.symm))) nin0))
    have hin136 : ¬ (fi < 0 ∨ cl136.slots.size ≤ (fi).toNatClampNeg) := inb_of Sz136 (own_rd_pal PJ (j := fi) hfb (by have := own_lt.mp hc282_134; rw [hol] at this; omega)).1.1
    have hat136 : cl136.slots[(fi).toNatClampNeg]? = some (.int (own_at vsJ fi)) := Hs136.at hin136 (own_rd_pal PJ (j := fi) hfb (by have := own_lt.mp hc282_134; rw [hol] at this; omega)).1.2
    have R139 : Rch p e below (s₁.setTop (entryFrame m #[(.int q0), (.int q1), (.int q2), (.int q3)] maxLocals)) T108 (mkF m 292 #[.val (.int q0), .val (.int q1), .val (.int q2), .val (.int q3), .val (.int off), .val (.int len), .val (.ref b3), .val (.int (q3 &&& (3 : Int32))), .val (.ref b89), .val (.ref b94), .val (.int (off + len)), .val (.int mk), .val (.int fi), .unset, .unset, .unset] [(.int (93 : Int32)), (.int (own_at vsJ fi))]) := fun t k => by
      refine R137 t ?_
      refine X108.baloadBytes hx (j := fi) (v := (.int (own_at vsJ fi))) Ar136.1 (State.isArrayOf_alike hZ.alike Ar136.2.1) Ar136.2.2 hin136 hat136 (g := (mkF m 289 #[.val (.int q0), .val (.int q1), .val (.int q2), .val (.int q3), .val (.int off), .val (.int len), .val (.ref b3), .val (.int (q3 &&& (3 : Int32))), .val (.ref b89), .val (.ref b94), .val (.int (off + len)), .val (.int mk), .val (.int fi), .unset, .unset, .unset] [(.int fi), (.ref b3)])) rfl rfl (hb hby at_289) _ ?_
      show Steps p.tables e below (T108.setTop (mkF m 290 #[.val (.int q0), .val (.int q1), .val (.int q2), .val (.int q3), .val (.int off), .val (.int len), .val (.ref b3), .val (.int (q3 &&& (3 : Int32))), .val (.ref b89), .val (.ref b94), .val (.int (off + len)), .val (.int mk), .val (.int fi), .unset, .unset, .unset] [(.int (own_at vsJ fi))])) t
      refine XS.bipush X108.here hx rfl (hb hby at_290) ?_
      exact k
    by_cases hc292_138 : (own_at vsJ fi) = (93 : Int32)
    · have R141 : Rch p e below (s₁.setTop (entryFrame m #[(.int q0), (.int q1), (.int q2), (.int q3)] maxLocals)) T108 (mkF m 304 #[.val (.int q0), .val (.int q1), .val (.int q2), .val (.int q3), .val (.int off), .val (.int len), .val (.ref b3), .val (.int (q3 &&& (3 : Int32))), .val (.ref b89), .val (.ref b94), .val (.int (off + len)), .val (.int mk), .val (.int fi), .val (.int (1 : Int32)), .unset, .unset] [(.ref b94)]) := fun t k => by
        refine R139 t ?_
        refine XS.icmpNo X108.here hx rfl (hb hby at_292) rfl (teq hc292_138).2 ?_
        show Steps p.tables e below (T108.setTop (mkF m 295 #[.val (.int q0), .val (.int q1), .val (.int q2), .val (.int q3), .val (.int off), .val (.int len), .val (.ref b3), .val (.int (q3 &&& (3 : Int32))), .val (.ref b89), .val (.ref b94), .val (.int (off + len)), .val (.int mk), .val (.int fi), .unset, .unset, .unset] [])) t
        refine XS.iconst X108.here hx rfl (hb hby at_295) ?_
        show Steps p.tables e below (T108.setTop (mkF m 296 #[.val (.int q0), .val (.int q1), .val (.int q2), .val (.int q3), .val (.int off), .val (.int len), .val (.ref b3), .val (.int (q3 &&& (3 : Int32))), .val (.ref b89), .val (.ref b94), .val (.int (off + len)), .val (.int mk), .val (.int fi), .unset, .unset, .unset] [(.int (1 : Int32))])) t
        refine XS.goto X108.here hx rfl (pc0 := 296) (pc' := 300) rfl (hb hby at_296) (by decide) (by decide) ?_
        show Steps p.tables e below (T108.setTop (mkF m 300 #[.val (.int q0), .val (.int q1), .val (.int q2), .val (.int q3), .val (.int off), .val (.int len), .val (.ref b3), .val (.int (q3 &&& (3 : Int32))), .val (.ref b89), .val (.ref b94), .val (.int (off + len)), .val (.int mk), .val (.int fi), .unset, .unset, .unset] [(.int (1 : Int32))])) t
        refine XS.istore X108.here hx rfl (hb hby at_300) rfl (l' := #[.val (.int q0), .val (.int q1), .val (.int q2), .val (.int q3), .val (.int off), .val (.int len), .val (.ref b3), .val (.int (q3 &&& (3 : Int32))), .val (.ref b89), .val (.ref b94), .val (.int (off + len)), .val (.int mk), .val (.int fi), .val (.int (1 : Int32)), .unset, .unset]) rfl ?_
        show Steps p.tables e below (T108.setTop (mkF m 302 #[.val (.int q0), .val (.int q1), .val (.int q2), .val (.int q3), .val (.int off), .val (.int len), .val (.ref b3), .val (.int (q3 &&& (3 : Int32))), .val (.ref b89), .val (.ref b94), .val (.int (off + len)), .val (.int mk), .val (.int fi), .val (.int (1 : Int32)), .unset, .unset] [])) t
        refine XS.aload X108.here hx rfl (hb hby at_302) rfl rfl ?_
        exact k
      obtain ⟨cq140, kq140, q140a, q140b, q140c⟩ := isOf hZ rfl c108_E
      obtain ⟨_, _, ⟨T140, L140, k140, n140⟩, -, X140, ⟨Lc140, hQ140, l140, y140, z140⟩, st140⟩ := X108.virtualBack hx (y := (⟨"com/example/vestwork/vestwork/io/JsonScanner", "bytes", "()[B"⟩ : MethodName)) (z := (⟨"com/example/vestwork/vestwork/io/JsonScanner", "bytes", "()[B"⟩ : MethodName)) hown (mvT hZ (hw _ (List.mem_of_getElem? (i := 180) rfl))) (mvT hZ (hw _ (List.mem_of_getElem? (i := 181) rfl))) (notFace_of_selects (args := #[]) (mvT hZ (hw _ (List.mem_of_getElem? (i := 183) rfl)))) (mvT hZ (hw _ (List.mem_of_getElem? (i := 183) rfl))) (mvT hZ (hw _ (List.mem_of_getElem? (i := 182) rfl))) (by decide) (backOf (W := 0) (rm_bytes l Z a0 hw [] b94 b3 T108.heap n0 (Nat.le_trans Z0 K108.1) c108_f_bytes) hZ (hw _ (List.mem_of_getElem? (i := 184) rfl)) (hw _ (List.mem_of_getElem? (i := 8) rfl)) (by decide) (by decide)) q140a q140c (g := (mkF m 304 #[.val (.int q0), .val (.int q1), .val (.int q2), .val (.int q3), .val (.int off), .val (.int len), .val (.ref b3), .val (.int (q3 &&& (3 : Int32))), .val (.ref b89), .val (.ref b94), .val (.int (off + len)), .val (.int mk), .val (.int fi), .val (.int (1 : Int32)), .unset, .unset] [(.ref b94)])) rfl (by rw [hml]; rfl) (Steps.refl _) (argsL := []) (rest := []) (lenOf pd_13 rfl) rfl (by show 2 * 0 + _ ≤ _; exact Nat.le_of_eq rfl) (hb hby at_304) (fun _ _ => ⟨rfl, rfl, (by decide : 13 + 0 ≤ _), (by decide : 11546 + 0 ≤ _)⟩)
      dsimp only [Pt.U, Pt.locs, Pt.cells, Pt.slots] at X140 l140 y140 z140 st140 hQ140
      subst l140 y140 z140
      obtain ⟨rfl, N140q, e140⟩ := hQ140
      have N140 := Fr.app N108 N140q
      have R143 : Rch p e below (s₁.setTop (entryFrame m #[(.int q0), (.int q1), (.int q2), (.int q3)] maxLocals)) T140 (mkF m 321 #[.val (.int q0), .val (.int q1), .val (.int q2), .val (.int q3), .val (.int off), .val (.int len), .val (.ref b3), .val (.int (q3 &&& (3 : Int32))), .val (.ref b89), .val (.ref b94), .val (.int (off + len)), .val (.int mk), .val (.int fi), .val (.int (1 : Int32)), .val (.int (1 : Int32)), .unset] [(.ref b94)]) := fun t k => by
        refine R141 t ?_
        refine st140.trans ?_
        show Steps p.tables e below (T140.setTop (mkF m 307 #[.val (.int q0), .val (.int q1), .val (.int q2), .val (.int q3), .val (.int off), .val (.int len), .val (.ref b3), .val (.int (q3 &&& (3 : Int32))), .val (.ref b89), .val (.ref b94), .val (.int (off + len)), .val (.int mk), .val (.int fi), .val (.int (1 : Int32)), .unset, .unset] [(.ref b3)])) t
        refine XS.aload X140.here hx rfl (hb hby at_307) rfl rfl ?_
        show Steps p.tables e below (T140.setTop (mkF m 309 #[.val (.int q0), .val (.int q1), .val (.int q2), .val (.int q3), .val (.int off), .val (.int len), .val (.ref b3), .val (.int (q3 &&& (3 : Int32))), .val (.ref b89), .val (.ref b94), .val (.int (off + len)), .val (.int mk), .val (.int fi), .val (.int (1 : Int32)), .unset, .unset] [(.ref b3), (.ref b3)])) t
        refine Jvm.RoadKit.acmp (g := (mkF m 309 #[.val (.int q0), .val (.int q1), .val (.int q2), .val (.int q3), .val (.int off), .val (.int len), .val (.ref b3), .val (.int (q3 &&& (3 : Int32))), .val (.ref b89), .val (.ref b94), .val (.int (off + len)), .val (.int mk), .val (.int fi), .val (.int (1 : Int32)), .unset, .unset] [(.ref b3), (.ref b3)])) X140 hx rfl rfl rfl (pc0 := 309) (pc' := 312) (same := true) rfl (hb hby at_309) rfl (decide_eq_true rfl) (by decide) (by decide) ?_
        show Steps p.tables e below (T140.setTop (mkF m 312 #[.val (.int q0), .val (.int q1), .val (.int q2), .val (.int q3), .val (.int off), .val (.int len), .val (.ref b3), .val (.int (q3 &&& (3 : Int32))), .val (.ref b89), .val (.ref b94), .val (.int (off + len)), .val (.int mk), .val (.int fi), .val (.int (1 : Int32)), .unset, .unset] [])) t
        refine XS.iconst X140.here hx rfl (hb hby at_312) ?_
        show Steps p.tables e below (T140.setTop (mkF m 313 #[.val (.int q0), .val (.int q1), .val (.int q2), .val (.int q3), .val (.int off), .val (.int len), .val (.ref b3), .val (.int (q3 &&& (3 : Int32))), .val (.ref b89), .val (.ref b94), .val (.int (off + len)), .val (.int mk), .val (.int fi), .val (.int (1 : Int32)), .unset, .unset] [(.int (1 : Int32))])) t
        refine XS.goto X140.here hx rfl (pc0 := 313) (pc' := 317) rfl (hb hby at_313) (by decide) (by decide) ?_
        show Steps p.tables e below (T140.setTop (mkF m 317 #[.val (.int q0), .val (.int q1), .val (.int q2), .val (.int q3), .val (.int off), .val (.int len), .val (.ref b3), .val (.int (q3 &&& (3 : Int32))), .val (.ref b89), .val (.ref b94), .val (.int (off + len)), .val (.int mk), .val (.int fi), .val (.int (1 : Int32)), .unset, .unset] [(.int (1 : Int32))])) t
        refine XS.istore X140.here hx rfl (hb hby at_317) rfl (l' := #[.val (.int q0), .val (.int q1), .val (.int q2), .val (.int q3), .val (.int off), .val (.int len), .val (.ref b3), .val (.int (q3 &&& (3 : Int32))), .val (.ref b89), .val (.ref b94), .val (.int (off + len)), .val (.int mk), .val (.int fi), .val (.int (1 : Int32)), .val (.int (1 : Int32)), .unset]) rfl ?_
        show Steps p.tables e below (T140.setTop (mkF m 319 #[.val (.int q0), .val (.int q1), .val (.int q2), .val (.int q3), .val (.int off), .val (.int len), .val (.ref b3), .val (.int (q3 &&& (3 : Int32))), .val (.ref b89), .val (.ref b94), .val (.int (off + len)), .val (.int mk), .val (.int fi), .val (.int (1 : Int32)), .val (.int (1 : Int32)), .unset] [])) t
        refine XS.aload X140.here hx rfl (hb hby at_319) rfl rfl ?_
        exact k
      obtain ⟨cq142, kq142, q142a, q142b, q142c⟩ := isOf hZ e140 c108_E
      obtain ⟨_, _, ⟨T142, L142, k142, n142⟩, -, X142, ⟨Lc142, hQ142, l142, y142, z142⟩, st142⟩ := X140.virtualBack hx (y := (⟨"com/example/vestwork/vestwork/io/JsonScanner", "item", "()Z"⟩ : MethodName)) (z := (⟨"com/example/vestwork/vestwork/io/JsonScanner", "item", "()Z"⟩ : MethodName)) hown (mvT hZ (hw _ (List.mem_of_getElem? (i := 185) rfl))) (mvT hZ (hw _ (List.mem_of_getElem? (i := 186) rfl))) (notFace_of_selects (args := #[]) (mvT hZ (hw _ (List.mem_of_getElem? (i := 188) rfl)))) (mvT hZ (hw _ (List.mem_of_getElem? (i := 188) rfl))) (mvT hZ (hw _ (List.mem_of_getElem? (i := 187) rfl))) (by decide) (backOf (W := 0) (rm_item l Z a0 hw [] b94 b3 k3 (8 : Int32) vsJ (.int (0 : Int32)) (off + len) fi (0 : Int32) ob (.int off) T108.heap n0 (Nat.le_trans Z0 K108.1) c108_E g_b94 (Nat.ne_of_lt (Nat.lt_of_lt_of_le ((VJ.ext E89).other W93 (Nat.ne_of_lt (Nat.lt_of_lt_of_le VJ.lt (Nat.le_of_eq g89.symm)))).lt (Nat.le_of_eq g94.symm))) c108_f_bytes c108_f_end c108_f_at c108_f_depth c108_f_opened c108_f_objects c108_f_start (((((((((VJ.ext E89).other W93 (Nat.ne_of_lt (Nat.lt_of_lt_of_le VJ.lt (Nat.le_of_eq g89.symm)))).ext E94).ext E96).keep Kc98 (ninS (Nat.ne_of_lt (Nat.lt_of_lt_of_le (((VJ.ext E89).other W93 (Nat.ne_of_lt (Nat.lt_of_lt_of_le VJ.lt (Nat.le_of_eq g89.symm)))).ext E94).lt (Nat.le_of_eq g96.symm))) nin0)).keep Kc100 (ninS (Nat.ne_of_lt (Nat.lt_of_lt_of_le ((VJ.ext E89).other W93 (Nat.ne_of_lt (Nat.lt_of_lt_of_le VJ.lt (Nat.le_of_eq g89.symm)))).lt (Nat.le_of_eq g94.symm))) nin0)).keep Kc102 (ninS (Nat.ne_of_lt (Nat.lt_of_lt_of_le ((VJ.ext E89).other W93 (Nat.ne_of_lt (Nat.lt_of_lt_of_le VJ.lt (Nat.le_of_eq g89.symm)))).lt (Nat.le_of_eq g94.symm))) nin0)).keep Kc104 (ninS (Nat.ne_of_lt (Nat.lt_of_lt_of_le ((VJ.ext E89).other W93 (Nat.ne_of_lt (Nat.lt_of_lt_of_le VJ.lt (Nat.le_of_eq g89.symm)))).lt (Nat.le_of_eq g94.symm))) (ninS (Nat.ne_of_lt (Nat.lt_of_lt_of_le (((((VJ.ext E89).other W93 (Nat.ne_of_lt (Nat.lt_of_lt_of_le VJ.lt (Nat.le_of_eq g89.symm)))).ext E94).ext E96).keep Kc98 (ninS (Nat.ne_of_lt (Nat.lt_of_lt_of_le (((VJ.ext E89).other W93 (Nat.ne_of_lt (Nat.lt_of_lt_of_le VJ.lt (Nat.le_of_eq g89.symm)))).ext E94).lt (Nat.le_of_eq g96.symm))) nin0)).lt (Nat.le_of_eq hob.symm))) nin0))).keep Kc108 (ninS (Nat.ne_of_lt (Nat.lt_of_lt_of_le ((VJ.ext E89).other W93 (Nat.ne_of_lt (Nat.lt_of_lt_of_le VJ.lt (Nat.le_of_eq g89.symm)))).lt (Nat.le_of_eq g94.symm))) nin0)) (fun hq => ⟨(own_rd_pal PJ (j := fi) hfb (by have := own_lt.mp hq; rw [hol] at this; omega)).1, own_nsp_pal (own_rd_pal PJ (j := fi) hfb (by have := own_lt.mp hq; rw [hol] at this; omega)).2⟩)) hZ (hw _ (List.mem_of_getElem? (i := 189) rfl)) (hw _ (List.mem_of_getElem? (i := 8) rfl)) (by decide) (by decide)) q142a q142c (g := (mkF m 321 #[.val (.int q0), .val (.int q1), .val (.int q2), .val (.int q3), .val (.int off), .val (.int len), .val (.ref b3), .val (.int (q3 &&& (3 : Int32))), .val (.ref b89), .val (.ref b94), .val (.int (off + len)), .val (.int mk), .val (.int fi), .val (.int (1 : Int32)), .val (.int (1 : Int32)), .unset] [(.ref b94)])) rfl (by rw [hml]; rfl) (Steps.refl _) (argsL := []) (rest := []) (lenOf pd_2 rfl) rfl (by show 2 * 0 + _ ≤ _; exact Nat.le_of_eq rfl) (hb hby at_321) (fun _ _ => ⟨rfl, e140, (by decide : 13 + 0 ≤ _), (by decide : 11546 + 0 ≤ _)⟩)
      dsimp only [Pt.U, Pt.locs, Pt.cells, Pt.slots] at X142 l142 y142 z142 st142 hQ142
      subst l142 y142 z142
      obtain ⟨rfl, N142q, Kc142⟩ := hQ142
      have N142 := Fr.app N140 N142q
      have K142 : Keep h0 T142.heap [] := K108.trans Kc142 (allS (Or.inr sz_b94) all0)
      have hit142 : own_item vsJ fi (off + len) = (0 : Int32) := by simp [own_item, hc282_134, hc292_138]
      rw [hit142] at st142
      have R144 : Rch p e below (s₁.setTop (entryFrame m #[(.int q0), (.int q1), (.int q2), (.int q3)] maxLocals)) T142 (mkF m 351 #[.val (.int q0), .val (.int q1), .val (.int q2), .val (.int q3), .val (.int off), .val (.int len), .val (.ref b3), .val (.int (q3 &&& (3 : Int32))), .val (.ref b89), .val (.ref b94), .val (.int (off + len)), .val (.int mk), .val (.int fi), .val (.int (1 : Int32)), .val (.int (1 : Int32)), .val (.int (0 : Int32))] [(.int (1 : Int32))]) := fun t k => by
        refine R143 t ?_
        refine st142.trans ?_
        show Steps p.tables e below (T142.setTop (mkF m 324 #[.val (.int q0), .val (.int q1), .val (.int q2), .val (.int q3), .val (.int off), .val (.int len), .val (.ref b3), .val (.int (q3 &&& (3 : Int32))), .val (.ref b89), .val (.ref b94), .val (.int (off + len)), .val (.int mk), .val (.int fi), .val (.int (1 : Int32)), .val (.int (1 : Int32)), .unset] [(.int (0 : Int32))])) t
        refine XS.istore X142.here hx rfl (hb hby at_324) rfl (l' := #[.val (.int q0), .val (.int q1), .val (.int q2), .val (.int q3), .val (.int off), .val (.int len), .val (.ref b3), .val (.int (q3 &&& (3 : Int32))), .val (.ref b89), .val (.ref b94), .val (.int (off + len)), .val (.int mk), .val (.int fi), .val (.int (1 : Int32)), .val (.int (1 : Int32)), .val (.int (0 : Int32))]) rfl ?_
        show Steps p.tables e below (T142.setTop (mkF m 326 #[.val (.int q0), .val (.int q1), .val (.int q2), .val (.int q3), .val (.int off), .val (.int len), .val (.ref b3), .val (.int (q3 &&& (3 : Int32))), .val (.ref b89), .val (.ref b94), .val (.int (off + len)), .val (.int mk), .val (.int fi), .val (.int (1 : Int32)), .val (.int (1 : Int32)), .val (.int (0 : Int32))] [])) t
        refine XS.iload X142.here hx rfl (hb hby at_326) rfl ?_
        show Steps p.tables e below (T142.setTop (mkF m 328 #[.val (.int q0), .val (.int q1), .val (.int q2), .val (.int q3), .val (.int off), .val (.int len), .val (.ref b3), .val (.int (q3 &&& (3 : Int32))), .val (.ref b89), .val (.ref b94), .val (.int (off + len)), .val (.int mk), .val (.int fi), .val (.int (1 : Int32)), .val (.int (1 : Int32)), .val (.int (0 : Int32))] [(.int (1 : Int32))])) t
        refine XS.ifNo X142.here hx rfl (hb hby at_328) rfl ((if0 _ _).trans (feq (by decide : ¬ ((1 : Int32) = (0 : Int32)))).1) ?_
        show Steps p.tables e below (T142.setTop (mkF m 331 #[.val (.int q0), .val (.int q1), .val (.int q2), .val (.int q3), .val (.int off), .val (.int len), .val (.ref b3), .val (.int (q3 &&& (3 : Int32))), .val (.ref b89), .val (.ref b94), .val (.int (off + len)), .val (.int mk), .val (.int fi), .val (.int (1 : Int32)), .val (.int (1 : Int32)), .val (.int (0 : Int32))] [])) t
        refine XS.iload X142.here hx rfl (hb hby at_331) rfl ?_
        show Steps p.tables e below (T142.setTop (mkF m 333 #[.val (.int q0), .val (.int q1), .val (.int q2), .val (.int q3), .val (.int off), .val (.int len), .val (.ref b3), .val (.int (q3 &&& (3 : Int32))), .val (.ref b89), .val (.ref b94), .val (.int (off + len)), .val (.int mk), .val (.int fi), .val (.int (1 : Int32)), .val (.int (1 : Int32)), .val (.int (0 : Int32))] [(.int (0 : Int32))])) t
        refine XS.iload X142.here hx rfl (hb hby at_333) rfl ?_
        show Steps p.tables e below (T142.setTop (mkF m 335 #[.val (.int q0), .val (.int q1), .val (.int q2), .val (.int q3), .val (.int off), .val (.int len), .val (.ref b3), .val (.int (q3 &&& (3 : Int32))), .val (.ref b89), .val (.ref b94), .val (.int (off + len)), .val (.int mk), .val (.int fi), .val (.int (1 : Int32)), .val (.int (1 : Int32)), .val (.int (0 : Int32))] [(.int (1 : Int32)), (.int (0 : Int32))])) t
        refine XS.ifYes X142.here hx rfl (pc0 := 335) (pc' := 342) rfl (hb hby at_335) rfl ((if0 _ _).trans (feq (by decide : ¬ ((1 : Int32) = (0 : Int32)))).2) (by decide) (by decide) ?_
        show Steps p.tables e below (T142.setTop (mkF m 342 #[.val (.int q0), .val (.int q1), .val (.int q2), .val (.int q3), .val (.int off), .val (.int len), .val (.ref b3), .val (.int (q3 &&& (3 : Int32))), .val (.ref b89), .val (.ref b94), .val (.int (off + len)), .val (.int mk), .val (.int fi), .val (.int (1 : Int32)), .val (.int (1 : Int32)), .val (.int (0 : Int32))] [(.int (0 : Int32))])) t
        refine XS.iconst X142.here hx rfl (hb hby at_342) ?_
        show Steps p.tables e below (T142.setTop (mkF m 343 #[.val (.int q0), .val (.int q1), .val (.int q2), .val (.int q3), .val (.int off), .val (.int len), .val (.ref b3), .val (.int (q3 &&& (3 : Int32))), .val (.ref b89), .val (.ref b94), .val (.int (off + len)), .val (.int mk), .val (.int fi), .val (.int (1 : Int32)), .val (.int (1 : Int32)), .val (.int (0 : Int32))] [(.int (0 : Int32)), (.int (0 : Int32))])) t
        refine XS.icmpNo X142.here hx rfl (hb hby at_343) rfl (teq (by decide : (0 : Int32) = (0 : Int32))).2 ?_
        show Steps p.tables e below (T142.setTop (mkF m 346 #[.val (.int q0), .val (.int q1), .val (.int q2), .val (.int q3), .val (.int off), .val (.int len), .val (.ref b3), .val (.int (q3 &&& (3 : Int32))), .val (.ref b89), .val (.ref b94), .val (.int (off + len)), .val (.int mk), .val (.int fi), .val (.int (1 : Int32)), .val (.int (1 : Int32)), .val (.int (0 : Int32))] [])) t
        refine XS.iconst X142.here hx rfl (hb hby at_346) ?_
        show Steps p.tables e below (T142.setTop (mkF m 347 #[.val (.int q0), .val (.int q1), .val (.int q2), .val (.int q3), .val (.int off), .val (.int len), .val (.ref b3), .val (.int (q3 &&& (3 : Int32))), .val (.ref b89), .val (.ref b94), .val (.int (off + len)), .val (.int mk), .val (.int fi), .val (.int (1 : Int32)), .val (.int (1 : Int32)), .val (.int (0 : Int32))] [(.int (1 : Int32))])) t
        refine XS.goto X142.here hx rfl (pc0 := 347) (pc' := 351) rfl (hb hby at_347) (by decide) (by decide) ?_
        exact k
      obtain ⟨fs, hr, hrun, hended, hW, hsame⟩ := X142.leave (v := some (.int (1 : Int32))) (fun h => by rw [Bd.returns] at h; cases h)
      refine ⟨_, _, R144 _ ?_, hrun, hended, _, _, rfl, ?_, ⟨_, rfl⟩, hW, hsame.mono (by decide) (by decide)⟩
      · exact retN X142 hx (t := .boolean) Bd.returns (by simp) (hb hby at_351) hr
      · show Q_rm0 Z q0 q1 q2 q3 li ox dce emp h0 n0 _ T142.heap _
        exact ⟨rfl, N142, K142⟩
    · have R146 : Rch p e below (s₁.setTop (entryFrame m #[(.int q0), (.int q1), (.int q2), (.int q3)] maxLocals)) T108 (mkF m 304 #[.val (.int q0), .val (.int q1), .val (.int q2), .val (.int q3), .val (.int off), .val (.int len), .val (.ref b3), .val (.int (q3 &&& (3 : Int32))), .val (.ref b89), .val (.ref b94), .val (.int (off + len)), .val (.int mk), .val (.int fi), .val (.int (0 : Int32)), .unset, .unset] [(.ref b94)]) := fun t k => by
        refine R139 t ?_
        refine XS.icmpYes X108.here hx rfl (pc0 := 292) (pc' := 299) rfl (hb hby at_292) rfl (feq hc292_138).2 (by decide) (by decide) ?_
        show Steps p.tables e below (T108.setTop (mkF m 299 #[.val (.int q0), .val (.int q1), .val (.int q2), .val (.int q3), .val (.int off), .val (.int len), .val (.ref b3), .val (.int (q3 &&& (3 : Int32))), .val (.ref b89), .val (.ref b94), .val (.int (off + len)), .val (.int mk), .val (.int fi), .unset, .unset, .unset] [])) t
        refine XS.iconst X108.here hx rfl (hb hby at_299) ?_
        show Steps p.tables e below (T108.setTop (mkF m 300 #[.val (.int q0), .val (.int q1), .val (.int q2), .val (.int q3), .val (.int off), .val (.int len), .val (.ref b3), .val (.int (q3 &&& (3 : Int32))), .val (.ref b89), .val (.ref b94), .val (.int (off + len)), .val (.int mk), .val (.int fi), .unset, .unset, .unset] [(.int (0 : Int32))])) t
        refine XS.istore X108.here hx rfl (hb hby at_300) rfl (l' := #[.val (.int q0), .val (.int q1), .val (.int q2), .val (.int q3), .val (.int off), .val (.int len), .val (.ref b3), .val (.int (q3 &&& (3 : Int32))), .val (.ref b89), .val (.ref b94), .val (.int (off + len)), .val (.int mk), .val (.int fi), .val (.int (0 : Int32)), .unset, .unset]) rfl ?_
        show Steps p.tables e below (T108.setTop (mkF m 302 #[.val (.int q0), .val (.int q1), .val (.int q2), .val (.int q3), .val (.int off), .val (.int len), .val (.ref b3), .val (.int (q3 &&& (3 : Int32))), .val (.ref b89), .val (.ref b94), .val (.int (off + len)), .val (.int mk), .val (.int fi), .val (.int (0 : Int32)), .unset, .unset] [])) t
        refine XS.aload X108.here hx rfl (hb hby at_302) rfl rfl ?_
        exact k
      obtain ⟨cq145, kq145, q145a, q145b, q145c⟩ := isOf hZ rfl c108_E
      obtain ⟨_, _, ⟨T145, L145, k145, n145⟩, -, X145, ⟨Lc145, hQ145, l145, y145, z145⟩, st145⟩ := X108.virtualBack hx (y := (⟨"com/example/vestwork/vestwork/io/JsonScanner", "bytes", "()[B"⟩ : MethodName)) (z := (⟨"com/example/vestwork/vestwork/io/JsonScanner", "bytes", "()[B"⟩ : MethodName)) hown (mvT hZ (hw _ (List.mem_of_getElem? (i := 180) rfl))) (mvT hZ (hw _ (List.mem_of_getElem? (i := 181) rfl))) (notFace_of_selects (args := #[]) (mvT hZ (hw _ (List.mem_of_getElem? (i := 183) rfl)))) (mvT hZ (hw _ (List.mem_of_getElem? (i := 183) rfl))) (mvT hZ (hw _ (List.mem_of_getElem? (i := 182) rfl))) (by decide) (backOf (W := 0) (rm_bytes l Z a0 hw [] b94 b3 T108.heap n0 (Nat.le_trans Z0 K108.1) c108_f_bytes) hZ (hw _ (List.mem_of_getElem? (i := 184) rfl)) (hw _ (List.mem_of_getElem? (i := 8) rfl)) (by decide) (by decide)) q145a q145c (g := (mkF m 304 #[.val (.int q0), .val (.int q1), .val (.int q2), .val (.int q3), .val (.int off), .val (.int len), .val (.ref b3), .val (.int (q3 &&& (3 : Int32))), .val (.ref b89), .val (.ref b94), .val (.int (off + len)), .val (.int mk), .val (.int fi), .val (.int (0 : Int32)), .unset, .unset] [(.ref b94)])) rfl (by rw [hml]; rfl) (Steps.refl _) (argsL := []) (rest := []) (lenOf pd_13 rfl) rfl (by show 2 * 0 + _ ≤ _; exact Nat.le_of_eq rfl) (hb hby at_304) (fun _ _ => ⟨rfl, rfl, (by decide : 13 + 0 ≤ _), (by decide : 11546 + 0 ≤ _)⟩)
      dsimp only [Pt.U, Pt.locs, Pt.cells, Pt.slots] at X145 l145 y145 z145 st145 hQ145
      subst l145 y145 z145
      obtain ⟨rfl, N145q, e145⟩ := hQ145
      have N145 := Fr.app N108 N145q
      have R148 : Rch p e below (s₁.setTop (entryFrame m #[(.int q0), (.int q1), (.int q2), (.int q3)] maxLocals)) T145 (mkF m 321 #[.val (.int q0), .val (.int q1), .val (.int q2), .val (.int q3), .val (.int off), .val (.int len), .val (.ref b3), .val (.int (q3 &&& (3 : Int32))), .val (.ref b89), .val (.ref b94), .val (.int (off + len)), .val (.int mk), .val (.int fi), .val (.int (0 : Int32)), .val (.int (1 : Int32)), .unset] [(.ref b94)]) := fun t k => by
        refine R146 t ?_
        refine st145.trans ?_
        show Steps p.tables e below (T145.setTop (mkF m 307 #[.val (.int q0), .val (.int q1), .val (.int q2), .val (.int q3), .val (.int off), .val (.int len), .val (.ref b3), .val (.int (q3 &&& (3 : Int32))), .val (.ref b89), .val (.ref b94), .val (.int (off + len)), .val (.int mk), .val (.int fi), .val (.int (0 : Int32)), .unset, .unset] [(.ref b3)])) t
        refine XS.aload X145.here hx rfl (hb hby at_307) rfl rfl ?_
        show Steps p.tables e below (T145.setTop (mkF m 309 #[.val (.int q0), .val (.int q1), .val (.int q2), .val (.int q3), .val (.int off), .val (.int len), .val (.ref b3), .val (.int (q3 &&& (3 : Int32))), .val (.ref b89), .val (.ref b94), .val (.int (off + len)), .val (.int mk), .val (.int fi), .val (.int (0 : Int32)), .unset, .unset] [(.ref b3), (.ref b3)])) t
        refine Jvm.RoadKit.acmp (g := (mkF m 309 #[.val (.int q0), .val (.int q1), .val (.int q2), .val (.int q3), .val (.int off), .val (.int len), .val (.ref b3), .val (.int (q3 &&& (3 : Int32))), .val (.ref b89), .val (.ref b94), .val (.int (off + len)), .val (.int mk), .val (.int fi), .val (.int (0 : Int32)), .unset, .unset] [(.ref b3), (.ref b3)])) X145 hx rfl rfl rfl (pc0 := 309) (pc' := 312) (same := true) rfl (hb hby at_309) rfl (decide_eq_true rfl) (by decide) (by decide) ?_
        show Steps p.tables e below (T145.setTop (mkF m 312 #[.val (.int q0), .val (.int q1), .val (.int q2), .val (.int q3), .val (.int off), .val (.int len), .val (.ref b3), .val (.int (q3 &&& (3 : Int32))), .val (.ref b89), .val (.ref b94), .val (.int (off + len)), .val (.int mk), .val (.int fi), .val (.int (0 : Int32)), .unset, .unset] [])) t
        refine XS.iconst X145.here hx rfl (hb hby at_312) ?_
        show Steps p.tables e below (T145.setTop (mkF m 313 #[.val (.int q0), .val (.int q1), .val (.int q2), .val (.int q3), .val (.int off), .val (.int len), .val (.ref b3), .val (.int (q3 &&& (3 : Int32))), .val (.ref b89), .val (.ref b94), .val (.int (off + len)), .val (.int mk), .val (.int fi), .val (.int (0 : Int32)), .unset, .unset] [(.int (1 : Int32))])) t
        refine XS.goto X145.here hx rfl (pc0 := 313) (pc' := 317) rfl (hb hby at_313) (by decide) (by decide) ?_
        show Steps p.tables e below (T145.setTop (mkF m 317 #[.val (.int q0), .val (.int q1), .val (.int q2), .val (.int q3), .val (.int off), .val (.int len), .val (.ref b3), .val (.int (q3 &&& (3 : Int32))), .val (.ref b89), .val (.ref b94), .val (.int (off + len)), .val (.int mk), .val (.int fi), .val (.int (0 : Int32)), .unset, .unset] [(.int (1 : Int32))])) t
        refine XS.istore X145.here hx rfl (hb hby at_317) rfl (l' := #[.val (.int q0), .val (.int q1), .val (.int q2), .val (.int q3), .val (.int off), .val (.int len), .val (.ref b3), .val (.int (q3 &&& (3 : Int32))), .val (.ref b89), .val (.ref b94), .val (.int (off + len)), .val (.int mk), .val (.int fi), .val (.int (0 : Int32)), .val (.int (1 : Int32)), .unset]) rfl ?_
        show Steps p.tables e below (T145.setTop (mkF m 319 #[.val (.int q0), .val (.int q1), .val (.int q2), .val (.int q3), .val (.int off), .val (.int len), .val (.ref b3), .val (.int (q3 &&& (3 : Int32))), .val (.ref b89), .val (.ref b94), .val (.int (off + len)), .val (.int mk), .val (.int fi), .val (.int (0 : Int32)), .val (.int (1 : Int32)), .unset] [])) t
        refine XS.aload X145.here hx rfl (hb hby at_319) rfl rfl ?_
        exact k
      obtain ⟨cq147, kq147, q147a, q147b, q147c⟩ := isOf hZ e145 c108_E
      obtain ⟨_, _, ⟨T147, L147, k147, n147⟩, -, X147, ⟨Lc147, hQ147, l147, y147, z147⟩, st147⟩ := X145.virtualBack hx (y := (⟨"com/example/vestwork/vestwork/io/JsonScanner", "item", "()Z"⟩ : MethodName)) (z := (⟨"com/example/vestwork/vestwork/io/JsonScanner", "item", "()Z"⟩ : MethodName)) hown (mvT hZ (hw _ (List.mem_of_getElem? (i := 185) rfl))) (mvT hZ (hw _ (List.mem_of_getElem? (i := 186) rfl))) (notFace_of_selects (args := #[]) (mvT hZ (hw _ (List.mem_of_getElem? (i := 188) rfl)))) (mvT hZ (hw _ (List.mem_of_getElem? (i := 188) rfl))) (mvT hZ (hw _ (List.mem_of_getElem? (i := 187) rfl))) (by decide) (backOf (W := 0) (rm_item l Z a0 hw [] b94 b3 k3 (8 : Int32) vsJ (.int (0 : Int32)) (off + len) fi (0 : Int32) ob (.int off) T108.heap n0 (Nat.le_trans Z0 K108.1) c108_E g_b94 (Nat.ne_of_lt (Nat.lt_of_lt_of_le ((VJ.ext E89).other W93 (Nat.ne_of_lt (Nat.lt_of_lt_of_le VJ.lt (Nat.le_of_eq g89.symm)))).lt (Nat.le_of_eq g94.symm))) c108_f_bytes c108_f_end c108_f_at c108_f_depth c108_f_opened c108_f_objects c108_f_start (((((((((VJ.ext E89).other W93 (Nat.ne_of_lt (Nat.lt_of_lt_of_le VJ.lt (Nat.le_of_eq g89.symm)))).ext E94).ext E96).keep Kc98 (ninS (Nat.ne_of_lt (Nat.lt_of_lt_of_le (((VJ.ext E89).other W93 (Nat.ne_of_lt (Nat.lt_of_lt_of_le VJ.lt (Nat.le_of_eq g89.symm)))).ext E94).lt (Nat.le_of_eq g96.symm))) nin0)).keep Kc100 (ninS (Nat.ne_of_lt (Nat.lt_of_lt_of_le ((VJ.ext E89).other W93 (Nat.ne_of_lt (Nat.lt_of_lt_of_le VJ.lt (Nat.le_of_eq g89.symm)))).lt (Nat.le_of_eq g94.symm))) nin0)).keep Kc102 (ninS (Nat.ne_of_lt (Nat.lt_of_lt_of_le ((VJ.ext E89).other W93 (Nat.ne_of_lt (Nat.lt_of_lt_of_le VJ.lt (Nat.le_of_eq g89.symm)))).lt (Nat.le_of_eq g94.symm))) nin0)).keep Kc104 (ninS (Nat.ne_of_lt (Nat.lt_of_lt_of_le ((VJ.ext E89).other W93 (Nat.ne_of_lt (Nat.lt_of_lt_of_le VJ.lt (Nat.le_of_eq g89.symm)))).lt (Nat.le_of_eq g94.symm))) (ninS (Nat.ne_of_lt (Nat.lt_of_lt_of_le (((((VJ.ext E89).other W93 (Nat.ne_of_lt (Nat.lt_of_lt_of_le VJ.lt (Nat.le_of_eq g89.symm)))).ext E94).ext E96).keep Kc98 (ninS (Nat.ne_of_lt (Nat.lt_of_lt_of_le (((VJ.ext E89).other W93 (Nat.ne_of_lt (Nat.lt_of_lt_of_le VJ.lt (Nat.le_of_eq g89.symm)))).ext E94).lt (Nat.le_of_eq g96.symm))) nin0)).lt (Nat.le_of_eq hob.symm))) nin0))).keep Kc108 (ninS (Nat.ne_of_lt (Nat.lt_of_lt_of_le ((VJ.ext E89).other W93 (Nat.ne_of_lt (Nat.lt_of_lt_of_le VJ.lt (Nat.le_of_eq g89.symm)))).lt (Nat.le_of_eq g94.symm))) nin0)) (fun hq => ⟨(own_rd_pal PJ (j := fi) hfb (by have := own_lt.mp hq; rw [hol] at this; omega)).1, own_nsp_pal (own_rd_pal PJ (j := fi) hfb (by have := own_lt.mp hq; rw [hol] at this; omega)).2⟩)) hZ (hw _ (List.mem_of_getElem? (i := 189) rfl)) (hw _ (List.mem_of_getElem? (i := 8) rfl)) (by decide) (by decide)) q147a q147c (g := (mkF m 321 #[.val (.int q0), .val (.int q1), .val (.int q2), .val (.int q3), .val (.int off), .val (.int len), .val (.ref b3), .val (.int (q3 &&& (3 : Int32))), .val (.ref b89), .val (.ref b94), .val (.int (off + len)), .val (.int mk), .val (.int fi), .val (.int (0 : Int32)), .val (.int (1 : Int32)), .unset] [(.ref b94)])) rfl (by rw [hml]; rfl) (Steps.refl _) (argsL := []) (rest := []) (lenOf pd_2 rfl) rfl (by show 2 * 0 + _ ≤ _; exact Nat.le_of_eq rfl) (hb hby at_321) (fun _ _ => ⟨rfl, e145, (by decide : 13 + 0 ≤ _), (by decide : 11546 + 0 ≤ _)⟩)
      dsimp only [Pt.U, Pt.locs, Pt.cells, Pt.slots] at X147 l147 y147 z147 st147 hQ147
      subst l147 y147 z147
      obtain ⟨rfl, N147q, Kc147⟩ := hQ147
      have N147 := Fr.app N145 N147q
      have K147 : Keep h0 T147.heap [] := K108.trans Kc147 (allS (Or.inr sz_b94) all0)
      have hit147 : own_item vsJ fi (off + len) = (1 : Int32) := by simp [own_item, hc282_134, hc292_138]
      rw [hit147] at st147
      have R149 : Rch p e below (s₁.setTop (entryFrame m #[(.int q0), (.int q1), (.int q2), (.int q3)] maxLocals)) T147 (mkF m 351 #[.val (.int q0), .val (.int q1), .val (.int q2), .val (.int q3), .val (.int off), .val (.int len), .val (.ref b3), .val (.int (q3 &&& (3 : Int32))), .val (.ref b89), .val (.ref b94), .val (.int (off + len)), .val (.int mk), .val (.int fi), .val (.int (0 : Int32)), .val (.int (1 : Int32)), .val (.int (1 : Int32))] [(.int (1 : Int32))]) := fun t k => by
        refine R148 t ?_
        refine st147.trans ?_
        show Steps p.tables e below (T147.setTop (mkF m 324 #[.val (.int q0), .val (.int q1), .val (.int q2), .val (.int q3), .val (.int off), .val (.int len), .val (.ref b3), .val (.int (q3 &&& (3 : Int32))), .val (.ref b89), .val (.ref b94), .val (.int (off + len)), .val (.int mk), .val (.int fi), .val (.int (0 : Int32)), .val (.int (1 : Int32)), .unset] [(.int (1 : Int32))])) t
        refine XS.istore X147.here hx rfl (hb hby at_324) rfl (l' := #[.val (.int q0), .val (.int q1), .val (.int q2), .val (.int q3), .val (.int off), .val (.int len), .val (.ref b3), .val (.int (q3 &&& (3 : Int32))), .val (.ref b89), .val (.ref b94), .val (.int (off + len)), .val (.int mk), .val (.int fi), .val (.int (0 : Int32)), .val (.int (1 : Int32)), .val (.int (1 : Int32))]) rfl ?_
        show Steps p.tables e below (T147.setTop (mkF m 326 #[.val (.int q0), .val (.int q1), .val (.int q2), .val (.int q3), .val (.int off), .val (.int len), .val (.ref b3), .val (.int (q3 &&& (3 : Int32))), .val (.ref b89), .val (.ref b94), .val (.int (off + len)), .val (.int mk), .val (.int fi), .val (.int (0 : Int32)), .val (.int (1 : Int32)), .val (.int (1 : Int32))] [])) t
        refine XS.iload X147.here hx rfl (hb hby at_326) rfl ?_
        show Steps p.tables e below (T147.setTop (mkF m 328 #[.val (.int q0), .val (.int q1), .val (.int q2), .val (.int q3), .val (.int off), .val (.int len), .val (.ref b3), .val (.int (q3 &&& (3 : Int32))), .val (.ref b89), .val (.ref b94), .val (.int (off + len)), .val (.int mk), .val (.int fi), .val (.int (0 : Int32)), .val (.int (1 : Int32)), .val (.int (1 : Int32))] [(.int (1 : Int32))])) t
        refine XS.ifNo X147.here hx rfl (hb hby at_328) rfl ((if0 _ _).trans (feq (by decide : ¬ ((1 : Int32) = (0 : Int32)))).1) ?_
        show Steps p.tables e below (T147.setTop (mkF m 331 #[.val (.int q0), .val (.int q1), .val (.int q2), .val (.int q3), .val (.int off), .val (.int len), .val (.ref b3), .val (.int (q3 &&& (3 : Int32))), .val (.ref b89), .val (.ref b94), .val (.int (off + len)), .val (.int mk), .val (.int fi), .val (.int (0 : Int32)), .val (.int (1 : Int32)), .val (.int (1 : Int32))] [])) t
        refine XS.iload X147.here hx rfl (hb hby at_331) rfl ?_
        show Steps p.tables e below (T147.setTop (mkF m 333 #[.val (.int q0), .val (.int q1), .val (.int q2), .val (.int q3), .val (.int off), .val (.int len), .val (.ref b3), .val (.int (q3 &&& (3 : Int32))), .val (.ref b89), .val (.ref b94), .val (.int (off + len)), .val (.int mk), .val (.int fi), .val (.int (0 : Int32)), .val (.int (1 : Int32)), .val (.int (1 : Int32))] [(.int (1 : Int32))])) t
        refine XS.iload X147.here hx rfl (hb hby at_333) rfl ?_
        show Steps p.tables e below (T147.setTop (mkF m 335 #[.val (.int q0), .val (.int q1), .val (.int q2), .val (.int q3), .val (.int off), .val (.int len), .val (.ref b3), .val (.int (q3 &&& (3 : Int32))), .val (.ref b89), .val (.ref b94), .val (.int (off + len)), .val (.int mk), .val (.int fi), .val (.int (0 : Int32)), .val (.int (1 : Int32)), .val (.int (1 : Int32))] [(.int (0 : Int32)), (.int (1 : Int32))])) t
        refine XS.ifNo X147.here hx rfl (hb hby at_335) rfl ((if0 _ _).trans (teq (by decide : (0 : Int32) = (0 : Int32))).2) ?_
        show Steps p.tables e below (T147.setTop (mkF m 338 #[.val (.int q0), .val (.int q1), .val (.int q2), .val (.int q3), .val (.int off), .val (.int len), .val (.ref b3), .val (.int (q3 &&& (3 : Int32))), .val (.ref b89), .val (.ref b94), .val (.int (off + len)), .val (.int mk), .val (.int fi), .val (.int (0 : Int32)), .val (.int (1 : Int32)), .val (.int (1 : Int32))] [(.int (1 : Int32))])) t
        refine XS.iconst X147.here hx rfl (hb hby at_338) ?_
        show Steps p.tables e below (T147.setTop (mkF m 339 #[.val (.int q0), .val (.int q1), .val (.int q2), .val (.int q3), .val (.int off), .val (.int len), .val (.ref b3), .val (.int (q3 &&& (3 : Int32))), .val (.ref b89), .val (.ref b94), .val (.int (off + len)), .val (.int mk), .val (.int fi), .val (.int (0 : Int32)), .val (.int (1 : Int32)), .val (.int (1 : Int32))] [(.int (1 : Int32)), (.int (1 : Int32))])) t
        refine XS.goto X147.here hx rfl (pc0 := 339) (pc' := 343) rfl (hb hby at_339) (by decide) (by decide) ?_
        show Steps p.tables e below (T147.setTop (mkF m 343 #[.val (.int q0), .val (.int q1), .val (.int q2), .val (.int q3), .val (.int off), .val (.int len), .val (.ref b3), .val (.int (q3 &&& (3 : Int32))), .val (.ref b89), .val (.ref b94), .val (.int (off + len)), .val (.int mk), .val (.int fi), .val (.int (0 : Int32)), .val (.int (1 : Int32)), .val (.int (1 : Int32))] [(.int (1 : Int32)), (.int (1 : Int32))])) t
        refine XS.icmpNo X147.here hx rfl (hb hby at_343) rfl (teq (by decide : (1 : Int32) = (1 : Int32))).2 ?_
        show Steps p.tables e below (T147.setTop (mkF m 346 #[.val (.int q0), .val (.int q1), .val (.int q2), .val (.int q3), .val (.int off), .val (.int len), .val (.ref b3), .val (.int (q3 &&& (3 : Int32))), .val (.ref b89), .val (.ref b94), .val (.int (off + len)), .val (.int mk), .val (.int fi), .val (.int (0 : Int32)), .val (.int (1 : Int32)), .val (.int (1 : Int32))] [])) t
        refine XS.iconst X147.here hx rfl (hb hby at_346) ?_
        show Steps p.tables e below (T147.setTop (mkF m 347 #[.val (.int q0), .val (.int q1), .val (.int q2), .val (.int q3), .val (.int off), .val (.int len), .val (.ref b3), .val (.int (q3 &&& (3 : Int32))), .val (.ref b89), .val (.ref b94), .val (.int (off + len)), .val (.int mk), .val (.int fi), .val (.int (0 : Int32)), .val (.int (1 : Int32)), .val (.int (1 : Int32))] [(.int (1 : Int32))])) t
        refine XS.goto X147.here hx rfl (pc0 := 347) (pc' := 351) rfl (hb hby at_347) (by decide) (by decide) ?_
        exact k
      obtain ⟨fs, hr, hrun, hended, hW, hsame⟩ := X147.leave (v := some (.int (1 : Int32))) (fun h => by rw [Bd.returns] at h; cases h)
      refine ⟨_, _, R149 _ ?_, hrun, hended, _, _, rfl, ?_, ⟨_, rfl⟩, hW, hsame.mono (by decide) (by decide)⟩
      · exact retN X147 hx (t := .boolean) Bd.returns (by simp) (hb hby at_351) hr
      · show Q_rm0 Z q0 q1 q2 q3 li ox dce emp h0 n0 _ T147.heap _
        exact ⟨rfl, N147, K147⟩
  · have R151 : Rch p e below (s₁.setTop (entryFrame m #[(.int q0), (.int q1), (.int q2), (.int q3)] maxLocals)) T108 (mkF m 304 #[.val (.int q0), .val (.int q1), .val (.int q2), .val (.int q3), .val (.int off), .val (.int len), .val (.ref b3), .val (.int (q3 &&& (3 : Int32))), .val (.ref b89), .val (.ref b94), .val (.int (off + len)), .val (.int mk), .val (.int fi), .val (.int (0 : Int32)), .unset, .unset] [(.ref b94)]) := fun t k => by
      refine R135 t ?_
      refine XS.icmpYes X108.here hx rfl (pc0 := 282) (pc' := 299) rfl (hb hby at_282) rfl (flt hc282_134).2.1 (by decide) (by decide) ?_
      show Steps p.tables e below (T108.setTop (mkF m 299 #[.val (.int q0), .val (.int q1), .val (.int q2), .val (.int q3), .val (.int off), .val (.int len), .val (.ref b3), .val (.int (q3 &&& (3 : Int32))), .val (.ref b89), .val (.ref b94), .val (.int (off + len)), .val (.int mk), .val (.int fi), .unset, .unset, .unset] [])) t
      refine XS.iconst X108.here hx rfl (hb hby at_299) ?_
      show Steps p.tables e below (T108.setTop (mkF m 300 #[.val (.int q0), .val (.int q1), .val (.int q2), .val (.int q3), .val (.int off), .val (.int len), .val (.ref b3), .val (.int (q3 &&& (3 : Int32))), .val (.ref b89), .val (.ref b94), .val (.int (off + len)), .val (.int mk), .val (.int fi), .unset, .unset, .unset] [(.int (0 : Int32))])) t
      refine XS.istore X108.here hx rfl (hb hby at_300) rfl (l' := #[.val (.int q0), .val (.int q1), .val (.int q2), .val (.int q3), .val (.int off), .val (.int len), .val (.ref b3), .val (.int (q3 &&& (3 : Int32))), .val (.ref b89), .val (.ref b94), .val (.int (off + len)), .val (.int mk), .val (.int fi), .val (.int (0 : Int32)), .unset, .unset]) rfl ?_
      show Steps p.tables e below (T108.setTop (mkF m 302 #[.val (.int q0), .val (.int q1), .val (.int q2), .val (.int q3), .val (.int off), .val (.int len), .val (.ref b3), .val (.int (q3 &&& (3 : Int32))), .val (.ref b89), .val (.ref b94), .val (.int (off + len)), .val (.int mk), .val (.int fi), .val (.int (0 : Int32)), .unset, .unset] [])) t
      refine XS.aload X108.here hx rfl (hb hby at_302) rfl rfl ?_
      exact k
    obtain ⟨cq150, kq150, q150a, q150b, q150c⟩ := isOf hZ rfl c108_E
    obtain ⟨_, _, ⟨T150, L150, k150, n150⟩, -, X150, ⟨Lc150, hQ150, l150, y150, z150⟩, st150⟩ := X108.virtualBack hx (y := (⟨"com/example/vestwork/vestwork/io/JsonScanner", "bytes", "()[B"⟩ : MethodName)) (z := (⟨"com/example/vestwork/vestwork/io/JsonScanner", "bytes", "()[B"⟩ : MethodName)) hown (mvT hZ (hw _ (List.mem_of_getElem? (i := 180) rfl))) (mvT hZ (hw _ (List.mem_of_getElem? (i := 181) rfl))) (notFace_of_selects (args := #[]) (mvT hZ (hw _ (List.mem_of_getElem? (i := 183) rfl)))) (mvT hZ (hw _ (List.mem_of_getElem? (i := 183) rfl))) (mvT hZ (hw _ (List.mem_of_getElem? (i := 182) rfl))) (by decide) (backOf (W := 0) (rm_bytes l Z a0 hw [] b94 b3 T108.heap n0 (Nat.le_trans Z0 K108.1) c108_f_bytes) hZ (hw _ (List.mem_of_getElem? (i := 184) rfl)) (hw _ (List.mem_of_getElem? (i := 8) rfl)) (by decide) (by decide)) q150a q150c (g := (mkF m 304 #[.val (.int q0), .val (.int q1), .val (.int q2), .val (.int q3), .val (.int off), .val (.int len), .val (.ref b3), .val (.int (q3 &&& (3 : Int32))), .val (.ref b89), .val (.ref b94), .val (.int (off + len)), .val (.int mk), .val (.int fi), .val (.int (0 : Int32)), .unset, .unset] [(.ref b94)])) rfl (by rw [hml]; rfl) (Steps.refl _) (argsL := []) (rest := []) (lenOf pd_13 rfl) rfl (by show 2 * 0 + _ ≤ _; exact Nat.le_of_eq rfl) (hb hby at_304) (fun _ _ => ⟨rfl, rfl, (by decide : 13 + 0 ≤ _), (by decide : 11546 + 0 ≤ _)⟩)
    dsimp only [Pt.U, Pt.locs, Pt.cells, Pt.slots] at X150 l150 y150 z150 st150 hQ150
    subst l150 y150 z150
    obtain ⟨rfl, N150q, e150⟩ := hQ150
    have N150 := Fr.app N108 N150q
    have R153 : Rch p e below (s₁.setTop (entryFrame m #[(.int q0), (.int q1), (.int q2), (.int q3)] maxLocals)) T150 (mkF m 321 #[.val (.int q0), .val (.int q1), .val (.int q2), .val (.int q3), .val (.int off), .val (.int len), .val (.ref b3), .val (.int (q3 &&& (3 : Int32))), .val (.ref b89), .val (.ref b94), .val (.int (off + len)), .val (.int mk), .val (.int fi), .val (.int (0 : Int32)), .val (.int (1 : Int32)), .unset] [(.ref b94)]) := fun t k => by
      refine R151 t ?_
      refine st150.trans ?_
      show Steps p.tables e below (T150.setTop (mkF m 307 #[.val (.int q0), .val (.int q1), .val (.int q2), .val (.int q3), .val (.int off), .val (.int len), .val (.ref b3), .val (.int (q3 &&& (3 : Int32))), .val (.ref b89), .val (.ref b94), .val (.int (off + len)), .val (.int mk), .val (.int fi), .val (.int (0 : Int32)), .unset, .unset] [(.ref b3)])) t
      refine XS.aload X150.here hx rfl (hb hby at_307) rfl rfl ?_
      show Steps p.tables e below (T150.setTop (mkF m 309 #[.val (.int q0), .val (.int q1), .val (.int q2), .val (.int q3), .val (.int off), .val (.int len), .val (.ref b3), .val (.int (q3 &&& (3 : Int32))), .val (.ref b89), .val (.ref b94), .val (.int (off + len)), .val (.int mk), .val (.int fi), .val (.int (0 : Int32)), .unset, .unset] [(.ref b3), (.ref b3)])) t
      refine Jvm.RoadKit.acmp (g := (mkF m 309 #[.val (.int q0), .val (.int q1), .val (.int q2), .val (.int q3), .val (.int off), .val (.int len), .val (.ref b3), .val (.int (q3 &&& (3 : Int32))), .val (.ref b89), .val (.ref b94), .val (.int (off + len)), .val (.int mk), .val (.int fi), .val (.int (0 : Int32)), .unset, .unset] [(.ref b3), (.ref b3)])) X150 hx rfl rfl rfl (pc0 := 309) (pc' := 312) (same := true) rfl (hb hby at_309) rfl (decide_eq_true rfl) (by decide) (by decide) ?_
      show Steps p.tables e below (T150.setTop (mkF m 312 #[.val (.int q0), .val (.int q1), .val (.int q2), .val (.int q3), .val (.int off), .val (.int len), .val (.ref b3), .val (.int (q3 &&& (3 : Int32))), .val (.ref b89), .val (.ref b94), .val (.int (off + len)), .val (.int mk), .val (.int fi), .val (.int (0 : Int32)), .unset, .unset] [])) t
      refine XS.iconst X150.here hx rfl (hb hby at_312) ?_
      show Steps p.tables e below (T150.setTop (mkF m 313 #[.val (.int q0), .val (.int q1), .val (.int q2), .val (.int q3), .val (.int off), .val (.int len), .val (.ref b3), .val (.int (q3 &&& (3 : Int32))), .val (.ref b89), .val (.ref b94), .val (.int (off + len)), .val (.int mk), .val (.int fi), .val (.int (0 : Int32)), .unset, .unset] [(.int (1 : Int32))])) t
      refine XS.goto X150.here hx rfl (pc0 := 313) (pc' := 317) rfl (hb hby at_313) (by decide) (by decide) ?_
      show Steps p.tables e below (T150.setTop (mkF m 317 #[.val (.int q0), .val (.int q1), .val (.int q2), .val (.int q3), .val (.int off), .val (.int len), .val (.ref b3), .val (.int (q3 &&& (3 : Int32))), .val (.ref b89), .val (.ref b94), .val (.int (off + len)), .val (.int mk), .val (.int fi), .val (.int (0 : Int32)), .unset, .unset] [(.int (1 : Int32))])) t
      refine XS.istore X150.here hx rfl (hb hby at_317) rfl (l' := #[.val (.int q0), .val (.int q1), .val (.int q2), .val (.int q3), .val (.int off), .val (.int len), .val (.ref b3), .val (.int (q3 &&& (3 : Int32))), .val (.ref b89), .val (.ref b94), .val (.int (off + len)), .val (.int mk), .val (.int fi), .val (.int (0 : Int32)), .val (.int (1 : Int32)), .unset]) rfl ?_
      show Steps p.tables e below (T150.setTop (mkF m 319 #[.val (.int q0), .val (.int q1), .val (.int q2), .val (.int q3), .val (.int off), .val (.int len), .val (.ref b3), .val (.int (q3 &&& (3 : Int32))), .val (.ref b89), .val (.ref b94), .val (.int (off + len)), .val (.int mk), .val (.int fi), .val (.int (0 : Int32)), .val (.int (1 : Int32)), .unset] [])) t
      refine XS.aload X150.here hx rfl (hb hby at_319) rfl rfl ?_
      exact k
    obtain ⟨cq152, kq152, q152a, q152b, q152c⟩ := isOf hZ e150 c108_E
    obtain ⟨_, _, ⟨T152, L152, k152, n152⟩, -, X152, ⟨Lc152, hQ152, l152, y152, z152⟩, st152⟩ := X150.virtualBack hx (y := (⟨"com/example/vestwork/vestwork/io/JsonScanner", "item", "()Z"⟩ : MethodName)) (z := (⟨"com/example/vestwork/vestwork/io/JsonScanner", "item", "()Z"⟩ : MethodName)) hown (mvT hZ (hw _ (List.mem_of_getElem? (i := 185) rfl))) (mvT hZ (hw _ (List.mem_of_getElem? (i := 186) rfl))) (notFace_of_selects (args := #[]) (mvT hZ (hw _ (List.mem_of_getElem? (i := 188) rfl)))) (mvT hZ (hw _ (List.mem_of_getElem? (i := 188) rfl))) (mvT hZ (hw _ (List.mem_of_getElem? (i := 187) rfl))) (by decide) (backOf (W := 0) (rm_item l Z a0 hw [] b94 b3 k3 (8 : Int32) vsJ (.int (0 : Int32)) (off + len) fi (0 : Int32) ob (.int off) T108.heap n0 (Nat.le_trans Z0 K108.1) c108_E g_b94 (Nat.ne_of_lt (Nat.lt_of_lt_of_le ((VJ.ext E89).other W93 (Nat.ne_of_lt (Nat.lt_of_lt_of_le VJ.lt (Nat.le_of_eq g89.symm)))).lt (Nat.le_of_eq g94.symm))) c108_f_bytes c108_f_end c108_f_at c108_f_depth c108_f_opened c108_f_objects c108_f_start (((((((((VJ.ext E89).other W93 (Nat.ne_of_lt (Nat.lt_of_lt_of_le VJ.lt (Nat.le_of_eq g89.symm)))).ext E94).ext E96).keep Kc98 (ninS (Nat.ne_of_lt (Nat.lt_of_lt_of_le (((VJ.ext E89).other W93 (Nat.ne_of_lt (Nat.lt_of_lt_of_le VJ.lt (Nat.le_of_eq g89.symm)))).ext E94).lt (Nat.le_of_eq g96.symm))) nin0)).keep Kc100 (ninS (Nat.ne_of_lt (Nat.lt_of_lt_of_le ((VJ.ext E89).other W93 (Nat.ne_of_lt (Nat.lt_of_lt_of_le VJ.lt (Nat.le_of_eq g89.symm)))).lt (Nat.le_of_eq g94.symm))) nin0)).keep Kc102 (ninS (Nat.ne_of_lt (Nat.lt_of_lt_of_le ((VJ.ext E89).other W93 (Nat.ne_of_lt (Nat.lt_of_lt_of_le VJ.lt (Nat.le_of_eq g89.symm)))).lt (Nat.le_of_eq g94.symm))) nin0)).keep Kc104 (ninS (Nat.ne_of_lt (Nat.lt_of_lt_of_le ((VJ.ext E89).other W93 (Nat.ne_of_lt (Nat.lt_of_lt_of_le VJ.lt (Nat.le_of_eq g89.symm)))).lt (Nat.le_of_eq g94.symm))) (ninS (Nat.ne_of_lt (Nat.lt_of_lt_of_le (((((VJ.ext E89).other W93 (Nat.ne_of_lt (Nat.lt_of_lt_of_le VJ.lt (Nat.le_of_eq g89.symm)))).ext E94).ext E96).keep Kc98 (ninS (Nat.ne_of_lt (Nat.lt_of_lt_of_le (((VJ.ext E89).other W93 (Nat.ne_of_lt (Nat.lt_of_lt_of_le VJ.lt (Nat.le_of_eq g89.symm)))).ext E94).lt (Nat.le_of_eq g96.symm))) nin0)).lt (Nat.le_of_eq hob.symm))) nin0))).keep Kc108 (ninS (Nat.ne_of_lt (Nat.lt_of_lt_of_le ((VJ.ext E89).other W93 (Nat.ne_of_lt (Nat.lt_of_lt_of_le VJ.lt (Nat.le_of_eq g89.symm)))).lt (Nat.le_of_eq g94.symm))) nin0)) (fun hq => ⟨(own_rd_pal PJ (j := fi) hfb (by have := own_lt.mp hq; rw [hol] at this; omega)).1, own_nsp_pal (own_rd_pal PJ (j := fi) hfb (by have := own_lt.mp hq; rw [hol] at this; omega)).2⟩)) hZ (hw _ (List.mem_of_getElem? (i := 189) rfl)) (hw _ (List.mem_of_getElem? (i := 8) rfl)) (by decide) (by decide)) q152a q152c (g := (mkF m 321 #[.val (.int q0), .val (.int q1), .val (.int q2), .val (.int q3), .val (.int off), .val (.int len), .val (.ref b3), .val (.int (q3 &&& (3 : Int32))), .val (.ref b89), .val (.ref b94), .val (.int (off + len)), .val (.int mk), .val (.int fi), .val (.int (0 : Int32)), .val (.int (1 : Int32)), .unset] [(.ref b94)])) rfl (by rw [hml]; rfl) (Steps.refl _) (argsL := []) (rest := []) (lenOf pd_2 rfl) rfl (by show 2 * 0 + _ ≤ _; exact Nat.le_of_eq rfl) (hb hby at_321) (fun _ _ => ⟨rfl, e150, (by decide : 13 + 0 ≤ _), (by decide : 11546 + 0 ≤ _)⟩)
    dsimp only [Pt.U, Pt.locs, Pt.cells, Pt.slots] at X152 l152 y152 z152 st152 hQ152
    subst l152 y152 z152
    obtain ⟨rfl, N152q, Kc152⟩ := hQ152
    have N152 := Fr.app N150 N152q
    have K152 : Keep h0 T152.heap [] := K108.trans Kc152 (allS (Or.inr sz_b94) all0)
    have hit152 : own_item vsJ fi (off + len) = (1 : Int32) := by simp [own_item, hc282_134]
    rw [hit152] at st152
    have R154 : Rch p e below (s₁.setTop (entryFrame m #[(.int q0), (.int q1), (.int q2), (.int q3)] maxLocals)) T152 (mkF m 351 #[.val (.int q0), .val (.int q1), .val (.int q2), .val (.int q3), .val (.int off), .val (.int len), .val (.ref b3), .val (.int (q3 &&& (3 : Int32))), .val (.ref b89), .val (.ref b94), .val (.int (off + len)), .val (.int mk), .val (.int fi), .val (.int (0 : Int32)), .val (.int (1 : Int32)), .val (.int (1 : Int32))] [(.int (1 : Int32))]) := fun t k => by
      refine R153 t ?_
      refine st152.trans ?_
      show Steps p.tables e below (T152.setTop (mkF m 324 #[.val (.int q0), .val (.int q1), .val (.int q2), .val (.int q3), .val (.int off), .val (.int len), .val (.ref b3), .val (.int (q3 &&& (3 : Int32))), .val (.ref b89), .val (.ref b94), .val (.int (off + len)), .val (.int mk), .val (.int fi), .val (.int (0 : Int32)), .val (.int (1 : Int32)), .unset] [(.int (1 : Int32))])) t
      refine XS.istore X152.here hx rfl (hb hby at_324) rfl (l' := #[.val (.int q0), .val (.int q1), .val (.int q2), .val (.int q3), .val (.int off), .val (.int len), .val (.ref b3), .val (.int (q3 &&& (3 : Int32))), .val (.ref b89), .val (.ref b94), .val (.int (off + len)), .val (.int mk), .val (.int fi), .val (.int (0 : Int32)), .val (.int (1 : Int32)), .val (.int (1 : Int32))]) rfl ?_
      show Steps p.tables e below (T152.setTop (mkF m 326 #[.val (.int q0), .val (.int q1), .val (.int q2), .val (.int q3), .val (.int off), .val (.int len), .val (.ref b3), .val (.int (q3 &&& (3 : Int32))), .val (.ref b89), .val (.ref b94), .val (.int (off + len)), .val (.int mk), .val (.int fi), .val (.int (0 : Int32)), .val (.int (1 : Int32)), .val (.int (1 : Int32))] [])) t
      refine XS.iload X152.here hx rfl (hb hby at_326) rfl ?_
      show Steps p.tables e below (T152.setTop (mkF m 328 #[.val (.int q0), .val (.int q1), .val (.int q2), .val (.int q3), .val (.int off), .val (.int len), .val (.ref b3), .val (.int (q3 &&& (3 : Int32))), .val (.ref b89), .val (.ref b94), .val (.int (off + len)), .val (.int mk), .val (.int fi), .val (.int (0 : Int32)), .val (.int (1 : Int32)), .val (.int (1 : Int32))] [(.int (1 : Int32))])) t
      refine XS.ifNo X152.here hx rfl (hb hby at_328) rfl ((if0 _ _).trans (feq (by decide : ¬ ((1 : Int32) = (0 : Int32)))).1) ?_
      show Steps p.tables e below (T152.setTop (mkF m 331 #[.val (.int q0), .val (.int q1), .val (.int q2), .val (.int q3), .val (.int off), .val (.int len), .val (.ref b3), .val (.int (q3 &&& (3 : Int32))), .val (.ref b89), .val (.ref b94), .val (.int (off + len)), .val (.int mk), .val (.int fi), .val (.int (0 : Int32)), .val (.int (1 : Int32)), .val (.int (1 : Int32))] [])) t
      refine XS.iload X152.here hx rfl (hb hby at_331) rfl ?_
      show Steps p.tables e below (T152.setTop (mkF m 333 #[.val (.int q0), .val (.int q1), .val (.int q2), .val (.int q3), .val (.int off), .val (.int len), .val (.ref b3), .val (.int (q3 &&& (3 : Int32))), .val (.ref b89), .val (.ref b94), .val (.int (off + len)), .val (.int mk), .val (.int fi), .val (.int (0 : Int32)), .val (.int (1 : Int32)), .val (.int (1 : Int32))] [(.int (1 : Int32))])) t
      refine XS.iload X152.here hx rfl (hb hby at_333) rfl ?_
      show Steps p.tables e below (T152.setTop (mkF m 335 #[.val (.int q0), .val (.int q1), .val (.int q2), .val (.int q3), .val (.int off), .val (.int len), .val (.ref b3), .val (.int (q3 &&& (3 : Int32))), .val (.ref b89), .val (.ref b94), .val (.int (off + len)), .val (.int mk), .val (.int fi), .val (.int (0 : Int32)), .val (.int (1 : Int32)), .val (.int (1 : Int32))] [(.int (0 : Int32)), (.int (1 : Int32))])) t
      refine XS.ifNo X152.here hx rfl (hb hby at_335) rfl ((if0 _ _).trans (teq (by decide : (0 : Int32) = (0 : Int32))).2) ?_
      show Steps p.tables e below (T152.setTop (mkF m 338 #[.val (.int q0), .val (.int q1), .val (.int q2), .val (.int q3), .val (.int off), .val (.int len), .val (.ref b3), .val (.int (q3 &&& (3 : Int32))), .val (.ref b89), .val (.ref b94), .val (.int (off + len)), .val (.int mk), .val (.int fi), .val (.int (0 : Int32)), .val (.int (1 : Int32)), .val (.int (1 : Int32))] [(.int (1 : Int32))])) t
      refine XS.iconst X152.here hx rfl (hb hby at_338) ?_
      show Steps p.tables e below (T152.setTop (mkF m 339 #[.val (.int q0), .val (.int q1), .val (.int q2), .val (.int q3), .val (.int off), .val (.int len), .val (.ref b3), .val (.int (q3 &&& (3 : Int32))), .val (.ref b89), .val (.ref b94), .val (.int (off + len)), .val (.int mk), .val (.int fi), .val (.int (0 : Int32)), .val (.int (1 : Int32)), .val (.int (1 : Int32))] [(.int (1 : Int32)), (.int (1 : Int32))])) t
      refine XS.goto X152.here hx rfl (pc0 := 339) (pc' := 343) rfl (hb hby at_339) (by decide) (by decide) ?_
      show Steps p.tables e below (T152.setTop (mkF m 343 #[.val (.int q0), .val (.int q1), .val (.int q2), .val (.int q3), .val (.int off), .val (.int len), .val (.ref b3), .val (.int (q3 &&& (3 : Int32))), .val (.ref b89), .val (.ref b94), .val (.int (off + len)), .val (.int mk), .val (.int fi), .val (.int (0 : Int32)), .val (.int (1 : Int32)), .val (.int (1 : Int32))] [(.int (1 : Int32)), (.int (1 : Int32))])) t
      refine XS.icmpNo X152.here hx rfl (hb hby at_343) rfl (teq (by decide : (1 : Int32) = (1 : Int32))).2 ?_
      show Steps p.tables e below (T152.setTop (mkF m 346 #[.val (.int q0), .val (.int q1), .val (.int q2), .val (.int q3), .val (.int off), .val (.int len), .val (.ref b3), .val (.int (q3 &&& (3 : Int32))), .val (.ref b89), .val (.ref b94), .val (.int (off + len)), .val (.int mk), .val (.int fi), .val (.int (0 : Int32)), .val (.int (1 : Int32)), .val (.int (1 : Int32))] [])) t
      refine XS.iconst X152.here hx rfl (hb hby at_346) ?_
      show Steps p.tables e below (T152.setTop (mkF m 347 #[.val (.int q0), .val (.int q1), .val (.int q2), .val (.int q3), .val (.int off), .val (.int len), .val (.ref b3), .val (.int (q3 &&& (3 : Int32))), .val (.ref b89), .val (.ref b94), .val (.int (off + len)), .val (.int mk), .val (.int fi), .val (.int (0 : Int32)), .val (.int (1 : Int32)), .val (.int (1 : Int32))] [(.int (1 : Int32))])) t
      refine XS.goto X152.here hx rfl (pc0 := 347) (pc' := 351) rfl (hb hby at_347) (by decide) (by decide) ?_
      exact k
    obtain ⟨fs, hr, hrun, hended, hW, hsame⟩ := X152.leave (v := some (.int (1 : Int32))) (fun h => by rw [Bd.returns] at h; cases h)
    refine ⟨_, _, R154 _ ?_, hrun, hended, _, _, rfl, ?_, ⟨_, rfl⟩, hW, hsame.mono (by decide) (by decide)⟩
    · exact retN X152 hx (t := .boolean) Bd.returns (by simp) (hb hby at_351) hr
    · show Q_rm0 Z q0 q1 q2 q3 li ox dce emp h0 n0 _ T152.heap _
      exact ⟨rfl, N152, K152⟩
set_option maxRecDepth 65536 in
set_option maxHeartbeats 40000000 in
theorem comes_1 {Post : Tables → Env → Array Value → State → Outcome → State → Prop} (hpost : ∀ tb e args s v u, (limb_1_1.after args s (.returned v) u = true ∧ limb_1_2.after args s (.returned v) u = true ∧ True) → FrameEnd s (.returned v) u (Jvm.fieldLocs frame_1_writes args s ++ Jvm.arrayLocs frame_1_arrays args s ++ Jvm.staticLocs frame_1_statics s) 40 23168 → Post tb e args s (.returned v) u) :
    ArmFor flags0 classFile x code maxLocals ret World_1 tables_1 room_1 Calls_1 rest_1 Pre_1 Post := by
  intro l hfl _ _ p e ha hc hk s m args below hf hA hF happ hP
  obtain ⟨hcalls, hrest, hpre⟩ := hP
  obtain ⟨-, -, -, hnamed, -, -, -, hat⟩ := (Spec.applies_iff hf).mp happ
  obtain ⟨hg, hn⟩ := and_e (Cond.before_iff.mp (show (Jvm.Cond.and given_1 narrow_1).before args s = true from hpre))
  obtain ⟨g0, g1⟩ := and_e hg
  obtain ⟨a0, g2⟩ := and_e g1
  obtain ⟨a1, g3⟩ := and_e g2
  obtain ⟨a2, g4⟩ := and_e g3
  obtain ⟨w0, w1, w2, w3, rfl⟩ : ∃ w0 w1 w2 w3 : Value, args = #[w0, w1, w2, w3] := by
    have hs : args.size = 4 := by simpa [Cond.value, given_1] using g0
    obtain ⟨L⟩ := args
    match L, hs with
    | [w0, w1, w2, w3], _ => exact ⟨w0, w1, w2, w3, rfl⟩
  have hw := fun d (hd : d ∈ tables_1) => atoms_spec (ws := Jvm.Cond.code x code maxLocals ret :: tables_1) hat d (List.mem_cons_of_mem _ hd)
  have hfit : Fit s := fun {y c} hc i hi => by
    obtain ⟨ha, rfl⟩ := Array.getElem?_eq_some_iff.mp hc
    have q := List.all_eq_true.mp ((Array.all_eq_true_iff_forall_mem.mp hF) _ (Array.getElem_mem ha)) i (List.mem_range.mpr hi)
    simpa [Array.getElem?_eq_getElem hi] using q
  obtain ⟨hsets, hown0⟩ := atoms_of _ (rest_1_c_eq ▸ (show rest_1_c.before _ s = true from hrest))
  obtain ⟨i0, ei0⟩ := is_v a0
  obtain rfl : w0 = (.int i0) := Option.some.inj ei0
  obtain ⟨i1, ei1⟩ := is_v a1
  obtain rfl : w1 = (.int i1) := Option.some.inj ei1
  obtain ⟨i2, ei2⟩ := is_v a2
  obtain rfl : w2 = (.int i2) := Option.some.inj ei2
  obtain ⟨i3, ei3⟩ := is_v g4
  obtain rfl : w3 = (.int i3) := Option.some.inj ei3
  obtain ⟨c0, hn0⟩ := and_e hn
  obtain ⟨c1, hn1⟩ := and_e hn0
  obtain ⟨c2, hn2⟩ := and_e hn1
  obtain ⟨vli, ev_vli⟩ := exa_v c0
  have E_vli : Exa s s.heap vli "com/example/vestwork/vestwork/io/JsonScanner$Kind" := Exa.start ev_vli c0
  have S_vli : Sta s s.heap "com/example/vestwork/vestwork/io/JsonScanner$Kind" "LIST" "Lcom/example/vestwork/vestwork/io/JsonScanner$Kind;" (.ref vli) := Sta.start ev_vli (Or.inr ⟨(hw _ (List.mem_of_getElem? (i := 174) rfl)), (hw _ (List.mem_of_getElem? (i := 175) rfl))⟩)
  obtain ⟨vox, ev_vox⟩ := exa_v c1
  have E_vox : Exa s s.heap vox "com/example/vestwork/vestwork/io/JsonScanner$Kind" := Exa.start ev_vox c1
  have S_vox : Sta s s.heap "com/example/vestwork/vestwork/io/JsonScanner$Kind" "OBJECT" "Lcom/example/vestwork/vestwork/io/JsonScanner$Kind;" (.ref vox) := Sta.start ev_vox (Or.inr ⟨(hw _ (List.mem_of_getElem? (i := 174) rfl)), (hw _ (List.mem_of_getElem? (i := 177) rfl))⟩)
  have F_vli_ordinal : Fld s s.heap vli "java/lang/Enum" "ordinal" "I" (.int (1 : Int32)) := Fld.start ((fld_at ev_vli).symm.trans (own_eq_int c2))
  have F_vox_ordinal : Fld s s.heap vox "java/lang/Enum" "ordinal" "I" (.int (0 : Int32)) := Fld.start ((fld_at ev_vox).symm.trans (own_eq_int hn2))
  obtain ⟨dce, ev_dce⟩ := exa_v (Cond.before_iff.mp (hsets _ (List.mem_of_getElem? (i := 7) rfl)))
  have S_dce : Sta s s.heap "java/util/ArrayList" "DEFAULTCAPACITY_EMPTY_ELEMENTDATA" "[Ljava/lang/Object;" (.ref dce) := Sta.start ev_dce (Or.inr ⟨(hw _ (List.mem_of_getElem? (i := 11) rfl)), (hsets _ (List.mem_of_getElem? (i := 2) rfl))⟩)
  obtain ⟨emp, ev_emp⟩ := exa_v (Cond.before_iff.mp (hsets _ (List.mem_of_getElem? (i := 11) rfl)))
  have S_emp : Sta s s.heap "java/util/ImmutableCollections" "EMPTY_MAP" "Ljava/util/ImmutableCollections$MapN;" (.ref emp) := Sta.start ev_emp (Or.inl (hsets _ (List.mem_of_getElem? (i := 10) rfl)))
  obtain ⟨n, o, h1, h2, h3, _, L, rfl, ⟨rfl, N, -⟩, hq⟩ := rm0 l s _ hw tables_1 i0 i1 i2 i3 vli vox dce emp s.heap s.heap.size (Nat.le_refl _) S_vli S_vox (F_vli_ordinal.ne F_vox_ordinal (by decide)) S_dce S_emp p e ha hc hk s m _ below hf ((Spec.applies_iff_loose hf).mp happ).1 ⟨rfl, State.Warmed39.refl s, rfl⟩ trivial
  refine ⟨n, _, h1, h2, h3, hpost _ _ _ _ _ _ ⟨Cond.after_iff.mpr rfl, Cond.after_iff.mpr (eq_i res_at (Term.int_eval (1)) rfl), trivial⟩ ⟨hq.1, hq.2.1, (hq.2.2.sift fun y hy => Or.inr (N y hy)).mono (by decide) (by decide)⟩⟩
theorem main_1_1 : Claimed_1_1 := comes_1 fun _ _ _ _ _ _ h hF => ⟨h.1, hF⟩
theorem main_1_2 : Claimed_1_2 := comes_1 fun _ _ _ _ _ _ h hF => ⟨h.2.1, hF⟩
end Jvm.Pilot.@@N@@
namespace Jvm.Pilot.@@N@@
open Jvm Jvm.ClassFile Sem Op Lib Jvm.Free Jvm.Stand Jvm.Pilot.@@N@@.Jvm.D
/-! MADE BY PROGRAM (witnessworld.py) out of the Statement's table words and the real class files: 36 classes; the members and pool entries that the words name. The judged class is class 1, her method 2. -/
namespace start1
open Jvm.ClassFile
def u (s : String) : CpInfo := .utf8 (stringToUtf16 s)
/-- a pool by its gaps: so many unusable entries, then the entry; so many at the end -/
def gap : Nat → List CpInfo → List CpInfo
  | 0, r => r
  | n + 1, r => .unusable :: gap n r
def poolList (es : List (Nat × CpInfo)) (last : Nat) : List CpInfo := es.foldr (fun e r => gap e.1 (e.2 :: r)) (gap last [])
def pool (es : List (Nat × CpInfo)) (last : Nat) : Array CpInfo := ⟨poolList es last⟩
def fileOf (pool : Array CpInfo) (this : Nat) (attrs : Array Attribute := #[]) (ms : Array MethodInfo := #[]) (fl : Nat := 33) (sup : Nat := 0) (ifs : Array Nat := #[]) (fds : Array FieldInfo := #[]) : ClassFile where
  minorVersion := 0
  majorVersion := 65
  constantPool := pool
  accessFlags := fl
  thisClass := this
  superClass := sup
  interfaces := ifs
  fields := fds
  methods := ms
  attributes := attrs
def plain (name : String) (sup : Option ClassId) : Class where
  name := name
  kind := .ordinary
  loader := none
  accessFlags := 33
  super := sup
  interfaces := #[]
  cf := none
  fields := #[]
  methods := #[]
  instanceTypes := #[]
  staticTypes := #[]
  resolved := #[]
  callSites := []
  init := .initialized
  statics := none
  mirror := none

def pool0 : Array CpInfo := pool [(5, u "<init>"), (0, u "()V"), (1, .class_ 10), (1, u "java/lang/Object")] 113

def k0c0 : Code := { maxStack := 0, maxLocals := 1, code := object_method_1_code, exceptionTable := #[], attributes := #[] }
def k0m0 : Method := { name := "<init>", desc := "()V", sig := { parameters := [], returnType := none }, accessFlags := 1, code := some k0c0 }
/-- java/lang/Object -/
def k0 : Class := { plain "java/lang/Object" none with
  accessFlags := 33
  interfaces := #[]
  cf := some (fileOf pool0 8 #[] #[{ accessFlags := 1, nameIndex := 5, descriptorIndex := 6, attributes := #[] }] 33 0 #[] #[])
  fields := #[]
  methods := #[k0m0]
  instanceTypes := #[]
  staticTypes := #[]
  resolved := Array.replicate 124 none
  statics := none }

def pool1 : Array CpInfo := pool [(2, .class_ 4), (0, .nameAndType 5 6), (0, u "java/lang/Object"), (0, u "<init>"), (0, u "()V"), (0, .integer 2147483647), (0, .methodref 9 10), (0, .class_ 11), (0, .nameAndType 12 13), (0, u "com/example/vestwork/vestwork/io/JsonScannerResetPinLaw"), (0, u "pal"), (0, u "(I)B"), (0, .class_ 15), (0, u "com/example/vestwork/vestwork/io/JsonScanner"), (0, .class_ 17), (0, u "java/util/ArrayList"), (0, .methodref 16 3), (0, .methodref 14 20), (0, .nameAndType 5 21), (0, u "(Ljava/util/List;)V"), (0, .methodref 14 23), (0, .nameAndType 24 25), (0, u "reset"), (0, u "([BII)V"), (0, .methodref 14 27), (0, .nameAndType 28 29), (0, u "value"), (0, u "()Lcom/example/vestwork/vestwork/io/JsonScanner$Kind;"), (0, .methodref 14 31), (0, .nameAndType 32 33), (0, u "bytes"), (0, u "()[B"), (0, .methodref 14 35), (0, .nameAndType 36 37), (0, u "item"), (0, u "()Z"), (3, u "law"), (0, u "(IIII)Z")] 11

def k1m0 : Method := { name := "<init>", desc := "()V", sig := { parameters := [], returnType := none }, accessFlags := 2, code := none }
def k1c1 : Code := { maxStack := 2, maxLocals := 2, code := method_2_code, exceptionTable := #[], attributes := #[] }
def k1m1 : Method := { name := "pal", desc := "(I)B", sig := { parameters := [.int], returnType := some .byte }, accessFlags := 10, code := some k1c1 }
def k1c2 : Code := { maxStack := 4, maxLocals := 16, code := code, exceptionTable := #[], attributes := #[] }
def k1m2 : Method := { name := "law", desc := "(IIII)Z", sig := { parameters := [.int, .int, .int, .int], returnType := some .boolean }, accessFlags := 9, code := some k1c2 }
/-- com/example/vestwork/vestwork/io/JsonScannerResetPinLaw -/
def k1 : Class := { plain "com/example/vestwork/vestwork/io/JsonScannerResetPinLaw" (some 0) with
  accessFlags := 49
  interfaces := #[]
  cf := some (fileOf pool1 9 #[] #[{ accessFlags := 2, nameIndex := 5, descriptorIndex := 6, attributes := #[] }, { accessFlags := 10, nameIndex := 12, descriptorIndex := 13, attributes := #[] }, { accessFlags := 9, nameIndex := 41, descriptorIndex := 42, attributes := #[] }] 49 2 #[] #[])
  fields := #[]
  methods := #[k1m0, k1m1, k1m2]
  instanceTypes := #[]
  staticTypes := #[]
  resolved := Array.replicate 54 none
  statics := none }

def pool2 : Array CpInfo := pool [(1, .class_ 2), (0, u "com/example/vestwork/vestwork/io/JsonScanner"), (1, .class_ 6), (1, u "java/util/List"), (4, u "<init>"), (0, u "(Ljava/util/List;)V"), (0, .methodref 14 15), (0, .class_ 16), (0, .nameAndType 11 17), (0, u "java/lang/Object"), (0, u "()V"), (0, .fieldref 1 19), (0, .nameAndType 20 21), (0, u "objects"), (0, u "[Z"), (0, .class_ 23), (0, u "[B"), (0, .fieldref 1 25), (0, .nameAndType 26 27), (0, u "nameBytes"), (0, u "[[B"), (0, .class_ 29), (0, u "java/lang/String"), (0, .fieldref 1 31), (0, .nameAndType 32 33), (0, u "names"), (0, u "[Ljava/lang/String;"), (0, .fieldref 1 35), (0, .nameAndType 36 37), (0, u "places"), (0, u "[I"), (0, .fieldref 1 39), (0, .nameAndType 40 37), (0, u "leading"), (0, .fieldref 1 42), (0, .nameAndType 43 37), (0, u "leadingLengths"), (0, .fieldref 1 45), (0, .nameAndType 46 37), (0, u "leadingCounts"), (0, .fieldref 1 48), (0, .nameAndType 49 50), (0, u "foreseen"), (0, u "I"), (0, .class_ 52), (0, u "java/util/HashMap"), (0, .methodref 51 15), (0, .interfaceMethodref 4 55), (0, .nameAndType 56 57), (0, u "iterator"), (0, u "()Ljava/util/Iterator;"), (0, .interfaceMethodref 59 60), (0, .class_ 61), (0, .nameAndType 62 63), (0, u "java/util/Iterator"), (0, u "hasNext"), (0, u "()Z"), (2, u "next"), (2, .class_ 71), (1, u "java/util/Map"), (1, u "()I"), (10, .interfaceMethodref 69 85), (0, .nameAndType 86 87), (0, u "copyOf"), (0, u "(Ljava/util/Map;)Ljava/util/Map;"), (0, .fieldref 1 89), (0, .nameAndType 90 91), (0, u "known"), (0, u "Ljava/util/Map;"), (0, .fieldref 1 93), (0, .nameAndType 94 23), (0, u "bytes"), (0, .fieldref 1 96), (0, .nameAndType 97 50), (0, u "start"), (0, .fieldref 1 99), (0, .nameAndType 100 50), (0, u "end"), (0, .fieldref 1 102), (0, .nameAndType 103 50), (0, u "at"), (0, .fieldref 1 105), (0, .nameAndType 106 50), (0, u "depth"), (2, u "NO_TEXT"), (2, u "reset"), (0, u "([BII)V"), (0, .methodref 1 115), (0, .nameAndType 116 73), (0, u "space"), (2, u "value"), (0, u "()Lcom/example/vestwork/vestwork/io/JsonScanner$Kind;"), (7, u "(I)I"), (1, .class_ 132), (1, u "com/example/vestwork/vestwork/io/JsonScanner$Kind"), (1, u "Lcom/example/vestwork/vestwork/io/JsonScanner$Kind;"), (6, .methodref 1 142), (0, .nameAndType 143 120), (0, u "valueAfterSpace"), (0, .class_ 145), (0, u "com/example/vestwork/vestwork/io/JsonScanner$NotJsonException"), (1, .class_ 149), (1, u "com/example/vestwork/vestwork/io/JsonScanner$NotJsonException$Fault"), (9, .fieldref 130 160), (0, .nameAndType 161 134), (0, u "OBJECT"), (0, .fieldref 130 163), (0, .nameAndType 164 134), (0, u "LIST"), (0, .fieldref 1 166), (0, .nameAndType 167 168), (0, u "opened"), (0, u "Z"), (2, u "TRUE"), (8, u "FALSE"), (4, u "NULL"), (18, u "escaped"), (2, u "textStart"), (2, u "textEnd"), (0, .methodref 1 212), (0, .nameAndType 66 213), (0, u "(C)Z"), (3, .methodref 1 218), (0, .nameAndType 219 128), (0, u "skipSpace"), (5, u "item"), (11, u "place"), (30, u "nameCount"), (43, u "integerDigits"), (2, u "fractionDigits"), (2, u "exponent"), (0, .class_ 320), (0, u "com/example/vestwork/vestwork/io/JsonScanner$TooManyDigitsException"), (1, .class_ 324), (1, u "com/example/vestwork/vestwork/io/JsonScanner$TooManyDigitsException$Side"), (14, u "negative"), (2, u "unscaled"), (0, u "J"), (57, u "IN_STRING"), (14, u "()[B"), (0, u "MAX_DEPTH"), (2, u "DIGITS"), (0, u "MAX_LONG_DIGITS"), (1, u "NAME_SLOTS"), (1, u "MAX_NAMES"), (1, u "LEADS"), (1, u "LONGEST_KEPT_NAME"), (1, u "NO_SLOT"), (1, u "NOT_KEPT"), (0, u "PLAIN"), (0, u "B"), (1, u "QUOTE"), (1, u "ESCAPE"), (1, u "CONTROL"), (1, u "MULTI_BYTE")] 26

def k2m0 : Method := { name := "<init>", desc := "()V", sig := { parameters := [], returnType := none }, accessFlags := 0, code := none }
def k2c1 : Code := { maxStack := 3, maxLocals := 5, code := prog_45_method_2_code, exceptionTable := #[], attributes := #[] }
def k2m1 : Method := { name := "<init>", desc := "(Ljava/util/List;)V", sig := { parameters := [(.object "java/util/List")], returnType := none }, accessFlags := 0, code := some k2c1 }
def k2c2 : Code := { maxStack := 3, maxLocals := 5, code := prog_45_method_3_code, exceptionTable := #[], attributes := #[] }
def k2m2 : Method := { name := "reset", desc := "([BII)V", sig := { parameters := [(.array .byte), .int, .int], returnType := none }, accessFlags := 0, code := some k2c2 }
def k2c3 : Code := { maxStack := 4, maxLocals := 3, code := prog_45_method_6_code, exceptionTable := #[], attributes := #[] }
def k2m3 : Method := { name := "value", desc := "()Lcom/example/vestwork/vestwork/io/JsonScanner$Kind;", sig := { parameters := [], returnType := some (.object "com/example/vestwork/vestwork/io/JsonScanner$Kind") }, accessFlags := 0, code := some k2c3 }
def k2c4 : Code := { maxStack := 4, maxLocals := 4, code := prog_45_method_8_code, exceptionTable := #[], attributes := #[] }
def k2m4 : Method := { name := "valueAfterSpace", desc := "()Lcom/example/vestwork/vestwork/io/JsonScanner$Kind;", sig := { parameters := [], returnType := some (.object "com/example/vestwork/vestwork/io/JsonScanner$Kind") }, accessFlags := 2, code := some k2c4 }
def k2c5 : Code := { maxStack := 3, maxLocals := 2, code := prog_45_method_12_code, exceptionTable := #[], attributes := #[] }
def k2m5 : Method := { name := "item", desc := "()Z", sig := { parameters := [], returnType := some .boolean }, accessFlags := 0, code := some k2c5 }
def k2c6 : Code := { maxStack := 1, maxLocals := 1, code := prog_45_method_27_code, exceptionTable := #[], attributes := #[] }
def k2m6 : Method := { name := "bytes", desc := "()[B", sig := { parameters := [], returnType := some (.array .byte) }, accessFlags := 0, code := some k2c6 }
def k2c7 : Code := { maxStack := 3, maxLocals := 5, code := prog_45_method_35_code, exceptionTable := #[], attributes := #[] }
def k2m7 : Method := { name := "next", desc := "(C)Z", sig := { parameters := [.char], returnType := some .boolean }, accessFlags := 2, code := some k2c7 }
def k2c8 : Code := { maxStack := 3, maxLocals := 1, code := prog_45_method_43_code, exceptionTable := #[], attributes := #[] }
def k2m8 : Method := { name := "space", desc := "()I", sig := { parameters := [], returnType := some .int }, accessFlags := 2, code := some k2c8 }
def k2c9 : Code := { maxStack := 2, maxLocals := 3, code := prog_45_method_44_code, exceptionTable := #[], attributes := #[] }
def k2m9 : Method := { name := "skipSpace", desc := "(I)I", sig := { parameters := [.int], returnType := some .int }, accessFlags := 2, code := some k2c9 }
/-- com/example/vestwork/vestwork/io/JsonScanner -/
def k2 : Class := { plain "com/example/vestwork/vestwork/io/JsonScanner" (some 0) with
  accessFlags := 48
  interfaces := #[]
  cf := some (fileOf pool2 1 #[.nestMembers #[319, 322, 144, 147, 130]] #[{ accessFlags := 0, nameIndex := 11, descriptorIndex := 17, attributes := #[] }, { accessFlags := 0, nameIndex := 11, descriptorIndex := 12, attributes := #[] }, { accessFlags := 0, nameIndex := 112, descriptorIndex := 113, attributes := #[] }, { accessFlags := 0, nameIndex := 119, descriptorIndex := 120, attributes := #[] }, { accessFlags := 2, nameIndex := 143, descriptorIndex := 120, attributes := #[] }, { accessFlags := 0, nameIndex := 225, descriptorIndex := 63, attributes := #[] }, { accessFlags := 0, nameIndex := 94, descriptorIndex := 416, attributes := #[] }, { accessFlags := 2, nameIndex := 66, descriptorIndex := 213, attributes := #[] }, { accessFlags := 2, nameIndex := 116, descriptorIndex := 73, attributes := #[] }, { accessFlags := 2, nameIndex := 219, descriptorIndex := 128, attributes := #[] }] 48 14 #[] #[{ accessFlags := 24, nameIndex := 417, descriptorIndex := 50, attributes := #[] }, { accessFlags := 24, nameIndex := 420, descriptorIndex := 50, attributes := #[] }, { accessFlags := 24, nameIndex := 421, descriptorIndex := 50, attributes := #[] }, { accessFlags := 26, nameIndex := 423, descriptorIndex := 50, attributes := #[] }, { accessFlags := 26, nameIndex := 425, descriptorIndex := 50, attributes := #[] }, { accessFlags := 26, nameIndex := 427, descriptorIndex := 50, attributes := #[] }, { accessFlags := 26, nameIndex := 429, descriptorIndex := 50, attributes := #[] }, { accessFlags := 26, nameIndex := 431, descriptorIndex := 50, attributes := #[] }, { accessFlags := 26, nameIndex := 109, descriptorIndex := 23, attributes := #[] }, { accessFlags := 26, nameIndex := 433, descriptorIndex := 50, attributes := #[] }, { accessFlags := 26, nameIndex := 171, descriptorIndex := 23, attributes := #[] }, { accessFlags := 26, nameIndex := 180, descriptorIndex := 23, attributes := #[] }, { accessFlags := 26, nameIndex := 185, descriptorIndex := 23, attributes := #[] }, { accessFlags := 26, nameIndex := 434, descriptorIndex := 435, attributes := #[] }, { accessFlags := 26, nameIndex := 437, descriptorIndex := 435, attributes := #[] }, { accessFlags := 26, nameIndex := 439, descriptorIndex := 435, attributes := #[] }, { accessFlags := 26, nameIndex := 441, descriptorIndex := 435, attributes := #[] }, { accessFlags := 26, nameIndex := 443, descriptorIndex := 435, attributes := #[] }, { accessFlags := 26, nameIndex := 401, descriptorIndex := 23, attributes := #[] }, { accessFlags := 2, nameIndex := 94, descriptorIndex := 23, attributes := #[] }, { accessFlags := 2, nameIndex := 97, descriptorIndex := 50, attributes := #[] }, { accessFlags := 2, nameIndex := 100, descriptorIndex := 50, attributes := #[] }, { accessFlags := 2, nameIndex := 103, descriptorIndex := 50, attributes := #[] }, { accessFlags := 2, nameIndex := 106, descriptorIndex := 50, attributes := #[] }, { accessFlags := 18, nameIndex := 20, descriptorIndex := 21, attributes := #[] }, { accessFlags := 2, nameIndex := 167, descriptorIndex := 168, attributes := #[] }, { accessFlags := 2, nameIndex := 207, descriptorIndex := 50, attributes := #[] }, { accessFlags := 2, nameIndex := 210, descriptorIndex := 50, attributes := #[] }, { accessFlags := 2, nameIndex := 204, descriptorIndex := 168, attributes := #[] }, { accessFlags := 2, nameIndex := 339, descriptorIndex := 168, attributes := #[] }, { accessFlags := 2, nameIndex := 312, descriptorIndex := 50, attributes := #[] }, { accessFlags := 2, nameIndex := 315, descriptorIndex := 50, attributes := #[] }, { accessFlags := 2, nameIndex := 318, descriptorIndex := 168, attributes := #[] }, { accessFlags := 2, nameIndex := 342, descriptorIndex := 343, attributes := #[] }, { accessFlags := 18, nameIndex := 90, descriptorIndex := 91, attributes := #[] }, { accessFlags := 18, nameIndex := 26, descriptorIndex := 27, attributes := #[] }, { accessFlags := 18, nameIndex := 32, descriptorIndex := 33, attributes := #[] }, { accessFlags := 18, nameIndex := 36, descriptorIndex := 37, attributes := #[] }, { accessFlags := 2, nameIndex := 268, descriptorIndex := 50, attributes := #[] }, { accessFlags := 18, nameIndex := 40, descriptorIndex := 37, attributes := #[] }, { accessFlags := 18, nameIndex := 43, descriptorIndex := 37, attributes := #[] }, { accessFlags := 18, nameIndex := 46, descriptorIndex := 37, attributes := #[] }, { accessFlags := 2, nameIndex := 49, descriptorIndex := 50, attributes := #[] }, { accessFlags := 2, nameIndex := 237, descriptorIndex := 50, attributes := #[] }])
  fields := #[{ name := "MAX_DEPTH", type := .int, accessFlags := 24, slot := 0, constantValue := 0 }, { name := "DIGITS", type := .int, accessFlags := 24, slot := 1, constantValue := 0 }, { name := "MAX_LONG_DIGITS", type := .int, accessFlags := 24, slot := 2, constantValue := 0 }, { name := "NAME_SLOTS", type := .int, accessFlags := 26, slot := 3, constantValue := 0 }, { name := "MAX_NAMES", type := .int, accessFlags := 26, slot := 4, constantValue := 0 }, { name := "LEADS", type := .int, accessFlags := 26, slot := 5, constantValue := 0 }, { name := "LONGEST_KEPT_NAME", type := .int, accessFlags := 26, slot := 6, constantValue := 0 }, { name := "NO_SLOT", type := .int, accessFlags := 26, slot := 7, constantValue := 0 }, { name := "NO_TEXT", type := (.array .byte), accessFlags := 26, slot := 8, constantValue := 0 }, { name := "NOT_KEPT", type := .int, accessFlags := 26, slot := 9, constantValue := 0 }, { name := "TRUE", type := (.array .byte), accessFlags := 26, slot := 10, constantValue := 0 }, { name := "FALSE", type := (.array .byte), accessFlags := 26, slot := 11, constantValue := 0 }, { name := "NULL", type := (.array .byte), accessFlags := 26, slot := 12, constantValue := 0 }, { name := "PLAIN", type := .byte, accessFlags := 26, slot := 13, constantValue := 0 }, { name := "QUOTE", type := .byte, accessFlags := 26, slot := 14, constantValue := 0 }, { name := "ESCAPE", type := .byte, accessFlags := 26, slot := 15, constantValue := 0 }, { name := "CONTROL", type := .byte, accessFlags := 26, slot := 16, constantValue := 0 }, { name := "MULTI_BYTE", type := .byte, accessFlags := 26, slot := 17, constantValue := 0 }, { name := "IN_STRING", type := (.array .byte), accessFlags := 26, slot := 18, constantValue := 0 }, { name := "bytes", type := (.array .byte), accessFlags := 2, slot := 0, constantValue := 0 }, { name := "start", type := .int, accessFlags := 2, slot := 1, constantValue := 0 }, { name := "end", type := .int, accessFlags := 2, slot := 2, constantValue := 0 }, { name := "at", type := .int, accessFlags := 2, slot := 3, constantValue := 0 }, { name := "depth", type := .int, accessFlags := 2, slot := 4, constantValue := 0 }, { name := "objects", type := (.array .boolean), accessFlags := 18, slot := 5, constantValue := 0 }, { name := "opened", type := .boolean, accessFlags := 2, slot := 6, constantValue := 0 }, { name := "textStart", type := .int, accessFlags := 2, slot := 7, constantValue := 0 }, { name := "textEnd", type := .int, accessFlags := 2, slot := 8, constantValue := 0 }, { name := "escaped", type := .boolean, accessFlags := 2, slot := 9, constantValue := 0 }, { name := "negative", type := .boolean, accessFlags := 2, slot := 10, constantValue := 0 }, { name := "integerDigits", type := .int, accessFlags := 2, slot := 11, constantValue := 0 }, { name := "fractionDigits", type := .int, accessFlags := 2, slot := 12, constantValue := 0 }, { name := "exponent", type := .boolean, accessFlags := 2, slot := 13, constantValue := 0 }, { name := "unscaled", type := .long, accessFlags := 2, slot := 14, constantValue := 0 }, { name := "known", type := (.object "java/util/Map"), accessFlags := 18, slot := 15, constantValue := 0 }, { name := "nameBytes", type := (.array (.array .byte)), accessFlags := 18, slot := 16, constantValue := 0 }, { name := "names", type := (.array (.object "java/lang/String")), accessFlags := 18, slot := 17, constantValue := 0 }, { name := "places", type := (.array .int), accessFlags := 18, slot := 18, constantValue := 0 }, { name := "nameCount", type := .int, accessFlags := 2, slot := 19, constantValue := 0 }, { name := "leading", type := (.array .int), accessFlags := 18, slot := 20, constantValue := 0 }, { name := "leadingLengths", type := (.array .int), accessFlags := 18, slot := 21, constantValue := 0 }, { name := "leadingCounts", type := (.array .int), accessFlags := 18, slot := 22, constantValue := 0 }, { name := "foreseen", type := .int, accessFlags := 2, slot := 23, constantValue := 0 }, { name := "place", type := .int, accessFlags := 2, slot := 24, constantValue := 0 }]
  methods := #[k2m0, k2m1, k2m2, k2m3, k2m4, k2m5, k2m6, k2m7, k2m8, k2m9]
  instanceTypes := #[(.array .byte), .int, .int, .int, .int, (.array .boolean), .boolean, .int, .int, .boolean, .boolean, .int, .int, .boolean, .long, (.object "java/util/Map"), (.array (.array .byte)), (.array (.object "java/lang/String")), (.array .int), .int, (.array .int), (.array .int), (.array .int), .int, .int]
  staticTypes := #[.int, .int, .int, .int, .int, .int, .int, .int, (.array .byte), .int, (.array .byte), (.array .byte), (.array .byte), .byte, .byte, .byte, .byte, .byte, (.array .byte)]
  resolved := Array.replicate 470 none
  statics := none }

def pool3 : Array CpInfo := pool [(8, .class_ 10), (1, u "java/lang/Iterable"), (24, .class_ 36), (0, u "java/lang/Object")] 25

/-- java/lang/Iterable -/
def k3 : Class := { plain "java/lang/Iterable" (some 0) with
  accessFlags := 1537
  interfaces := #[]
  cf := some (fileOf pool3 8 #[] #[] 1537 35 #[] #[])
  fields := #[]
  methods := #[]
  instanceTypes := #[]
  staticTypes := #[]
  resolved := Array.replicate 62 none
  statics := none }

def pool4 : Array CpInfo := pool [(10, .class_ 12), (1, u "java/util/Collection"), (47, .class_ 61), (0, u "java/lang/Object"), (0, .class_ 63), (0, u "java/lang/Iterable")] 51

/-- java/util/Collection -/
def k4 : Class := { plain "java/util/Collection" (some 0) with
  accessFlags := 1537
  interfaces := #[3]
  cf := some (fileOf pool4 10 #[] #[] 1537 60 #[62] #[])
  fields := #[]
  methods := #[]
  instanceTypes := #[]
  staticTypes := #[]
  resolved := Array.replicate 115 none
  statics := none }

def pool5 : Array CpInfo := pool [(1, .methodref 2 3), (0, .class_ 4), (0, .nameAndType 5 6), (0, u "java/lang/Object"), (0, u "<init>"), (0, u "()V"), (1, .class_ 10), (1, u "java/util/AbstractCollection"), (66, .class_ 78), (0, u "java/util/Collection")] 81

def k5c0 : Code := { maxStack := 1, maxLocals := 1, code := jdk_22_method_1_code, exceptionTable := #[], attributes := #[] }
def k5m0 : Method := { name := "<init>", desc := "()V", sig := { parameters := [], returnType := none }, accessFlags := 4, code := some k5c0 }
/-- java/util/AbstractCollection -/
def k5 : Class := { plain "java/util/AbstractCollection" (some 0) with
  accessFlags := 1057
  interfaces := #[4]
  cf := some (fileOf pool5 8 #[] #[{ accessFlags := 4, nameIndex := 5, descriptorIndex := 6, attributes := #[] }] 1057 2 #[77] #[])
  fields := #[]
  methods := #[k5m0]
  instanceTypes := #[]
  staticTypes := #[]
  resolved := Array.replicate 160 none
  statics := none }

def pool6 : Array CpInfo := pool [(8, .class_ 10), (1, u "java/util/SequencedCollection"), (15, .class_ 27), (0, u "java/lang/Object"), (0, .class_ 29), (0, u "java/util/Collection")] 27

/-- java/util/SequencedCollection -/
def k6 : Class := { plain "java/util/SequencedCollection" (some 0) with
  accessFlags := 1537
  interfaces := #[4]
  cf := some (fileOf pool6 8 #[] #[] 1537 26 #[28] #[])
  fields := #[]
  methods := #[]
  instanceTypes := #[]
  staticTypes := #[]
  resolved := Array.replicate 57 none
  statics := none }

def pool7 : Array CpInfo := pool [(8, .class_ 10), (1, u "java/util/List"), (92, .class_ 104), (0, u "java/lang/Object"), (15, .class_ 121), (0, u "java/util/SequencedCollection"), (1, u "iterator"), (0, u "()Ljava/util/Iterator;")] 126

def k7m0 : Method := { name := "iterator", desc := "()Ljava/util/Iterator;", sig := { parameters := [], returnType := some (.object "java/util/Iterator") }, accessFlags := 1025, code := none }
/-- java/util/List -/
def k7 : Class := { plain "java/util/List" (some 0) with
  accessFlags := 1537
  interfaces := #[6]
  cf := some (fileOf pool7 8 #[] #[{ accessFlags := 1025, nameIndex := 123, descriptorIndex := 124, attributes := #[] }] 1537 103 #[120] #[])
  fields := #[]
  methods := #[k7m0]
  instanceTypes := #[]
  staticTypes := #[]
  resolved := Array.replicate 251 none
  statics := none }

def pool8 : Array CpInfo := pool [(1, .methodref 2 3), (0, .class_ 4), (0, .nameAndType 5 6), (0, u "java/util/AbstractCollection"), (0, u "<init>"), (0, u "()V"), (0, .fieldref 8 9), (0, .class_ 10), (0, .nameAndType 11 12), (0, u "java/util/AbstractList"), (0, u "modCount"), (0, u "I"), (64, .class_ 78), (0, u "java/util/AbstractList$Itr"), (3, .class_ 83), (0, u "java/util/AbstractList$ListItr"), (9, .class_ 94), (0, u "java/util/AbstractList$RandomAccessSubList"), (3, .class_ 99), (0, u "java/util/AbstractList$SubList"), (33, .class_ 134), (0, u "java/util/List"), (73, .class_ 209), (0, u "java/util/AbstractList$SubList$1"), (0, .class_ 211), (0, u "java/util/AbstractList$RandomAccessSpliterator")] 6

def k8c0 : Code := { maxStack := 2, maxLocals := 1, code := jdk_39_method_1_code, exceptionTable := #[], attributes := #[] }
def k8m0 : Method := { name := "<init>", desc := "()V", sig := { parameters := [], returnType := none }, accessFlags := 4, code := some k8c0 }
/-- java/util/AbstractList -/
def k8 : Class := { plain "java/util/AbstractList" (some 5) with
  accessFlags := 1057
  interfaces := #[7]
  cf := some (fileOf pool8 8 #[.nestMembers #[93, 98, 208, 210, 82, 77]] #[{ accessFlags := 4, nameIndex := 5, descriptorIndex := 6, attributes := #[] }] 1057 2 #[133] #[{ accessFlags := 132, nameIndex := 11, descriptorIndex := 12, attributes := #[] }])
  fields := #[{ name := "modCount", type := .int, accessFlags := 132, slot := 0, constantValue := 0 }]
  methods := #[k8m0]
  instanceTypes := #[.int]
  staticTypes := #[]
  resolved := Array.replicate 218 none
  statics := none }

def pool9 : Array CpInfo := pool [(1, .class_ 2), (0, u "java/util/RandomAccess"), (0, .class_ 4), (0, u "java/lang/Object")] 2

/-- java/util/RandomAccess -/
def k9 : Class := { plain "java/util/RandomAccess" (some 0) with
  accessFlags := 1537
  interfaces := #[]
  cf := some (fileOf pool9 1 #[] #[] 1537 3 #[] #[])
  fields := #[]
  methods := #[]
  instanceTypes := #[]
  staticTypes := #[]
  resolved := Array.replicate 7 none
  statics := none }

def pool10 : Array CpInfo := pool [(1, .class_ 2), (0, u "java/lang/Cloneable"), (0, .class_ 4), (0, u "java/lang/Object")] 2

/-- java/lang/Cloneable -/
def k10 : Class := { plain "java/lang/Cloneable" (some 0) with
  accessFlags := 1537
  interfaces := #[]
  cf := some (fileOf pool10 1 #[] #[] 1537 3 #[] #[])
  fields := #[]
  methods := #[]
  instanceTypes := #[]
  staticTypes := #[]
  resolved := Array.replicate 7 none
  statics := none }

def pool11 : Array CpInfo := pool [(1, .class_ 2), (0, u "java/io/Serializable"), (0, .class_ 4), (0, u "java/lang/Object")] 2

/-- java/io/Serializable -/
def k11 : Class := { plain "java/io/Serializable" (some 0) with
  accessFlags := 1537
  interfaces := #[]
  cf := some (fileOf pool11 1 #[] #[] 1537 3 #[] #[])
  fields := #[]
  methods := #[]
  instanceTypes := #[]
  staticTypes := #[]
  resolved := Array.replicate 7 none
  statics := none }

def pool12 : Array CpInfo := pool [(1, .methodref 2 3), (0, .class_ 4), (0, .nameAndType 5 6), (0, u "java/util/AbstractList"), (0, u "<init>"), (0, u "()V"), (2, .fieldref 10 11), (0, .class_ 12), (0, .nameAndType 13 14), (0, u "java/util/ArrayList"), (0, u "elementData"), (0, u "[Ljava/lang/Object;"), (2, u "EMPTY_ELEMENTDATA"), (21, .fieldref 10 40), (0, .nameAndType 41 14), (0, u "DEFAULTCAPACITY_EMPTY_ELEMENTDATA"), (8, u "size"), (0, u "I"), (96, .class_ 149), (0, u "java/util/List"), (16, u "iterator"), (0, u "()Ljava/util/Iterator;"), (94, .class_ 263), (0, u "java/util/ArrayList$ListItr"), (3, .class_ 268), (0, u "java/util/ArrayList$Itr"), (0, .methodref 267 270), (0, .nameAndType 5 271), (0, u "(Ljava/util/ArrayList;)V"), (4, .class_ 277), (0, u "java/util/ArrayList$SubList"), (12, .class_ 291), (0, u "java/util/ArrayList$ArrayListSpliterator"), (37, .class_ 330), (0, u "java/util/RandomAccess"), (0, .class_ 332), (0, u "java/lang/Cloneable"), (0, .class_ 334), (0, u "java/io/Serializable"), (0, u "serialVersionUID"), (0, u "J"), (3, u "DEFAULT_CAPACITY"), (159, .class_ 501), (0, u "java/util/ArrayList$SubList$2"), (0, .class_ 503), (0, u "java/util/ArrayList$SubList$1")] 5

def k12c0 : Code := { maxStack := 2, maxLocals := 1, code := jdk_38_method_2_code, exceptionTable := #[], attributes := #[] }
def k12m0 : Method := { name := "<init>", desc := "()V", sig := { parameters := [], returnType := none }, accessFlags := 1, code := some k12c0 }
def k12c1 : Code := { maxStack := 3, maxLocals := 1, code := jdk_38_method_55_code, exceptionTable := #[], attributes := #[] }
def k12m1 : Method := { name := "iterator", desc := "()Ljava/util/Iterator;", sig := { parameters := [], returnType := some (.object "java/util/Iterator") }, accessFlags := 1, code := some k12c1 }
/-- java/util/ArrayList -/
def k12 : Class := { plain "java/util/ArrayList" (some 8) with
  accessFlags := 33
  interfaces := #[7, 9, 10, 11]
  cf := some (fileOf pool12 10 #[.nestMembers #[290, 276, 500, 502, 262, 267]] #[{ accessFlags := 1, nameIndex := 5, descriptorIndex := 6, attributes := #[] }, { accessFlags := 1, nameIndex := 166, descriptorIndex := 167, attributes := #[] }] 33 2 #[148, 329, 331, 333] #[{ accessFlags := 26, nameIndex := 335, descriptorIndex := 336, attributes := #[] }, { accessFlags := 26, nameIndex := 340, descriptorIndex := 51, attributes := #[] }, { accessFlags := 26, nameIndex := 17, descriptorIndex := 14, attributes := #[] }, { accessFlags := 26, nameIndex := 41, descriptorIndex := 14, attributes := #[] }, { accessFlags := 128, nameIndex := 13, descriptorIndex := 14, attributes := #[] }, { accessFlags := 2, nameIndex := 50, descriptorIndex := 51, attributes := #[] }])
  fields := #[{ name := "serialVersionUID", type := .long, accessFlags := 26, slot := 0, constantValue := 0 }, { name := "DEFAULT_CAPACITY", type := .int, accessFlags := 26, slot := 1, constantValue := 0 }, { name := "EMPTY_ELEMENTDATA", type := (.array (.object "java/lang/Object")), accessFlags := 26, slot := 2, constantValue := 0 }, { name := "DEFAULTCAPACITY_EMPTY_ELEMENTDATA", type := (.array (.object "java/lang/Object")), accessFlags := 26, slot := 3, constantValue := 0 }, { name := "elementData", type := (.array (.object "java/lang/Object")), accessFlags := 128, slot := 1, constantValue := 0 }, { name := "size", type := .int, accessFlags := 2, slot := 2, constantValue := 0 }]
  methods := #[k12m0, k12m1]
  instanceTypes := #[.int, (.array (.object "java/lang/Object")), .int]
  staticTypes := #[.long, .int, (.array (.object "java/lang/Object")), (.array (.object "java/lang/Object"))]
  resolved := Array.replicate 509 none
  statics := some 0 }

def pool13 : Array CpInfo := pool [(1, .class_ 2), (0, u "java/lang/Comparable"), (0, .class_ 4), (0, u "java/lang/Object")] 7

/-- java/lang/Comparable -/
def k13 : Class := { plain "java/lang/Comparable" (some 0) with
  accessFlags := 1537
  interfaces := #[]
  cf := some (fileOf pool13 1 #[] #[] 1537 3 #[] #[])
  fields := #[]
  methods := #[]
  instanceTypes := #[]
  staticTypes := #[]
  resolved := Array.replicate 12 none
  statics := none }

def pool14 : Array CpInfo := pool [(2, .class_ 4), (1, u "java/lang/CharSequence"), (42, .class_ 48), (0, u "java/lang/CharSequence$1CodePointIterator"), (10, .class_ 60), (0, u "java/lang/CharSequence$1CharIterator"), (5, .class_ 67), (0, u "java/lang/Object")] 63

/-- java/lang/CharSequence -/
def k14 : Class := { plain "java/lang/CharSequence" (some 0) with
  accessFlags := 1537
  interfaces := #[]
  cf := some (fileOf pool14 2 #[.nestMembers #[47, 59]] #[] 1537 66 #[] #[])
  fields := #[]
  methods := #[]
  instanceTypes := #[]
  staticTypes := #[]
  resolved := Array.replicate 131 none
  statics := none }

def pool15 : Array CpInfo := pool [(1, .class_ 2), (0, u "java/lang/constant/Constable"), (0, .class_ 4), (0, u "java/lang/Object")] 6

/-- java/lang/constant/Constable -/
def k15 : Class := { plain "java/lang/constant/Constable" (some 0) with
  accessFlags := 1537
  interfaces := #[]
  cf := some (fileOf pool15 1 #[] #[] 1537 3 #[] #[])
  fields := #[]
  methods := #[]
  instanceTypes := #[]
  staticTypes := #[]
  resolved := Array.replicate 11 none
  statics := none }

def pool16 : Array CpInfo := pool [(1, .class_ 2), (0, u "java/lang/constant/ConstantDesc"), (0, .class_ 4), (0, u "java/lang/Object")] 32

/-- java/lang/constant/ConstantDesc -/
def k16 : Class := { plain "java/lang/constant/ConstantDesc" (some 0) with
  accessFlags := 1537
  interfaces := #[]
  cf := some (fileOf pool16 1 #[] #[] 1537 3 #[] #[])
  fields := #[]
  methods := #[]
  instanceTypes := #[]
  staticTypes := #[]
  resolved := Array.replicate 37 none
  statics := none }

def pool17 : Array CpInfo := pool [(2, .class_ 4), (1, u "java/lang/Object"), (0, u "<init>"), (0, u "()V"), (3, .class_ 12), (1, u "java/lang/String"), (0, u "value"), (0, u "[B"), (2, u "coder"), (0, u "B"), (2, u "hash"), (0, u "I"), (2, u "hashIsZero"), (0, u "Z"), (13, u "COMPACT_STRINGS"), (534, .class_ 576), (0, u "java/lang/CharSequence"), (22, u "CASE_INSENSITIVE_ORDER"), (0, u "Ljava/util/Comparator;"), (500, u "serialPersistentFields"), (0, u "[Ljava/io/ObjectStreamField;"), (0, .class_ 1104), (0, u "java/lang/String$CaseInsensitiveComparator"), (1, .class_ 1107), (0, u "java/io/Serializable"), (0, .class_ 1109), (0, u "java/lang/Comparable"), (0, .class_ 1111), (0, u "java/lang/constant/Constable"), (0, .class_ 1113), (0, u "java/lang/constant/ConstantDesc"), (2, u "serialVersionUID"), (0, u "J"), (3, u "REPL"), (0, u "C"), (2, u "LATIN1"), (1, u "UTF16")] 323

def k17m0 : Method := { name := "<init>", desc := "()V", sig := { parameters := [], returnType := none }, accessFlags := 1, code := none }
/-- java/lang/String -/
def k17 : Class := { plain "java/lang/String" (some 0) with
  accessFlags := 49
  interfaces := #[11, 13, 14, 15, 16]
  cf := some (fileOf pool17 10 #[.nestMembers #[1103]] #[{ accessFlags := 1, nameIndex := 5, descriptorIndex := 6, attributes := #[] }] 49 2 #[1106, 1108, 575, 1110, 1112] #[{ accessFlags := 18, nameIndex := 13, descriptorIndex := 14, attributes := #[] }, { accessFlags := 18, nameIndex := 17, descriptorIndex := 18, attributes := #[] }, { accessFlags := 2, nameIndex := 21, descriptorIndex := 22, attributes := #[] }, { accessFlags := 2, nameIndex := 25, descriptorIndex := 26, attributes := #[] }, { accessFlags := 26, nameIndex := 1116, descriptorIndex := 1117, attributes := #[] }, { accessFlags := 24, nameIndex := 40, descriptorIndex := 26, attributes := #[] }, { accessFlags := 26, nameIndex := 1101, descriptorIndex := 1102, attributes := #[] }, { accessFlags := 26, nameIndex := 1121, descriptorIndex := 1122, attributes := #[] }, { accessFlags := 25, nameIndex := 599, descriptorIndex := 600, attributes := #[] }, { accessFlags := 24, nameIndex := 1125, descriptorIndex := 18, attributes := #[] }, { accessFlags := 24, nameIndex := 1127, descriptorIndex := 18, attributes := #[] }])
  fields := #[{ name := "value", type := (.array .byte), accessFlags := 18, slot := 0, constantValue := 0 }, { name := "coder", type := .byte, accessFlags := 18, slot := 1, constantValue := 0 }, { name := "hash", type := .int, accessFlags := 2, slot := 2, constantValue := 0 }, { name := "hashIsZero", type := .boolean, accessFlags := 2, slot := 3, constantValue := 0 }, { name := "serialVersionUID", type := .long, accessFlags := 26, slot := 0, constantValue := 0 }, { name := "COMPACT_STRINGS", type := .boolean, accessFlags := 24, slot := 1, constantValue := 0 }, { name := "serialPersistentFields", type := (.array (.object "java/io/ObjectStreamField")), accessFlags := 26, slot := 2, constantValue := 0 }, { name := "REPL", type := .char, accessFlags := 26, slot := 3, constantValue := 0 }, { name := "CASE_INSENSITIVE_ORDER", type := (.object "java/util/Comparator"), accessFlags := 25, slot := 4, constantValue := 0 }, { name := "LATIN1", type := .byte, accessFlags := 24, slot := 5, constantValue := 0 }, { name := "UTF16", type := .byte, accessFlags := 24, slot := 6, constantValue := 0 }]
  methods := #[k17m0]
  instanceTypes := #[(.array .byte), .byte, .int, .boolean]
  staticTypes := #[.long, .boolean, (.array (.object "java/io/ObjectStreamField")), .char, (.object "java/util/Comparator"), .byte, .byte]
  resolved := Array.replicate 1451 none
  statics := none }

def pool18 : Array CpInfo := pool [(2, .class_ 4), (1, u "java/util/Map"), (26, u "()Z"), (4, .class_ 37), (0, u "java/util/Map$Entry"), (43, .fieldref 82 83), (0, .class_ 84), (0, .nameAndType 85 86), (0, u "java/util/ImmutableCollections"), (0, u "EMPTY_MAP"), (0, u "Ljava/util/ImmutableCollections$MapN;"), (6, .class_ 94), (0, u "java/lang/Object"), (6, .class_ 102), (0, u "java/util/ImmutableCollections$AbstractImmutableMap"), (0, .interfaceMethodref 2 104), (0, .nameAndType 105 31), (0, u "isEmpty"), (0, .interfaceMethodref 2 107), (0, .nameAndType 108 109), (0, u "of"), (0, u "()Ljava/util/Map;"), (140, u "copyOf"), (0, u "(Ljava/util/Map;)Ljava/util/Map;")] 11

def k18m0 : Method := { name := "isEmpty", desc := "()Z", sig := { parameters := [], returnType := some .boolean }, accessFlags := 1025, code := none }
def k18c1 : Code := { maxStack := 1, maxLocals := 0, code := jdk_72_method_26_code, exceptionTable := #[], attributes := #[] }
def k18m1 : Method := { name := "of", desc := "()Ljava/util/Map;", sig := { parameters := [], returnType := some (.object "java/util/Map") }, accessFlags := 9, code := some k18c1 }
def k18c2 : Code := { maxStack := 2, maxLocals := 1, code := jdk_72_method_39_code, exceptionTable := #[], attributes := #[] }
def k18m2 : Method := { name := "copyOf", desc := "(Ljava/util/Map;)Ljava/util/Map;", sig := { parameters := [(.object "java/util/Map")], returnType := some (.object "java/util/Map") }, accessFlags := 9, code := some k18c2 }
/-- java/util/Map -/
def k18 : Class := { plain "java/util/Map" (some 0) with
  accessFlags := 1537
  interfaces := #[]
  cf := some (fileOf pool18 2 #[.nestMembers #[36]] #[{ accessFlags := 1025, nameIndex := 105, descriptorIndex := 31, attributes := #[] }, { accessFlags := 9, nameIndex := 108, descriptorIndex := 109, attributes := #[] }, { accessFlags := 9, nameIndex := 250, descriptorIndex := 251, attributes := #[] }] 1537 93 #[] #[])
  fields := #[]
  methods := #[k18m0, k18m1, k18m2]
  instanceTypes := #[]
  staticTypes := #[]
  resolved := Array.replicate 263 none
  statics := none }

def pool19 : Array CpInfo := pool [(1, .methodref 2 3), (0, .class_ 4), (0, .nameAndType 5 6), (0, u "java/lang/Object"), (0, u "<init>"), (0, u "()V"), (1, .class_ 10), (1, u "java/util/AbstractMap"), (42, .class_ 54), (0, u "java/util/Map"), (9, u "keySet"), (0, u "Ljava/util/Set;"), (0, .class_ 67), (0, u "java/util/AbstractMap$1"), (5, u "values"), (0, u "Ljava/util/Collection;"), (0, .class_ 76), (0, u "java/util/AbstractMap$2"), (104, .class_ 182), (0, u "java/util/AbstractMap$ViewCollection"), (0, .class_ 184), (0, u "java/util/AbstractMap$SimpleImmutableEntry"), (0, .class_ 186), (0, u "java/util/AbstractMap$SimpleEntry"), (0, .class_ 188), (0, u "java/util/AbstractMap$2$1"), (0, .class_ 190), (0, u "java/util/AbstractMap$1$1")] 5

def k19c0 : Code := { maxStack := 1, maxLocals := 1, code := jdk_71_method_1_code, exceptionTable := #[], attributes := #[] }
def k19m0 : Method := { name := "<init>", desc := "()V", sig := { parameters := [], returnType := none }, accessFlags := 4, code := some k19c0 }
/-- java/util/AbstractMap -/
def k19 : Class := { plain "java/util/AbstractMap" (some 0) with
  accessFlags := 1057
  interfaces := #[18]
  cf := some (fileOf pool19 8 #[.nestMembers #[181, 183, 185, 75, 187, 66, 189]] #[{ accessFlags := 4, nameIndex := 5, descriptorIndex := 6, attributes := #[] }] 1057 2 #[53] #[{ accessFlags := 128, nameIndex := 64, descriptorIndex := 65, attributes := #[] }, { accessFlags := 128, nameIndex := 73, descriptorIndex := 74, attributes := #[] }])
  fields := #[{ name := "keySet", type := (.object "java/util/Set"), accessFlags := 128, slot := 0, constantValue := 0 }, { name := "values", type := (.object "java/util/Collection"), accessFlags := 128, slot := 1, constantValue := 0 }]
  methods := #[k19m0]
  instanceTypes := #[(.object "java/util/Set"), (.object "java/util/Collection")]
  staticTypes := #[]
  resolved := Array.replicate 196 none
  statics := none }

def pool20 : Array CpInfo := pool [(40, .class_ 41), (0, u "java/util/HashMap"), (1, .methodref 44 45), (0, .class_ 46), (0, .nameAndType 47 48), (0, u "java/util/AbstractMap"), (0, u "<init>"), (0, u "()V"), (32, .fieldref 40 82), (0, .nameAndType 83 84), (0, u "loadFactor"), (0, u "F"), (5, u "threshold"), (0, u "I"), (0, .float 1061158912), (8, .class_ 103), (1, u "java/util/Map"), (0, u "size"), (2, u "table"), (0, u "[Ljava/util/HashMap$Node;"), (14, u "entrySet"), (12, u "()Z"), (19, .fieldref 40 157), (0, .nameAndType 104 91), (5, .class_ 165), (1, u "java/util/HashMap$Node"), (14, .class_ 181), (0, u "java/util/HashMap$TreeNode"), (22, u "modCount"), (37, u "Ljava/util/Set;"), (0, .class_ 244), (0, u "java/util/HashMap$KeySet"), (18, .class_ 264), (0, u "java/util/HashMap$Values"), (3, .class_ 269), (0, u "java/util/HashMap$EntrySet"), (76, .class_ 348), (1, u "java/util/HashMap$UnsafeHolder"), (43, .class_ 393), (0, u "java/lang/Cloneable"), (0, .class_ 395), (0, u "java/io/Serializable"), (0, u "serialVersionUID"), (0, u "J"), (3, u "DEFAULT_INITIAL_CAPACITY"), (1, u "MAXIMUM_CAPACITY"), (0, u "DEFAULT_LOAD_FACTOR"), (0, u "TREEIFY_THRESHOLD"), (1, u "UNTREEIFY_THRESHOLD"), (1, u "MIN_TREEIFY_CAPACITY"), (52, u "isEmpty"), (133, .class_ 597), (0, u "java/util/HashMap$EntrySpliterator"), (0, .class_ 599), (0, u "java/util/HashMap$ValueSpliterator"), (0, .class_ 601), (0, u "java/util/HashMap$KeySpliterator"), (0, .class_ 603), (0, u "java/util/HashMap$HashMapSpliterator"), (0, .class_ 605), (0, u "java/util/HashMap$EntryIterator"), (0, .class_ 607), (0, u "java/util/HashMap$ValueIterator"), (0, .class_ 609), (0, u "java/util/HashMap$KeyIterator"), (0, .class_ 611), (0, u "java/util/HashMap$HashIterator")] 17

def k20c0 : Code := { maxStack := 2, maxLocals := 1, code := jdk_69_method_7_code, exceptionTable := #[], attributes := #[] }
def k20m0 : Method := { name := "<init>", desc := "()V", sig := { parameters := [], returnType := none }, accessFlags := 1, code := some k20c0 }
def k20c1 : Code := { maxStack := 1, maxLocals := 1, code := jdk_69_method_11_code, exceptionTable := #[], attributes := #[] }
def k20m1 : Method := { name := "isEmpty", desc := "()Z", sig := { parameters := [], returnType := some .boolean }, accessFlags := 1, code := some k20c1 }
/-- java/util/HashMap -/
def k20 : Class := { plain "java/util/HashMap" (some 19) with
  accessFlags := 33
  interfaces := #[18, 10, 11]
  cf := some (fileOf pool20 40 #[.nestMembers #[180, 596, 598, 600, 602, 604, 606, 608, 610, 346, 268, 263, 243, 163]] #[{ accessFlags := 1, nameIndex := 47, descriptorIndex := 48, attributes := #[] }, { accessFlags := 1, nameIndex := 462, descriptorIndex := 136, attributes := #[] }] 33 44 #[101, 392, 394] #[{ accessFlags := 26, nameIndex := 396, descriptorIndex := 397, attributes := #[] }, { accessFlags := 24, nameIndex := 401, descriptorIndex := 91, attributes := #[] }, { accessFlags := 24, nameIndex := 403, descriptorIndex := 91, attributes := #[] }, { accessFlags := 24, nameIndex := 404, descriptorIndex := 84, attributes := #[] }, { accessFlags := 24, nameIndex := 405, descriptorIndex := 91, attributes := #[] }, { accessFlags := 24, nameIndex := 407, descriptorIndex := 91, attributes := #[] }, { accessFlags := 24, nameIndex := 409, descriptorIndex := 91, attributes := #[] }, { accessFlags := 128, nameIndex := 107, descriptorIndex := 108, attributes := #[] }, { accessFlags := 128, nameIndex := 123, descriptorIndex := 242, attributes := #[] }, { accessFlags := 128, nameIndex := 104, descriptorIndex := 91, attributes := #[] }, { accessFlags := 128, nameIndex := 204, descriptorIndex := 91, attributes := #[] }, { accessFlags := 0, nameIndex := 90, descriptorIndex := 91, attributes := #[] }, { accessFlags := 16, nameIndex := 83, descriptorIndex := 84, attributes := #[] }])
  fields := #[{ name := "serialVersionUID", type := .long, accessFlags := 26, slot := 0, constantValue := 0 }, { name := "DEFAULT_INITIAL_CAPACITY", type := .int, accessFlags := 24, slot := 1, constantValue := 0 }, { name := "MAXIMUM_CAPACITY", type := .int, accessFlags := 24, slot := 2, constantValue := 0 }, { name := "DEFAULT_LOAD_FACTOR", type := .float, accessFlags := 24, slot := 3, constantValue := 0 }, { name := "TREEIFY_THRESHOLD", type := .int, accessFlags := 24, slot := 4, constantValue := 0 }, { name := "UNTREEIFY_THRESHOLD", type := .int, accessFlags := 24, slot := 5, constantValue := 0 }, { name := "MIN_TREEIFY_CAPACITY", type := .int, accessFlags := 24, slot := 6, constantValue := 0 }, { name := "table", type := (.array (.object "java/util/HashMap$Node")), accessFlags := 128, slot := 2, constantValue := 0 }, { name := "entrySet", type := (.object "java/util/Set"), accessFlags := 128, slot := 3, constantValue := 0 }, { name := "size", type := .int, accessFlags := 128, slot := 4, constantValue := 0 }, { name := "modCount", type := .int, accessFlags := 128, slot := 5, constantValue := 0 }, { name := "threshold", type := .int, accessFlags := 0, slot := 6, constantValue := 0 }, { name := "loadFactor", type := .float, accessFlags := 16, slot := 7, constantValue := 0 }]
  methods := #[k20m0, k20m1]
  instanceTypes := #[(.object "java/util/Set"), (.object "java/util/Collection"), (.array (.object "java/util/HashMap$Node")), (.object "java/util/Set"), .int, .int, .int, .float]
  staticTypes := #[.long, .int, .int, .float, .int, .int, .int]
  resolved := Array.replicate 629 none
  statics := none }

def pool21 : Array CpInfo := pool [(16, .class_ 18), (1, u "java/util/Iterator"), (0, u "hasNext"), (0, u "()Z"), (10, .class_ 32), (0, u "java/lang/Object")] 20

def k21m0 : Method := { name := "hasNext", desc := "()Z", sig := { parameters := [], returnType := some .boolean }, accessFlags := 1025, code := none }
/-- java/util/Iterator -/
def k21 : Class := { plain "java/util/Iterator" (some 0) with
  accessFlags := 1537
  interfaces := #[]
  cf := some (fileOf pool21 16 #[] #[{ accessFlags := 1025, nameIndex := 19, descriptorIndex := 20, attributes := #[] }] 1537 31 #[] #[])
  fields := #[]
  methods := #[k21m0]
  instanceTypes := #[]
  staticTypes := #[]
  resolved := Array.replicate 53 none
  statics := none }

def pool22 : Array CpInfo := pool [(1, .fieldref 2 3), (0, .class_ 4), (0, .nameAndType 5 6), (0, u "java/util/ArrayList$Itr"), (0, u "this$0"), (0, u "Ljava/util/ArrayList;"), (0, .methodref 8 9), (0, .class_ 10), (0, .nameAndType 11 12), (0, u "java/lang/Object"), (0, u "<init>"), (0, u "()V"), (0, .fieldref 2 14), (0, .nameAndType 15 16), (0, u "lastRet"), (0, u "I"), (0, .fieldref 18 19), (0, .class_ 20), (0, .nameAndType 21 16), (0, u "java/util/ArrayList"), (0, u "modCount"), (0, .fieldref 2 23), (0, .nameAndType 24 16), (0, u "expectedModCount"), (0, .fieldref 2 26), (0, .nameAndType 27 16), (0, u "cursor"), (0, .fieldref 18 29), (0, .nameAndType 30 16), (0, u "size"), (38, .class_ 70), (0, u "java/util/Iterator"), (0, u "(Ljava/util/ArrayList;)V"), (8, u "hasNext"), (0, u "()Z")] 22

def k22c0 : Code := { maxStack := 2, maxLocals := 2, code := jdk_49_method_1_code, exceptionTable := #[], attributes := #[] }
def k22m0 : Method := { name := "<init>", desc := "(Ljava/util/ArrayList;)V", sig := { parameters := [(.object "java/util/ArrayList")], returnType := none }, accessFlags := 0, code := some k22c0 }
def k22c1 : Code := { maxStack := 2, maxLocals := 1, code := jdk_49_method_2_code, exceptionTable := #[], attributes := #[] }
def k22m1 : Method := { name := "hasNext", desc := "()Z", sig := { parameters := [], returnType := some .boolean }, accessFlags := 1, code := some k22c1 }
/-- java/util/ArrayList$Itr -/
def k22 : Class := { plain "java/util/ArrayList$Itr" (some 0) with
  accessFlags := 32
  interfaces := #[21]
  cf := some (fileOf pool22 2 #[.nestHost 18] #[{ accessFlags := 0, nameIndex := 11, descriptorIndex := 71, attributes := #[] }, { accessFlags := 1, nameIndex := 80, descriptorIndex := 81, attributes := #[] }] 32 8 #[69] #[{ accessFlags := 0, nameIndex := 27, descriptorIndex := 16, attributes := #[] }, { accessFlags := 0, nameIndex := 15, descriptorIndex := 16, attributes := #[] }, { accessFlags := 0, nameIndex := 24, descriptorIndex := 16, attributes := #[] }, { accessFlags := 4112, nameIndex := 5, descriptorIndex := 6, attributes := #[] }])
  fields := #[{ name := "cursor", type := .int, accessFlags := 0, slot := 0, constantValue := 0 }, { name := "lastRet", type := .int, accessFlags := 0, slot := 1, constantValue := 0 }, { name := "expectedModCount", type := .int, accessFlags := 0, slot := 2, constantValue := 0 }, { name := "this$0", type := (.object "java/util/ArrayList"), accessFlags := 4112, slot := 3, constantValue := 0 }]
  methods := #[k22m0, k22m1]
  instanceTypes := #[.int, .int, .int, (.object "java/util/ArrayList")]
  staticTypes := #[]
  resolved := Array.replicate 104 none
  statics := none }

def pool23 : Array CpInfo := pool [(2, .class_ 4), (1, u "java/util/AbstractMap"), (0, u "<init>"), (0, u "()V"), (1, .class_ 10), (1, u "java/util/ImmutableCollections"), (3, .class_ 16), (1, u "java/util/ImmutableCollections$AbstractImmutableMap"), (2, .class_ 20), (0, u "java/io/Serializable")] 66

def k23m0 : Method := { name := "<init>", desc := "()V", sig := { parameters := [], returnType := none }, accessFlags := 0, code := none }
/-- java/util/ImmutableCollections$AbstractImmutableMap -/
def k23 : Class := { plain "java/util/ImmutableCollections$AbstractImmutableMap" (some 19) with
  accessFlags := 1056
  interfaces := #[11]
  cf := some (fileOf pool23 14 #[.nestHost 8] #[{ accessFlags := 0, nameIndex := 5, descriptorIndex := 6, attributes := #[] }] 1056 2 #[19] #[])
  fields := #[]
  methods := #[k23m0]
  instanceTypes := #[(.object "java/util/Set"), (.object "java/util/Collection")]
  staticTypes := #[]
  resolved := Array.replicate 87 none
  statics := none }

def pool24 : Array CpInfo := pool [(2, .class_ 4), (1, u "java/lang/Object"), (0, u "<init>"), (0, u "()V"), (3, .class_ 11), (0, u "java/util/ImmutableCollections$List12"), (0, .class_ 13), (0, u "java/util/ImmutableCollections$ListN"), (3, u "Z"), (29, .class_ 49), (1, u "java/util/ImmutableCollections"), (0, u "$assertionsDisabled"), (5, u "[Ljava/lang/Object;"), (5, u "EMPTY_LIST"), (0, u "Ljava/util/ImmutableCollections$ListN;"), (8, u "EMPTY_LIST_NULLS"), (22, u "SALT32L"), (0, u "J"), (2, u "REVERSE"), (6, u "archivedObjects"), (2, u "EMPTY"), (0, u "Ljava/lang/Object;"), (0, .class_ 112), (0, u "java/util/ImmutableCollections$SetN"), (5, u "EMPTY_SET"), (0, u "Ljava/util/ImmutableCollections$SetN;"), (0, .class_ 121), (0, u "java/util/ImmutableCollections$MapN"), (3, u "EMPTY_MAP"), (0, u "Ljava/util/ImmutableCollections$MapN;"), (4, u "EXPAND_FACTOR"), (0, u "I"), (36, .class_ 170), (0, u "java/util/ImmutableCollections$MapN$MapNIterator"), (0, .class_ 172), (0, u "java/util/ImmutableCollections$MapN$1"), (0, .class_ 174), (0, u "java/util/ImmutableCollections$Map1"), (0, .class_ 176), (0, u "java/util/ImmutableCollections$AbstractImmutableMap"), (0, .class_ 178), (0, u "java/util/ImmutableCollections$SetN$SetNIterator"), (0, .class_ 180), (0, u "java/util/ImmutableCollections$Set12"), (0, .class_ 182), (0, u "java/util/ImmutableCollections$Set12$1"), (0, .class_ 184), (0, u "java/util/ImmutableCollections$AbstractImmutableSet"), (0, .class_ 186), (0, u "java/util/ImmutableCollections$SubList"), (0, .class_ 188), (0, u "java/util/ImmutableCollections$ListItr"), (0, .class_ 190), (0, u "java/util/ImmutableCollections$AbstractImmutableList"), (0, .class_ 192), (0, u "java/util/ImmutableCollections$AbstractImmutableCollection"), (0, .class_ 194), (0, u "java/util/ImmutableCollections$Access"), (0, .class_ 196), (0, u "java/util/ImmutableCollections$Access$1")] 16

def k24m0 : Method := { name := "<init>", desc := "()V", sig := { parameters := [], returnType := none }, accessFlags := 2, code := none }
/-- java/util/ImmutableCollections -/
def k24 : Class := { plain "java/util/ImmutableCollections" (some 0) with
  accessFlags := 32
  interfaces := #[]
  cf := some (fileOf pool24 47 #[.nestMembers #[120, 169, 171, 173, 175, 111, 177, 179, 181, 183, 12, 10, 185, 187, 189, 191, 193, 195]] #[{ accessFlags := 2, nameIndex := 5, descriptorIndex := 6, attributes := #[] }] 32 2 #[] #[{ accessFlags := 26, nameIndex := 95, descriptorIndex := 96, attributes := #[] }, { accessFlags := 26, nameIndex := 99, descriptorIndex := 17, attributes := #[] }, { accessFlags := 10, nameIndex := 106, descriptorIndex := 56, attributes := #[] }, { accessFlags := 26, nameIndex := 109, descriptorIndex := 110, attributes := #[] }, { accessFlags := 24, nameIndex := 62, descriptorIndex := 63, attributes := #[] }, { accessFlags := 24, nameIndex := 72, descriptorIndex := 63, attributes := #[] }, { accessFlags := 24, nameIndex := 118, descriptorIndex := 119, attributes := #[] }, { accessFlags := 24, nameIndex := 125, descriptorIndex := 126, attributes := #[] }, { accessFlags := 24, nameIndex := 131, descriptorIndex := 132, attributes := #[] }, { accessFlags := 4120, nameIndex := 50, descriptorIndex := 17, attributes := #[] }])
  fields := #[{ name := "SALT32L", type := .long, accessFlags := 26, slot := 0, constantValue := 0 }, { name := "REVERSE", type := .boolean, accessFlags := 26, slot := 1, constantValue := 0 }, { name := "archivedObjects", type := (.array (.object "java/lang/Object")), accessFlags := 10, slot := 2, constantValue := 0 }, { name := "EMPTY", type := (.object "java/lang/Object"), accessFlags := 26, slot := 3, constantValue := 0 }, { name := "EMPTY_LIST", type := (.object "java/util/ImmutableCollections$ListN"), accessFlags := 24, slot := 4, constantValue := 0 }, { name := "EMPTY_LIST_NULLS", type := (.object "java/util/ImmutableCollections$ListN"), accessFlags := 24, slot := 5, constantValue := 0 }, { name := "EMPTY_SET", type := (.object "java/util/ImmutableCollections$SetN"), accessFlags := 24, slot := 6, constantValue := 0 }, { name := "EMPTY_MAP", type := (.object "java/util/ImmutableCollections$MapN"), accessFlags := 24, slot := 7, constantValue := 0 }, { name := "EXPAND_FACTOR", type := .int, accessFlags := 24, slot := 8, constantValue := 0 }, { name := "$assertionsDisabled", type := .boolean, accessFlags := 4120, slot := 9, constantValue := 0 }]
  methods := #[k24m0]
  instanceTypes := #[]
  staticTypes := #[.long, .boolean, (.array (.object "java/lang/Object")), (.object "java/lang/Object"), (.object "java/util/ImmutableCollections$ListN"), (.object "java/util/ImmutableCollections$ListN"), (.object "java/util/ImmutableCollections$SetN"), (.object "java/util/ImmutableCollections$MapN"), .int, .boolean]
  resolved := Array.replicate 213 none
  statics := some 1 }

def pool25 : Array CpInfo := pool [(2, .class_ 4), (1, u "java/lang/Enum"), (0, u "name"), (0, u "Ljava/lang/String;"), (2, u "ordinal"), (0, u "I"), (1, .class_ 14), (1, u "java/lang/Object"), (4, u "hash"), (86, .class_ 108), (1, u "java/lang/Enum$EnumDesc"), (2, .class_ 112), (0, u "java/lang/constant/Constable"), (0, .class_ 114), (0, u "java/lang/Comparable"), (0, .class_ 116), (0, u "java/io/Serializable")] 87

/-- java/lang/Enum -/
def k25 : Class := { plain "java/lang/Enum" (some 0) with
  accessFlags := 1057
  interfaces := #[15, 13, 11]
  cf := some (fileOf pool25 2 #[.nestMembers #[106]] #[] 1057 12 #[111, 113, 115] #[{ accessFlags := 18, nameIndex := 5, descriptorIndex := 6, attributes := #[] }, { accessFlags := 18, nameIndex := 9, descriptorIndex := 10, attributes := #[] }, { accessFlags := 2, nameIndex := 19, descriptorIndex := 10, attributes := #[] }])
  fields := #[{ name := "name", type := (.object "java/lang/String"), accessFlags := 18, slot := 0, constantValue := 0 }, { name := "ordinal", type := .int, accessFlags := 18, slot := 1, constantValue := 0 }, { name := "hash", type := .int, accessFlags := 2, slot := 2, constantValue := 0 }]
  methods := #[]
  instanceTypes := #[(.object "java/lang/String"), .int, .int]
  staticTypes := #[]
  resolved := Array.replicate 204 none
  statics := none }

def pool26 : Array CpInfo := pool [(1, .class_ 2), (0, u "com/example/vestwork/vestwork/io/JsonScanner$Kind"), (2, u "OBJECT"), (0, u "Lcom/example/vestwork/vestwork/io/JsonScanner$Kind;"), (2, u "LIST"), (2, u "STRING"), (2, u "NUMBER"), (2, u "TRUE"), (2, u "FALSE"), (2, u "NULL"), (2, u "$VALUES"), (0, u "[Lcom/example/vestwork/vestwork/io/JsonScanner$Kind;"), (6, .class_ 37), (1, u "java/lang/Enum"), (30, .class_ 69), (0, u "com/example/vestwork/vestwork/io/JsonScanner")] 2

/-- com/example/vestwork/vestwork/io/JsonScanner$Kind -/
def k26 : Class := { plain "com/example/vestwork/vestwork/io/JsonScanner$Kind" (some 25) with
  accessFlags := 16432
  interfaces := #[]
  cf := some (fileOf pool26 1 #[.nestHost 68] #[] 16432 35 #[] #[{ accessFlags := 16409, nameIndex := 5, descriptorIndex := 6, attributes := #[] }, { accessFlags := 16409, nameIndex := 9, descriptorIndex := 6, attributes := #[] }, { accessFlags := 16409, nameIndex := 12, descriptorIndex := 6, attributes := #[] }, { accessFlags := 16409, nameIndex := 15, descriptorIndex := 6, attributes := #[] }, { accessFlags := 16409, nameIndex := 18, descriptorIndex := 6, attributes := #[] }, { accessFlags := 16409, nameIndex := 21, descriptorIndex := 6, attributes := #[] }, { accessFlags := 16409, nameIndex := 24, descriptorIndex := 6, attributes := #[] }, { accessFlags := 4122, nameIndex := 27, descriptorIndex := 28, attributes := #[] }])
  fields := #[{ name := "OBJECT", type := (.object "com/example/vestwork/vestwork/io/JsonScanner$Kind"), accessFlags := 16409, slot := 0, constantValue := 0 }, { name := "LIST", type := (.object "com/example/vestwork/vestwork/io/JsonScanner$Kind"), accessFlags := 16409, slot := 1, constantValue := 0 }, { name := "STRING", type := (.object "com/example/vestwork/vestwork/io/JsonScanner$Kind"), accessFlags := 16409, slot := 2, constantValue := 0 }, { name := "NUMBER", type := (.object "com/example/vestwork/vestwork/io/JsonScanner$Kind"), accessFlags := 16409, slot := 3, constantValue := 0 }, { name := "TRUE", type := (.object "com/example/vestwork/vestwork/io/JsonScanner$Kind"), accessFlags := 16409, slot := 4, constantValue := 0 }, { name := "FALSE", type := (.object "com/example/vestwork/vestwork/io/JsonScanner$Kind"), accessFlags := 16409, slot := 5, constantValue := 0 }, { name := "NULL", type := (.object "com/example/vestwork/vestwork/io/JsonScanner$Kind"), accessFlags := 16409, slot := 6, constantValue := 0 }, { name := "$VALUES", type := (.array (.object "com/example/vestwork/vestwork/io/JsonScanner$Kind")), accessFlags := 4122, slot := 7, constantValue := 0 }]
  methods := #[]
  instanceTypes := #[(.object "java/lang/String"), .int, .int]
  staticTypes := #[(.object "com/example/vestwork/vestwork/io/JsonScanner$Kind"), (.object "com/example/vestwork/vestwork/io/JsonScanner$Kind"), (.object "com/example/vestwork/vestwork/io/JsonScanner$Kind"), (.object "com/example/vestwork/vestwork/io/JsonScanner$Kind"), (.object "com/example/vestwork/vestwork/io/JsonScanner$Kind"), (.object "com/example/vestwork/vestwork/io/JsonScanner$Kind"), (.object "com/example/vestwork/vestwork/io/JsonScanner$Kind"), (.array (.object "com/example/vestwork/vestwork/io/JsonScanner$Kind"))]
  resolved := Array.replicate 72 none
  statics := some 2 }

def pool27 : Array CpInfo := pool [(1, .class_ 2), (0, u "java/util/ImmutableCollections"), (1, .class_ 6), (1, u "java/util/ImmutableCollections$AbstractImmutableMap"), (10, .class_ 19), (1, u "java/util/ImmutableCollections$MapN"), (0, u "size"), (0, u "I"), (4, u "table"), (0, u "[Ljava/lang/Object;")] 121

/-- java/util/ImmutableCollections$MapN -/
def k27 : Class := { plain "java/util/ImmutableCollections$MapN" (some 23) with
  accessFlags := 48
  interfaces := #[]
  cf := some (fileOf pool27 17 #[.nestHost 1] #[] 48 4 #[] #[{ accessFlags := 16, nameIndex := 26, descriptorIndex := 27, attributes := #[] }, { accessFlags := 16, nameIndex := 20, descriptorIndex := 21, attributes := #[] }])
  fields := #[{ name := "table", type := (.array (.object "java/lang/Object")), accessFlags := 16, slot := 2, constantValue := 0 }, { name := "size", type := .int, accessFlags := 16, slot := 3, constantValue := 0 }]
  methods := #[]
  instanceTypes := #[(.object "java/util/Set"), (.object "java/util/Collection"), (.array (.object "java/lang/Object")), .int]
  staticTypes := #[]
  resolved := Array.replicate 149 none
  statics := none }

/-- the primitive boolean -/
def k28 : Class := { plain "boolean" none with kind := .primitive 'Z', accessFlags := 0x411 }
/-- [Z -/
def k29 : Class := { plain "[Z" (some 0) with kind := .array 28 .boolean, interfaces := #[10, 11], accessFlags := 1041 }

/-- the primitive byte -/
def k30 : Class := { plain "byte" none with kind := .primitive 'B', accessFlags := 0x411 }
/-- [B -/
def k31 : Class := { plain "[B" (some 0) with kind := .array 30 .byte, interfaces := #[10, 11], accessFlags := 1041 }

/-- the primitive int -/
def k32 : Class := { plain "int" none with kind := .primitive 'I', accessFlags := 0x411 }
/-- [I -/
def k33 : Class := { plain "[I" (some 0) with kind := .array 32 .int, interfaces := #[10, 11], accessFlags := 1041 }

/-- [Ljava/lang/Object; -/
def k34 : Class := { plain "[Ljava/lang/Object;" (some 0) with kind := .array 0 (.object "java/lang/Object"), interfaces := #[10, 11], accessFlags := 1041 }

/-- [Ljava/lang/String; -/
def k35 : Class := { plain "[Ljava/lang/String;" (some 0) with kind := .array 17 (.object "java/lang/String"), interfaces := #[10, 11], accessFlags := 1041 }

/-- [[B -/
def k36 : Class := { plain "[[B" (some 0) with kind := .array 31 (.array .byte), interfaces := #[10, 11], accessFlags := 1041 }

def heap : Heap := #[{ cls := 12, slots := #[.long 0, .int 0, .ref 5, .ref 6], vm := .statics 12 },
  { cls := 24, slots := #[.long 0, .int 0, .null, .null, .null, .null, .null, .ref 7, .int 0, .int 0], vm := .statics 24 },
  { cls := 26, slots := #[.ref 4, .ref 3, .null, .null, .null, .null, .null, .null], vm := .statics 26 },
  { cls := 26, slots := #[.null, .int 1, .int 0], vm := .none },
  { cls := 26, slots := #[.null, .int 0, .int 0], vm := .none },
  { cls := 34, slots := #[], vm := .none },
  { cls := 34, slots := #[], vm := .none },
  { cls := 27, slots := #[.null, .null, .ref 8, .int 0], vm := .none },
  { cls := 34, slots := #[], vm := .none }]
def classes : Array Class := #[k0, k1, k2, k3, k4, k5, k6, k7, k8, k9, k10, k11, k12, k13, k14, k15, k16, k17, k18, k19, k20, k21, k22, k23, k24, k25, k26, k27, k28, k29, k30, k31, k32, k33, k34, k35, k36]
def interned : List (Array UInt16 × Addr) := []
def slotsUsed : Nat := 32
def theMethod : MethodId := ⟨1, 2⟩
def args0 : Array Value := #[.int 5, .int 3, .int 7, .int 1]
def aboutOver (below : List Frame) : State where
  vm := { classes := classes, interned := interned.toArray }
  heap := heap
  slotsUsed := slotsUsed
  threads := #[{ frames := .invoking theMethod args0 :: below }]
def below0 : List Frame := [.native { method := ⟨0, 0⟩, args := #[] }]
def about1 : State := aboutOver below0
def p0 : Program := .bare "" "" ""
def e0 : Env := launch0.env 0 0 0
theorem w_frames : about1.frames = Frame.invoking theMethod args0 :: below0 := rfl
set_option maxRecDepth 65536 in
theorem w_args : argsFit about1.vm theMethod args0 = true := by decide +kernel
set_option maxRecDepth 65536 in
theorem w_heap : heapFits about1 = true := by decide +kernel
set_option maxRecDepth 65536 in
theorem w_runnable : about1.curStatus? = some .runnable := by decide +kernel
set_option maxRecDepth 65536 in
theorem w_alone : about1.alone = true := by decide +kernel
set_option maxRecDepth 65536 in
theorem w_named : about1.methodNamed? x = some theMethod := by decide +kernel
set_option maxRecDepth 65536 in
theorem w_hears : about1.hears theMethod below0 = true := by decide +kernel
set_option maxRecDepth 65536 in
theorem w_ripe : about1.ripe theMethod args0 below0 = true := by decide +kernel
theorem w_running : about1.status = .running := rfl
set_option maxRecDepth 65536 in
theorem w_room : about1.hasRoom e0.platform room_1 = true :=
  launch0.hasRoom_least _ room_1 (by decide +kernel) (by decide +kernel) (by decide +kernel) (by decide +kernel) (by decide +kernel) (by decide +kernel)
theorem allAtoms_all (ts : List Jvm.Cond) (a : Array Jvm.Value) (st : Jvm.State) : (allAtoms ts).before a st = ts.all (fun c => c.before a st) := by
  induction ts with
  | nil => rfl
  | cons c t ih =>
    show (Jvm.Cond.and c (allAtoms t)).before a st = _
    rw [Jvm.Cond.before_and, ih, List.all_cons]
def words1 : List Jvm.Cond := Jvm.Cond.code x code maxLocals ret :: tables_1
/-- a 'code' word, met by the world's own term for the bytes: nothing is compared byte by byte -/
theorem code_word {y : MethodName} {bytes : ByteArray} {mx : Nat} {rt : Option FieldType} {a : Array Value} {s : State} {m : MethodId} {meth : Method} {c : Code} (h1 : s.methodNamed? y = some m) (h2 : s.vm.method? m = some meth) (h3 : meth.code = some c) (h4 : c.code = bytes)
    (h5 : (c.maxLocals == mx && c.exceptionTable.isEmpty && decide (c.maxStack ≤ mostOperands) && decide (meth.sig.returnType = rt) && !meth.locks && decide (parseMethodDescriptor y.desc = some meth.sig)) = true) : (Jvm.Cond.code y bytes mx rt).before a s = true := by
  simp only [Bool.and_eq_true, beq_iff_eq, Bool.not_eq_true', decide_eq_true_eq] at h5
  obtain ⟨⟨⟨⟨⟨g1, g2⟩, g3⟩, g4⟩, g5⟩, g6⟩ := h5
  simp [Cond.before, Cond.holds, Cond.value, h1, h2, h3, h4, g1, g2, g3, g4, g5, g6]
def isCode : Jvm.Cond → Bool
  | .code _ _ _ _ => true
  | _ => false
theorem all_split {L : List Jvm.Cond} {P : Jvm.Cond → Bool} (h1 : L.all (fun c => isCode c || P c) = true) (h2 : ∀ c ∈ L.filter isCode, P c = true) : L.all P = true := by
  refine List.all_eq_true.mpr fun c hc => ?_
  have h := List.all_eq_true.mp h1 c hc
  rcases Bool.eq_false_or_eq_true (isCode c) with hi | hi
  · exact h2 c (List.mem_filter.mpr ⟨hc, hi⟩)
  · simpa [hi] using h
set_option maxRecDepth 65536 in
theorem w_c0 : (Jvm.Cond.code x code maxLocals ret).before args0 about1 = true := code_word (m := ⟨1, 2⟩) (meth := k1m2) (c := k1c2) (by decide +kernel) rfl rfl rfl (by decide +kernel)
set_option maxRecDepth 65536 in
theorem w_c1 : (Jvm.Cond.code ({ cls := "com/example/vestwork/vestwork/io/JsonScannerResetPinLaw", name := "pal", desc := "(I)B" } : Jvm.MethodName) method_2_code (2 : Nat) (Option.some Jvm.ClassFile.FieldType.byte)).before args0 about1 = true := code_word (m := ⟨1, 1⟩) (meth := k1m1) (c := k1c1) (by decide +kernel) rfl rfl rfl (by decide +kernel)
set_option maxRecDepth 65536 in
theorem w_c2 : (Jvm.Cond.code ({ cls := "java/util/ArrayList", name := "<init>", desc := "()V" } : Jvm.MethodName) jdk_38_method_2_code (1 : Nat) (Option.none : Option Jvm.ClassFile.FieldType)).before args0 about1 = true := code_word (m := ⟨12, 0⟩) (meth := k12m0) (c := k12c0) (by decide +kernel) rfl rfl rfl (by decide +kernel)
set_option maxRecDepth 65536 in
theorem w_c3 : (Jvm.Cond.code ({ cls := "java/util/AbstractList", name := "<init>", desc := "()V" } : Jvm.MethodName) jdk_39_method_1_code (1 : Nat) (Option.none : Option Jvm.ClassFile.FieldType)).before args0 about1 = true := code_word (m := ⟨8, 0⟩) (meth := k8m0) (c := k8c0) (by decide +kernel) rfl rfl rfl (by decide +kernel)
set_option maxRecDepth 65536 in
theorem w_c4 : (Jvm.Cond.code ({ cls := "java/util/AbstractCollection", name := "<init>", desc := "()V" } : Jvm.MethodName) jdk_22_method_1_code (1 : Nat) (Option.none : Option Jvm.ClassFile.FieldType)).before args0 about1 = true := code_word (m := ⟨5, 0⟩) (meth := k5m0) (c := k5c0) (by decide +kernel) rfl rfl rfl (by decide +kernel)
set_option maxRecDepth 65536 in
theorem w_c5 : (Jvm.Cond.code ({ cls := "java/lang/Object", name := "<init>", desc := "()V" } : Jvm.MethodName) object_method_1_code (1 : Nat) (Option.none : Option Jvm.ClassFile.FieldType)).before args0 about1 = true := code_word (m := ⟨0, 0⟩) (meth := k0m0) (c := k0c0) (by decide +kernel) rfl rfl rfl (by decide +kernel)
set_option maxRecDepth 65536 in
theorem w_c6 : (Jvm.Cond.code ({ cls := "com/example/vestwork/vestwork/io/JsonScanner", name := "<init>", desc := "(Ljava/util/List;)V" } : Jvm.MethodName) prog_45_method_2_code (5 : Nat) (Option.none : Option Jvm.ClassFile.FieldType)).before args0 about1 = true := code_word (m := ⟨2, 1⟩) (meth := k2m1) (c := k2c1) (by decide +kernel) rfl rfl rfl (by decide +kernel)
set_option maxRecDepth 65536 in
theorem w_c7 : (Jvm.Cond.code ({ cls := "java/util/HashMap", name := "<init>", desc := "()V" } : Jvm.MethodName) jdk_69_method_7_code (1 : Nat) (Option.none : Option Jvm.ClassFile.FieldType)).before args0 about1 = true := code_word (m := ⟨20, 0⟩) (meth := k20m0) (c := k20c0) (by decide +kernel) rfl rfl rfl (by decide +kernel)
set_option maxRecDepth 65536 in
theorem w_c8 : (Jvm.Cond.code ({ cls := "java/util/AbstractMap", name := "<init>", desc := "()V" } : Jvm.MethodName) jdk_71_method_1_code (1 : Nat) (Option.none : Option Jvm.ClassFile.FieldType)).before args0 about1 = true := code_word (m := ⟨19, 0⟩) (meth := k19m0) (c := k19c0) (by decide +kernel) rfl rfl rfl (by decide +kernel)
set_option maxRecDepth 65536 in
theorem w_c9 : (Jvm.Cond.code ({ cls := "java/util/ArrayList", name := "iterator", desc := "()Ljava/util/Iterator;" } : Jvm.MethodName) jdk_38_method_55_code (1 : Nat) (Option.some (Jvm.ClassFile.FieldType.object "java/util/Iterator"))).before args0 about1 = true := code_word (m := ⟨12, 1⟩) (meth := k12m1) (c := k12c1) (by decide +kernel) rfl rfl rfl (by decide +kernel)
set_option maxRecDepth 65536 in
theorem w_c10 : (Jvm.Cond.code ({ cls := "java/util/ArrayList$Itr", name := "<init>", desc := "(Ljava/util/ArrayList;)V" } : Jvm.MethodName) jdk_49_method_1_code (2 : Nat) (Option.none : Option Jvm.ClassFile.FieldType)).before args0 about1 = true := code_word (m := ⟨22, 0⟩) (meth := k22m0) (c := k22c0) (by decide +kernel) rfl rfl rfl (by decide +kernel)
set_option maxRecDepth 65536 in
theorem w_c11 : (Jvm.Cond.code ({ cls := "java/util/ArrayList$Itr", name := "hasNext", desc := "()Z" } : Jvm.MethodName) jdk_49_method_2_code (1 : Nat) (Option.some Jvm.ClassFile.FieldType.boolean)).before args0 about1 = true := code_word (m := ⟨22, 1⟩) (meth := k22m1) (c := k22c1) (by decide +kernel) rfl rfl rfl (by decide +kernel)
set_option maxRecDepth 65536 in
theorem w_c12 : (Jvm.Cond.code ({ cls := "java/util/Map", name := "copyOf", desc := "(Ljava/util/Map;)Ljava/util/Map;" } : Jvm.MethodName) jdk_72_method_39_code (1 : Nat) (Option.some (Jvm.ClassFile.FieldType.object "java/util/Map"))).before args0 about1 = true := code_word (m := ⟨18, 2⟩) (meth := k18m2) (c := k18c2) (by decide +kernel) rfl rfl rfl (by decide +kernel)
set_option maxRecDepth 65536 in
theorem w_c13 : (Jvm.Cond.code ({ cls := "java/util/HashMap", name := "isEmpty", desc := "()Z" } : Jvm.MethodName) jdk_69_method_11_code (1 : Nat) (Option.some Jvm.ClassFile.FieldType.boolean)).before args0 about1 = true := code_word (m := ⟨20, 1⟩) (meth := k20m1) (c := k20c1) (by decide +kernel) rfl rfl rfl (by decide +kernel)
set_option maxRecDepth 65536 in
theorem w_c14 : (Jvm.Cond.code ({ cls := "java/util/Map", name := "of", desc := "()Ljava/util/Map;" } : Jvm.MethodName) jdk_72_method_26_code (0 : Nat) (Option.some (Jvm.ClassFile.FieldType.object "java/util/Map"))).before args0 about1 = true := code_word (m := ⟨18, 1⟩) (meth := k18m1) (c := k18c1) (by decide +kernel) rfl rfl rfl (by decide +kernel)
set_option maxRecDepth 65536 in
theorem w_c15 : (Jvm.Cond.code ({ cls := "com/example/vestwork/vestwork/io/JsonScanner", name := "reset", desc := "([BII)V" } : Jvm.MethodName) prog_45_method_3_code (5 : Nat) (Option.none : Option Jvm.ClassFile.FieldType)).before args0 about1 = true := code_word (m := ⟨2, 2⟩) (meth := k2m2) (c := k2c2) (by decide +kernel) rfl rfl rfl (by decide +kernel)
set_option maxRecDepth 65536 in
theorem w_c16 : (Jvm.Cond.code ({ cls := "com/example/vestwork/vestwork/io/JsonScanner", name := "value", desc := "()Lcom/example/vestwork/vestwork/io/JsonScanner$Kind;" } : Jvm.MethodName) prog_45_method_6_code (3 : Nat) (Option.some (Jvm.ClassFile.FieldType.object "com/example/vestwork/vestwork/io/JsonScanner$Kind"))).before args0 about1 = true := code_word (m := ⟨2, 3⟩) (meth := k2m3) (c := k2c3) (by decide +kernel) rfl rfl rfl (by decide +kernel)
set_option maxRecDepth 65536 in
theorem w_c17 : (Jvm.Cond.code ({ cls := "com/example/vestwork/vestwork/io/JsonScanner", name := "valueAfterSpace", desc := "()Lcom/example/vestwork/vestwork/io/JsonScanner$Kind;" } : Jvm.MethodName) prog_45_method_8_code (4 : Nat) (Option.some (Jvm.ClassFile.FieldType.object "com/example/vestwork/vestwork/io/JsonScanner$Kind"))).before args0 about1 = true := code_word (m := ⟨2, 4⟩) (meth := k2m4) (c := k2c4) (by decide +kernel) rfl rfl rfl (by decide +kernel)
set_option maxRecDepth 65536 in
theorem w_c18 : (Jvm.Cond.code ({ cls := "com/example/vestwork/vestwork/io/JsonScanner", name := "space", desc := "()I" } : Jvm.MethodName) prog_45_method_43_code (1 : Nat) (Option.some Jvm.ClassFile.FieldType.int)).before args0 about1 = true := code_word (m := ⟨2, 8⟩) (meth := k2m8) (c := k2c8) (by decide +kernel) rfl rfl rfl (by decide +kernel)
set_option maxRecDepth 65536 in
theorem w_c19 : (Jvm.Cond.code ({ cls := "com/example/vestwork/vestwork/io/JsonScanner", name := "skipSpace", desc := "(I)I" } : Jvm.MethodName) prog_45_method_44_code (3 : Nat) (Option.some Jvm.ClassFile.FieldType.int)).before args0 about1 = true := code_word (m := ⟨2, 9⟩) (meth := k2m9) (c := k2c9) (by decide +kernel) rfl rfl rfl (by decide +kernel)
set_option maxRecDepth 65536 in
theorem w_c20 : (Jvm.Cond.code ({ cls := "com/example/vestwork/vestwork/io/JsonScanner", name := "bytes", desc := "()[B" } : Jvm.MethodName) prog_45_method_27_code (1 : Nat) (Option.some (Jvm.ClassFile.FieldType.array Jvm.ClassFile.FieldType.byte))).before args0 about1 = true := code_word (m := ⟨2, 6⟩) (meth := k2m6) (c := k2c6) (by decide +kernel) rfl rfl rfl (by decide +kernel)
set_option maxRecDepth 65536 in
theorem w_c21 : (Jvm.Cond.code ({ cls := "com/example/vestwork/vestwork/io/JsonScanner", name := "item", desc := "()Z" } : Jvm.MethodName) prog_45_method_12_code (2 : Nat) (Option.some Jvm.ClassFile.FieldType.boolean)).before args0 about1 = true := code_word (m := ⟨2, 5⟩) (meth := k2m5) (c := k2c5) (by decide +kernel) rfl rfl rfl (by decide +kernel)
set_option maxRecDepth 65536 in
theorem w_c22 : (Jvm.Cond.code ({ cls := "com/example/vestwork/vestwork/io/JsonScanner", name := "next", desc := "(C)Z" } : Jvm.MethodName) prog_45_method_35_code (5 : Nat) (Option.some Jvm.ClassFile.FieldType.boolean)).before args0 about1 = true := code_word (m := ⟨2, 7⟩) (meth := k2m7) (c := k2c7) (by decide +kernel) rfl rfl rfl (by decide +kernel)
def codes1 : List Jvm.Cond := [Jvm.Cond.code x code maxLocals ret, Jvm.Cond.code ({ cls := "com/example/vestwork/vestwork/io/JsonScannerResetPinLaw", name := "pal", desc := "(I)B" } : Jvm.MethodName) method_2_code (2 : Nat) (Option.some Jvm.ClassFile.FieldType.byte), Jvm.Cond.code ({ cls := "java/util/ArrayList", name := "<init>", desc := "()V" } : Jvm.MethodName) jdk_38_method_2_code (1 : Nat) (Option.none : Option Jvm.ClassFile.FieldType), Jvm.Cond.code ({ cls := "java/util/AbstractList", name := "<init>", desc := "()V" } : Jvm.MethodName) jdk_39_method_1_code (1 : Nat) (Option.none : Option Jvm.ClassFile.FieldType), Jvm.Cond.code ({ cls := "java/util/AbstractCollection", name := "<init>", desc := "()V" } : Jvm.MethodName) jdk_22_method_1_code (1 : Nat) (Option.none : Option Jvm.ClassFile.FieldType), Jvm.Cond.code ({ cls := "java/lang/Object", name := "<init>", desc := "()V" } : Jvm.MethodName) object_method_1_code (1 : Nat) (Option.none : Option Jvm.ClassFile.FieldType), Jvm.Cond.code ({ cls := "com/example/vestwork/vestwork/io/JsonScanner", name := "<init>", desc := "(Ljava/util/List;)V" } : Jvm.MethodName) prog_45_method_2_code (5 : Nat) (Option.none : Option Jvm.ClassFile.FieldType), Jvm.Cond.code ({ cls := "java/util/HashMap", name := "<init>", desc := "()V" } : Jvm.MethodName) jdk_69_method_7_code (1 : Nat) (Option.none : Option Jvm.ClassFile.FieldType), Jvm.Cond.code ({ cls := "java/util/AbstractMap", name := "<init>", desc := "()V" } : Jvm.MethodName) jdk_71_method_1_code (1 : Nat) (Option.none : Option Jvm.ClassFile.FieldType), Jvm.Cond.code ({ cls := "java/util/ArrayList", name := "iterator", desc := "()Ljava/util/Iterator;" } : Jvm.MethodName) jdk_38_method_55_code (1 : Nat) (Option.some (Jvm.ClassFile.FieldType.object "java/util/Iterator")), Jvm.Cond.code ({ cls := "java/util/ArrayList$Itr", name := "<init>", desc := "(Ljava/util/ArrayList;)V" } : Jvm.MethodName) jdk_49_method_1_code (2 : Nat) (Option.none : Option Jvm.ClassFile.FieldType), Jvm.Cond.code ({ cls := "java/util/ArrayList$Itr", name := "hasNext", desc := "()Z" } : Jvm.MethodName) jdk_49_method_2_code (1 : Nat) (Option.some Jvm.ClassFile.FieldType.boolean), Jvm.Cond.code ({ cls := "java/util/Map", name := "copyOf", desc := "(Ljava/util/Map;)Ljava/util/Map;" } : Jvm.MethodName) jdk_72_method_39_code (1 : Nat) (Option.some (Jvm.ClassFile.FieldType.object "java/util/Map")), Jvm.Cond.code ({ cls := "java/util/HashMap", name := "isEmpty", desc := "()Z" } : Jvm.MethodName) jdk_69_method_11_code (1 : Nat) (Option.some Jvm.ClassFile.FieldType.boolean), Jvm.Cond.code ({ cls := "java/util/Map", name := "of", desc := "()Ljava/util/Map;" } : Jvm.MethodName) jdk_72_method_26_code (0 : Nat) (Option.some (Jvm.ClassFile.FieldType.object "java/util/Map")), Jvm.Cond.code ({ cls := "com/example/vestwork/vestwork/io/JsonScanner", name := "reset", desc := "([BII)V" } : Jvm.MethodName) prog_45_method_3_code (5 : Nat) (Option.none : Option Jvm.ClassFile.FieldType), Jvm.Cond.code ({ cls := "com/example/vestwork/vestwork/io/JsonScanner", name := "value", desc := "()Lcom/example/vestwork/vestwork/io/JsonScanner$Kind;" } : Jvm.MethodName) prog_45_method_6_code (3 : Nat) (Option.some (Jvm.ClassFile.FieldType.object "com/example/vestwork/vestwork/io/JsonScanner$Kind")), Jvm.Cond.code ({ cls := "com/example/vestwork/vestwork/io/JsonScanner", name := "valueAfterSpace", desc := "()Lcom/example/vestwork/vestwork/io/JsonScanner$Kind;" } : Jvm.MethodName) prog_45_method_8_code (4 : Nat) (Option.some (Jvm.ClassFile.FieldType.object "com/example/vestwork/vestwork/io/JsonScanner$Kind")), Jvm.Cond.code ({ cls := "com/example/vestwork/vestwork/io/JsonScanner", name := "space", desc := "()I" } : Jvm.MethodName) prog_45_method_43_code (1 : Nat) (Option.some Jvm.ClassFile.FieldType.int), Jvm.Cond.code ({ cls := "com/example/vestwork/vestwork/io/JsonScanner", name := "skipSpace", desc := "(I)I" } : Jvm.MethodName) prog_45_method_44_code (3 : Nat) (Option.some Jvm.ClassFile.FieldType.int), Jvm.Cond.code ({ cls := "com/example/vestwork/vestwork/io/JsonScanner", name := "bytes", desc := "()[B" } : Jvm.MethodName) prog_45_method_27_code (1 : Nat) (Option.some (Jvm.ClassFile.FieldType.array Jvm.ClassFile.FieldType.byte)), Jvm.Cond.code ({ cls := "com/example/vestwork/vestwork/io/JsonScanner", name := "item", desc := "()Z" } : Jvm.MethodName) prog_45_method_12_code (2 : Nat) (Option.some Jvm.ClassFile.FieldType.boolean), Jvm.Cond.code ({ cls := "com/example/vestwork/vestwork/io/JsonScanner", name := "next", desc := "(C)Z" } : Jvm.MethodName) prog_45_method_35_code (5 : Nat) (Option.some Jvm.ClassFile.FieldType.boolean)]
set_option maxRecDepth 65536 in
theorem codes_eq : words1.filter isCode = codes1 := rfl
theorem w_codes : ∀ c ∈ words1.filter isCode, c.before args0 about1 = true := by
  rw [codes_eq]
  intro c hc
  simp only [codes1, List.mem_cons, List.not_mem_nil, or_false] at hc
  rcases hc with rfl | rfl | rfl | rfl | rfl | rfl | rfl | rfl | rfl | rfl | rfl | rfl | rfl | rfl | rfl | rfl | rfl | rfl | rfl | rfl | rfl | rfl | rfl
  · exact w_c0
  · exact w_c1
  · exact w_c2
  · exact w_c3
  · exact w_c4
  · exact w_c5
  · exact w_c6
  · exact w_c7
  · exact w_c8
  · exact w_c9
  · exact w_c10
  · exact w_c11
  · exact w_c12
  · exact w_c13
  · exact w_c14
  · exact w_c15
  · exact w_c16
  · exact w_c17
  · exact w_c18
  · exact w_c19
  · exact w_c20
  · exact w_c21
  · exact w_c22
set_option maxRecDepth 65536 in
theorem w_t1 : (words1.take 24).all (fun c => isCode c || c.before args0 about1) = true := by decide +kernel
set_option maxRecDepth 65536 in
theorem w_t2 : ((words1.drop 24).take 24).all (fun c => isCode c || c.before args0 about1) = true := by decide +kernel
set_option maxRecDepth 65536 in
theorem w_t3 : (((words1.drop 24).drop 24).take 24).all (fun c => isCode c || c.before args0 about1) = true := by decide +kernel
set_option maxRecDepth 65536 in
theorem w_t4 : ((((words1.drop 24).drop 24).drop 24).take 24).all (fun c => isCode c || c.before args0 about1) = true := by decide +kernel
set_option maxRecDepth 65536 in
theorem w_t5 : (((((words1.drop 24).drop 24).drop 24).drop 24).take 24).all (fun c => isCode c || c.before args0 about1) = true := by decide +kernel
set_option maxRecDepth 65536 in
theorem w_t6 : ((((((words1.drop 24).drop 24).drop 24).drop 24).drop 24).take 24).all (fun c => isCode c || c.before args0 about1) = true := by decide +kernel
set_option maxRecDepth 65536 in
theorem w_t7 : (((((((words1.drop 24).drop 24).drop 24).drop 24).drop 24).drop 24).take 24).all (fun c => isCode c || c.before args0 about1) = true := by decide +kernel
set_option maxRecDepth 65536 in
theorem w_t8 : ((((((((words1.drop 24).drop 24).drop 24).drop 24).drop 24).drop 24).drop 24).take 24).all (fun c => isCode c || c.before args0 about1) = true := by decide +kernel
set_option maxRecDepth 65536 in
theorem w_t9 : ((((((((words1.drop 24).drop 24).drop 24).drop 24).drop 24).drop 24).drop 24).drop 24).all (fun c => isCode c || c.before args0 about1) = true := by decide +kernel
theorem w_tables : (allAtoms (Jvm.Cond.code x code maxLocals ret :: tables_1)).before args0 about1 = true := by
  rw [allAtoms_all]
  show words1.all (fun c => c.before args0 about1) = true
  refine all_split ?_ w_codes
  rw [← List.take_append_drop 24 words1, List.all_append, w_t1, ← List.take_append_drop 24 (words1.drop 24), List.all_append, w_t2, ← List.take_append_drop 24 ((words1.drop 24).drop 24), List.all_append, w_t3, ← List.take_append_drop 24 (((words1.drop 24).drop 24).drop 24), List.all_append, w_t4, ← List.take_append_drop 24 ((((words1.drop 24).drop 24).drop 24).drop 24), List.all_append, w_t5, ← List.take_append_drop 24 (((((words1.drop 24).drop 24).drop 24).drop 24).drop 24), List.all_append, w_t6, ← List.take_append_drop 24 ((((((words1.drop 24).drop 24).drop 24).drop 24).drop 24).drop 24), List.all_append, w_t7, ← List.take_append_drop 24 (((((((words1.drop 24).drop 24).drop 24).drop 24).drop 24).drop 24).drop 24), List.all_append, w_t8, w_t9]
  rfl
set_option maxRecDepth 65536 in
theorem w_rest : rest_1_c.before args0 about1 = true := by decide +kernel
set_option maxRecDepth 65536 in
theorem w_case : (Jvm.Cond.and given_1 narrow_1).before args0 about1 = true := by decide +kernel
theorem w_applies : (headSpec (Jvm.Cond.code x code maxLocals ret :: tables_1) room_1).applies x e0.platform about1 = true :=
  (Spec.applies_iff w_frames).mpr ⟨w_running, w_runnable, w_alone, w_named, w_hears, w_ripe, w_room, w_tables⟩
theorem atStart : AtStart classFile x code maxLocals ret World_1 tables_1 room_1 Calls_1 rest_1 Pre_1 launch0 p0 e0 about1 theMethod args0 below0 :=
  ⟨lists_1, trivial, launch0.admits_env _ _ _, launch0.least_env, fairChoices_fair.cas, fairChoices_fair.clock, w_frames, w_args, w_heap, w_applies, trivial, w_rest, w_case⟩
end start1
theorem witness_1 : WitnessClaimed_1 := ⟨start1.p0, start1.e0, start1.about1, start1.theMethod, start1.args0, start1.below0, start1.atStart⟩
end Jvm.Pilot.@@N@@
