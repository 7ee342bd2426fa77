import JvmDerived
import JvmDerived.Pilot.@@N@@Statement
import JvmDerived.Pilot.@@N@@Code
set_option linter.unusedVariables false
set_option linter.unusedSimpArgs false
namespace Jvm.RoadKit
open Sem ClassFile Op Lib Jvm.Stand Jvm.Free Jvm.LawKit
section New
variable {p : Program} {l : Launch} {e : Env} {R : Room} {s : State} {m : MethodId} {args : Array Value} {below : List Frame} {meth : Method} {c : Code} {T : State} {locs : List Loc} {cells slots : Nat}
theorem retI (X : Stand p l e R s m args below meth c T locs cells slots) (hx : p.tables.exec = Jvm.exec) {pc : Nat} {Ls : Array Slot} {z : Int32} {rest : List Value} (hret : meth.sig.returnType = some .int) (hd : decode c.code pc = .ok (.ireturn, 1)) {fs : List Frame}
    (hl : ∀ (f : JFrame) (acts : List Action), f.method = m → f.locked = none → f.entered = [] → (doReturn e (T.setTop f) acts (some (.int z))).1 = T.setFrames fs) : Steps p.tables e below (T.setTop (mkF m pc Ls (.int z :: rest))) (T.setFrames fs) := by
  have hm' : T.vm.method? m = some meth := X.method'
  have hn : narrow .int (.int z) = .int z := rfl
  show Steps p.tables e below (T.setTop { method := m, pc := pc, locals := Ls, stack := _ :: rest, locked := none }) _
  jvm_step X.here [X.here.top, hx, hd, hm', hret, hn]
  first | (intro acts; rw [hl _ acts rfl rfl rfl]) | rw [hl _ _ rfl rfl rfl]
  exact Steps.refl _
end New
end Jvm.RoadKit
namespace Jvm.Pilot.@@N@@
open Jvm Jvm.ClassFile Sem Op Lib Jvm.Free Jvm.Stand Jvm.LawKit Jvm.RoadKit Bundle Jvm.Pilot.@@N@@.Jvm.D
/-- the road so far: whoever comes from T with the frame g comes from S -/
def Rch (p : Program) (e : Env) (below : List Frame) (S T : State) (g : JFrame) : Prop := ∀ t, Steps p.tables e below (T.setTop g) t → Steps p.tables e below S t
theorem own_sta_keep {Z : State} {h h' : Heap} {C n d : String} {v : Value} {ws : List Addr} (F : Sta Z h C n d v) (K : Keep h h' ws) (q : ∀ x ∈ ws, ∀ cell : Cell, h[x]? = some cell → cell.vm.isStatics = false) : Sta Z h' C n d v := by
  obtain ⟨cf, i, k, f, st, cell, h1, h2, h3, h4, h5, h6, h7⟩ := F
  exact ⟨cf, i, k, f, st, cell, h1, h2, h3, h4, K.2.1 _ _ h5 (fun hm => by rw [q st hm cell h5] at h6; cases h6), h6, h7⟩
theorem own_selp {Z s : State} {a0 args : Array Value} {y : MethodName} {n : Nat} (hZ : Z.Warmed39 s.vm) (wi : (Jvm.Cond.instantiable y.cls n).before a0 Z = true) (wp : (Jvm.Cond.privateMethod y).before a0 Z = true) (wm : (Jvm.Cond.instanceMethod y).before a0 Z = true) (hy : y.cls ≠ "java/lang/invoke/MethodHandle" ∧ y.cls ≠ "java/lang/invoke/VarHandle") : (Jvm.Cond.selects y.cls y y).before args s = true := by
  have wi' : (Jvm.Cond.instantiable y.cls n).before args s = true := mvT hZ wi
  obtain ⟨c, k, h1, h2, h3, h4, -⟩ := Cond.instantiable_spec wi'
  exact selects_self_of_private h1 h2 (Bool.or_eq_false_iff.mp h4).1 (Cond.privateMethod_at (mvP hZ wp (args := #[]))) (mvT hZ wm) hy
theorem own_eq_int {args : Array Value} {s : State} {a : Term} {k : Int32} (h : (Jvm.Cond.eq a (Term.int k)).value args s none s [] = some true) : a.eval args s none [] s = some (.int k) := by
  simp only [Cond.value, Term.eval] at h
  cases ha : a.eval args s none [] s with
  | none => simp [ha] at h
  | some x => cases x <;> simp [ha] at h ⊢; exact h
theorem own_eq_ref {args : Array Value} {s : State} {a b : Term} {y : Addr} (h : (Jvm.Cond.eq a b).value args s none s [] = some true) (hb : b.eval args s none [] s = some (.ref y)) : a.eval args s none [] s = some (.ref y) := by
  simp only [Cond.value] at h
  cases ha : a.eval args s none [] s with
  | none => simp [ha] at h
  | some x => cases x <;> simp [ha, hb] at h ⊢; exact h
theorem own_i {a b : Int32} (h : a = b) : some (Value.int a) = some (Value.int b) := by rw [h]
theorem own_v {a b : Addr} (h : a = b) : some (Value.ref a) = some (Value.ref b) := by rw [h]
theorem own_rem (q m n : Int32) (hm : 0 ≤ m.toInt) (hn : 0 < n.toInt) : 0 ≤ ((q &&& m) % n).toInt ∧ ((q &&& m) % n).toInt < n.toInt := by
  have h1 := c_and q m hm
  have h2 := (c_irem (q &&& m) n n.toInt rfl).1 h1.1
  rw [h2]
  exact ⟨Int.emod_nonneg _ (by omega), Int.emod_lt_of_pos _ hn⟩
def own_ok (k : Int32) : Prop := k = 0 ∨ k = 1 ∨ k = 2 ∨ k = 3 ∨ k = 4 ∨ k = 5 ∨ k = 6 ∨ k = 7 ∨ k = 8 ∨ k = 9 ∨ k = 10 ∨ k = 11 ∨ k = 12 ∨ k = 13 ∨ k = 14 ∨ k = 15 ∨ k = 16 ∨ k = 17 ∨ k = 18 ∨ k = 19 ∨ k = 20 ∨ k = 21 ∨ k = 22 ∨ k = 23 ∨ k = 24 ∨ k = 25 ∨ k = 26 ∨ k = 27 ∨ k = 28
theorem own_k0 (q0 : Int32) : ((q0 &&& (2147483647 : Int32)) % (29 : Int32)) = (0 : Int32) ∨ ((q0 &&& (2147483647 : Int32)) % (29 : Int32)) = (1 : Int32) ∨ ((q0 &&& (2147483647 : Int32)) % (29 : Int32)) = (2 : Int32) ∨ ((q0 &&& (2147483647 : Int32)) % (29 : Int32)) = (3 : Int32) ∨ ((q0 &&& (2147483647 : Int32)) % (29 : Int32)) = (4 : Int32) ∨ ((q0 &&& (2147483647 : Int32)) % (29 : Int32)) = (5 : Int32) ∨ ((q0 &&& (2147483647 : Int32)) % (29 : Int32)) = (6 : Int32) ∨ ((q0 &&& (2147483647 : Int32)) % (29 : Int32)) = (7 : Int32) ∨ ((q0 &&& (2147483647 : Int32)) % (29 : Int32)) = (8 : Int32) ∨ ((q0 &&& (2147483647 : Int32)) % (29 : Int32)) = (9 : Int32) ∨ ((q0 &&& (2147483647 : Int32)) % (29 : Int32)) = (10 : Int32) ∨ ((q0 &&& (2147483647 : Int32)) % (29 : Int32)) = (11 : Int32) ∨ ((q0 &&& (2147483647 : Int32)) % (29 : Int32)) = (12 : Int32) ∨ ((q0 &&& (2147483647 : Int32)) % (29 : Int32)) = (13 : Int32) ∨ ((q0 &&& (2147483647 : Int32)) % (29 : Int32)) = (14 : Int32) ∨ ((q0 &&& (2147483647 : Int32)) % (29 : Int32)) = (15 : Int32) ∨ ((q0 &&& (2147483647 : Int32)) % (29 : Int32)) = (16 : Int32) ∨ ((q0 &&& (2147483647 : Int32)) % (29 : Int32)) = (17 : Int32) ∨ ((q0 &&& (2147483647 : Int32)) % (29 : Int32)) = (18 : Int32) ∨ ((q0 &&& (2147483647 : Int32)) % (29 : Int32)) = (19 : Int32) ∨ ((q0 &&& (2147483647 : Int32)) % (29 : Int32)) = (20 : Int32) ∨ ((q0 &&& (2147483647 : Int32)) % (29 : Int32)) = (21 : Int32) ∨ ((q0 &&& (2147483647 : Int32)) % (29 : Int32)) = (22 : Int32) ∨ ((q0 &&& (2147483647 : Int32)) % (29 : Int32)) = (23 : Int32) ∨ ((q0 &&& (2147483647 : Int32)) % (29 : Int32)) = (24 : Int32) ∨ ((q0 &&& (2147483647 : Int32)) % (29 : Int32)) = (25 : Int32) ∨ ((q0 &&& (2147483647 : Int32)) % (29 : Int32)) = (26 : Int32) ∨ ((q0 &&& (2147483647 : Int32)) % (29 : Int32)) = (27 : Int32) ∨ ((q0 &&& (2147483647 : Int32)) % (29 : Int32)) = (28 : Int32) := by
  have h : 0 ≤ (((q0 &&& (2147483647 : Int32)) % (29 : Int32))).toInt ∧ (((q0 &&& (2147483647 : Int32)) % (29 : Int32))).toInt < 29 := own_rem q0 2147483647 29 (by decide) (by decide)
  generalize ((q0 &&& (2147483647 : Int32)) % (29 : Int32)) = r at h ⊢
  have hr : r.toInt = 0 ∨ r.toInt = 1 ∨ r.toInt = 2 ∨ r.toInt = 3 ∨ r.toInt = 4 ∨ r.toInt = 5 ∨ r.toInt = 6 ∨ r.toInt = 7 ∨ r.toInt = 8 ∨ r.toInt = 9 ∨ r.toInt = 10 ∨ r.toInt = 11 ∨ r.toInt = 12 ∨ r.toInt = 13 ∨ r.toInt = 14 ∨ r.toInt = 15 ∨ r.toInt = 16 ∨ r.toInt = 17 ∨ r.toInt = 18 ∨ r.toInt = 19 ∨ r.toInt = 20 ∨ r.toInt = 21 ∨ r.toInt = 22 ∨ r.toInt = 23 ∨ r.toInt = 24 ∨ r.toInt = 25 ∨ r.toInt = 26 ∨ r.toInt = 27 ∨ r.toInt = 28 := by omega
  rcases hr with h' | h' | h' | h' | h' | h' | h' | h' | h' | h' | h' | h' | h' | h' | h' | h' | h' | h' | h' | h' | h' | h' | h' | h' | h' | h' | h' | h' | h' <;> simp [← Int32.toInt_inj, h']
def own_cl (p : Int32) : Int32 := if p = 0 then 0 else if p = 1 then 1 else if p = 2 then 2 else if p = 3 then 3 else if p = 4 then 4 else if p = 5 then 5 else if p = 6 then 6 else if p = 7 then 7 else if p = 8 then 8 else if p = 9 then 9 else if p = 10 then 10 else if p = 11 then 11 else if p = 12 then 12 else if p = 13 then 13 else if p = 14 then 14 else if p = 15 then 15 else if p = 16 then 16 else if p = 17 then 17 else if p = 18 then 18 else if p = 19 then 19 else if p = 20 then 20 else if p = 21 then 21 else if p = 22 then 22 else if p = 23 then 23 else if p = 24 then 24 else if p = 25 then 25 else if p = 26 then 26 else if p = 27 then 27 else 28
theorem own_cl_ok {k : Int32} (h : own_ok k) : own_cl k = k := by
  rcases h with rfl | rfl | rfl | rfl | rfl | rfl | rfl | rfl | rfl | rfl | rfl | rfl | rfl | rfl | rfl | rfl | rfl | rfl | rfl | rfl | rfl | rfl | rfl | rfl | rfl | rfl | rfl | rfl | rfl <;> decide
def own_h (x : Int32) : Int32 := if x - 10 < 0 then 1 else 0
theorem own_k (q0 : Int32) : ((q0 &&& (2147483647 : Int32)) % (29 : Int32)) = (0 : Int32) ∨ ((q0 &&& (2147483647 : Int32)) % (29 : Int32)) = (1 : Int32) ∨ ((q0 &&& (2147483647 : Int32)) % (29 : Int32)) = (2 : Int32) ∨ ((q0 &&& (2147483647 : Int32)) % (29 : Int32)) = (3 : Int32) ∨ ((q0 &&& (2147483647 : Int32)) % (29 : Int32)) = (4 : Int32) ∨ ((q0 &&& (2147483647 : Int32)) % (29 : Int32)) = (5 : Int32) ∨ ((q0 &&& (2147483647 : Int32)) % (29 : Int32)) = (6 : Int32) ∨ ((q0 &&& (2147483647 : Int32)) % (29 : Int32)) = (7 : Int32) ∨ ((q0 &&& (2147483647 : Int32)) % (29 : Int32)) = (8 : Int32) ∨ ((q0 &&& (2147483647 : Int32)) % (29 : Int32)) = (9 : Int32) ∨ (own_ok ((q0 &&& (2147483647 : Int32)) % (29 : Int32)) ∧ own_h ((q0 &&& (2147483647 : Int32)) % (29 : Int32)) = 0 ∧ ((q0 &&& (2147483647 : Int32)) % (29 : Int32)) ≠ (0 : Int32) ∧ ((q0 &&& (2147483647 : Int32)) % (29 : Int32)) ≠ (1 : Int32) ∧ ((q0 &&& (2147483647 : Int32)) % (29 : Int32)) ≠ (2 : Int32) ∧ ((q0 &&& (2147483647 : Int32)) % (29 : Int32)) ≠ (3 : Int32) ∧ ((q0 &&& (2147483647 : Int32)) % (29 : Int32)) ≠ (4 : Int32) ∧ ((q0 &&& (2147483647 : Int32)) % (29 : Int32)) ≠ (5 : Int32) ∧ ((q0 &&& (2147483647 : Int32)) % (29 : Int32)) ≠ (6 : Int32) ∧ ((q0 &&& (2147483647 : Int32)) % (29 : Int32)) ≠ (7 : Int32) ∧ ((q0 &&& (2147483647 : Int32)) % (29 : Int32)) ≠ (8 : Int32) ∧ ((q0 &&& (2147483647 : Int32)) % (29 : Int32)) ≠ (9 : Int32)) := by
  rcases own_k0 q0 with h | h | h | h | h | h | h | h | h | h | h | h | h | h | h | h | h | h | h | h | h | h | h | h | h | h | h | h | h <;> rw [h] <;> simp [own_ok, own_h] <;> decide
def own_Mir (Z : State) (C : String) (mr : Addr) : Prop := ∃ (c : ClassId) (k : Class), Z.vm.findClass C = some c ∧ Z.vm.classes[c]? = some k ∧ k.mirror = some mr
theorem own_gcls {p : Program} {l : Launch} {e : Env} {R : Room} {s : State} {m : MethodId} {args : Array Value} {below : List Frame} {meth : Method} {c : Code} {T : State} {locs : List Loc} {cells slots : Nat} {Z : State} {h : Heap} {a : Addr} (X : Stand p l e R s m args below meth c T locs cells slots) (hx : p.tables.exec = Jvm.exec) (hZ : Z.Warmed39 s.vm) {a0 : Array Value} {own C : String} {index : Nat} (hown : s.vm.findClass own = some m.cls)
    (w1 : (Jvm.Cond.methodLink own index ⟨"java/lang/Object", "getClass", "()Ljava/lang/Class;"⟩).before a0 Z = true) (w2 : (Jvm.Cond.declares ⟨"java/lang/Object", "getClass", "()Ljava/lang/Class;"⟩).before a0 Z = true) (w4 : (Jvm.Cond.selects C ⟨"java/lang/Object", "getClass", "()Ljava/lang/Class;"⟩ ⟨"java/lang/Object", "getClass", "()Ljava/lang/Class;"⟩).before a0 Z = true)
    (w5 : (Jvm.Cond.instanceMethod ⟨"java/lang/Object", "getClass", "()Ljava/lang/Class;"⟩).before a0 Z = true) (w6 : (Jvm.Cond.native ⟨"java/lang/Object", "getClass", "()Ljava/lang/Class;"⟩).before a0 Z = true) (eT : T.heap = h) (E : Exa Z h a C) {mr : Addr} (M : own_Mir Z C mr)
    {g : JFrame} (hg : g.method = m) (hsize : g.locals.size = c.maxLocals) {rest : List Value} (hs : g.stack = .ref a :: rest) (hd : decode c.code g.pc = .ok (.invokevirtual index, 3)) (hf : 1 ≤ R.frames) (hl : 2 * g.monitorRoom + (rest.map fun v => v.category).sum + 14 ≤ R.locals) :
    ∃ T', Stand p l e R s m args below meth c T' locs cells slots ∧ T'.heap = h ∧ ∀ target, Steps p.tables e below (T'.setTop { g with pc := g.pc + 3, stack := .ref mr :: rest }) target → Steps p.tables e below (T.setTop g) target := by
  obtain ⟨cc, kc, m1, m2, m3⟩ := M
  obtain ⟨cB, kB, i1, i2, i3⟩ := isOf hZ eT E
  have i1' : Z.vm.findClass C = some cB := by rw [← hZ.alike.findClass]; exact i1
  have hcc : cB = cc := Option.some.inj (i1'.symm.trans m1)
  subst hcc
  obtain ⟨k', q, ek⟩ := hZ.alike.2.2 _ _ m2
  have hw4 : (Jvm.Cond.selects C ⟨"java/lang/Object", "getClass", "()Ljava/lang/Class;"⟩ ⟨"java/lang/Object", "getClass", "()Ljava/lang/Class;"⟩).before args s = true := mvT hZ w4
  obtain ⟨vm', X', st⟩ := X.getClassOf hx hown (mvT hZ w1) (mvT hZ w2) (notFace_of_selects hw4) hw4 (mvT hZ w5) (mvT hZ w6) i1 i3 q (by rw [ek]; exact m3) hg hsize hs hd hf hl
  exact ⟨_, X', eT, st⟩
theorem d1_0 : decode method_3_code 0 = .ok (.iload_n 0, 1) := by decide +kernel
theorem d1_1 : decode method_3_code 1 = .ok (.ifCond .ne 7, 3) := by decide +kernel
theorem d1_4 : decode method_3_code 4 = .ok (.getstatic 14, 3) := by decide +kernel
theorem d1_7 : decode method_3_code 7 = .ok (.areturn, 1) := by decide +kernel
theorem d1_8 : decode method_3_code 8 = .ok (.iload_n 0, 1) := by decide +kernel
theorem d1_9 : decode method_3_code 9 = .ok (.iconst 1, 1) := by decide +kernel
theorem d1_10 : decode method_3_code 10 = .ok (.if_icmp .ne 7, 3) := by decide +kernel
theorem d1_13 : decode method_3_code 13 = .ok (.getstatic 20, 3) := by decide +kernel
theorem d1_16 : decode method_3_code 16 = .ok (.areturn, 1) := by decide +kernel
theorem d1_17 : decode method_3_code 17 = .ok (.iload_n 0, 1) := by decide +kernel
theorem d1_18 : decode method_3_code 18 = .ok (.iconst 2, 1) := by decide +kernel
theorem d1_19 : decode method_3_code 19 = .ok (.if_icmp .ne 7, 3) := by decide +kernel
theorem d1_22 : decode method_3_code 22 = .ok (.getstatic 23, 3) := by decide +kernel
theorem d1_25 : decode method_3_code 25 = .ok (.areturn, 1) := by decide +kernel
theorem d1_26 : decode method_3_code 26 = .ok (.iload_n 0, 1) := by decide +kernel
theorem d1_27 : decode method_3_code 27 = .ok (.iconst 3, 1) := by decide +kernel
theorem d1_28 : decode method_3_code 28 = .ok (.if_icmp .ne 7, 3) := by decide +kernel
theorem d1_31 : decode method_3_code 31 = .ok (.getstatic 26, 3) := by decide +kernel
theorem d1_34 : decode method_3_code 34 = .ok (.areturn, 1) := by decide +kernel
theorem d1_35 : decode method_3_code 35 = .ok (.iload_n 0, 1) := by decide +kernel
theorem d1_36 : decode method_3_code 36 = .ok (.iconst 4, 1) := by decide +kernel
theorem d1_37 : decode method_3_code 37 = .ok (.if_icmp .ne 7, 3) := by decide +kernel
theorem d1_40 : decode method_3_code 40 = .ok (.getstatic 29, 3) := by decide +kernel
theorem d1_43 : decode method_3_code 43 = .ok (.areturn, 1) := by decide +kernel
theorem d1_44 : decode method_3_code 44 = .ok (.iload_n 0, 1) := by decide +kernel
theorem d1_45 : decode method_3_code 45 = .ok (.iconst 5, 1) := by decide +kernel
theorem d1_46 : decode method_3_code 46 = .ok (.if_icmp .ne 7, 3) := by decide +kernel
theorem d1_49 : decode method_3_code 49 = .ok (.getstatic 32, 3) := by decide +kernel
theorem d1_52 : decode method_3_code 52 = .ok (.areturn, 1) := by decide +kernel
theorem d1_53 : decode method_3_code 53 = .ok (.iload_n 0, 1) := by decide +kernel
theorem d1_54 : decode method_3_code 54 = .ok (.bipush 6, 2) := by decide +kernel
theorem d1_56 : decode method_3_code 56 = .ok (.if_icmp .ne 7, 3) := by decide +kernel
theorem d1_59 : decode method_3_code 59 = .ok (.getstatic 35, 3) := by decide +kernel
theorem d1_62 : decode method_3_code 62 = .ok (.areturn, 1) := by decide +kernel
theorem d1_63 : decode method_3_code 63 = .ok (.iload_n 0, 1) := by decide +kernel
theorem d1_64 : decode method_3_code 64 = .ok (.bipush 7, 2) := by decide +kernel
theorem d1_66 : decode method_3_code 66 = .ok (.if_icmp .ne 7, 3) := by decide +kernel
theorem d1_69 : decode method_3_code 69 = .ok (.getstatic 38, 3) := by decide +kernel
theorem d1_72 : decode method_3_code 72 = .ok (.areturn, 1) := by decide +kernel
theorem d1_73 : decode method_3_code 73 = .ok (.iload_n 0, 1) := by decide +kernel
theorem d1_74 : decode method_3_code 74 = .ok (.bipush 8, 2) := by decide +kernel
theorem d1_76 : decode method_3_code 76 = .ok (.if_icmp .ne 7, 3) := by decide +kernel
theorem d1_79 : decode method_3_code 79 = .ok (.getstatic 41, 3) := by decide +kernel
theorem d1_82 : decode method_3_code 82 = .ok (.areturn, 1) := by decide +kernel
theorem d1_83 : decode method_3_code 83 = .ok (.iload_n 0, 1) := by decide +kernel
theorem d1_84 : decode method_3_code 84 = .ok (.bipush 9, 2) := by decide +kernel
theorem d1_86 : decode method_3_code 86 = .ok (.if_icmp .ne 7, 3) := by decide +kernel
theorem d1_89 : decode method_3_code 89 = .ok (.getstatic 44, 3) := by decide +kernel
theorem d1_92 : decode method_3_code 92 = .ok (.areturn, 1) := by decide +kernel
theorem d1_93 : decode method_3_code 93 = .ok (.iload_n 0, 1) := by decide +kernel
theorem d1_94 : decode method_3_code 94 = .ok (.bipush 10, 2) := by decide +kernel
theorem d1_96 : decode method_3_code 96 = .ok (.if_icmp .ne 7, 3) := by decide +kernel
theorem d1_99 : decode method_3_code 99 = .ok (.getstatic 51, 3) := by decide +kernel
theorem d1_102 : decode method_3_code 102 = .ok (.areturn, 1) := by decide +kernel
theorem d1_103 : decode method_3_code 103 = .ok (.iload_n 0, 1) := by decide +kernel
theorem d1_104 : decode method_3_code 104 = .ok (.bipush 11, 2) := by decide +kernel
theorem d1_106 : decode method_3_code 106 = .ok (.if_icmp .ne 7, 3) := by decide +kernel
theorem d1_109 : decode method_3_code 109 = .ok (.getstatic 54, 3) := by decide +kernel
theorem d1_112 : decode method_3_code 112 = .ok (.areturn, 1) := by decide +kernel
theorem d1_113 : decode method_3_code 113 = .ok (.iload_n 0, 1) := by decide +kernel
theorem d1_114 : decode method_3_code 114 = .ok (.bipush 12, 2) := by decide +kernel
theorem d1_116 : decode method_3_code 116 = .ok (.if_icmp .ne 7, 3) := by decide +kernel
theorem d1_119 : decode method_3_code 119 = .ok (.getstatic 57, 3) := by decide +kernel
theorem d1_122 : decode method_3_code 122 = .ok (.areturn, 1) := by decide +kernel
theorem d1_123 : decode method_3_code 123 = .ok (.iload_n 0, 1) := by decide +kernel
theorem d1_124 : decode method_3_code 124 = .ok (.bipush 13, 2) := by decide +kernel
theorem d1_126 : decode method_3_code 126 = .ok (.if_icmp .ne 7, 3) := by decide +kernel
theorem d1_129 : decode method_3_code 129 = .ok (.getstatic 60, 3) := by decide +kernel
theorem d1_132 : decode method_3_code 132 = .ok (.areturn, 1) := by decide +kernel
theorem d1_133 : decode method_3_code 133 = .ok (.iload_n 0, 1) := by decide +kernel
theorem d1_134 : decode method_3_code 134 = .ok (.bipush 14, 2) := by decide +kernel
theorem d1_136 : decode method_3_code 136 = .ok (.if_icmp .ne 7, 3) := by decide +kernel
theorem d1_139 : decode method_3_code 139 = .ok (.getstatic 63, 3) := by decide +kernel
theorem d1_142 : decode method_3_code 142 = .ok (.areturn, 1) := by decide +kernel
theorem d1_143 : decode method_3_code 143 = .ok (.iload_n 0, 1) := by decide +kernel
theorem d1_144 : decode method_3_code 144 = .ok (.bipush 15, 2) := by decide +kernel
theorem d1_146 : decode method_3_code 146 = .ok (.if_icmp .ne 7, 3) := by decide +kernel
theorem d1_149 : decode method_3_code 149 = .ok (.getstatic 66, 3) := by decide +kernel
theorem d1_152 : decode method_3_code 152 = .ok (.areturn, 1) := by decide +kernel
theorem d1_153 : decode method_3_code 153 = .ok (.iload_n 0, 1) := by decide +kernel
theorem d1_154 : decode method_3_code 154 = .ok (.bipush 16, 2) := by decide +kernel
theorem d1_156 : decode method_3_code 156 = .ok (.if_icmp .ne 7, 3) := by decide +kernel
theorem d1_159 : decode method_3_code 159 = .ok (.getstatic 69, 3) := by decide +kernel
theorem d1_162 : decode method_3_code 162 = .ok (.areturn, 1) := by decide +kernel
theorem d1_163 : decode method_3_code 163 = .ok (.iload_n 0, 1) := by decide +kernel
theorem d1_164 : decode method_3_code 164 = .ok (.bipush 17, 2) := by decide +kernel
theorem d1_166 : decode method_3_code 166 = .ok (.if_icmp .ne 7, 3) := by decide +kernel
theorem d1_169 : decode method_3_code 169 = .ok (.getstatic 72, 3) := by decide +kernel
theorem d1_172 : decode method_3_code 172 = .ok (.areturn, 1) := by decide +kernel
theorem d1_173 : decode method_3_code 173 = .ok (.iload_n 0, 1) := by decide +kernel
theorem d1_174 : decode method_3_code 174 = .ok (.bipush 18, 2) := by decide +kernel
theorem d1_176 : decode method_3_code 176 = .ok (.if_icmp .ne 7, 3) := by decide +kernel
theorem d1_179 : decode method_3_code 179 = .ok (.getstatic 75, 3) := by decide +kernel
theorem d1_182 : decode method_3_code 182 = .ok (.areturn, 1) := by decide +kernel
theorem d1_183 : decode method_3_code 183 = .ok (.iload_n 0, 1) := by decide +kernel
theorem d1_184 : decode method_3_code 184 = .ok (.bipush 19, 2) := by decide +kernel
theorem d1_186 : decode method_3_code 186 = .ok (.if_icmp .ne 7, 3) := by decide +kernel
theorem d1_189 : decode method_3_code 189 = .ok (.getstatic 78, 3) := by decide +kernel
theorem d1_192 : decode method_3_code 192 = .ok (.areturn, 1) := by decide +kernel
theorem d1_193 : decode method_3_code 193 = .ok (.iload_n 0, 1) := by decide +kernel
theorem d1_194 : decode method_3_code 194 = .ok (.bipush 20, 2) := by decide +kernel
theorem d1_196 : decode method_3_code 196 = .ok (.if_icmp .ne 7, 3) := by decide +kernel
theorem d1_199 : decode method_3_code 199 = .ok (.getstatic 81, 3) := by decide +kernel
theorem d1_202 : decode method_3_code 202 = .ok (.areturn, 1) := by decide +kernel
theorem d1_203 : decode method_3_code 203 = .ok (.iload_n 0, 1) := by decide +kernel
theorem d1_204 : decode method_3_code 204 = .ok (.bipush 21, 2) := by decide +kernel
theorem d1_206 : decode method_3_code 206 = .ok (.if_icmp .ne 7, 3) := by decide +kernel
theorem d1_209 : decode method_3_code 209 = .ok (.getstatic 84, 3) := by decide +kernel
theorem d1_212 : decode method_3_code 212 = .ok (.areturn, 1) := by decide +kernel
theorem d1_213 : decode method_3_code 213 = .ok (.iload_n 0, 1) := by decide +kernel
theorem d1_214 : decode method_3_code 214 = .ok (.bipush 22, 2) := by decide +kernel
theorem d1_216 : decode method_3_code 216 = .ok (.if_icmp .ne 7, 3) := by decide +kernel
theorem d1_219 : decode method_3_code 219 = .ok (.getstatic 87, 3) := by decide +kernel
theorem d1_222 : decode method_3_code 222 = .ok (.areturn, 1) := by decide +kernel
theorem d1_223 : decode method_3_code 223 = .ok (.iload_n 0, 1) := by decide +kernel
theorem d1_224 : decode method_3_code 224 = .ok (.bipush 23, 2) := by decide +kernel
theorem d1_226 : decode method_3_code 226 = .ok (.if_icmp .ne 7, 3) := by decide +kernel
theorem d1_229 : decode method_3_code 229 = .ok (.getstatic 90, 3) := by decide +kernel
theorem d1_232 : decode method_3_code 232 = .ok (.areturn, 1) := by decide +kernel
theorem d1_233 : decode method_3_code 233 = .ok (.iload_n 0, 1) := by decide +kernel
theorem d1_234 : decode method_3_code 234 = .ok (.bipush 24, 2) := by decide +kernel
theorem d1_236 : decode method_3_code 236 = .ok (.if_icmp .ne 7, 3) := by decide +kernel
theorem d1_239 : decode method_3_code 239 = .ok (.getstatic 93, 3) := by decide +kernel
theorem d1_242 : decode method_3_code 242 = .ok (.areturn, 1) := by decide +kernel
theorem d1_243 : decode method_3_code 243 = .ok (.iload_n 0, 1) := by decide +kernel
theorem d1_244 : decode method_3_code 244 = .ok (.bipush 25, 2) := by decide +kernel
theorem d1_246 : decode method_3_code 246 = .ok (.if_icmp .ne 7, 3) := by decide +kernel
theorem d1_249 : decode method_3_code 249 = .ok (.getstatic 96, 3) := by decide +kernel
theorem d1_252 : decode method_3_code 252 = .ok (.areturn, 1) := by decide +kernel
theorem d1_253 : decode method_3_code 253 = .ok (.iload_n 0, 1) := by decide +kernel
theorem d1_254 : decode method_3_code 254 = .ok (.bipush 26, 2) := by decide +kernel
theorem d1_256 : decode method_3_code 256 = .ok (.if_icmp .ne 7, 3) := by decide +kernel
theorem d1_259 : decode method_3_code 259 = .ok (.getstatic 99, 3) := by decide +kernel
theorem d1_262 : decode method_3_code 262 = .ok (.areturn, 1) := by decide +kernel
theorem d1_263 : decode method_3_code 263 = .ok (.iload_n 0, 1) := by decide +kernel
theorem d1_264 : decode method_3_code 264 = .ok (.bipush 27, 2) := by decide +kernel
theorem d1_266 : decode method_3_code 266 = .ok (.if_icmp .ne 7, 3) := by decide +kernel
theorem d1_269 : decode method_3_code 269 = .ok (.getstatic 102, 3) := by decide +kernel
theorem d1_272 : decode method_3_code 272 = .ok (.areturn, 1) := by decide +kernel
theorem d1_273 : decode method_3_code 273 = .ok (.getstatic 105, 3) := by decide +kernel
theorem d1_276 : decode method_3_code 276 = .ok (.areturn, 1) := by decide +kernel
theorem ef_rm1 (m : MethodId) (x0 : Int32) : entryFrame m #[(.int x0)] 1 = mkF m 0 #[.val (.int x0)] [] := by first | (simp [entryFrame, mkF, argsToLocals, Value.category]; done) | rfl
theorem pn_0 : plainName "com/example/assertion_to_token/assertiontotoken/rules/RuleHoldsClientCredentialsPinLaw" = true := by first | (simp [plainName, overriddenIn]; done) | decide +kernel
def Q_rm1 (Z : State) (q0 : Int32) (fw : Int32 → Addr) (h0 : Heap) (n0 : Nat) (v : Option Value) (h : Heap) (L : List Loc) : Prop := (v = some (.ref (fw (own_cl q0)))) ∧ (Fr n0 L) ∧ (h = h0)
set_option maxRecDepth 65536 in
set_option maxHeartbeats 40000000 in
theorem rm1 (l : Launch) (Z : State) (a0 : Array Value) (hw : ∀ d ∈ tables_1, d.before a0 Z = true) (ws : List Jvm.Cond) (q0 : Int32) (fw : Int32 → Addr) (h0 : Heap) (n0 : Nat) (Z0 : n0 ≤ h0.size) (pS0 : Sta Z h0 "com/example/assertion_to_token/assertiontotoken/rules/Rule" "CLIENT" "Lcom/example/assertion_to_token/assertiontotoken/rules/Rule;" (.ref (fw (0 : Int32)))) (pS1 : Sta Z h0 "com/example/assertion_to_token/assertiontotoken/rules/Rule" "CLIENT_FORMAT" "Lcom/example/assertion_to_token/assertiontotoken/rules/Rule;" (.ref (fw (1 : Int32)))) (pS2 : Sta Z h0 "com/example/assertion_to_token/assertiontotoken/rules/Rule" "CLIENT_SUBJECT" "Lcom/example/assertion_to_token/assertiontotoken/rules/Rule;" (.ref (fw (2 : Int32)))) (pS3 : Sta Z h0 "com/example/assertion_to_token/assertiontotoken/rules/Rule" "CLIENT_ALGORITHM" "Lcom/example/assertion_to_token/assertiontotoken/rules/Rule;" (.ref (fw (3 : Int32)))) (pS4 : Sta Z h0 "com/example/assertion_to_token/assertiontotoken/rules/Rule" "CLIENT_SIGNATURE" "Lcom/example/assertion_to_token/assertiontotoken/rules/Rule;" (.ref (fw (4 : Int32)))) (pS5 : Sta Z h0 "com/example/assertion_to_token/assertiontotoken/rules/Rule" "CLIENT_AUDIENCE" "Lcom/example/assertion_to_token/assertiontotoken/rules/Rule;" (.ref (fw (5 : Int32)))) (pS6 : Sta Z h0 "com/example/assertion_to_token/assertiontotoken/rules/Rule" "CLIENT_EXPIRY" "Lcom/example/assertion_to_token/assertiontotoken/rules/Rule;" (.ref (fw (6 : Int32)))) (pS7 : Sta Z h0 "com/example/assertion_to_token/assertiontotoken/rules/Rule" "CLIENT_JTI" "Lcom/example/assertion_to_token/assertiontotoken/rules/Rule;" (.ref (fw (7 : Int32)))) (pS8 : Sta Z h0 "com/example/assertion_to_token/assertiontotoken/rules/Rule" "CLIENT_ID" "Lcom/example/assertion_to_token/assertiontotoken/rules/Rule;" (.ref (fw (8 : Int32)))) (pS9 : Sta Z h0 "com/example/assertion_to_token/assertiontotoken/rules/Rule" "CLIENT_REPLAY" "Lcom/example/assertion_to_token/assertiontotoken/rules/Rule;" (.ref (fw (9 : Int32)))) (pS10 : Sta Z h0 "com/example/assertion_to_token/assertiontotoken/rules/Rule" "FORMAT" "Lcom/example/assertion_to_token/assertiontotoken/rules/Rule;" (.ref (fw (10 : Int32)))) (pS11 : Sta Z h0 "com/example/assertion_to_token/assertiontotoken/rules/Rule" "ISSUER" "Lcom/example/assertion_to_token/assertiontotoken/rules/Rule;" (.ref (fw (11 : Int32)))) (pS12 : Sta Z h0 "com/example/assertion_to_token/assertiontotoken/rules/Rule" "CLIENT_REQUIRED" "Lcom/example/assertion_to_token/assertiontotoken/rules/Rule;" (.ref (fw (12 : Int32)))) (pS13 : Sta Z h0 "com/example/assertion_to_token/assertiontotoken/rules/Rule" "CLIENT_NOT_ALLOWED" "Lcom/example/assertion_to_token/assertiontotoken/rules/Rule;" (.ref (fw (13 : Int32)))) (pS14 : Sta Z h0 "com/example/assertion_to_token/assertiontotoken/rules/Rule" "TRUST_EXPIRED" "Lcom/example/assertion_to_token/assertiontotoken/rules/Rule;" (.ref (fw (14 : Int32)))) (pS15 : Sta Z h0 "com/example/assertion_to_token/assertiontotoken/rules/Rule" "ALGORITHM" "Lcom/example/assertion_to_token/assertiontotoken/rules/Rule;" (.ref (fw (15 : Int32)))) (pS16 : Sta Z h0 "com/example/assertion_to_token/assertiontotoken/rules/Rule" "KEY_SOURCE" "Lcom/example/assertion_to_token/assertiontotoken/rules/Rule;" (.ref (fw (16 : Int32)))) (pS17 : Sta Z h0 "com/example/assertion_to_token/assertiontotoken/rules/Rule" "KEY" "Lcom/example/assertion_to_token/assertiontotoken/rules/Rule;" (.ref (fw (17 : Int32)))) (pS18 : Sta Z h0 "com/example/assertion_to_token/assertiontotoken/rules/Rule" "SIGNATURE" "Lcom/example/assertion_to_token/assertiontotoken/rules/Rule;" (.ref (fw (18 : Int32)))) (pS19 : Sta Z h0 "com/example/assertion_to_token/assertiontotoken/rules/Rule" "SUBJECT" "Lcom/example/assertion_to_token/assertiontotoken/rules/Rule;" (.ref (fw (19 : Int32)))) (pS20 : Sta Z h0 "com/example/assertion_to_token/assertiontotoken/rules/Rule" "SUBJECT_NOT_ALLOWED" "Lcom/example/assertion_to_token/assertiontotoken/rules/Rule;" (.ref (fw (20 : Int32)))) (pS21 : Sta Z h0 "com/example/assertion_to_token/assertiontotoken/rules/Rule" "AUDIENCE" "Lcom/example/assertion_to_token/assertiontotoken/rules/Rule;" (.ref (fw (21 : Int32)))) (pS22 : Sta Z h0 "com/example/assertion_to_token/assertiontotoken/rules/Rule" "EXPIRY" "Lcom/example/assertion_to_token/assertiontotoken/rules/Rule;" (.ref (fw (22 : Int32)))) (pS23 : Sta Z h0 "com/example/assertion_to_token/assertiontotoken/rules/Rule" "NOT_BEFORE" "Lcom/example/assertion_to_token/assertiontotoken/rules/Rule;" (.ref (fw (23 : Int32)))) (pS24 : Sta Z h0 "com/example/assertion_to_token/assertiontotoken/rules/Rule" "ISSUED_AT" "Lcom/example/assertion_to_token/assertiontotoken/rules/Rule;" (.ref (fw (24 : Int32)))) (pS25 : Sta Z h0 "com/example/assertion_to_token/assertiontotoken/rules/Rule" "LIFETIME" "Lcom/example/assertion_to_token/assertiontotoken/rules/Rule;" (.ref (fw (25 : Int32)))) (pS26 : Sta Z h0 "com/example/assertion_to_token/assertiontotoken/rules/Rule" "JTI" "Lcom/example/assertion_to_token/assertiontotoken/rules/Rule;" (.ref (fw (26 : Int32)))) (pS27 : Sta Z h0 "com/example/assertion_to_token/assertiontotoken/rules/Rule" "SCOPE" "Lcom/example/assertion_to_token/assertiontotoken/rules/Rule;" (.ref (fw (27 : Int32)))) (pS28 : Sta Z h0 "com/example/assertion_to_token/assertiontotoken/rules/Rule" "REPLAY" "Lcom/example/assertion_to_token/assertiontotoken/rules/Rule;" (.ref (fw (28 : Int32)))) :
    MetFree l (⟨"com/example/assertion_to_token/assertiontotoken/rules/RuleHoldsClientCredentialsPinLaw", "pick", "(I)Lcom/example/assertion_to_token/assertiontotoken/rules/Rule;"⟩ : MethodName) (head1 (Jvm.Cond.code (⟨"com/example/assertion_to_token/assertiontotoken/rules/RuleHoldsClientCredentialsPinLaw", "pick", "(I)Lcom/example/assertion_to_token/assertiontotoken/rules/Rule;"⟩ : MethodName) method_3_code 1 (some (.object "com/example/assertion_to_token/assertiontotoken/rules/Rule")) :: ws) ({ frames := 0, cells := 0, slots := 0, locals := 0 } : Room)) (fun a U => a = #[(.int q0)] ∧ Z.Warmed39 U.vm ∧ U.heap = h0) (fun _ _ _ _ _ => True) (fun _ U o U' => ∃ v L, o = .returned v ∧ Q_rm1 Z q0 fw h0 n0 v U'.heap L ∧ FrameEnd U o U' L ({ frames := 0, cells := 0, slots := 0, locals := 0 } : Room).cells ({ frames := 0, cells := 0, slots := 0, locals := 0 } : Room).slots) := by
  refine MetFree.of_bodySF (plainFor_of_name pn_0) hisR ?_
  intro p e s m args below meth c s₁ Bd hml0 hP hK
  obtain ⟨rfl, hZ, hh⟩ := hP
  have hx := Bd.exec
  have hby := Bd.bytes
  have hml : c.maxLocals = 1 := hml0
  have hown : s.vm.findClass "com/example/assertion_to_token/assertiontotoken/rules/RuleHoldsClientCredentialsPinLaw" = some m.cls := findClass_of_methodNamed Bd.named
  have hnm := (name_of_methodNamed Bd.named Bd.method).1
  have X0 : Stand p l e ({ frames := 0, cells := 0, slots := 0, locals := 0 } : Room) s m #[(.int q0)] below meth c s₁ [] 0 0 := Stand.of_body Bd
  have e0 : s₁.heap = h0 := by rw [← hh, Bd.state]; rfl
  have N0 := Fr.nil n0
  have K0 : Keep h0 h0 [] := Keep.refl _ _
  have R0 : Rch p e below (s₁.setTop (entryFrame m #[(.int q0)] 1)) s₁ (mkF m 0 #[.val (.int q0)] []) := fun t k => castTop (ef_rm1 m q0) k
  have R2 : Rch p e below (s₁.setTop (entryFrame m #[(.int q0)] 1)) s₁ (mkF m 1 #[.val (.int q0)] [(.int q0)]) := fun t k => by
    refine R0 t ?_
    refine XS.iloadN X0.here hx rfl (hb hby d1_0) rfl ?_
    exact k
  by_cases hc1_1 : q0 = (0 : Int32)
  · have R4 : Rch p e below (s₁.setTop (entryFrame m #[(.int q0)] 1)) s₁ (mkF m 4 #[.val (.int q0)] []) := fun t k => by
      refine R2 t ?_
      refine XS.ifNo X0.here hx rfl (hb hby d1_1) rfl ((if0 _ _).trans (teq hc1_1).2) ?_
      exact k
    obtain ⟨T3, X3, e3, st3⟩ := getS2 X0 hx hZ hown (host := "") (Or.inl (hw _ (List.mem_of_getElem? (i := 5) rfl))) Via.refl e0 pS0 (g := (mkF m 4 #[.val (.int q0)] [])) rfl (hb hby d1_4)
    have R5 : Rch p e below (s₁.setTop (entryFrame m #[(.int q0)] 1)) T3 (mkF m 7 #[.val (.int q0)] [(.ref (fw (0 : Int32)))]) := fun t k => by
      refine R4 t ?_
      refine st3 _ ?_
      exact k
    obtain ⟨fs, hr, hrun, hended, hW, hsame⟩ := X3.leave (v := some (.ref (fw (0 : Int32)))) (fun h => by rw [Bd.returns] at h; cases h)
    refine ⟨_, _, R5 _ ?_, hrun, hended, _, _, rfl, ?_, ⟨_, rfl⟩, hW, hsame.mono (by decide) (by decide)⟩
    · jvm_step X3.here [X3.here.top, hx, (hb hby d1_7), X3.method', Bd.returns, Value.isRef, FieldType.isReference]
      first | (intro acts; rw [hr _ acts rfl rfl rfl]) | rw [hr _ _ rfl rfl rfl]
      exact Steps.refl _
    · show Q_rm1 Z q0 fw h0 n0 _ T3.heap _
      rw [e3]
      exact ⟨own_v (congrArg fw (by rw [hc1_1]; decide)), N0, rfl⟩
  · have R7 : Rch p e below (s₁.setTop (entryFrame m #[(.int q0)] 1)) s₁ (mkF m 10 #[.val (.int q0)] [(.int (1 : Int32)), (.int q0)]) := fun t k => by
      refine R2 t ?_
      refine XS.ifYes X0.here hx rfl (pc0 := 1) (pc' := 8) rfl (hb hby d1_1) rfl ((if0 _ _).trans (feq hc1_1).2) (by decide) (by decide) ?_
      show Steps p.tables e below (s₁.setTop (mkF m 8 #[.val (.int q0)] [])) t
      refine XS.iloadN X0.here hx rfl (hb hby d1_8) rfl ?_
      show Steps p.tables e below (s₁.setTop (mkF m 9 #[.val (.int q0)] [(.int q0)])) t
      refine XS.iconst X0.here hx rfl (hb hby d1_9) ?_
      exact k
    by_cases hc10_6 : q0 = (1 : Int32)
    · have R9 : Rch p e below (s₁.setTop (entryFrame m #[(.int q0)] 1)) s₁ (mkF m 13 #[.val (.int q0)] []) := fun t k => by
        refine R7 t ?_
        refine XS.icmpNo X0.here hx rfl (hb hby d1_10) rfl (teq hc10_6).2 ?_
        exact k
      obtain ⟨T8, X8, e8, st8⟩ := getS2 X0 hx hZ hown (host := "") (Or.inl (hw _ (List.mem_of_getElem? (i := 32) rfl))) Via.refl e0 pS1 (g := (mkF m 13 #[.val (.int q0)] [])) rfl (hb hby d1_13)
      have R10 : Rch p e below (s₁.setTop (entryFrame m #[(.int q0)] 1)) T8 (mkF m 16 #[.val (.int q0)] [(.ref (fw (1 : Int32)))]) := fun t k => by
        refine R9 t ?_
        refine st8 _ ?_
        exact k
      obtain ⟨fs, hr, hrun, hended, hW, hsame⟩ := X8.leave (v := some (.ref (fw (1 : Int32)))) (fun h => by rw [Bd.returns] at h; cases h)
      refine ⟨_, _, R10 _ ?_, hrun, hended, _, _, rfl, ?_, ⟨_, rfl⟩, hW, hsame.mono (by decide) (by decide)⟩
      · jvm_step X8.here [X8.here.top, hx, (hb hby d1_16), X8.method', Bd.returns, Value.isRef, FieldType.isReference]
        first | (intro acts; rw [hr _ acts rfl rfl rfl]) | rw [hr _ _ rfl rfl rfl]
        exact Steps.refl _
      · show Q_rm1 Z q0 fw h0 n0 _ T8.heap _
        rw [e8]
        exact ⟨own_v (congrArg fw (by rw [hc10_6]; decide)), N0, rfl⟩
    · have R12 : Rch p e below (s₁.setTop (entryFrame m #[(.int q0)] 1)) s₁ (mkF m 19 #[.val (.int q0)] [(.int (2 : Int32)), (.int q0)]) := fun t k => by
        refine R7 t ?_
        refine XS.icmpYes X0.here hx rfl (pc0 := 10) (pc' := 17) rfl (hb hby d1_10) rfl (feq hc10_6).2 (by decide) (by decide) ?_
        show Steps p.tables e below (s₁.setTop (mkF m 17 #[.val (.int q0)] [])) t
        refine XS.iloadN X0.here hx rfl (hb hby d1_17) rfl ?_
        show Steps p.tables e below (s₁.setTop (mkF m 18 #[.val (.int q0)] [(.int q0)])) t
        refine XS.iconst X0.here hx rfl (hb hby d1_18) ?_
        exact k
      by_cases hc19_11 : q0 = (2 : Int32)
      · have R14 : Rch p e below (s₁.setTop (entryFrame m #[(.int q0)] 1)) s₁ (mkF m 22 #[.val (.int q0)] []) := fun t k => by
          refine R12 t ?_
          refine XS.icmpNo X0.here hx rfl (hb hby d1_19) rfl (teq hc19_11).2 ?_
          exact k
        obtain ⟨T13, X13, e13, st13⟩ := getS2 X0 hx hZ hown (host := "") (Or.inl (hw _ (List.mem_of_getElem? (i := 34) rfl))) Via.refl e0 pS2 (g := (mkF m 22 #[.val (.int q0)] [])) rfl (hb hby d1_22)
        have R15 : Rch p e below (s₁.setTop (entryFrame m #[(.int q0)] 1)) T13 (mkF m 25 #[.val (.int q0)] [(.ref (fw (2 : Int32)))]) := fun t k => by
          refine R14 t ?_
          refine st13 _ ?_
          exact k
        obtain ⟨fs, hr, hrun, hended, hW, hsame⟩ := X13.leave (v := some (.ref (fw (2 : Int32)))) (fun h => by rw [Bd.returns] at h; cases h)
        refine ⟨_, _, R15 _ ?_, hrun, hended, _, _, rfl, ?_, ⟨_, rfl⟩, hW, hsame.mono (by decide) (by decide)⟩
        · jvm_step X13.here [X13.here.top, hx, (hb hby d1_25), X13.method', Bd.returns, Value.isRef, FieldType.isReference]
          first | (intro acts; rw [hr _ acts rfl rfl rfl]) | rw [hr _ _ rfl rfl rfl]
          exact Steps.refl _
        · show Q_rm1 Z q0 fw h0 n0 _ T13.heap _
          rw [e13]
          exact ⟨own_v (congrArg fw (by rw [hc19_11]; decide)), N0, rfl⟩
      · have R17 : Rch p e below (s₁.setTop (entryFrame m #[(.int q0)] 1)) s₁ (mkF m 28 #[.val (.int q0)] [(.int (3 : Int32)), (.int q0)]) := fun t k => by
          refine R12 t ?_
          refine XS.icmpYes X0.here hx rfl (pc0 := 19) (pc' := 26) rfl (hb hby d1_19) rfl (feq hc19_11).2 (by decide) (by decide) ?_
          show Steps p.tables e below (s₁.setTop (mkF m 26 #[.val (.int q0)] [])) t
          refine XS.iloadN X0.here hx rfl (hb hby d1_26) rfl ?_
          show Steps p.tables e below (s₁.setTop (mkF m 27 #[.val (.int q0)] [(.int q0)])) t
          refine XS.iconst X0.here hx rfl (hb hby d1_27) ?_
          exact k
        by_cases hc28_16 : q0 = (3 : Int32)
        · have R19 : Rch p e below (s₁.setTop (entryFrame m #[(.int q0)] 1)) s₁ (mkF m 31 #[.val (.int q0)] []) := fun t k => by
            refine R17 t ?_
            refine XS.icmpNo X0.here hx rfl (hb hby d1_28) rfl (teq hc28_16).2 ?_
            exact k
          obtain ⟨T18, X18, e18, st18⟩ := getS2 X0 hx hZ hown (host := "") (Or.inl (hw _ (List.mem_of_getElem? (i := 30) rfl))) Via.refl e0 pS3 (g := (mkF m 31 #[.val (.int q0)] [])) rfl (hb hby d1_31)
          have R20 : Rch p e below (s₁.setTop (entryFrame m #[(.int q0)] 1)) T18 (mkF m 34 #[.val (.int q0)] [(.ref (fw (3 : Int32)))]) := fun t k => by
            refine R19 t ?_
            refine st18 _ ?_
            exact k
          obtain ⟨fs, hr, hrun, hended, hW, hsame⟩ := X18.leave (v := some (.ref (fw (3 : Int32)))) (fun h => by rw [Bd.returns] at h; cases h)
          refine ⟨_, _, R20 _ ?_, hrun, hended, _, _, rfl, ?_, ⟨_, rfl⟩, hW, hsame.mono (by decide) (by decide)⟩
          · jvm_step X18.here [X18.here.top, hx, (hb hby d1_34), X18.method', Bd.returns, Value.isRef, FieldType.isReference]
            first | (intro acts; rw [hr _ acts rfl rfl rfl]) | rw [hr _ _ rfl rfl rfl]
            exact Steps.refl _
          · show Q_rm1 Z q0 fw h0 n0 _ T18.heap _
            rw [e18]
            exact ⟨own_v (congrArg fw (by rw [hc28_16]; decide)), N0, rfl⟩
        · have R22 : Rch p e below (s₁.setTop (entryFrame m #[(.int q0)] 1)) s₁ (mkF m 37 #[.val (.int q0)] [(.int (4 : Int32)), (.int q0)]) := fun t k => by
            refine R17 t ?_
            refine XS.icmpYes X0.here hx rfl (pc0 := 28) (pc' := 35) rfl (hb hby d1_28) rfl (feq hc28_16).2 (by decide) (by decide) ?_
            show Steps p.tables e below (s₁.setTop (mkF m 35 #[.val (.int q0)] [])) t
            refine XS.iloadN X0.here hx rfl (hb hby d1_35) rfl ?_
            show Steps p.tables e below (s₁.setTop (mkF m 36 #[.val (.int q0)] [(.int q0)])) t
            refine XS.iconst X0.here hx rfl (hb hby d1_36) ?_
            exact k
          by_cases hc37_21 : q0 = (4 : Int32)
          · have R24 : Rch p e below (s₁.setTop (entryFrame m #[(.int q0)] 1)) s₁ (mkF m 40 #[.val (.int q0)] []) := fun t k => by
              refine R22 t ?_
              refine XS.icmpNo X0.here hx rfl (hb hby d1_37) rfl (teq hc37_21).2 ?_
              exact k
            obtain ⟨T23, X23, e23, st23⟩ := getS2 X0 hx hZ hown (host := "") (Or.inl (hw _ (List.mem_of_getElem? (i := 38) rfl))) Via.refl e0 pS4 (g := (mkF m 40 #[.val (.int q0)] [])) rfl (hb hby d1_40)
            have R25 : Rch p e below (s₁.setTop (entryFrame m #[(.int q0)] 1)) T23 (mkF m 43 #[.val (.int q0)] [(.ref (fw (4 : Int32)))]) := fun t k => by
              refine R24 t ?_
              refine st23 _ ?_
              exact k
            obtain ⟨fs, hr, hrun, hended, hW, hsame⟩ := X23.leave (v := some (.ref (fw (4 : Int32)))) (fun h => by rw [Bd.returns] at h; cases h)
            refine ⟨_, _, R25 _ ?_, hrun, hended, _, _, rfl, ?_, ⟨_, rfl⟩, hW, hsame.mono (by decide) (by decide)⟩
            · jvm_step X23.here [X23.here.top, hx, (hb hby d1_43), X23.method', Bd.returns, Value.isRef, FieldType.isReference]
              first | (intro acts; rw [hr _ acts rfl rfl rfl]) | rw [hr _ _ rfl rfl rfl]
              exact Steps.refl _
            · show Q_rm1 Z q0 fw h0 n0 _ T23.heap _
              rw [e23]
              exact ⟨own_v (congrArg fw (by rw [hc37_21]; decide)), N0, rfl⟩
          · have R27 : Rch p e below (s₁.setTop (entryFrame m #[(.int q0)] 1)) s₁ (mkF m 46 #[.val (.int q0)] [(.int (5 : Int32)), (.int q0)]) := fun t k => by
              refine R22 t ?_
              refine XS.icmpYes X0.here hx rfl (pc0 := 37) (pc' := 44) rfl (hb hby d1_37) rfl (feq hc37_21).2 (by decide) (by decide) ?_
              show Steps p.tables e below (s₁.setTop (mkF m 44 #[.val (.int q0)] [])) t
              refine XS.iloadN X0.here hx rfl (hb hby d1_44) rfl ?_
              show Steps p.tables e below (s₁.setTop (mkF m 45 #[.val (.int q0)] [(.int q0)])) t
              refine XS.iconst X0.here hx rfl (hb hby d1_45) ?_
              exact k
            by_cases hc46_26 : q0 = (5 : Int32)
            · have R29 : Rch p e below (s₁.setTop (entryFrame m #[(.int q0)] 1)) s₁ (mkF m 49 #[.val (.int q0)] []) := fun t k => by
                refine R27 t ?_
                refine XS.icmpNo X0.here hx rfl (hb hby d1_46) rfl (teq hc46_26).2 ?_
                exact k
              obtain ⟨T28, X28, e28, st28⟩ := getS2 X0 hx hZ hown (host := "") (Or.inl (hw _ (List.mem_of_getElem? (i := 40) rfl))) Via.refl e0 pS5 (g := (mkF m 49 #[.val (.int q0)] [])) rfl (hb hby d1_49)
              have R30 : Rch p e below (s₁.setTop (entryFrame m #[(.int q0)] 1)) T28 (mkF m 52 #[.val (.int q0)] [(.ref (fw (5 : Int32)))]) := fun t k => by
                refine R29 t ?_
                refine st28 _ ?_
                exact k
              obtain ⟨fs, hr, hrun, hended, hW, hsame⟩ := X28.leave (v := some (.ref (fw (5 : Int32)))) (fun h => by rw [Bd.returns] at h; cases h)
              refine ⟨_, _, R30 _ ?_, hrun, hended, _, _, rfl, ?_, ⟨_, rfl⟩, hW, hsame.mono (by decide) (by decide)⟩
              · jvm_step X28.here [X28.here.top, hx, (hb hby d1_52), X28.method', Bd.returns, Value.isRef, FieldType.isReference]
                first | (intro acts; rw [hr _ acts rfl rfl rfl]) | rw [hr _ _ rfl rfl rfl]
                exact Steps.refl _
              · show Q_rm1 Z q0 fw h0 n0 _ T28.heap _
                rw [e28]
                exact ⟨own_v (congrArg fw (by rw [hc46_26]; decide)), N0, rfl⟩
            · have R32 : Rch p e below (s₁.setTop (entryFrame m #[(.int q0)] 1)) s₁ (mkF m 56 #[.val (.int q0)] [(.int (6 : Int32)), (.int q0)]) := fun t k => by
                refine R27 t ?_
                refine XS.icmpYes X0.here hx rfl (pc0 := 46) (pc' := 53) rfl (hb hby d1_46) rfl (feq hc46_26).2 (by decide) (by decide) ?_
                show Steps p.tables e below (s₁.setTop (mkF m 53 #[.val (.int q0)] [])) t
                refine XS.iloadN X0.here hx rfl (hb hby d1_53) rfl ?_
                show Steps p.tables e below (s₁.setTop (mkF m 54 #[.val (.int q0)] [(.int q0)])) t
                refine XS.bipush X0.here hx rfl (hb hby d1_54) ?_
                exact k
              by_cases hc56_31 : q0 = (6 : Int32)
              · have R34 : Rch p e below (s₁.setTop (entryFrame m #[(.int q0)] 1)) s₁ (mkF m 59 #[.val (.int q0)] []) := fun t k => by
                  refine R32 t ?_
                  refine XS.icmpNo X0.here hx rfl (hb hby d1_56) rfl (teq hc56_31).2 ?_
                  exact k
                obtain ⟨T33, X33, e33, st33⟩ := getS2 X0 hx hZ hown (host := "") (Or.inl (hw _ (List.mem_of_getElem? (i := 42) rfl))) Via.refl e0 pS6 (g := (mkF m 59 #[.val (.int q0)] [])) rfl (hb hby d1_59)
                have R35 : Rch p e below (s₁.setTop (entryFrame m #[(.int q0)] 1)) T33 (mkF m 62 #[.val (.int q0)] [(.ref (fw (6 : Int32)))]) := fun t k => by
                  refine R34 t ?_
                  refine st33 _ ?_
                  exact k
                obtain ⟨fs, hr, hrun, hended, hW, hsame⟩ := X33.leave (v := some (.ref (fw (6 : Int32)))) (fun h => by rw [Bd.returns] at h; cases h)
                refine ⟨_, _, R35 _ ?_, hrun, hended, _, _, rfl, ?_, ⟨_, rfl⟩, hW, hsame.mono (by decide) (by decide)⟩
                · jvm_step X33.here [X33.here.top, hx, (hb hby d1_62), X33.method', Bd.returns, Value.isRef, FieldType.isReference]
                  first | (intro acts; rw [hr _ acts rfl rfl rfl]) | rw [hr _ _ rfl rfl rfl]
                  exact Steps.refl _
                · show Q_rm1 Z q0 fw h0 n0 _ T33.heap _
                  rw [e33]
                  exact ⟨own_v (congrArg fw (by rw [hc56_31]; decide)), N0, rfl⟩
              · have R37 : Rch p e below (s₁.setTop (entryFrame m #[(.int q0)] 1)) s₁ (mkF m 66 #[.val (.int q0)] [(.int (7 : Int32)), (.int q0)]) := fun t k => by
                  refine R32 t ?_
                  refine XS.icmpYes X0.here hx rfl (pc0 := 56) (pc' := 63) rfl (hb hby d1_56) rfl (feq hc56_31).2 (by decide) (by decide) ?_
                  show Steps p.tables e below (s₁.setTop (mkF m 63 #[.val (.int q0)] [])) t
                  refine XS.iloadN X0.here hx rfl (hb hby d1_63) rfl ?_
                  show Steps p.tables e below (s₁.setTop (mkF m 64 #[.val (.int q0)] [(.int q0)])) t
                  refine XS.bipush X0.here hx rfl (hb hby d1_64) ?_
                  exact k
                by_cases hc66_36 : q0 = (7 : Int32)
                · have R39 : Rch p e below (s₁.setTop (entryFrame m #[(.int q0)] 1)) s₁ (mkF m 69 #[.val (.int q0)] []) := fun t k => by
                    refine R37 t ?_
                    refine XS.icmpNo X0.here hx rfl (hb hby d1_66) rfl (teq hc66_36).2 ?_
                    exact k
                  obtain ⟨T38, X38, e38, st38⟩ := getS2 X0 hx hZ hown (host := "") (Or.inl (hw _ (List.mem_of_getElem? (i := 44) rfl))) Via.refl e0 pS7 (g := (mkF m 69 #[.val (.int q0)] [])) rfl (hb hby d1_69)
                  have R40 : Rch p e below (s₁.setTop (entryFrame m #[(.int q0)] 1)) T38 (mkF m 72 #[.val (.int q0)] [(.ref (fw (7 : Int32)))]) := fun t k => by
                    refine R39 t ?_
                    refine st38 _ ?_
                    exact k
                  obtain ⟨fs, hr, hrun, hended, hW, hsame⟩ := X38.leave (v := some (.ref (fw (7 : Int32)))) (fun h => by rw [Bd.returns] at h; cases h)
                  refine ⟨_, _, R40 _ ?_, hrun, hended, _, _, rfl, ?_, ⟨_, rfl⟩, hW, hsame.mono (by decide) (by decide)⟩
                  · jvm_step X38.here [X38.here.top, hx, (hb hby d1_72), X38.method', Bd.returns, Value.isRef, FieldType.isReference]
                    first | (intro acts; rw [hr _ acts rfl rfl rfl]) | rw [hr _ _ rfl rfl rfl]
                    exact Steps.refl _
                  · show Q_rm1 Z q0 fw h0 n0 _ T38.heap _
                    rw [e38]
                    exact ⟨own_v (congrArg fw (by rw [hc66_36]; decide)), N0, rfl⟩
                · have R42 : Rch p e below (s₁.setTop (entryFrame m #[(.int q0)] 1)) s₁ (mkF m 76 #[.val (.int q0)] [(.int (8 : Int32)), (.int q0)]) := fun t k => by
                    refine R37 t ?_
                    refine XS.icmpYes X0.here hx rfl (pc0 := 66) (pc' := 73) rfl (hb hby d1_66) rfl (feq hc66_36).2 (by decide) (by decide) ?_
                    show Steps p.tables e below (s₁.setTop (mkF m 73 #[.val (.int q0)] [])) t
                    refine XS.iloadN X0.here hx rfl (hb hby d1_73) rfl ?_
                    show Steps p.tables e below (s₁.setTop (mkF m 74 #[.val (.int q0)] [(.int q0)])) t
                    refine XS.bipush X0.here hx rfl (hb hby d1_74) ?_
                    exact k
                  by_cases hc76_41 : q0 = (8 : Int32)
                  · have R44 : Rch p e below (s₁.setTop (entryFrame m #[(.int q0)] 1)) s₁ (mkF m 79 #[.val (.int q0)] []) := fun t k => by
                      refine R42 t ?_
                      refine XS.icmpNo X0.here hx rfl (hb hby d1_76) rfl (teq hc76_41).2 ?_
                      exact k
                    obtain ⟨T43, X43, e43, st43⟩ := getS2 X0 hx hZ hown (host := "") (Or.inl (hw _ (List.mem_of_getElem? (i := 46) rfl))) Via.refl e0 pS8 (g := (mkF m 79 #[.val (.int q0)] [])) rfl (hb hby d1_79)
                    have R45 : Rch p e below (s₁.setTop (entryFrame m #[(.int q0)] 1)) T43 (mkF m 82 #[.val (.int q0)] [(.ref (fw (8 : Int32)))]) := fun t k => by
                      refine R44 t ?_
                      refine st43 _ ?_
                      exact k
                    obtain ⟨fs, hr, hrun, hended, hW, hsame⟩ := X43.leave (v := some (.ref (fw (8 : Int32)))) (fun h => by rw [Bd.returns] at h; cases h)
                    refine ⟨_, _, R45 _ ?_, hrun, hended, _, _, rfl, ?_, ⟨_, rfl⟩, hW, hsame.mono (by decide) (by decide)⟩
                    · jvm_step X43.here [X43.here.top, hx, (hb hby d1_82), X43.method', Bd.returns, Value.isRef, FieldType.isReference]
                      first | (intro acts; rw [hr _ acts rfl rfl rfl]) | rw [hr _ _ rfl rfl rfl]
                      exact Steps.refl _
                    · show Q_rm1 Z q0 fw h0 n0 _ T43.heap _
                      rw [e43]
                      exact ⟨own_v (congrArg fw (by rw [hc76_41]; decide)), N0, rfl⟩
                  · have R47 : Rch p e below (s₁.setTop (entryFrame m #[(.int q0)] 1)) s₁ (mkF m 86 #[.val (.int q0)] [(.int (9 : Int32)), (.int q0)]) := fun t k => by
                      refine R42 t ?_
                      refine XS.icmpYes X0.here hx rfl (pc0 := 76) (pc' := 83) rfl (hb hby d1_76) rfl (feq hc76_41).2 (by decide) (by decide) ?_
                      show Steps p.tables e below (s₁.setTop (mkF m 83 #[.val (.int q0)] [])) t
                      refine XS.iloadN X0.here hx rfl (hb hby d1_83) rfl ?_
                      show Steps p.tables e below (s₁.setTop (mkF m 84 #[.val (.int q0)] [(.int q0)])) t
                      refine XS.bipush X0.here hx rfl (hb hby d1_84) ?_
                      exact k
                    by_cases hc86_46 : q0 = (9 : Int32)
                    · have R49 : Rch p e below (s₁.setTop (entryFrame m #[(.int q0)] 1)) s₁ (mkF m 89 #[.val (.int q0)] []) := fun t k => by
                        refine R47 t ?_
                        refine XS.icmpNo X0.here hx rfl (hb hby d1_86) rfl (teq hc86_46).2 ?_
                        exact k
                      obtain ⟨T48, X48, e48, st48⟩ := getS2 X0 hx hZ hown (host := "") (Or.inl (hw _ (List.mem_of_getElem? (i := 48) rfl))) Via.refl e0 pS9 (g := (mkF m 89 #[.val (.int q0)] [])) rfl (hb hby d1_89)
                      have R50 : Rch p e below (s₁.setTop (entryFrame m #[(.int q0)] 1)) T48 (mkF m 92 #[.val (.int q0)] [(.ref (fw (9 : Int32)))]) := fun t k => by
                        refine R49 t ?_
                        refine st48 _ ?_
                        exact k
                      obtain ⟨fs, hr, hrun, hended, hW, hsame⟩ := X48.leave (v := some (.ref (fw (9 : Int32)))) (fun h => by rw [Bd.returns] at h; cases h)
                      refine ⟨_, _, R50 _ ?_, hrun, hended, _, _, rfl, ?_, ⟨_, rfl⟩, hW, hsame.mono (by decide) (by decide)⟩
                      · jvm_step X48.here [X48.here.top, hx, (hb hby d1_92), X48.method', Bd.returns, Value.isRef, FieldType.isReference]
                        first | (intro acts; rw [hr _ acts rfl rfl rfl]) | rw [hr _ _ rfl rfl rfl]
                        exact Steps.refl _
                      · show Q_rm1 Z q0 fw h0 n0 _ T48.heap _
                        rw [e48]
                        exact ⟨own_v (congrArg fw (by rw [hc86_46]; decide)), N0, rfl⟩
                    · have R52 : Rch p e below (s₁.setTop (entryFrame m #[(.int q0)] 1)) s₁ (mkF m 96 #[.val (.int q0)] [(.int (10 : Int32)), (.int q0)]) := fun t k => by
                        refine R47 t ?_
                        refine XS.icmpYes X0.here hx rfl (pc0 := 86) (pc' := 93) rfl (hb hby d1_86) rfl (feq hc86_46).2 (by decide) (by decide) ?_
                        show Steps p.tables e below (s₁.setTop (mkF m 93 #[.val (.int q0)] [])) t
                        refine XS.iloadN X0.here hx rfl (hb hby d1_93) rfl ?_
                        show Steps p.tables e below (s₁.setTop (mkF m 94 #[.val (.int q0)] [(.int q0)])) t
                        refine XS.bipush X0.here hx rfl (hb hby d1_94) ?_
                        exact k
                      by_cases hc96_51 : q0 = (10 : Int32)
                      · have R54 : Rch p e below (s₁.setTop (entryFrame m #[(.int q0)] 1)) s₁ (mkF m 99 #[.val (.int q0)] []) := fun t k => by
                          refine R52 t ?_
                          refine XS.icmpNo X0.here hx rfl (hb hby d1_96) rfl (teq hc96_51).2 ?_
                          exact k
                        obtain ⟨T53, X53, e53, st53⟩ := getS2 X0 hx hZ hown (host := "") (Or.inl (hw _ (List.mem_of_getElem? (i := 62) rfl))) Via.refl e0 pS10 (g := (mkF m 99 #[.val (.int q0)] [])) rfl (hb hby d1_99)
                        have R55 : Rch p e below (s₁.setTop (entryFrame m #[(.int q0)] 1)) T53 (mkF m 102 #[.val (.int q0)] [(.ref (fw (10 : Int32)))]) := fun t k => by
                          refine R54 t ?_
                          refine st53 _ ?_
                          exact k
                        obtain ⟨fs, hr, hrun, hended, hW, hsame⟩ := X53.leave (v := some (.ref (fw (10 : Int32)))) (fun h => by rw [Bd.returns] at h; cases h)
                        refine ⟨_, _, R55 _ ?_, hrun, hended, _, _, rfl, ?_, ⟨_, rfl⟩, hW, hsame.mono (by decide) (by decide)⟩
                        · jvm_step X53.here [X53.here.top, hx, (hb hby d1_102), X53.method', Bd.returns, Value.isRef, FieldType.isReference]
                          first | (intro acts; rw [hr _ acts rfl rfl rfl]) | rw [hr _ _ rfl rfl rfl]
                          exact Steps.refl _
                        · show Q_rm1 Z q0 fw h0 n0 _ T53.heap _
                          rw [e53]
                          exact ⟨own_v (congrArg fw (by rw [hc96_51]; decide)), N0, rfl⟩
                      · have R57 : Rch p e below (s₁.setTop (entryFrame m #[(.int q0)] 1)) s₁ (mkF m 106 #[.val (.int q0)] [(.int (11 : Int32)), (.int q0)]) := fun t k => by
                          refine R52 t ?_
                          refine XS.icmpYes X0.here hx rfl (pc0 := 96) (pc' := 103) rfl (hb hby d1_96) rfl (feq hc96_51).2 (by decide) (by decide) ?_
                          show Steps p.tables e below (s₁.setTop (mkF m 103 #[.val (.int q0)] [])) t
                          refine XS.iloadN X0.here hx rfl (hb hby d1_103) rfl ?_
                          show Steps p.tables e below (s₁.setTop (mkF m 104 #[.val (.int q0)] [(.int q0)])) t
                          refine XS.bipush X0.here hx rfl (hb hby d1_104) ?_
                          exact k
                        by_cases hc106_56 : q0 = (11 : Int32)
                        · have R59 : Rch p e below (s₁.setTop (entryFrame m #[(.int q0)] 1)) s₁ (mkF m 109 #[.val (.int q0)] []) := fun t k => by
                            refine R57 t ?_
                            refine XS.icmpNo X0.here hx rfl (hb hby d1_106) rfl (teq hc106_56).2 ?_
                            exact k
                          obtain ⟨T58, X58, e58, st58⟩ := getS2 X0 hx hZ hown (host := "") (Or.inl (hw _ (List.mem_of_getElem? (i := 54) rfl))) Via.refl e0 pS11 (g := (mkF m 109 #[.val (.int q0)] [])) rfl (hb hby d1_109)
                          have R60 : Rch p e below (s₁.setTop (entryFrame m #[(.int q0)] 1)) T58 (mkF m 112 #[.val (.int q0)] [(.ref (fw (11 : Int32)))]) := fun t k => by
                            refine R59 t ?_
                            refine st58 _ ?_
                            exact k
                          obtain ⟨fs, hr, hrun, hended, hW, hsame⟩ := X58.leave (v := some (.ref (fw (11 : Int32)))) (fun h => by rw [Bd.returns] at h; cases h)
                          refine ⟨_, _, R60 _ ?_, hrun, hended, _, _, rfl, ?_, ⟨_, rfl⟩, hW, hsame.mono (by decide) (by decide)⟩
                          · jvm_step X58.here [X58.here.top, hx, (hb hby d1_112), X58.method', Bd.returns, Value.isRef, FieldType.isReference]
                            first | (intro acts; rw [hr _ acts rfl rfl rfl]) | rw [hr _ _ rfl rfl rfl]
                            exact Steps.refl _
                          · show Q_rm1 Z q0 fw h0 n0 _ T58.heap _
                            rw [e58]
                            exact ⟨own_v (congrArg fw (by rw [hc106_56]; decide)), N0, rfl⟩
                        · have R62 : Rch p e below (s₁.setTop (entryFrame m #[(.int q0)] 1)) s₁ (mkF m 116 #[.val (.int q0)] [(.int (12 : Int32)), (.int q0)]) := fun t k => by
                            refine R57 t ?_
                            refine XS.icmpYes X0.here hx rfl (pc0 := 106) (pc' := 113) rfl (hb hby d1_106) rfl (feq hc106_56).2 (by decide) (by decide) ?_
                            show Steps p.tables e below (s₁.setTop (mkF m 113 #[.val (.int q0)] [])) t
                            refine XS.iloadN X0.here hx rfl (hb hby d1_113) rfl ?_
                            show Steps p.tables e below (s₁.setTop (mkF m 114 #[.val (.int q0)] [(.int q0)])) t
                            refine XS.bipush X0.here hx rfl (hb hby d1_114) ?_
                            exact k
                          by_cases hc116_61 : q0 = (12 : Int32)
                          · have R64 : Rch p e below (s₁.setTop (entryFrame m #[(.int q0)] 1)) s₁ (mkF m 119 #[.val (.int q0)] []) := fun t k => by
                              refine R62 t ?_
                              refine XS.icmpNo X0.here hx rfl (hb hby d1_116) rfl (teq hc116_61).2 ?_
                              exact k
                            obtain ⟨T63, X63, e63, st63⟩ := getS2 X0 hx hZ hown (host := "") (Or.inl (hw _ (List.mem_of_getElem? (i := 75) rfl))) Via.refl e0 pS12 (g := (mkF m 119 #[.val (.int q0)] [])) rfl (hb hby d1_119)
                            have R65 : Rch p e below (s₁.setTop (entryFrame m #[(.int q0)] 1)) T63 (mkF m 122 #[.val (.int q0)] [(.ref (fw (12 : Int32)))]) := fun t k => by
                              refine R64 t ?_
                              refine st63 _ ?_
                              exact k
                            obtain ⟨fs, hr, hrun, hended, hW, hsame⟩ := X63.leave (v := some (.ref (fw (12 : Int32)))) (fun h => by rw [Bd.returns] at h; cases h)
                            refine ⟨_, _, R65 _ ?_, hrun, hended, _, _, rfl, ?_, ⟨_, rfl⟩, hW, hsame.mono (by decide) (by decide)⟩
                            · jvm_step X63.here [X63.here.top, hx, (hb hby d1_122), X63.method', Bd.returns, Value.isRef, FieldType.isReference]
                              first | (intro acts; rw [hr _ acts rfl rfl rfl]) | rw [hr _ _ rfl rfl rfl]
                              exact Steps.refl _
                            · show Q_rm1 Z q0 fw h0 n0 _ T63.heap _
                              rw [e63]
                              exact ⟨own_v (congrArg fw (by rw [hc116_61]; decide)), N0, rfl⟩
                          · have R67 : Rch p e below (s₁.setTop (entryFrame m #[(.int q0)] 1)) s₁ (mkF m 126 #[.val (.int q0)] [(.int (13 : Int32)), (.int q0)]) := fun t k => by
                              refine R62 t ?_
                              refine XS.icmpYes X0.here hx rfl (pc0 := 116) (pc' := 123) rfl (hb hby d1_116) rfl (feq hc116_61).2 (by decide) (by decide) ?_
                              show Steps p.tables e below (s₁.setTop (mkF m 123 #[.val (.int q0)] [])) t
                              refine XS.iloadN X0.here hx rfl (hb hby d1_123) rfl ?_
                              show Steps p.tables e below (s₁.setTop (mkF m 124 #[.val (.int q0)] [(.int q0)])) t
                              refine XS.bipush X0.here hx rfl (hb hby d1_124) ?_
                              exact k
                            by_cases hc126_66 : q0 = (13 : Int32)
                            · have R69 : Rch p e below (s₁.setTop (entryFrame m #[(.int q0)] 1)) s₁ (mkF m 129 #[.val (.int q0)] []) := fun t k => by
                                refine R67 t ?_
                                refine XS.icmpNo X0.here hx rfl (hb hby d1_126) rfl (teq hc126_66).2 ?_
                                exact k
                              obtain ⟨T68, X68, e68, st68⟩ := getS2 X0 hx hZ hown (host := "") (Or.inl (hw _ (List.mem_of_getElem? (i := 79) rfl))) Via.refl e0 pS13 (g := (mkF m 129 #[.val (.int q0)] [])) rfl (hb hby d1_129)
                              have R70 : Rch p e below (s₁.setTop (entryFrame m #[(.int q0)] 1)) T68 (mkF m 132 #[.val (.int q0)] [(.ref (fw (13 : Int32)))]) := fun t k => by
                                refine R69 t ?_
                                refine st68 _ ?_
                                exact k
                              obtain ⟨fs, hr, hrun, hended, hW, hsame⟩ := X68.leave (v := some (.ref (fw (13 : Int32)))) (fun h => by rw [Bd.returns] at h; cases h)
                              refine ⟨_, _, R70 _ ?_, hrun, hended, _, _, rfl, ?_, ⟨_, rfl⟩, hW, hsame.mono (by decide) (by decide)⟩
                              · jvm_step X68.here [X68.here.top, hx, (hb hby d1_132), X68.method', Bd.returns, Value.isRef, FieldType.isReference]
                                first | (intro acts; rw [hr _ acts rfl rfl rfl]) | rw [hr _ _ rfl rfl rfl]
                                exact Steps.refl _
                              · show Q_rm1 Z q0 fw h0 n0 _ T68.heap _
                                rw [e68]
                                exact ⟨own_v (congrArg fw (by rw [hc126_66]; decide)), N0, rfl⟩
                            · have R72 : Rch p e below (s₁.setTop (entryFrame m #[(.int q0)] 1)) s₁ (mkF m 136 #[.val (.int q0)] [(.int (14 : Int32)), (.int q0)]) := fun t k => by
                                refine R67 t ?_
                                refine XS.icmpYes X0.here hx rfl (pc0 := 126) (pc' := 133) rfl (hb hby d1_126) rfl (feq hc126_66).2 (by decide) (by decide) ?_
                                show Steps p.tables e below (s₁.setTop (mkF m 133 #[.val (.int q0)] [])) t
                                refine XS.iloadN X0.here hx rfl (hb hby d1_133) rfl ?_
                                show Steps p.tables e below (s₁.setTop (mkF m 134 #[.val (.int q0)] [(.int q0)])) t
                                refine XS.bipush X0.here hx rfl (hb hby d1_134) ?_
                                exact k
                              by_cases hc136_71 : q0 = (14 : Int32)
                              · have R74 : Rch p e below (s₁.setTop (entryFrame m #[(.int q0)] 1)) s₁ (mkF m 139 #[.val (.int q0)] []) := fun t k => by
                                  refine R72 t ?_
                                  refine XS.icmpNo X0.here hx rfl (hb hby d1_136) rfl (teq hc136_71).2 ?_
                                  exact k
                                obtain ⟨T73, X73, e73, st73⟩ := getS2 X0 hx hZ hown (host := "") (Or.inl (hw _ (List.mem_of_getElem? (i := 69) rfl))) Via.refl e0 pS14 (g := (mkF m 139 #[.val (.int q0)] [])) rfl (hb hby d1_139)
                                have R75 : Rch p e below (s₁.setTop (entryFrame m #[(.int q0)] 1)) T73 (mkF m 142 #[.val (.int q0)] [(.ref (fw (14 : Int32)))]) := fun t k => by
                                  refine R74 t ?_
                                  refine st73 _ ?_
                                  exact k
                                obtain ⟨fs, hr, hrun, hended, hW, hsame⟩ := X73.leave (v := some (.ref (fw (14 : Int32)))) (fun h => by rw [Bd.returns] at h; cases h)
                                refine ⟨_, _, R75 _ ?_, hrun, hended, _, _, rfl, ?_, ⟨_, rfl⟩, hW, hsame.mono (by decide) (by decide)⟩
                                · jvm_step X73.here [X73.here.top, hx, (hb hby d1_142), X73.method', Bd.returns, Value.isRef, FieldType.isReference]
                                  first | (intro acts; rw [hr _ acts rfl rfl rfl]) | rw [hr _ _ rfl rfl rfl]
                                  exact Steps.refl _
                                · show Q_rm1 Z q0 fw h0 n0 _ T73.heap _
                                  rw [e73]
                                  exact ⟨own_v (congrArg fw (by rw [hc136_71]; decide)), N0, rfl⟩
                              · have R77 : Rch p e below (s₁.setTop (entryFrame m #[(.int q0)] 1)) s₁ (mkF m 146 #[.val (.int q0)] [(.int (15 : Int32)), (.int q0)]) := fun t k => by
                                  refine R72 t ?_
                                  refine XS.icmpYes X0.here hx rfl (pc0 := 136) (pc' := 143) rfl (hb hby d1_136) rfl (feq hc136_71).2 (by decide) (by decide) ?_
                                  show Steps p.tables e below (s₁.setTop (mkF m 143 #[.val (.int q0)] [])) t
                                  refine XS.iloadN X0.here hx rfl (hb hby d1_143) rfl ?_
                                  show Steps p.tables e below (s₁.setTop (mkF m 144 #[.val (.int q0)] [(.int q0)])) t
                                  refine XS.bipush X0.here hx rfl (hb hby d1_144) ?_
                                  exact k
                                by_cases hc146_76 : q0 = (15 : Int32)
                                · have R79 : Rch p e below (s₁.setTop (entryFrame m #[(.int q0)] 1)) s₁ (mkF m 149 #[.val (.int q0)] []) := fun t k => by
                                    refine R77 t ?_
                                    refine XS.icmpNo X0.here hx rfl (hb hby d1_146) rfl (teq hc146_76).2 ?_
                                    exact k
                                  obtain ⟨T78, X78, e78, st78⟩ := getS2 X0 hx hZ hown (host := "") (Or.inl (hw _ (List.mem_of_getElem? (i := 67) rfl))) Via.refl e0 pS15 (g := (mkF m 149 #[.val (.int q0)] [])) rfl (hb hby d1_149)
                                  have R80 : Rch p e below (s₁.setTop (entryFrame m #[(.int q0)] 1)) T78 (mkF m 152 #[.val (.int q0)] [(.ref (fw (15 : Int32)))]) := fun t k => by
                                    refine R79 t ?_
                                    refine st78 _ ?_
                                    exact k
                                  obtain ⟨fs, hr, hrun, hended, hW, hsame⟩ := X78.leave (v := some (.ref (fw (15 : Int32)))) (fun h => by rw [Bd.returns] at h; cases h)
                                  refine ⟨_, _, R80 _ ?_, hrun, hended, _, _, rfl, ?_, ⟨_, rfl⟩, hW, hsame.mono (by decide) (by decide)⟩
                                  · jvm_step X78.here [X78.here.top, hx, (hb hby d1_152), X78.method', Bd.returns, Value.isRef, FieldType.isReference]
                                    first | (intro acts; rw [hr _ acts rfl rfl rfl]) | rw [hr _ _ rfl rfl rfl]
                                    exact Steps.refl _
                                  · show Q_rm1 Z q0 fw h0 n0 _ T78.heap _
                                    rw [e78]
                                    exact ⟨own_v (congrArg fw (by rw [hc146_76]; decide)), N0, rfl⟩
                                · have R82 : Rch p e below (s₁.setTop (entryFrame m #[(.int q0)] 1)) s₁ (mkF m 156 #[.val (.int q0)] [(.int (16 : Int32)), (.int q0)]) := fun t k => by
                                    refine R77 t ?_
                                    refine XS.icmpYes X0.here hx rfl (pc0 := 146) (pc' := 153) rfl (hb hby d1_146) rfl (feq hc146_76).2 (by decide) (by decide) ?_
                                    show Steps p.tables e below (s₁.setTop (mkF m 153 #[.val (.int q0)] [])) t
                                    refine XS.iloadN X0.here hx rfl (hb hby d1_153) rfl ?_
                                    show Steps p.tables e below (s₁.setTop (mkF m 154 #[.val (.int q0)] [(.int q0)])) t
                                    refine XS.bipush X0.here hx rfl (hb hby d1_154) ?_
                                    exact k
                                  by_cases hc156_81 : q0 = (16 : Int32)
                                  · have R84 : Rch p e below (s₁.setTop (entryFrame m #[(.int q0)] 1)) s₁ (mkF m 159 #[.val (.int q0)] []) := fun t k => by
                                      refine R82 t ?_
                                      refine XS.icmpNo X0.here hx rfl (hb hby d1_156) rfl (teq hc156_81).2 ?_
                                      exact k
                                    obtain ⟨T83, X83, e83, st83⟩ := getS2 X0 hx hZ hown (host := "") (Or.inl (hw _ (List.mem_of_getElem? (i := 52) rfl))) Via.refl e0 pS16 (g := (mkF m 159 #[.val (.int q0)] [])) rfl (hb hby d1_159)
                                    have R85 : Rch p e below (s₁.setTop (entryFrame m #[(.int q0)] 1)) T83 (mkF m 162 #[.val (.int q0)] [(.ref (fw (16 : Int32)))]) := fun t k => by
                                      refine R84 t ?_
                                      refine st83 _ ?_
                                      exact k
                                    obtain ⟨fs, hr, hrun, hended, hW, hsame⟩ := X83.leave (v := some (.ref (fw (16 : Int32)))) (fun h => by rw [Bd.returns] at h; cases h)
                                    refine ⟨_, _, R85 _ ?_, hrun, hended, _, _, rfl, ?_, ⟨_, rfl⟩, hW, hsame.mono (by decide) (by decide)⟩
                                    · jvm_step X83.here [X83.here.top, hx, (hb hby d1_162), X83.method', Bd.returns, Value.isRef, FieldType.isReference]
                                      first | (intro acts; rw [hr _ acts rfl rfl rfl]) | rw [hr _ _ rfl rfl rfl]
                                      exact Steps.refl _
                                    · show Q_rm1 Z q0 fw h0 n0 _ T83.heap _
                                      rw [e83]
                                      exact ⟨own_v (congrArg fw (by rw [hc156_81]; decide)), N0, rfl⟩
                                  · have R87 : Rch p e below (s₁.setTop (entryFrame m #[(.int q0)] 1)) s₁ (mkF m 166 #[.val (.int q0)] [(.int (17 : Int32)), (.int q0)]) := fun t k => by
                                      refine R82 t ?_
                                      refine XS.icmpYes X0.here hx rfl (pc0 := 156) (pc' := 163) rfl (hb hby d1_156) rfl (feq hc156_81).2 (by decide) (by decide) ?_
                                      show Steps p.tables e below (s₁.setTop (mkF m 163 #[.val (.int q0)] [])) t
                                      refine XS.iloadN X0.here hx rfl (hb hby d1_163) rfl ?_
                                      show Steps p.tables e below (s₁.setTop (mkF m 164 #[.val (.int q0)] [(.int q0)])) t
                                      refine XS.bipush X0.here hx rfl (hb hby d1_164) ?_
                                      exact k
                                    by_cases hc166_86 : q0 = (17 : Int32)
                                    · have R89 : Rch p e below (s₁.setTop (entryFrame m #[(.int q0)] 1)) s₁ (mkF m 169 #[.val (.int q0)] []) := fun t k => by
                                        refine R87 t ?_
                                        refine XS.icmpNo X0.here hx rfl (hb hby d1_166) rfl (teq hc166_86).2 ?_
                                        exact k
                                      obtain ⟨T88, X88, e88, st88⟩ := getS2 X0 hx hZ hown (host := "") (Or.inl (hw _ (List.mem_of_getElem? (i := 77) rfl))) Via.refl e0 pS17 (g := (mkF m 169 #[.val (.int q0)] [])) rfl (hb hby d1_169)
                                      have R90 : Rch p e below (s₁.setTop (entryFrame m #[(.int q0)] 1)) T88 (mkF m 172 #[.val (.int q0)] [(.ref (fw (17 : Int32)))]) := fun t k => by
                                        refine R89 t ?_
                                        refine st88 _ ?_
                                        exact k
                                      obtain ⟨fs, hr, hrun, hended, hW, hsame⟩ := X88.leave (v := some (.ref (fw (17 : Int32)))) (fun h => by rw [Bd.returns] at h; cases h)
                                      refine ⟨_, _, R90 _ ?_, hrun, hended, _, _, rfl, ?_, ⟨_, rfl⟩, hW, hsame.mono (by decide) (by decide)⟩
                                      · jvm_step X88.here [X88.here.top, hx, (hb hby d1_172), X88.method', Bd.returns, Value.isRef, FieldType.isReference]
                                        first | (intro acts; rw [hr _ acts rfl rfl rfl]) | rw [hr _ _ rfl rfl rfl]
                                        exact Steps.refl _
                                      · show Q_rm1 Z q0 fw h0 n0 _ T88.heap _
                                        rw [e88]
                                        exact ⟨own_v (congrArg fw (by rw [hc166_86]; decide)), N0, rfl⟩
                                    · have R92 : Rch p e below (s₁.setTop (entryFrame m #[(.int q0)] 1)) s₁ (mkF m 176 #[.val (.int q0)] [(.int (18 : Int32)), (.int q0)]) := fun t k => by
                                        refine R87 t ?_
                                        refine XS.icmpYes X0.here hx rfl (pc0 := 166) (pc' := 173) rfl (hb hby d1_166) rfl (feq hc166_86).2 (by decide) (by decide) ?_
                                        show Steps p.tables e below (s₁.setTop (mkF m 173 #[.val (.int q0)] [])) t
                                        refine XS.iloadN X0.here hx rfl (hb hby d1_173) rfl ?_
                                        show Steps p.tables e below (s₁.setTop (mkF m 174 #[.val (.int q0)] [(.int q0)])) t
                                        refine XS.bipush X0.here hx rfl (hb hby d1_174) ?_
                                        exact k
                                      by_cases hc176_91 : q0 = (18 : Int32)
                                      · have R94 : Rch p e below (s₁.setTop (entryFrame m #[(.int q0)] 1)) s₁ (mkF m 179 #[.val (.int q0)] []) := fun t k => by
                                          refine R92 t ?_
                                          refine XS.icmpNo X0.here hx rfl (hb hby d1_176) rfl (teq hc176_91).2 ?_
                                          exact k
                                        obtain ⟨T93, X93, e93, st93⟩ := getS2 X0 hx hZ hown (host := "") (Or.inl (hw _ (List.mem_of_getElem? (i := 71) rfl))) Via.refl e0 pS18 (g := (mkF m 179 #[.val (.int q0)] [])) rfl (hb hby d1_179)
                                        have R95 : Rch p e below (s₁.setTop (entryFrame m #[(.int q0)] 1)) T93 (mkF m 182 #[.val (.int q0)] [(.ref (fw (18 : Int32)))]) := fun t k => by
                                          refine R94 t ?_
                                          refine st93 _ ?_
                                          exact k
                                        obtain ⟨fs, hr, hrun, hended, hW, hsame⟩ := X93.leave (v := some (.ref (fw (18 : Int32)))) (fun h => by rw [Bd.returns] at h; cases h)
                                        refine ⟨_, _, R95 _ ?_, hrun, hended, _, _, rfl, ?_, ⟨_, rfl⟩, hW, hsame.mono (by decide) (by decide)⟩
                                        · jvm_step X93.here [X93.here.top, hx, (hb hby d1_182), X93.method', Bd.returns, Value.isRef, FieldType.isReference]
                                          first | (intro acts; rw [hr _ acts rfl rfl rfl]) | rw [hr _ _ rfl rfl rfl]
                                          exact Steps.refl _
                                        · show Q_rm1 Z q0 fw h0 n0 _ T93.heap _
                                          rw [e93]
                                          exact ⟨own_v (congrArg fw (by rw [hc176_91]; decide)), N0, rfl⟩
                                      · have R97 : Rch p e below (s₁.setTop (entryFrame m #[(.int q0)] 1)) s₁ (mkF m 186 #[.val (.int q0)] [(.int (19 : Int32)), (.int q0)]) := fun t k => by
                                          refine R92 t ?_
                                          refine XS.icmpYes X0.here hx rfl (pc0 := 176) (pc' := 183) rfl (hb hby d1_176) rfl (feq hc176_91).2 (by decide) (by decide) ?_
                                          show Steps p.tables e below (s₁.setTop (mkF m 183 #[.val (.int q0)] [])) t
                                          refine XS.iloadN X0.here hx rfl (hb hby d1_183) rfl ?_
                                          show Steps p.tables e below (s₁.setTop (mkF m 184 #[.val (.int q0)] [(.int q0)])) t
                                          refine XS.bipush X0.here hx rfl (hb hby d1_184) ?_
                                          exact k
                                        by_cases hc186_96 : q0 = (19 : Int32)
                                        · have R99 : Rch p e below (s₁.setTop (entryFrame m #[(.int q0)] 1)) s₁ (mkF m 189 #[.val (.int q0)] []) := fun t k => by
                                            refine R97 t ?_
                                            refine XS.icmpNo X0.here hx rfl (hb hby d1_186) rfl (teq hc186_96).2 ?_
                                            exact k
                                          obtain ⟨T98, X98, e98, st98⟩ := getS2 X0 hx hZ hown (host := "") (Or.inl (hw _ (List.mem_of_getElem? (i := 65) rfl))) Via.refl e0 pS19 (g := (mkF m 189 #[.val (.int q0)] [])) rfl (hb hby d1_189)
                                          have R100 : Rch p e below (s₁.setTop (entryFrame m #[(.int q0)] 1)) T98 (mkF m 192 #[.val (.int q0)] [(.ref (fw (19 : Int32)))]) := fun t k => by
                                            refine R99 t ?_
                                            refine st98 _ ?_
                                            exact k
                                          obtain ⟨fs, hr, hrun, hended, hW, hsame⟩ := X98.leave (v := some (.ref (fw (19 : Int32)))) (fun h => by rw [Bd.returns] at h; cases h)
                                          refine ⟨_, _, R100 _ ?_, hrun, hended, _, _, rfl, ?_, ⟨_, rfl⟩, hW, hsame.mono (by decide) (by decide)⟩
                                          · jvm_step X98.here [X98.here.top, hx, (hb hby d1_192), X98.method', Bd.returns, Value.isRef, FieldType.isReference]
                                            first | (intro acts; rw [hr _ acts rfl rfl rfl]) | rw [hr _ _ rfl rfl rfl]
                                            exact Steps.refl _
                                          · show Q_rm1 Z q0 fw h0 n0 _ T98.heap _
                                            rw [e98]
                                            exact ⟨own_v (congrArg fw (by rw [hc186_96]; decide)), N0, rfl⟩
                                        · have R102 : Rch p e below (s₁.setTop (entryFrame m #[(.int q0)] 1)) s₁ (mkF m 196 #[.val (.int q0)] [(.int (20 : Int32)), (.int q0)]) := fun t k => by
                                            refine R97 t ?_
                                            refine XS.icmpYes X0.here hx rfl (pc0 := 186) (pc' := 193) rfl (hb hby d1_186) rfl (feq hc186_96).2 (by decide) (by decide) ?_
                                            show Steps p.tables e below (s₁.setTop (mkF m 193 #[.val (.int q0)] [])) t
                                            refine XS.iloadN X0.here hx rfl (hb hby d1_193) rfl ?_
                                            show Steps p.tables e below (s₁.setTop (mkF m 194 #[.val (.int q0)] [(.int q0)])) t
                                            refine XS.bipush X0.here hx rfl (hb hby d1_194) ?_
                                            exact k
                                          by_cases hc196_101 : q0 = (20 : Int32)
                                          · have R104 : Rch p e below (s₁.setTop (entryFrame m #[(.int q0)] 1)) s₁ (mkF m 199 #[.val (.int q0)] []) := fun t k => by
                                              refine R102 t ?_
                                              refine XS.icmpNo X0.here hx rfl (hb hby d1_196) rfl (teq hc196_101).2 ?_
                                              exact k
                                            obtain ⟨T103, X103, e103, st103⟩ := getS2 X0 hx hZ hown (host := "") (Or.inl (hw _ (List.mem_of_getElem? (i := 50) rfl))) Via.refl e0 pS20 (g := (mkF m 199 #[.val (.int q0)] [])) rfl (hb hby d1_199)
                                            have R105 : Rch p e below (s₁.setTop (entryFrame m #[(.int q0)] 1)) T103 (mkF m 202 #[.val (.int q0)] [(.ref (fw (20 : Int32)))]) := fun t k => by
                                              refine R104 t ?_
                                              refine st103 _ ?_
                                              exact k
                                            obtain ⟨fs, hr, hrun, hended, hW, hsame⟩ := X103.leave (v := some (.ref (fw (20 : Int32)))) (fun h => by rw [Bd.returns] at h; cases h)
                                            refine ⟨_, _, R105 _ ?_, hrun, hended, _, _, rfl, ?_, ⟨_, rfl⟩, hW, hsame.mono (by decide) (by decide)⟩
                                            · jvm_step X103.here [X103.here.top, hx, (hb hby d1_202), X103.method', Bd.returns, Value.isRef, FieldType.isReference]
                                              first | (intro acts; rw [hr _ acts rfl rfl rfl]) | rw [hr _ _ rfl rfl rfl]
                                              exact Steps.refl _
                                            · show Q_rm1 Z q0 fw h0 n0 _ T103.heap _
                                              rw [e103]
                                              exact ⟨own_v (congrArg fw (by rw [hc196_101]; decide)), N0, rfl⟩
                                          · have R107 : Rch p e below (s₁.setTop (entryFrame m #[(.int q0)] 1)) s₁ (mkF m 206 #[.val (.int q0)] [(.int (21 : Int32)), (.int q0)]) := fun t k => by
                                              refine R102 t ?_
                                              refine XS.icmpYes X0.here hx rfl (pc0 := 196) (pc' := 203) rfl (hb hby d1_196) rfl (feq hc196_101).2 (by decide) (by decide) ?_
                                              show Steps p.tables e below (s₁.setTop (mkF m 203 #[.val (.int q0)] [])) t
                                              refine XS.iloadN X0.here hx rfl (hb hby d1_203) rfl ?_
                                              show Steps p.tables e below (s₁.setTop (mkF m 204 #[.val (.int q0)] [(.int q0)])) t
                                              refine XS.bipush X0.here hx rfl (hb hby d1_204) ?_
                                              exact k
                                            by_cases hc206_106 : q0 = (21 : Int32)
                                            · have R109 : Rch p e below (s₁.setTop (entryFrame m #[(.int q0)] 1)) s₁ (mkF m 209 #[.val (.int q0)] []) := fun t k => by
                                                refine R107 t ?_
                                                refine XS.icmpNo X0.here hx rfl (hb hby d1_206) rfl (teq hc206_106).2 ?_
                                                exact k
                                              obtain ⟨T108, X108, e108, st108⟩ := getS2 X0 hx hZ hown (host := "") (Or.inl (hw _ (List.mem_of_getElem? (i := 81) rfl))) Via.refl e0 pS21 (g := (mkF m 209 #[.val (.int q0)] [])) rfl (hb hby d1_209)
                                              have R110 : Rch p e below (s₁.setTop (entryFrame m #[(.int q0)] 1)) T108 (mkF m 212 #[.val (.int q0)] [(.ref (fw (21 : Int32)))]) := fun t k => by
                                                refine R109 t ?_
                                                refine st108 _ ?_
                                                exact k
                                              obtain ⟨fs, hr, hrun, hended, hW, hsame⟩ := X108.leave (v := some (.ref (fw (21 : Int32)))) (fun h => by rw [Bd.returns] at h; cases h)
                                              refine ⟨_, _, R110 _ ?_, hrun, hended, _, _, rfl, ?_, ⟨_, rfl⟩, hW, hsame.mono (by decide) (by decide)⟩
                                              · jvm_step X108.here [X108.here.top, hx, (hb hby d1_212), X108.method', Bd.returns, Value.isRef, FieldType.isReference]
                                                first | (intro acts; rw [hr _ acts rfl rfl rfl]) | rw [hr _ _ rfl rfl rfl]
                                                exact Steps.refl _
                                              · show Q_rm1 Z q0 fw h0 n0 _ T108.heap _
                                                rw [e108]
                                                exact ⟨own_v (congrArg fw (by rw [hc206_106]; decide)), N0, rfl⟩
                                            · have R112 : Rch p e below (s₁.setTop (entryFrame m #[(.int q0)] 1)) s₁ (mkF m 216 #[.val (.int q0)] [(.int (22 : Int32)), (.int q0)]) := fun t k => by
                                                refine R107 t ?_
                                                refine XS.icmpYes X0.here hx rfl (pc0 := 206) (pc' := 213) rfl (hb hby d1_206) rfl (feq hc206_106).2 (by decide) (by decide) ?_
                                                show Steps p.tables e below (s₁.setTop (mkF m 213 #[.val (.int q0)] [])) t
                                                refine XS.iloadN X0.here hx rfl (hb hby d1_213) rfl ?_
                                                show Steps p.tables e below (s₁.setTop (mkF m 214 #[.val (.int q0)] [(.int q0)])) t
                                                refine XS.bipush X0.here hx rfl (hb hby d1_214) ?_
                                                exact k
                                              by_cases hc216_111 : q0 = (22 : Int32)
                                              · have R114 : Rch p e below (s₁.setTop (entryFrame m #[(.int q0)] 1)) s₁ (mkF m 219 #[.val (.int q0)] []) := fun t k => by
                                                  refine R112 t ?_
                                                  refine XS.icmpNo X0.here hx rfl (hb hby d1_216) rfl (teq hc216_111).2 ?_
                                                  exact k
                                                obtain ⟨T113, X113, e113, st113⟩ := getS2 X0 hx hZ hown (host := "") (Or.inl (hw _ (List.mem_of_getElem? (i := 73) rfl))) Via.refl e0 pS22 (g := (mkF m 219 #[.val (.int q0)] [])) rfl (hb hby d1_219)
                                                have R115 : Rch p e below (s₁.setTop (entryFrame m #[(.int q0)] 1)) T113 (mkF m 222 #[.val (.int q0)] [(.ref (fw (22 : Int32)))]) := fun t k => by
                                                  refine R114 t ?_
                                                  refine st113 _ ?_
                                                  exact k
                                                obtain ⟨fs, hr, hrun, hended, hW, hsame⟩ := X113.leave (v := some (.ref (fw (22 : Int32)))) (fun h => by rw [Bd.returns] at h; cases h)
                                                refine ⟨_, _, R115 _ ?_, hrun, hended, _, _, rfl, ?_, ⟨_, rfl⟩, hW, hsame.mono (by decide) (by decide)⟩
                                                · jvm_step X113.here [X113.here.top, hx, (hb hby d1_222), X113.method', Bd.returns, Value.isRef, FieldType.isReference]
                                                  first | (intro acts; rw [hr _ acts rfl rfl rfl]) | rw [hr _ _ rfl rfl rfl]
                                                  exact Steps.refl _
                                                · show Q_rm1 Z q0 fw h0 n0 _ T113.heap _
                                                  rw [e113]
                                                  exact ⟨own_v (congrArg fw (by rw [hc216_111]; decide)), N0, rfl⟩
                                              · have R117 : Rch p e below (s₁.setTop (entryFrame m #[(.int q0)] 1)) s₁ (mkF m 226 #[.val (.int q0)] [(.int (23 : Int32)), (.int q0)]) := fun t k => by
                                                  refine R112 t ?_
                                                  refine XS.icmpYes X0.here hx rfl (pc0 := 216) (pc' := 223) rfl (hb hby d1_216) rfl (feq hc216_111).2 (by decide) (by decide) ?_
                                                  show Steps p.tables e below (s₁.setTop (mkF m 223 #[.val (.int q0)] [])) t
                                                  refine XS.iloadN X0.here hx rfl (hb hby d1_223) rfl ?_
                                                  show Steps p.tables e below (s₁.setTop (mkF m 224 #[.val (.int q0)] [(.int q0)])) t
                                                  refine XS.bipush X0.here hx rfl (hb hby d1_224) ?_
                                                  exact k
                                                by_cases hc226_116 : q0 = (23 : Int32)
                                                · have R119 : Rch p e below (s₁.setTop (entryFrame m #[(.int q0)] 1)) s₁ (mkF m 229 #[.val (.int q0)] []) := fun t k => by
                                                    refine R117 t ?_
                                                    refine XS.icmpNo X0.here hx rfl (hb hby d1_226) rfl (teq hc226_116).2 ?_
                                                    exact k
                                                  obtain ⟨T118, X118, e118, st118⟩ := getS2 X0 hx hZ hown (host := "") (Or.inl (hw _ (List.mem_of_getElem? (i := 36) rfl))) Via.refl e0 pS23 (g := (mkF m 229 #[.val (.int q0)] [])) rfl (hb hby d1_229)
                                                  have R120 : Rch p e below (s₁.setTop (entryFrame m #[(.int q0)] 1)) T118 (mkF m 232 #[.val (.int q0)] [(.ref (fw (23 : Int32)))]) := fun t k => by
                                                    refine R119 t ?_
                                                    refine st118 _ ?_
                                                    exact k
                                                  obtain ⟨fs, hr, hrun, hended, hW, hsame⟩ := X118.leave (v := some (.ref (fw (23 : Int32)))) (fun h => by rw [Bd.returns] at h; cases h)
                                                  refine ⟨_, _, R120 _ ?_, hrun, hended, _, _, rfl, ?_, ⟨_, rfl⟩, hW, hsame.mono (by decide) (by decide)⟩
                                                  · jvm_step X118.here [X118.here.top, hx, (hb hby d1_232), X118.method', Bd.returns, Value.isRef, FieldType.isReference]
                                                    first | (intro acts; rw [hr _ acts rfl rfl rfl]) | rw [hr _ _ rfl rfl rfl]
                                                    exact Steps.refl _
                                                  · show Q_rm1 Z q0 fw h0 n0 _ T118.heap _
                                                    rw [e118]
                                                    exact ⟨own_v (congrArg fw (by rw [hc226_116]; decide)), N0, rfl⟩
                                                · have R122 : Rch p e below (s₁.setTop (entryFrame m #[(.int q0)] 1)) s₁ (mkF m 236 #[.val (.int q0)] [(.int (24 : Int32)), (.int q0)]) := fun t k => by
                                                    refine R117 t ?_
                                                    refine XS.icmpYes X0.here hx rfl (pc0 := 226) (pc' := 233) rfl (hb hby d1_226) rfl (feq hc226_116).2 (by decide) (by decide) ?_
                                                    show Steps p.tables e below (s₁.setTop (mkF m 233 #[.val (.int q0)] [])) t
                                                    refine XS.iloadN X0.here hx rfl (hb hby d1_233) rfl ?_
                                                    show Steps p.tables e below (s₁.setTop (mkF m 234 #[.val (.int q0)] [(.int q0)])) t
                                                    refine XS.bipush X0.here hx rfl (hb hby d1_234) ?_
                                                    exact k
                                                  by_cases hc236_121 : q0 = (24 : Int32)
                                                  · have R124 : Rch p e below (s₁.setTop (entryFrame m #[(.int q0)] 1)) s₁ (mkF m 239 #[.val (.int q0)] []) := fun t k => by
                                                      refine R122 t ?_
                                                      refine XS.icmpNo X0.here hx rfl (hb hby d1_236) rfl (teq hc236_121).2 ?_
                                                      exact k
                                                    obtain ⟨T123, X123, e123, st123⟩ := getS2 X0 hx hZ hown (host := "") (Or.inl (hw _ (List.mem_of_getElem? (i := 63) rfl))) Via.refl e0 pS24 (g := (mkF m 239 #[.val (.int q0)] [])) rfl (hb hby d1_239)
                                                    have R125 : Rch p e below (s₁.setTop (entryFrame m #[(.int q0)] 1)) T123 (mkF m 242 #[.val (.int q0)] [(.ref (fw (24 : Int32)))]) := fun t k => by
                                                      refine R124 t ?_
                                                      refine st123 _ ?_
                                                      exact k
                                                    obtain ⟨fs, hr, hrun, hended, hW, hsame⟩ := X123.leave (v := some (.ref (fw (24 : Int32)))) (fun h => by rw [Bd.returns] at h; cases h)
                                                    refine ⟨_, _, R125 _ ?_, hrun, hended, _, _, rfl, ?_, ⟨_, rfl⟩, hW, hsame.mono (by decide) (by decide)⟩
                                                    · jvm_step X123.here [X123.here.top, hx, (hb hby d1_242), X123.method', Bd.returns, Value.isRef, FieldType.isReference]
                                                      first | (intro acts; rw [hr _ acts rfl rfl rfl]) | rw [hr _ _ rfl rfl rfl]
                                                      exact Steps.refl _
                                                    · show Q_rm1 Z q0 fw h0 n0 _ T123.heap _
                                                      rw [e123]
                                                      exact ⟨own_v (congrArg fw (by rw [hc236_121]; decide)), N0, rfl⟩
                                                  · have R127 : Rch p e below (s₁.setTop (entryFrame m #[(.int q0)] 1)) s₁ (mkF m 246 #[.val (.int q0)] [(.int (25 : Int32)), (.int q0)]) := fun t k => by
                                                      refine R122 t ?_
                                                      refine XS.icmpYes X0.here hx rfl (pc0 := 236) (pc' := 243) rfl (hb hby d1_236) rfl (feq hc236_121).2 (by decide) (by decide) ?_
                                                      show Steps p.tables e below (s₁.setTop (mkF m 243 #[.val (.int q0)] [])) t
                                                      refine XS.iloadN X0.here hx rfl (hb hby d1_243) rfl ?_
                                                      show Steps p.tables e below (s₁.setTop (mkF m 244 #[.val (.int q0)] [(.int q0)])) t
                                                      refine XS.bipush X0.here hx rfl (hb hby d1_244) ?_
                                                      exact k
                                                    by_cases hc246_126 : q0 = (25 : Int32)
                                                    · have R129 : Rch p e below (s₁.setTop (entryFrame m #[(.int q0)] 1)) s₁ (mkF m 249 #[.val (.int q0)] []) := fun t k => by
                                                        refine R127 t ?_
                                                        refine XS.icmpNo X0.here hx rfl (hb hby d1_246) rfl (teq hc246_126).2 ?_
                                                        exact k
                                                      obtain ⟨T128, X128, e128, st128⟩ := getS2 X0 hx hZ hown (host := "") (Or.inl (hw _ (List.mem_of_getElem? (i := 60) rfl))) Via.refl e0 pS25 (g := (mkF m 249 #[.val (.int q0)] [])) rfl (hb hby d1_249)
                                                      have R130 : Rch p e below (s₁.setTop (entryFrame m #[(.int q0)] 1)) T128 (mkF m 252 #[.val (.int q0)] [(.ref (fw (25 : Int32)))]) := fun t k => by
                                                        refine R129 t ?_
                                                        refine st128 _ ?_
                                                        exact k
                                                      obtain ⟨fs, hr, hrun, hended, hW, hsame⟩ := X128.leave (v := some (.ref (fw (25 : Int32)))) (fun h => by rw [Bd.returns] at h; cases h)
                                                      refine ⟨_, _, R130 _ ?_, hrun, hended, _, _, rfl, ?_, ⟨_, rfl⟩, hW, hsame.mono (by decide) (by decide)⟩
                                                      · jvm_step X128.here [X128.here.top, hx, (hb hby d1_252), X128.method', Bd.returns, Value.isRef, FieldType.isReference]
                                                        first | (intro acts; rw [hr _ acts rfl rfl rfl]) | rw [hr _ _ rfl rfl rfl]
                                                        exact Steps.refl _
                                                      · show Q_rm1 Z q0 fw h0 n0 _ T128.heap _
                                                        rw [e128]
                                                        exact ⟨own_v (congrArg fw (by rw [hc246_126]; decide)), N0, rfl⟩
                                                    · have R132 : Rch p e below (s₁.setTop (entryFrame m #[(.int q0)] 1)) s₁ (mkF m 256 #[.val (.int q0)] [(.int (26 : Int32)), (.int q0)]) := fun t k => by
                                                        refine R127 t ?_
                                                        refine XS.icmpYes X0.here hx rfl (pc0 := 246) (pc' := 253) rfl (hb hby d1_246) rfl (feq hc246_126).2 (by decide) (by decide) ?_
                                                        show Steps p.tables e below (s₁.setTop (mkF m 253 #[.val (.int q0)] [])) t
                                                        refine XS.iloadN X0.here hx rfl (hb hby d1_253) rfl ?_
                                                        show Steps p.tables e below (s₁.setTop (mkF m 254 #[.val (.int q0)] [(.int q0)])) t
                                                        refine XS.bipush X0.here hx rfl (hb hby d1_254) ?_
                                                        exact k
                                                      by_cases hc256_131 : q0 = (26 : Int32)
                                                      · have R134 : Rch p e below (s₁.setTop (entryFrame m #[(.int q0)] 1)) s₁ (mkF m 259 #[.val (.int q0)] []) := fun t k => by
                                                          refine R132 t ?_
                                                          refine XS.icmpNo X0.here hx rfl (hb hby d1_256) rfl (teq hc256_131).2 ?_
                                                          exact k
                                                        obtain ⟨T133, X133, e133, st133⟩ := getS2 X0 hx hZ hown (host := "") (Or.inl (hw _ (List.mem_of_getElem? (i := 83) rfl))) Via.refl e0 pS26 (g := (mkF m 259 #[.val (.int q0)] [])) rfl (hb hby d1_259)
                                                        have R135 : Rch p e below (s₁.setTop (entryFrame m #[(.int q0)] 1)) T133 (mkF m 262 #[.val (.int q0)] [(.ref (fw (26 : Int32)))]) := fun t k => by
                                                          refine R134 t ?_
                                                          refine st133 _ ?_
                                                          exact k
                                                        obtain ⟨fs, hr, hrun, hended, hW, hsame⟩ := X133.leave (v := some (.ref (fw (26 : Int32)))) (fun h => by rw [Bd.returns] at h; cases h)
                                                        refine ⟨_, _, R135 _ ?_, hrun, hended, _, _, rfl, ?_, ⟨_, rfl⟩, hW, hsame.mono (by decide) (by decide)⟩
                                                        · jvm_step X133.here [X133.here.top, hx, (hb hby d1_262), X133.method', Bd.returns, Value.isRef, FieldType.isReference]
                                                          first | (intro acts; rw [hr _ acts rfl rfl rfl]) | rw [hr _ _ rfl rfl rfl]
                                                          exact Steps.refl _
                                                        · show Q_rm1 Z q0 fw h0 n0 _ T133.heap _
                                                          rw [e133]
                                                          exact ⟨own_v (congrArg fw (by rw [hc256_131]; decide)), N0, rfl⟩
                                                      · have R137 : Rch p e below (s₁.setTop (entryFrame m #[(.int q0)] 1)) s₁ (mkF m 266 #[.val (.int q0)] [(.int (27 : Int32)), (.int q0)]) := fun t k => by
                                                          refine R132 t ?_
                                                          refine XS.icmpYes X0.here hx rfl (pc0 := 256) (pc' := 263) rfl (hb hby d1_256) rfl (feq hc256_131).2 (by decide) (by decide) ?_
                                                          show Steps p.tables e below (s₁.setTop (mkF m 263 #[.val (.int q0)] [])) t
                                                          refine XS.iloadN X0.here hx rfl (hb hby d1_263) rfl ?_
                                                          show Steps p.tables e below (s₁.setTop (mkF m 264 #[.val (.int q0)] [(.int q0)])) t
                                                          refine XS.bipush X0.here hx rfl (hb hby d1_264) ?_
                                                          exact k
                                                        by_cases hc266_136 : q0 = (27 : Int32)
                                                        · have R139 : Rch p e below (s₁.setTop (entryFrame m #[(.int q0)] 1)) s₁ (mkF m 269 #[.val (.int q0)] []) := fun t k => by
                                                            refine R137 t ?_
                                                            refine XS.icmpNo X0.here hx rfl (hb hby d1_266) rfl (teq hc266_136).2 ?_
                                                            exact k
                                                          obtain ⟨T138, X138, e138, st138⟩ := getS2 X0 hx hZ hown (host := "") (Or.inl (hw _ (List.mem_of_getElem? (i := 56) rfl))) Via.refl e0 pS27 (g := (mkF m 269 #[.val (.int q0)] [])) rfl (hb hby d1_269)
                                                          have R140 : Rch p e below (s₁.setTop (entryFrame m #[(.int q0)] 1)) T138 (mkF m 272 #[.val (.int q0)] [(.ref (fw (27 : Int32)))]) := fun t k => by
                                                            refine R139 t ?_
                                                            refine st138 _ ?_
                                                            exact k
                                                          obtain ⟨fs, hr, hrun, hended, hW, hsame⟩ := X138.leave (v := some (.ref (fw (27 : Int32)))) (fun h => by rw [Bd.returns] at h; cases h)
                                                          refine ⟨_, _, R140 _ ?_, hrun, hended, _, _, rfl, ?_, ⟨_, rfl⟩, hW, hsame.mono (by decide) (by decide)⟩
                                                          · jvm_step X138.here [X138.here.top, hx, (hb hby d1_272), X138.method', Bd.returns, Value.isRef, FieldType.isReference]
                                                            first | (intro acts; rw [hr _ acts rfl rfl rfl]) | rw [hr _ _ rfl rfl rfl]
                                                            exact Steps.refl _
                                                          · show Q_rm1 Z q0 fw h0 n0 _ T138.heap _
                                                            rw [e138]
                                                            exact ⟨own_v (congrArg fw (by rw [hc266_136]; decide)), N0, rfl⟩
                                                        · have R142 : Rch p e below (s₁.setTop (entryFrame m #[(.int q0)] 1)) s₁ (mkF m 273 #[.val (.int q0)] []) := fun t k => by
                                                            refine R137 t ?_
                                                            refine XS.icmpYes X0.here hx rfl (pc0 := 266) (pc' := 273) rfl (hb hby d1_266) rfl (feq hc266_136).2 (by decide) (by decide) ?_
                                                            exact k
                                                          obtain ⟨T141, X141, e141, st141⟩ := getS2 X0 hx hZ hown (host := "") (Or.inl (hw _ (List.mem_of_getElem? (i := 58) rfl))) Via.refl e0 pS28 (g := (mkF m 273 #[.val (.int q0)] [])) rfl (hb hby d1_273)
                                                          have R143 : Rch p e below (s₁.setTop (entryFrame m #[(.int q0)] 1)) T141 (mkF m 276 #[.val (.int q0)] [(.ref (fw (28 : Int32)))]) := fun t k => by
                                                            refine R142 t ?_
                                                            refine st141 _ ?_
                                                            exact k
                                                          obtain ⟨fs, hr, hrun, hended, hW, hsame⟩ := X141.leave (v := some (.ref (fw (28 : Int32)))) (fun h => by rw [Bd.returns] at h; cases h)
                                                          refine ⟨_, _, R143 _ ?_, hrun, hended, _, _, rfl, ?_, ⟨_, rfl⟩, hW, hsame.mono (by decide) (by decide)⟩
                                                          · jvm_step X141.here [X141.here.top, hx, (hb hby d1_276), X141.method', Bd.returns, Value.isRef, FieldType.isReference]
                                                            first | (intro acts; rw [hr _ acts rfl rfl rfl]) | rw [hr _ _ rfl rfl rfl]
                                                            exact Steps.refl _
                                                          · show Q_rm1 Z q0 fw h0 n0 _ T141.heap _
                                                            rw [e141]
                                                            exact ⟨own_v (congrArg fw (by simp [own_cl, hc1_1, hc10_6, hc19_11, hc28_16, hc37_21, hc46_26, hc56_31, hc66_36, hc76_41, hc86_46, hc96_51, hc106_56, hc116_61, hc126_66, hc136_71, hc146_76, hc156_81, hc166_86, hc176_91, hc186_96, hc196_101, hc206_106, hc216_111, hc226_116, hc236_121, hc246_126, hc256_131, hc266_136])), N0, rfl⟩
theorem d3_0 : decode jdk_37_method_8_code 0 = .ok (.aload_n 1, 1) := by decide +kernel
theorem d3_1 : decode jdk_37_method_8_code 1 = .ok (.astore_n 2, 1) := by decide +kernel
theorem d3_2 : decode jdk_37_method_8_code 2 = .ok (.aload_n 0, 1) := by decide +kernel
theorem d3_3 : decode jdk_37_method_8_code 3 = .ok (.astore_n 3, 1) := by decide +kernel
theorem d3_4 : decode jdk_37_method_8_code 4 = .ok (.aload_n 3, 1) := by decide +kernel
theorem d3_5 : decode jdk_37_method_8_code 5 = .ok (.invokevirtual 29, 3) := by decide +kernel
theorem d3_8 : decode jdk_37_method_8_code 8 = .ok (.aload_n 2, 1) := by decide +kernel
theorem d3_9 : decode jdk_37_method_8_code 9 = .ok (.invokevirtual 29, 3) := by decide +kernel
theorem d3_12 : decode jdk_37_method_8_code 12 = .ok (.if_acmp .eq 22, 3) := by decide +kernel
theorem d3_34 : decode jdk_37_method_8_code 34 = .ok (.aload_n 3, 1) := by decide +kernel
theorem d3_35 : decode jdk_37_method_8_code 35 = .ok (.getfield 7, 3) := by decide +kernel
theorem d3_38 : decode jdk_37_method_8_code 38 = .ok (.aload_n 2, 1) := by decide +kernel
theorem d3_39 : decode jdk_37_method_8_code 39 = .ok (.getfield 7, 3) := by decide +kernel
theorem d3_42 : decode jdk_37_method_8_code 42 = .ok (.isub, 1) := by decide +kernel
theorem d3_43 : decode jdk_37_method_8_code 43 = .ok (.ireturn, 1) := by decide +kernel
theorem ef_rm3 (m : MethodId) (x0 : Addr) (x1 : Addr) : entryFrame m #[(.ref x0), (.ref x1)] 4 = mkF m 0 #[.val (.ref x0), .val (.ref x1), .unset, .unset] [] := by first | (simp [entryFrame, mkF, argsToLocals, Value.category]; done) | rfl
theorem pn_1 : plainName "java/lang/Enum" = true := by first | (simp [plainName, overriddenIn]; done) | decide +kernel
def Q_rm3 (Z : State) (o0 : Addr) (o1 : Addr) (q0 : Int32) (q1 : Int32) (mr : Addr) (h0 : Heap) (n0 : Nat) (v : Option Value) (h : Heap) (L : List Loc) : Prop := (v = some (.int (q0 - q1))) ∧ (Fr n0 L) ∧ (h = h0)
set_option maxRecDepth 65536 in
set_option maxHeartbeats 40000000 in
theorem rm3 (l : Launch) (Z : State) (a0 : Array Value) (hw : ∀ d ∈ tables_1, d.before a0 Z = true) (ws : List Jvm.Cond) (o0 : Addr) (o1 : Addr) (q0 : Int32) (q1 : Int32) (mr : Addr) (h0 : Heap) (n0 : Nat) (Z0 : n0 ≤ h0.size) (pE0 : Exa Z h0 o0 "com/example/assertion_to_token/assertiontotoken/rules/Rule") (pE1 : Exa Z h0 o1 "com/example/assertion_to_token/assertiontotoken/rules/Rule") (pF0 : Fld Z h0 o0 "java/lang/Enum" "ordinal" "I" (.int q0)) (pF1 : Fld Z h0 o1 "java/lang/Enum" "ordinal" "I" (.int q1)) (pM : own_Mir Z "com/example/assertion_to_token/assertiontotoken/rules/Rule" mr) :
    MetFree l (⟨"java/lang/Enum", "compareTo", "(Ljava/lang/Enum;)I"⟩ : MethodName) (head1 (Jvm.Cond.code (⟨"java/lang/Enum", "compareTo", "(Ljava/lang/Enum;)I"⟩ : MethodName) jdk_37_method_8_code 4 (some .int) :: ws) ({ frames := 1, cells := 0, slots := 0, locals := 15 } : Room)) (fun a U => a = #[(.ref o0), (.ref o1)] ∧ Z.Warmed39 U.vm ∧ U.heap = h0) (fun _ _ _ _ _ => True) (fun _ U o U' => ∃ v L, o = .returned v ∧ Q_rm3 Z o0 o1 q0 q1 mr h0 n0 v U'.heap L ∧ FrameEnd U o U' L ({ frames := 1, cells := 0, slots := 0, locals := 15 } : Room).cells ({ frames := 1, cells := 0, slots := 0, locals := 15 } : Room).slots) := by
  refine MetFree.of_bodySF (plainFor_of_name pn_1) hisR ?_
  intro p e s m args below meth c s₁ Bd hml0 hP hK
  obtain ⟨rfl, hZ, hh⟩ := hP
  have hx := Bd.exec
  have hby := Bd.bytes
  have hml : c.maxLocals = 4 := hml0
  have hown : s.vm.findClass "java/lang/Enum" = some m.cls := findClass_of_methodNamed Bd.named
  have hnm := (name_of_methodNamed Bd.named Bd.method).1
  have X0 : Stand p l e ({ frames := 1, cells := 0, slots := 0, locals := 15 } : Room) s m #[(.ref o0), (.ref o1)] below meth c s₁ [] 0 0 := Stand.of_body Bd
  have e0 : s₁.heap = h0 := by rw [← hh, Bd.state]; rfl
  have N0 := Fr.nil n0
  have K0 : Keep h0 h0 [] := Keep.refl _ _
  have R0 : Rch p e below (s₁.setTop (entryFrame m #[(.ref o0), (.ref o1)] 4)) s₁ (mkF m 0 #[.val (.ref o0), .val (.ref o1), .unset, .unset] []) := fun t k => castTop (ef_rm3 m o0 o1) k
  have R2 : Rch p e below (s₁.setTop (entryFrame m #[(.ref o0), (.ref o1)] 4)) s₁ (mkF m 5 #[.val (.ref o0), .val (.ref o1), .val (.ref o1), .val (.ref o0)] [(.ref o0)]) := fun t k => by
    refine R0 t ?_
    refine XS.aloadN X0.here hx rfl (hb hby d3_0) rfl rfl ?_
    show Steps p.tables e below (s₁.setTop (mkF m 1 #[.val (.ref o0), .val (.ref o1), .unset, .unset] [(.ref o1)])) t
    refine XS.astoreN X0.here hx rfl (hb hby d3_1) rfl rfl (l' := #[.val (.ref o0), .val (.ref o1), .val (.ref o1), .unset]) rfl ?_
    show Steps p.tables e below (s₁.setTop (mkF m 2 #[.val (.ref o0), .val (.ref o1), .val (.ref o1), .unset] [])) t
    refine XS.aloadN X0.here hx rfl (hb hby d3_2) rfl rfl ?_
    show Steps p.tables e below (s₁.setTop (mkF m 3 #[.val (.ref o0), .val (.ref o1), .val (.ref o1), .unset] [(.ref o0)])) t
    refine XS.astoreN X0.here hx rfl (hb hby d3_3) rfl rfl (l' := #[.val (.ref o0), .val (.ref o1), .val (.ref o1), .val (.ref o0)]) rfl ?_
    show Steps p.tables e below (s₁.setTop (mkF m 4 #[.val (.ref o0), .val (.ref o1), .val (.ref o1), .val (.ref o0)] [])) t
    refine XS.aloadN X0.here hx rfl (hb hby d3_4) rfl rfl ?_
    exact k
  obtain ⟨T1, X1, e1, st1⟩ := own_gcls X0 hx hZ hown (hw _ (List.mem_of_getElem? (i := 22) rfl)) (hw _ (List.mem_of_getElem? (i := 23) rfl)) (hw _ (List.mem_of_getElem? (i := 25) rfl)) (hw _ (List.mem_of_getElem? (i := 24) rfl)) (hw _ (List.mem_of_getElem? (i := 26) rfl)) e0 pE0 pM (g := (mkF m 5 #[.val (.ref o0), .val (.ref o1), .val (.ref o1), .val (.ref o0)] [(.ref o0)])) rfl (by rw [hml]; rfl) rfl (hb hby d3_5) (by decide) (by show 2 * 0 + _ + _ ≤ _; exact Nat.le_of_ble_eq_true rfl)
  have R4 : Rch p e below (s₁.setTop (entryFrame m #[(.ref o0), (.ref o1)] 4)) T1 (mkF m 9 #[.val (.ref o0), .val (.ref o1), .val (.ref o1), .val (.ref o0)] [(.ref o1), (.ref mr)]) := fun t k => by
    refine R2 t ?_
    refine st1 _ ?_
    show Steps p.tables e below (T1.setTop (mkF m 8 #[.val (.ref o0), .val (.ref o1), .val (.ref o1), .val (.ref o0)] [(.ref mr)])) t
    refine XS.aloadN X1.here hx rfl (hb hby d3_8) rfl rfl ?_
    exact k
  obtain ⟨T3, X3, e3, st3⟩ := own_gcls X1 hx hZ hown (hw _ (List.mem_of_getElem? (i := 22) rfl)) (hw _ (List.mem_of_getElem? (i := 23) rfl)) (hw _ (List.mem_of_getElem? (i := 25) rfl)) (hw _ (List.mem_of_getElem? (i := 24) rfl)) (hw _ (List.mem_of_getElem? (i := 26) rfl)) e1 pE1 pM (g := (mkF m 9 #[.val (.ref o0), .val (.ref o1), .val (.ref o1), .val (.ref o0)] [(.ref o1), (.ref mr)])) rfl (by rw [hml]; rfl) rfl (hb hby d3_9) (by decide) (by show 2 * 0 + _ + _ ≤ _; exact Nat.le_of_ble_eq_true rfl)
  have R6 : Rch p e below (s₁.setTop (entryFrame m #[(.ref o0), (.ref o1)] 4)) T3 (mkF m 35 #[.val (.ref o0), .val (.ref o1), .val (.ref o1), .val (.ref o0)] [(.ref o0)]) := fun t k => by
    refine R4 t ?_
    refine st3 _ ?_
    show Steps p.tables e below (T3.setTop (mkF m 12 #[.val (.ref o0), .val (.ref o1), .val (.ref o1), .val (.ref o0)] [(.ref mr), (.ref mr)])) t
    refine Jvm.RoadKit.acmp (g := (mkF m 12 #[.val (.ref o0), .val (.ref o1), .val (.ref o1), .val (.ref o0)] [(.ref mr), (.ref mr)])) X3 hx rfl rfl rfl (pc0 := 12) (pc' := 34) (same := true) rfl (hb hby d3_12) rfl (decide_eq_true rfl) (by decide) (by decide) ?_
    show Steps p.tables e below (T3.setTop (mkF m 34 #[.val (.ref o0), .val (.ref o1), .val (.ref o1), .val (.ref o0)] [])) t
    refine XS.aloadN X3.here hx rfl (hb hby d3_34) rfl rfl ?_
    exact k
  obtain ⟨T5, X5, e5, st5⟩ := getF X3 hx hZ hown (host := "") (Or.inl (hw _ (List.mem_of_getElem? (i := 28) rfl))) Via.refl e3 pF0 (g := (mkF m 35 #[.val (.ref o0), .val (.ref o1), .val (.ref o1), .val (.ref o0)] [(.ref o0)])) rfl rfl (hb hby d3_35)
  have R8 : Rch p e below (s₁.setTop (entryFrame m #[(.ref o0), (.ref o1)] 4)) T5 (mkF m 39 #[.val (.ref o0), .val (.ref o1), .val (.ref o1), .val (.ref o0)] [(.ref o1), (.int q0)]) := fun t k => by
    refine R6 t ?_
    refine st5 _ ?_
    show Steps p.tables e below (T5.setTop (mkF m 38 #[.val (.ref o0), .val (.ref o1), .val (.ref o1), .val (.ref o0)] [(.int q0)])) t
    refine XS.aloadN X5.here hx rfl (hb hby d3_38) rfl rfl ?_
    exact k
  obtain ⟨T7, X7, e7, st7⟩ := getF X5 hx hZ hown (host := "") (Or.inl (hw _ (List.mem_of_getElem? (i := 28) rfl))) Via.refl e5 pF1 (g := (mkF m 39 #[.val (.ref o0), .val (.ref o1), .val (.ref o1), .val (.ref o0)] [(.ref o1), (.int q0)])) rfl rfl (hb hby d3_39)
  have R9 : Rch p e below (s₁.setTop (entryFrame m #[(.ref o0), (.ref o1)] 4)) T7 (mkF m 43 #[.val (.ref o0), .val (.ref o1), .val (.ref o1), .val (.ref o0)] [(.int (q0 - q1))]) := fun t k => by
    refine R8 t ?_
    refine st7 _ ?_
    show Steps p.tables e below (T7.setTop (mkF m 42 #[.val (.ref o0), .val (.ref o1), .val (.ref o1), .val (.ref o0)] [(.int q1), (.int q0)])) t
    refine XS.isub X7.here hx rfl (hb hby d3_42) rfl ?_
    exact k
  obtain ⟨fs, hr, hrun, hended, hW, hsame⟩ := X7.leave (v := some (.int (q0 - q1))) (fun h => by rw [Bd.returns] at h; cases h)
  refine ⟨_, _, R9 _ ?_, hrun, hended, _, _, rfl, ?_, ⟨_, rfl⟩, hW, hsame.mono (by decide) (by decide)⟩
  · exact retI X7 hx Bd.returns (hb hby d3_43) hr
  · show Q_rm3 Z o0 o1 q0 q1 mr h0 n0 _ T7.heap _
    rw [e7]
    exact ⟨rfl, N0, rfl⟩
theorem d2_0 : decode prog_16_method_4_code 0 = .ok (.aload_n 0, 1) := by decide +kernel
theorem d2_1 : decode prog_16_method_4_code 1 = .ok (.getstatic 34, 3) := by decide +kernel
theorem d2_4 : decode prog_16_method_4_code 4 = .ok (.invokevirtual 110, 3) := by decide +kernel
theorem pd_0 : parseMethodDescriptor "(Ljava/lang/Enum;)I" = some ⟨[(.object "java/lang/Enum")], some .int⟩ := by decide +kernel
theorem d2_7 : decode prog_16_method_4_code 7 = .ok (.ifCond .ge 7, 3) := by decide +kernel
theorem d2_10 : decode prog_16_method_4_code 10 = .ok (.iconst 1, 1) := by decide +kernel
theorem d2_11 : decode prog_16_method_4_code 11 = .ok (.goto 4, 3) := by decide +kernel
theorem d2_15 : decode prog_16_method_4_code 15 = .ok (.ireturn, 1) := by decide +kernel
theorem d2_14 : decode prog_16_method_4_code 14 = .ok (.iconst 0, 1) := by decide +kernel
theorem ef_rm2 (m : MethodId) (x0 : Addr) : entryFrame m #[(.ref x0)] 1 = mkF m 0 #[.val (.ref x0)] [] := by first | (simp [entryFrame, mkF, argsToLocals, Value.category]; done) | rfl
theorem pn_2 : plainName "com/example/assertion_to_token/assertiontotoken/rules/Rule" = true := by first | (simp [plainName, overriddenIn]; done) | decide +kernel
def Q_rm2 (Z : State) (o0 : Addr) (o1 : Addr) (q0 : Int32) (mr : Addr) (h0 : Heap) (n0 : Nat) (v : Option Value) (h : Heap) (L : List Loc) : Prop := (v = some (.int (own_h q0))) ∧ (Fr n0 L) ∧ (h = h0)
set_option maxRecDepth 65536 in
set_option maxHeartbeats 40000000 in
theorem rm2 (l : Launch) (Z : State) (a0 : Array Value) (hw : ∀ d ∈ tables_1, d.before a0 Z = true) (ws : List Jvm.Cond) (o0 : Addr) (o1 : Addr) (q0 : Int32) (mr : Addr) (h0 : Heap) (n0 : Nat) (Z0 : n0 ≤ h0.size) (pS : Sta Z h0 "com/example/assertion_to_token/assertiontotoken/rules/Rule" "FORMAT" "Lcom/example/assertion_to_token/assertiontotoken/rules/Rule;" (.ref o1)) (pE0 : Exa Z h0 o0 "com/example/assertion_to_token/assertiontotoken/rules/Rule") (pE1 : Exa Z h0 o1 "com/example/assertion_to_token/assertiontotoken/rules/Rule") (pF0 : Fld Z h0 o0 "java/lang/Enum" "ordinal" "I" (.int q0)) (pF1 : Fld Z h0 o1 "java/lang/Enum" "ordinal" "I" (.int (10 : Int32))) (pM : own_Mir Z "com/example/assertion_to_token/assertiontotoken/rules/Rule" mr) :
    MetFree l (⟨"com/example/assertion_to_token/assertiontotoken/rules/Rule", "holdsClientCredentials", "()Z"⟩ : MethodName) (head1 (Jvm.Cond.code (⟨"com/example/assertion_to_token/assertiontotoken/rules/Rule", "holdsClientCredentials", "()Z"⟩ : MethodName) prog_16_method_4_code 1 (some .boolean) :: ws) ({ frames := 2, cells := 0, slots := 0, locals := 30 } : Room)) (fun a U => a = #[(.ref o0)] ∧ Z.Warmed39 U.vm ∧ U.heap = h0) (fun _ _ _ _ _ => True) (fun _ U o U' => ∃ v L, o = .returned v ∧ Q_rm2 Z o0 o1 q0 mr h0 n0 v U'.heap L ∧ FrameEnd U o U' L ({ frames := 2, cells := 0, slots := 0, locals := 30 } : Room).cells ({ frames := 2, cells := 0, slots := 0, locals := 30 } : Room).slots) := by
  refine MetFree.of_bodySF (plainFor_of_name pn_2) hisR ?_
  intro p e s m args below meth c s₁ Bd hml0 hP hK
  obtain ⟨rfl, hZ, hh⟩ := hP
  have hx := Bd.exec
  have hby := Bd.bytes
  have hml : c.maxLocals = 1 := hml0
  have hown : s.vm.findClass "com/example/assertion_to_token/assertiontotoken/rules/Rule" = some m.cls := findClass_of_methodNamed Bd.named
  have hnm := (name_of_methodNamed Bd.named Bd.method).1
  have X0 : Stand p l e ({ frames := 2, cells := 0, slots := 0, locals := 30 } : Room) s m #[(.ref o0)] below meth c s₁ [] 0 0 := Stand.of_body Bd
  have e0 : s₁.heap = h0 := by rw [← hh, Bd.state]; rfl
  have N0 := Fr.nil n0
  have K0 : Keep h0 h0 [] := Keep.refl _ _
  have R0 : Rch p e below (s₁.setTop (entryFrame m #[(.ref o0)] 1)) s₁ (mkF m 0 #[.val (.ref o0)] []) := fun t k => castTop (ef_rm2 m o0) k
  have R2 : Rch p e below (s₁.setTop (entryFrame m #[(.ref o0)] 1)) s₁ (mkF m 1 #[.val (.ref o0)] [(.ref o0)]) := fun t k => by
    refine R0 t ?_
    refine XS.aloadN X0.here hx rfl (hb hby d2_0) rfl rfl ?_
    exact k
  obtain ⟨T1, X1, e1, st1⟩ := getS2 X0 hx hZ hown (host := "") (Or.inl (hw _ (List.mem_of_getElem? (i := 13) rfl))) Via.refl e0 pS (g := (mkF m 1 #[.val (.ref o0)] [(.ref o0)])) rfl (hb hby d2_1)
  have R4 : Rch p e below (s₁.setTop (entryFrame m #[(.ref o0)] 1)) T1 (mkF m 4 #[.val (.ref o0)] [(.ref o1), (.ref o0)]) := fun t k => by
    refine R2 t ?_
    refine st1 _ ?_
    exact k
  obtain ⟨cq3, kq3, q3a, q3b, q3c⟩ := isOf hZ e1 pE0
  obtain ⟨_, _, ⟨T3, L3, k3, n3⟩, -, X3, ⟨Lc3, hQ3, l3, y3, z3⟩, st3⟩ := X1.virtualBackUp hx (owner := "java/lang/Enum") (x := (⟨"com/example/assertion_to_token/assertiontotoken/rules/Rule", "compareTo", "(Ljava/lang/Enum;)I"⟩ : MethodName)) (y := (⟨"java/lang/Enum", "compareTo", "(Ljava/lang/Enum;)I"⟩ : MethodName)) hown (mvT hZ (hw _ (List.mem_of_getElem? (i := 15) rfl))) (mvT hZ (hw _ (List.mem_of_getElem? (i := 16) rfl))) (mvT hZ (hw _ (List.mem_of_getElem? (i := 17) rfl))) (by decide) (mvT hZ (hw _ (List.mem_of_getElem? (i := 19) rfl))) (mvT hZ (hw _ (List.mem_of_getElem? (i := 18) rfl))) (backOf (W := 0) (rm3 l Z a0 hw [] o0 o1 q0 (10 : Int32) mr h0 n0 (Nat.le_trans Z0 K0.1) pE0 pE1 pF0 pF1 pM) hZ (hw _ (List.mem_of_getElem? (i := 21) rfl)) (hw _ (List.mem_of_getElem? (i := 20) rfl)) (by decide) (by decide)) q3a q3c (g := (mkF m 4 #[.val (.ref o0)] [(.ref o1), (.ref o0)])) rfl (by rw [hml]; rfl) (Steps.refl _) (argsL := [(.ref o1)]) (rest := []) (lenOf pd_0 rfl) rfl (by show 2 * 0 + _ ≤ _; exact Nat.le_of_eq rfl) (hb hby d2_4) (fun _ _ => ⟨rfl, e1, (by decide : 0 + 0 ≤ _), (by decide : 0 + 0 ≤ _)⟩)
  dsimp only [Pt.U, Pt.locs, Pt.cells, Pt.slots] at X3 l3 y3 z3 st3 hQ3
  subst l3 y3 z3
  obtain ⟨rfl, N3q, e3⟩ := hQ3
  have N3 := Fr.app N0 N3q
  have R6 : Rch p e below (s₁.setTop (entryFrame m #[(.ref o0)] 1)) T3 (mkF m 7 #[.val (.ref o0)] [(.int (q0 - (10 : Int32)))]) := fun t k => by
    refine R4 t ?_
    refine st3.trans ?_
    exact k
  by_cases hc7_5 : (q0 - (10 : Int32)) < (0 : Int32)
  · have R7 : Rch p e below (s₁.setTop (entryFrame m #[(.ref o0)] 1)) T3 (mkF m 15 #[.val (.ref o0)] [(.int (1 : Int32))]) := fun t k => by
      refine R6 t ?_
      refine XS.ifNo X3.here hx rfl (hb hby d2_7) rfl ((if0 _ _).trans (tlt hc7_5).2.1) ?_
      show Steps p.tables e below (T3.setTop (mkF m 10 #[.val (.ref o0)] [])) t
      refine XS.iconst X3.here hx rfl (hb hby d2_10) ?_
      show Steps p.tables e below (T3.setTop (mkF m 11 #[.val (.ref o0)] [(.int (1 : Int32))])) t
      refine XS.goto X3.here hx rfl (pc0 := 11) (pc' := 15) rfl (hb hby d2_11) (by decide) (by decide) ?_
      exact k
    obtain ⟨fs, hr, hrun, hended, hW, hsame⟩ := X3.leave (v := some (.int (1 : Int32))) (fun h => by rw [Bd.returns] at h; cases h)
    refine ⟨_, _, R7 _ ?_, hrun, hended, _, _, rfl, ?_, ⟨_, rfl⟩, hW, hsame.mono (by decide) (by decide)⟩
    · exact retN X3 hx (t := .boolean) Bd.returns (by simp) (hb hby d2_15) hr
    · show Q_rm2 Z o0 o1 q0 mr h0 n0 _ T3.heap _
      rw [e3]
      exact ⟨own_i (by simp [own_h, hc7_5]), N3, rfl⟩
  · have R8 : Rch p e below (s₁.setTop (entryFrame m #[(.ref o0)] 1)) T3 (mkF m 15 #[.val (.ref o0)] [(.int (0 : Int32))]) := fun t k => by
      refine R6 t ?_
      refine XS.ifYes X3.here hx rfl (pc0 := 7) (pc' := 14) rfl (hb hby d2_7) rfl ((if0 _ _).trans (flt hc7_5).2.1) (by decide) (by decide) ?_
      show Steps p.tables e below (T3.setTop (mkF m 14 #[.val (.ref o0)] [])) t
      refine XS.iconst X3.here hx rfl (hb hby d2_14) ?_
      exact k
    obtain ⟨fs, hr, hrun, hended, hW, hsame⟩ := X3.leave (v := some (.int (0 : Int32))) (fun h => by rw [Bd.returns] at h; cases h)
    refine ⟨_, _, R8 _ ?_, hrun, hended, _, _, rfl, ?_, ⟨_, rfl⟩, hW, hsame.mono (by decide) (by decide)⟩
    · exact retN X3 hx (t := .boolean) Bd.returns (by simp) (hb hby d2_15) hr
    · show Q_rm2 Z o0 o1 q0 mr h0 n0 _ T3.heap _
      rw [e3]
      exact ⟨own_i (by simp [own_h, hc7_5]), N3, rfl⟩
theorem pd_1 : parseMethodDescriptor "(I)Lcom/example/assertion_to_token/assertiontotoken/rules/Rule;" = some ⟨[.int], some (.object "com/example/assertion_to_token/assertiontotoken/rules/Rule")⟩ := by decide +kernel
theorem pd_2 : parseMethodDescriptor "()Z" = some ⟨[], some .boolean⟩ := by decide +kernel
theorem ef_rm0 (m : MethodId) (x0 : Int32) : entryFrame m #[(.int x0)] maxLocals = mkF m 0 #[.val (.int x0), .unset, .unset, .unset] [] := by first | (simp [entryFrame, mkF, argsToLocals, Value.category, maxLocals]; done) | rfl
def Q_rm0 (Z : State) (q0 : Int32) (fw : Int32 → Addr) (mr : Addr) (h0 : Heap) (n0 : Nat) (v : Option Value) (h : Heap) (L : List Loc) : Prop := (v = some (.int (1 : Int32))) ∧ (Fr n0 L) ∧ (h = h0)
set_option maxRecDepth 65536 in
set_option maxHeartbeats 40000000 in
theorem rm0 (l : Launch) (Z : State) (a0 : Array Value) (hw : ∀ d ∈ tables_1, d.before a0 Z = true) (ws : List Jvm.Cond) (q0 : Int32) (fw : Int32 → Addr) (mr : Addr) (h0 : Heap) (n0 : Nat) (Z0 : n0 ≤ h0.size) (pS0 : Sta Z h0 "com/example/assertion_to_token/assertiontotoken/rules/Rule" "CLIENT" "Lcom/example/assertion_to_token/assertiontotoken/rules/Rule;" (.ref (fw (0 : Int32)))) (pS1 : Sta Z h0 "com/example/assertion_to_token/assertiontotoken/rules/Rule" "CLIENT_FORMAT" "Lcom/example/assertion_to_token/assertiontotoken/rules/Rule;" (.ref (fw (1 : Int32)))) (pS2 : Sta Z h0 "com/example/assertion_to_token/assertiontotoken/rules/Rule" "CLIENT_SUBJECT" "Lcom/example/assertion_to_token/assertiontotoken/rules/Rule;" (.ref (fw (2 : Int32)))) (pS3 : Sta Z h0 "com/example/assertion_to_token/assertiontotoken/rules/Rule" "CLIENT_ALGORITHM" "Lcom/example/assertion_to_token/assertiontotoken/rules/Rule;" (.ref (fw (3 : Int32)))) (pS4 : Sta Z h0 "com/example/assertion_to_token/assertiontotoken/rules/Rule" "CLIENT_SIGNATURE" "Lcom/example/assertion_to_token/assertiontotoken/rules/Rule;" (.ref (fw (4 : Int32)))) (pS5 : Sta Z h0 "com/example/assertion_to_token/assertiontotoken/rules/Rule" "CLIENT_AUDIENCE" "Lcom/example/assertion_to_token/assertiontotoken/rules/Rule;" (.ref (fw (5 : Int32)))) (pS6 : Sta Z h0 "com/example/assertion_to_token/assertiontotoken/rules/Rule" "CLIENT_EXPIRY" "Lcom/example/assertion_to_token/assertiontotoken/rules/Rule;" (.ref (fw (6 : Int32)))) (pS7 : Sta Z h0 "com/example/assertion_to_token/assertiontotoken/rules/Rule" "CLIENT_JTI" "Lcom/example/assertion_to_token/assertiontotoken/rules/Rule;" (.ref (fw (7 : Int32)))) (pS8 : Sta Z h0 "com/example/assertion_to_token/assertiontotoken/rules/Rule" "CLIENT_ID" "Lcom/example/assertion_to_token/assertiontotoken/rules/Rule;" (.ref (fw (8 : Int32)))) (pS9 : Sta Z h0 "com/example/assertion_to_token/assertiontotoken/rules/Rule" "CLIENT_REPLAY" "Lcom/example/assertion_to_token/assertiontotoken/rules/Rule;" (.ref (fw (9 : Int32)))) (pS10 : Sta Z h0 "com/example/assertion_to_token/assertiontotoken/rules/Rule" "FORMAT" "Lcom/example/assertion_to_token/assertiontotoken/rules/Rule;" (.ref (fw (10 : Int32)))) (pS11 : Sta Z h0 "com/example/assertion_to_token/assertiontotoken/rules/Rule" "ISSUER" "Lcom/example/assertion_to_token/assertiontotoken/rules/Rule;" (.ref (fw (11 : Int32)))) (pS12 : Sta Z h0 "com/example/assertion_to_token/assertiontotoken/rules/Rule" "CLIENT_REQUIRED" "Lcom/example/assertion_to_token/assertiontotoken/rules/Rule;" (.ref (fw (12 : Int32)))) (pS13 : Sta Z h0 "com/example/assertion_to_token/assertiontotoken/rules/Rule" "CLIENT_NOT_ALLOWED" "Lcom/example/assertion_to_token/assertiontotoken/rules/Rule;" (.ref (fw (13 : Int32)))) (pS14 : Sta Z h0 "com/example/assertion_to_token/assertiontotoken/rules/Rule" "TRUST_EXPIRED" "Lcom/example/assertion_to_token/assertiontotoken/rules/Rule;" (.ref (fw (14 : Int32)))) (pS15 : Sta Z h0 "com/example/assertion_to_token/assertiontotoken/rules/Rule" "ALGORITHM" "Lcom/example/assertion_to_token/assertiontotoken/rules/Rule;" (.ref (fw (15 : Int32)))) (pS16 : Sta Z h0 "com/example/assertion_to_token/assertiontotoken/rules/Rule" "KEY_SOURCE" "Lcom/example/assertion_to_token/assertiontotoken/rules/Rule;" (.ref (fw (16 : Int32)))) (pS17 : Sta Z h0 "com/example/assertion_to_token/assertiontotoken/rules/Rule" "KEY" "Lcom/example/assertion_to_token/assertiontotoken/rules/Rule;" (.ref (fw (17 : Int32)))) (pS18 : Sta Z h0 "com/example/assertion_to_token/assertiontotoken/rules/Rule" "SIGNATURE" "Lcom/example/assertion_to_token/assertiontotoken/rules/Rule;" (.ref (fw (18 : Int32)))) (pS19 : Sta Z h0 "com/example/assertion_to_token/assertiontotoken/rules/Rule" "SUBJECT" "Lcom/example/assertion_to_token/assertiontotoken/rules/Rule;" (.ref (fw (19 : Int32)))) (pS20 : Sta Z h0 "com/example/assertion_to_token/assertiontotoken/rules/Rule" "SUBJECT_NOT_ALLOWED" "Lcom/example/assertion_to_token/assertiontotoken/rules/Rule;" (.ref (fw (20 : Int32)))) (pS21 : Sta Z h0 "com/example/assertion_to_token/assertiontotoken/rules/Rule" "AUDIENCE" "Lcom/example/assertion_to_token/assertiontotoken/rules/Rule;" (.ref (fw (21 : Int32)))) (pS22 : Sta Z h0 "com/example/assertion_to_token/assertiontotoken/rules/Rule" "EXPIRY" "Lcom/example/assertion_to_token/assertiontotoken/rules/Rule;" (.ref (fw (22 : Int32)))) (pS23 : Sta Z h0 "com/example/assertion_to_token/assertiontotoken/rules/Rule" "NOT_BEFORE" "Lcom/example/assertion_to_token/assertiontotoken/rules/Rule;" (.ref (fw (23 : Int32)))) (pS24 : Sta Z h0 "com/example/assertion_to_token/assertiontotoken/rules/Rule" "ISSUED_AT" "Lcom/example/assertion_to_token/assertiontotoken/rules/Rule;" (.ref (fw (24 : Int32)))) (pS25 : Sta Z h0 "com/example/assertion_to_token/assertiontotoken/rules/Rule" "LIFETIME" "Lcom/example/assertion_to_token/assertiontotoken/rules/Rule;" (.ref (fw (25 : Int32)))) (pS26 : Sta Z h0 "com/example/assertion_to_token/assertiontotoken/rules/Rule" "JTI" "Lcom/example/assertion_to_token/assertiontotoken/rules/Rule;" (.ref (fw (26 : Int32)))) (pS27 : Sta Z h0 "com/example/assertion_to_token/assertiontotoken/rules/Rule" "SCOPE" "Lcom/example/assertion_to_token/assertiontotoken/rules/Rule;" (.ref (fw (27 : Int32)))) (pS28 : Sta Z h0 "com/example/assertion_to_token/assertiontotoken/rules/Rule" "REPLAY" "Lcom/example/assertion_to_token/assertiontotoken/rules/Rule;" (.ref (fw (28 : Int32)))) (pE : ∀ k, own_ok k → Exa Z h0 (fw k) "com/example/assertion_to_token/assertiontotoken/rules/Rule") (pO : ∀ k, own_ok k → Fld Z h0 (fw k) "java/lang/Enum" "ordinal" "I" (.int k)) (pM : own_Mir Z "com/example/assertion_to_token/assertiontotoken/rules/Rule" mr) :
    MetFree l x (head1 (Jvm.Cond.code x code maxLocals ret :: ws) room_1) (fun a U => a = #[(.int q0)] ∧ Z.Warmed39 U.vm ∧ U.heap = h0) (fun _ _ _ _ _ => True) (fun _ U o U' => ∃ v L, o = .returned v ∧ Q_rm0 Z q0 fw mr h0 n0 v U'.heap L ∧ FrameEnd U o U' L room_1.cells room_1.slots) := by
  refine MetFree.of_bodySF (plainFor_of_name pn_0) hisR ?_
  intro p e s m args below meth c s₁ Bd hml0 hP hK
  obtain ⟨rfl, hZ, hh⟩ := hP
  have hx := Bd.exec
  have hby := Bd.bytes
  have hml : c.maxLocals = 4 := hml0
  have hown : s.vm.findClass "com/example/assertion_to_token/assertiontotoken/rules/RuleHoldsClientCredentialsPinLaw" = some m.cls := findClass_of_methodNamed Bd.named
  have hnm := (name_of_methodNamed Bd.named Bd.method).1
  have X0 : Stand p l e room_1 s m #[(.int q0)] below meth c s₁ [] 0 0 := Stand.of_body Bd
  have e0 : s₁.heap = h0 := by rw [← hh, Bd.state]; rfl
  have N0 := Fr.nil n0
  have K0 : Keep h0 h0 [] := Keep.refl _ _
  have R0 : Rch p e below (s₁.setTop (entryFrame m #[(.int q0)] maxLocals)) s₁ (mkF m 0 #[.val (.int q0), .unset, .unset, .unset] []) := fun t k => castTop (ef_rm0 m q0) k
  have R1 : Rch p e below (s₁.setTop (entryFrame m #[(.int q0)] maxLocals)) s₁ (mkF m 8 #[.val (.int q0), .val (.int ((q0 &&& (2147483647 : Int32)) % (29 : Int32))), .unset, .unset] []) := fun t k => by
    refine R0 t ?_
    refine XS.iloadN X0.here hx rfl (hb hby at_0) rfl ?_
    show Steps p.tables e below (s₁.setTop (mkF m 1 #[.val (.int q0), .unset, .unset, .unset] [(.int q0)])) t
    refine X0.ldcInt hx hown (mvT hZ (hw _ (List.mem_of_getElem? (i := 0) rfl))) (g := (mkF m 1 #[.val (.int q0), .unset, .unset, .unset] [(.int q0)])) rfl (hb hby at_1) _ ?_
    show Steps p.tables e below (s₁.setTop (mkF m 3 #[.val (.int q0), .unset, .unset, .unset] [(.int (2147483647 : Int32)), (.int q0)])) t
    refine XS.iand X0.here hx rfl (hb hby at_3) rfl ?_
    show Steps p.tables e below (s₁.setTop (mkF m 4 #[.val (.int q0), .unset, .unset, .unset] [(.int (q0 &&& (2147483647 : Int32)))])) t
    refine XS.bipush X0.here hx rfl (hb hby at_4) ?_
    show Steps p.tables e below (s₁.setTop (mkF m 6 #[.val (.int q0), .unset, .unset, .unset] [(.int (29 : Int32)), (.int (q0 &&& (2147483647 : Int32)))])) t
    refine iremM X0 hx rfl (hb hby at_6) rfl (by decide) ?_
    show Steps p.tables e below (s₁.setTop (mkF m 7 #[.val (.int q0), .unset, .unset, .unset] [(.int ((q0 &&& (2147483647 : Int32)) % (29 : Int32)))])) t
    refine XS.istoreN X0.here hx rfl (hb hby at_7) rfl (l' := #[.val (.int q0), .val (.int ((q0 &&& (2147483647 : Int32)) % (29 : Int32))), .unset, .unset]) rfl ?_
    exact k
  rcases own_k q0 with hk | hk | hk | hk | hk | hk | hk | hk | hk | hk | hk
  · rw [hk] at R1
    have R3 : Rch p e below (s₁.setTop (entryFrame m #[(.int q0)] maxLocals)) s₁ (mkF m 9 #[.val (.int q0), .val (.int (0 : Int32)), .unset, .unset] [(.int (0 : Int32))]) := fun t k => by
      refine R1 t ?_
      refine XS.iloadN X0.here hx rfl (hb hby at_8) rfl ?_
      exact k
    obtain ⟨_, _, ⟨T2, L2, k2, n2⟩, -, X2, ⟨Lc2, hQ2, l2, y2, z2⟩, st2⟩ := Jvm.LawKit.callS X0 hx (y := (⟨"com/example/assertion_to_token/assertiontotoken/rules/RuleHoldsClientCredentialsPinLaw", "pick", "(I)Lcom/example/assertion_to_token/assertiontotoken/rules/Rule;"⟩ : MethodName)) hown (mvT hZ (hw _ (List.mem_of_getElem? (i := 1) rfl))) (mvT hZ (hw _ (List.mem_of_getElem? (i := 2) rfl))) (mvT hZ (hw _ (List.mem_of_getElem? (i := 3) rfl))) (mvT hZ (hw _ (List.mem_of_getElem? (i := 4) rfl))) (by decide) (backOf (W := 0) (rm1 l Z a0 hw [] (0 : Int32) fw h0 n0 (Nat.le_trans Z0 K0.1) pS0 pS1 pS2 pS3 pS4 pS5 pS6 pS7 pS8 pS9 pS10 pS11 pS12 pS13 pS14 pS15 pS16 pS17 pS18 pS19 pS20 pS21 pS22 pS23 pS24 pS25 pS26 pS27 pS28) hZ (hw _ (List.mem_of_getElem? (i := 4) rfl)) (hw _ (List.mem_of_getElem? (i := 3) rfl)) (by decide) (by decide)) (g := (mkF m 9 #[.val (.int q0), .val (.int (0 : Int32)), .unset, .unset] [(.int (0 : Int32))])) rfl (by rw [hml]; rfl) (argsL := [(.int (0 : Int32))]) (rest := []) (lenOf pd_1 rfl) rfl (by show 2 * 0 + _ ≤ _; exact Nat.le_of_eq rfl) (hb hby at_9) (fun _ _ => ⟨rfl, e0, (by decide : 0 + 0 ≤ _), (by decide : 0 + 0 ≤ _)⟩)
    dsimp only [Pt.U, Pt.locs, Pt.cells, Pt.slots] at X2 l2 y2 z2 st2 hQ2
    subst l2 y2 z2
    obtain ⟨rfl, N2q, e2⟩ := hQ2
    have N2 := Fr.app N0 N2q
    rw [own_cl_ok (by simp [own_ok] : own_ok (0 : Int32))] at st2
    have R5 : Rch p e below (s₁.setTop (entryFrame m #[(.int q0)] maxLocals)) T2 (mkF m 14 #[.val (.int q0), .val (.int (0 : Int32)), .val (.ref (fw (0 : Int32))), .unset] [(.ref (fw (0 : Int32)))]) := fun t k => by
      refine R3 t ?_
      refine st2 _ ?_
      show Steps p.tables e below (T2.setTop (mkF m 12 #[.val (.int q0), .val (.int (0 : Int32)), .unset, .unset] [(.ref (fw (0 : Int32)))])) t
      refine XS.astoreN X2.here hx rfl (hb hby at_12) rfl rfl (l' := #[.val (.int q0), .val (.int (0 : Int32)), .val (.ref (fw (0 : Int32))), .unset]) rfl ?_
      show Steps p.tables e below (T2.setTop (mkF m 13 #[.val (.int q0), .val (.int (0 : Int32)), .val (.ref (fw (0 : Int32))), .unset] [])) t
      refine XS.aloadN X2.here hx rfl (hb hby at_13) rfl rfl ?_
      exact k
    obtain ⟨T4, X4, e4, st4⟩ := getS2 X2 hx hZ hown (host := "") (Or.inl (hw _ (List.mem_of_getElem? (i := 5) rfl))) Via.refl e2 pS0 (g := (mkF m 14 #[.val (.int q0), .val (.int (0 : Int32)), .val (.ref (fw (0 : Int32))), .unset] [(.ref (fw (0 : Int32)))])) rfl (hb hby at_14)
    have R7 : Rch p e below (s₁.setTop (entryFrame m #[(.int q0)] maxLocals)) T4 (mkF m 90 #[.val (.int q0), .val (.int (0 : Int32)), .val (.ref (fw (0 : Int32))), .val (.int (1 : Int32))] [(.ref (fw (0 : Int32)))]) := fun t k => by
      refine R5 t ?_
      refine st4 _ ?_
      show Steps p.tables e below (T4.setTop (mkF m 17 #[.val (.int q0), .val (.int (0 : Int32)), .val (.ref (fw (0 : Int32))), .unset] [(.ref (fw (0 : Int32))), (.ref (fw (0 : Int32)))])) t
      refine Jvm.RoadKit.acmp (g := (mkF m 17 #[.val (.int q0), .val (.int (0 : Int32)), .val (.ref (fw (0 : Int32))), .unset] [(.ref (fw (0 : Int32))), (.ref (fw (0 : Int32)))])) X4 hx rfl rfl rfl (pc0 := 17) (pc' := 83) (same := true) rfl (hb hby at_17) rfl (decide_eq_true rfl) (by decide) (by decide) ?_
      show Steps p.tables e below (T4.setTop (mkF m 83 #[.val (.int q0), .val (.int (0 : Int32)), .val (.ref (fw (0 : Int32))), .unset] [])) t
      refine XS.iconst X4.here hx rfl (hb hby at_83) ?_
      show Steps p.tables e below (T4.setTop (mkF m 84 #[.val (.int q0), .val (.int (0 : Int32)), .val (.ref (fw (0 : Int32))), .unset] [(.int (1 : Int32))])) t
      refine XS.goto X4.here hx rfl (pc0 := 84) (pc' := 88) rfl (hb hby at_84) (by decide) (by decide) ?_
      show Steps p.tables e below (T4.setTop (mkF m 88 #[.val (.int q0), .val (.int (0 : Int32)), .val (.ref (fw (0 : Int32))), .unset] [(.int (1 : Int32))])) t
      refine XS.istoreN X4.here hx rfl (hb hby at_88) rfl (l' := #[.val (.int q0), .val (.int (0 : Int32)), .val (.ref (fw (0 : Int32))), .val (.int (1 : Int32))]) rfl ?_
      show Steps p.tables e below (T4.setTop (mkF m 89 #[.val (.int q0), .val (.int (0 : Int32)), .val (.ref (fw (0 : Int32))), .val (.int (1 : Int32))] [])) t
      refine XS.aloadN X4.here hx rfl (hb hby at_89) rfl rfl ?_
      exact k
    obtain ⟨cq6, kq6, q6a, q6b, q6c⟩ := isOf hZ e4 (pE _ (by simp [own_ok] : own_ok (0 : Int32)))
    obtain ⟨_, _, ⟨T6, L6, k6, n6⟩, -, X6, ⟨Lc6, hQ6, l6, y6, z6⟩, st6⟩ := X4.virtualBack hx (y := (⟨"com/example/assertion_to_token/assertiontotoken/rules/Rule", "holdsClientCredentials", "()Z"⟩ : MethodName)) (z := (⟨"com/example/assertion_to_token/assertiontotoken/rules/Rule", "holdsClientCredentials", "()Z"⟩ : MethodName)) hown (mvT hZ (hw _ (List.mem_of_getElem? (i := 8) rfl))) (mvT hZ (hw _ (List.mem_of_getElem? (i := 9) rfl))) (notFace_of_selects (args := #[]) (mvT hZ (hw _ (List.mem_of_getElem? (i := 11) rfl)))) (mvT hZ (hw _ (List.mem_of_getElem? (i := 11) rfl))) (mvT hZ (hw _ (List.mem_of_getElem? (i := 10) rfl))) (by decide) (backOf (W := 0) (rm2 l Z a0 hw [] (fw (0 : Int32)) (fw (10 : Int32)) (0 : Int32) mr h0 n0 (Nat.le_trans Z0 K0.1) pS10 (pE _ (by simp [own_ok] : own_ok (0 : Int32))) (pE _ (by simp [own_ok] : own_ok (10 : Int32))) (pO _ (by simp [own_ok] : own_ok (0 : Int32))) (pO _ (by simp [own_ok] : own_ok (10 : Int32))) pM) hZ (hw _ (List.mem_of_getElem? (i := 12) rfl)) (hw _ (List.mem_of_getElem? (i := 6) rfl)) (by decide) (by decide)) q6a q6c (g := (mkF m 90 #[.val (.int q0), .val (.int (0 : Int32)), .val (.ref (fw (0 : Int32))), .val (.int (1 : Int32))] [(.ref (fw (0 : Int32)))])) rfl (by rw [hml]; rfl) (Steps.refl _) (argsL := []) (rest := []) (lenOf pd_2 rfl) rfl (by show 2 * 0 + _ ≤ _; exact Nat.le_of_eq rfl) (hb hby at_90) (fun _ _ => ⟨rfl, e4, (by decide : 0 + 0 ≤ _), (by decide : 0 + 0 ≤ _)⟩)
    dsimp only [Pt.U, Pt.locs, Pt.cells, Pt.slots] at X6 l6 y6 z6 st6 hQ6
    subst l6 y6 z6
    obtain ⟨rfl, N6q, e6⟩ := hQ6
    have N6 := Fr.app N2 N6q
    have hp6 : own_h (0 : Int32) = (1 : Int32) := by decide
    rw [hp6] at st6
    have R8 : Rch p e below (s₁.setTop (entryFrame m #[(.int q0)] maxLocals)) T6 (mkF m 102 #[.val (.int q0), .val (.int (0 : Int32)), .val (.ref (fw (0 : Int32))), .val (.int (1 : Int32))] [(.int (1 : Int32))]) := fun t k => by
      refine R7 t ?_
      refine st6.trans ?_
      show Steps p.tables e below (T6.setTop (mkF m 93 #[.val (.int q0), .val (.int (0 : Int32)), .val (.ref (fw (0 : Int32))), .val (.int (1 : Int32))] [(.int (1 : Int32))])) t
      refine XS.iloadN X6.here hx rfl (hb hby at_93) rfl ?_
      show Steps p.tables e below (T6.setTop (mkF m 94 #[.val (.int q0), .val (.int (0 : Int32)), .val (.ref (fw (0 : Int32))), .val (.int (1 : Int32))] [(.int (1 : Int32)), (.int (1 : Int32))])) t
      refine XS.icmpNo X6.here hx rfl (hb hby at_94) rfl (teq (by decide : (1 : Int32) = (1 : Int32))).2 ?_
      show Steps p.tables e below (T6.setTop (mkF m 97 #[.val (.int q0), .val (.int (0 : Int32)), .val (.ref (fw (0 : Int32))), .val (.int (1 : Int32))] [])) t
      refine XS.iconst X6.here hx rfl (hb hby at_97) ?_
      show Steps p.tables e below (T6.setTop (mkF m 98 #[.val (.int q0), .val (.int (0 : Int32)), .val (.ref (fw (0 : Int32))), .val (.int (1 : Int32))] [(.int (1 : Int32))])) t
      refine XS.goto X6.here hx rfl (pc0 := 98) (pc' := 102) rfl (hb hby at_98) (by decide) (by decide) ?_
      exact k
    obtain ⟨fs, hr, hrun, hended, hW, hsame⟩ := X6.leave (v := some (.int (1 : Int32))) (fun h => by rw [Bd.returns] at h; cases h)
    refine ⟨_, _, R8 _ ?_, hrun, hended, _, _, rfl, ?_, ⟨_, rfl⟩, hW, hsame.mono (by decide) (by decide)⟩
    · exact retN X6 hx (t := .boolean) Bd.returns (by simp) (hb hby at_102) hr
    · show Q_rm0 Z q0 fw mr h0 n0 _ T6.heap _
      rw [e6]
      exact ⟨rfl, N6, rfl⟩
  · rw [hk] at R1
    have R10 : Rch p e below (s₁.setTop (entryFrame m #[(.int q0)] maxLocals)) s₁ (mkF m 9 #[.val (.int q0), .val (.int (1 : Int32)), .unset, .unset] [(.int (1 : Int32))]) := fun t k => by
      refine R1 t ?_
      refine XS.iloadN X0.here hx rfl (hb hby at_8) rfl ?_
      exact k
    obtain ⟨_, _, ⟨T9, L9, k9, n9⟩, -, X9, ⟨Lc9, hQ9, l9, y9, z9⟩, st9⟩ := Jvm.LawKit.callS X0 hx (y := (⟨"com/example/assertion_to_token/assertiontotoken/rules/RuleHoldsClientCredentialsPinLaw", "pick", "(I)Lcom/example/assertion_to_token/assertiontotoken/rules/Rule;"⟩ : MethodName)) hown (mvT hZ (hw _ (List.mem_of_getElem? (i := 1) rfl))) (mvT hZ (hw _ (List.mem_of_getElem? (i := 2) rfl))) (mvT hZ (hw _ (List.mem_of_getElem? (i := 3) rfl))) (mvT hZ (hw _ (List.mem_of_getElem? (i := 4) rfl))) (by decide) (backOf (W := 0) (rm1 l Z a0 hw [] (1 : Int32) fw h0 n0 (Nat.le_trans Z0 K0.1) pS0 pS1 pS2 pS3 pS4 pS5 pS6 pS7 pS8 pS9 pS10 pS11 pS12 pS13 pS14 pS15 pS16 pS17 pS18 pS19 pS20 pS21 pS22 pS23 pS24 pS25 pS26 pS27 pS28) hZ (hw _ (List.mem_of_getElem? (i := 4) rfl)) (hw _ (List.mem_of_getElem? (i := 3) rfl)) (by decide) (by decide)) (g := (mkF m 9 #[.val (.int q0), .val (.int (1 : Int32)), .unset, .unset] [(.int (1 : Int32))])) rfl (by rw [hml]; rfl) (argsL := [(.int (1 : Int32))]) (rest := []) (lenOf pd_1 rfl) rfl (by show 2 * 0 + _ ≤ _; exact Nat.le_of_eq rfl) (hb hby at_9) (fun _ _ => ⟨rfl, e0, (by decide : 0 + 0 ≤ _), (by decide : 0 + 0 ≤ _)⟩)
    dsimp only [Pt.U, Pt.locs, Pt.cells, Pt.slots] at X9 l9 y9 z9 st9 hQ9
    subst l9 y9 z9
    obtain ⟨rfl, N9q, e9⟩ := hQ9
    have N9 := Fr.app N0 N9q
    rw [own_cl_ok (by simp [own_ok] : own_ok (1 : Int32))] at st9
    have R12 : Rch p e below (s₁.setTop (entryFrame m #[(.int q0)] maxLocals)) T9 (mkF m 14 #[.val (.int q0), .val (.int (1 : Int32)), .val (.ref (fw (1 : Int32))), .unset] [(.ref (fw (1 : Int32)))]) := fun t k => by
      refine R10 t ?_
      refine st9 _ ?_
      show Steps p.tables e below (T9.setTop (mkF m 12 #[.val (.int q0), .val (.int (1 : Int32)), .unset, .unset] [(.ref (fw (1 : Int32)))])) t
      refine XS.astoreN X9.here hx rfl (hb hby at_12) rfl rfl (l' := #[.val (.int q0), .val (.int (1 : Int32)), .val (.ref (fw (1 : Int32))), .unset]) rfl ?_
      show Steps p.tables e below (T9.setTop (mkF m 13 #[.val (.int q0), .val (.int (1 : Int32)), .val (.ref (fw (1 : Int32))), .unset] [])) t
      refine XS.aloadN X9.here hx rfl (hb hby at_13) rfl rfl ?_
      exact k
    obtain ⟨T11, X11, e11, st11⟩ := getS2 X9 hx hZ hown (host := "") (Or.inl (hw _ (List.mem_of_getElem? (i := 5) rfl))) Via.refl e9 pS0 (g := (mkF m 14 #[.val (.int q0), .val (.int (1 : Int32)), .val (.ref (fw (1 : Int32))), .unset] [(.ref (fw (1 : Int32)))])) rfl (hb hby at_14)
    have R14 : Rch p e below (s₁.setTop (entryFrame m #[(.int q0)] maxLocals)) T11 (mkF m 21 #[.val (.int q0), .val (.int (1 : Int32)), .val (.ref (fw (1 : Int32))), .unset] [(.ref (fw (1 : Int32)))]) := fun t k => by
      refine R12 t ?_
      refine st11 _ ?_
      show Steps p.tables e below (T11.setTop (mkF m 17 #[.val (.int q0), .val (.int (1 : Int32)), .val (.ref (fw (1 : Int32))), .unset] [(.ref (fw (0 : Int32))), (.ref (fw (1 : Int32)))])) t
      refine Jvm.RoadKit.acmp (g := (mkF m 17 #[.val (.int q0), .val (.int (1 : Int32)), .val (.ref (fw (1 : Int32))), .unset] [(.ref (fw (0 : Int32))), (.ref (fw (1 : Int32)))])) X11 hx rfl rfl rfl (pc0 := 17) (pc' := 20) (same := false) rfl (hb hby at_17) rfl (decide_eq_false (fun q => ((pO _ (by simp [own_ok] : own_ok (1 : Int32))).ne (pO _ (by simp [own_ok] : own_ok (0 : Int32))) (by decide)) (Value.ref.inj q))) (by decide) (by decide) ?_
      show Steps p.tables e below (T11.setTop (mkF m 20 #[.val (.int q0), .val (.int (1 : Int32)), .val (.ref (fw (1 : Int32))), .unset] [])) t
      refine XS.aloadN X11.here hx rfl (hb hby at_20) rfl rfl ?_
      exact k
    obtain ⟨T13, X13, e13, st13⟩ := getS2 X11 hx hZ hown (host := "") (Or.inl (hw _ (List.mem_of_getElem? (i := 32) rfl))) Via.refl e11 pS1 (g := (mkF m 21 #[.val (.int q0), .val (.int (1 : Int32)), .val (.ref (fw (1 : Int32))), .unset] [(.ref (fw (1 : Int32)))])) rfl (hb hby at_21)
    have R16 : Rch p e below (s₁.setTop (entryFrame m #[(.int q0)] maxLocals)) T13 (mkF m 90 #[.val (.int q0), .val (.int (1 : Int32)), .val (.ref (fw (1 : Int32))), .val (.int (1 : Int32))] [(.ref (fw (1 : Int32)))]) := fun t k => by
      refine R14 t ?_
      refine st13 _ ?_
      show Steps p.tables e below (T13.setTop (mkF m 24 #[.val (.int q0), .val (.int (1 : Int32)), .val (.ref (fw (1 : Int32))), .unset] [(.ref (fw (1 : Int32))), (.ref (fw (1 : Int32)))])) t
      refine Jvm.RoadKit.acmp (g := (mkF m 24 #[.val (.int q0), .val (.int (1 : Int32)), .val (.ref (fw (1 : Int32))), .unset] [(.ref (fw (1 : Int32))), (.ref (fw (1 : Int32)))])) X13 hx rfl rfl rfl (pc0 := 24) (pc' := 83) (same := true) rfl (hb hby at_24) rfl (decide_eq_true rfl) (by decide) (by decide) ?_
      show Steps p.tables e below (T13.setTop (mkF m 83 #[.val (.int q0), .val (.int (1 : Int32)), .val (.ref (fw (1 : Int32))), .unset] [])) t
      refine XS.iconst X13.here hx rfl (hb hby at_83) ?_
      show Steps p.tables e below (T13.setTop (mkF m 84 #[.val (.int q0), .val (.int (1 : Int32)), .val (.ref (fw (1 : Int32))), .unset] [(.int (1 : Int32))])) t
      refine XS.goto X13.here hx rfl (pc0 := 84) (pc' := 88) rfl (hb hby at_84) (by decide) (by decide) ?_
      show Steps p.tables e below (T13.setTop (mkF m 88 #[.val (.int q0), .val (.int (1 : Int32)), .val (.ref (fw (1 : Int32))), .unset] [(.int (1 : Int32))])) t
      refine XS.istoreN X13.here hx rfl (hb hby at_88) rfl (l' := #[.val (.int q0), .val (.int (1 : Int32)), .val (.ref (fw (1 : Int32))), .val (.int (1 : Int32))]) rfl ?_
      show Steps p.tables e below (T13.setTop (mkF m 89 #[.val (.int q0), .val (.int (1 : Int32)), .val (.ref (fw (1 : Int32))), .val (.int (1 : Int32))] [])) t
      refine XS.aloadN X13.here hx rfl (hb hby at_89) rfl rfl ?_
      exact k
    obtain ⟨cq15, kq15, q15a, q15b, q15c⟩ := isOf hZ e13 (pE _ (by simp [own_ok] : own_ok (1 : Int32)))
    obtain ⟨_, _, ⟨T15, L15, k15, n15⟩, -, X15, ⟨Lc15, hQ15, l15, y15, z15⟩, st15⟩ := X13.virtualBack hx (y := (⟨"com/example/assertion_to_token/assertiontotoken/rules/Rule", "holdsClientCredentials", "()Z"⟩ : MethodName)) (z := (⟨"com/example/assertion_to_token/assertiontotoken/rules/Rule", "holdsClientCredentials", "()Z"⟩ : MethodName)) hown (mvT hZ (hw _ (List.mem_of_getElem? (i := 8) rfl))) (mvT hZ (hw _ (List.mem_of_getElem? (i := 9) rfl))) (notFace_of_selects (args := #[]) (mvT hZ (hw _ (List.mem_of_getElem? (i := 11) rfl)))) (mvT hZ (hw _ (List.mem_of_getElem? (i := 11) rfl))) (mvT hZ (hw _ (List.mem_of_getElem? (i := 10) rfl))) (by decide) (backOf (W := 0) (rm2 l Z a0 hw [] (fw (1 : Int32)) (fw (10 : Int32)) (1 : Int32) mr h0 n0 (Nat.le_trans Z0 K0.1) pS10 (pE _ (by simp [own_ok] : own_ok (1 : Int32))) (pE _ (by simp [own_ok] : own_ok (10 : Int32))) (pO _ (by simp [own_ok] : own_ok (1 : Int32))) (pO _ (by simp [own_ok] : own_ok (10 : Int32))) pM) hZ (hw _ (List.mem_of_getElem? (i := 12) rfl)) (hw _ (List.mem_of_getElem? (i := 6) rfl)) (by decide) (by decide)) q15a q15c (g := (mkF m 90 #[.val (.int q0), .val (.int (1 : Int32)), .val (.ref (fw (1 : Int32))), .val (.int (1 : Int32))] [(.ref (fw (1 : Int32)))])) rfl (by rw [hml]; rfl) (Steps.refl _) (argsL := []) (rest := []) (lenOf pd_2 rfl) rfl (by show 2 * 0 + _ ≤ _; exact Nat.le_of_eq rfl) (hb hby at_90) (fun _ _ => ⟨rfl, e13, (by decide : 0 + 0 ≤ _), (by decide : 0 + 0 ≤ _)⟩)
    dsimp only [Pt.U, Pt.locs, Pt.cells, Pt.slots] at X15 l15 y15 z15 st15 hQ15
    subst l15 y15 z15
    obtain ⟨rfl, N15q, e15⟩ := hQ15
    have N15 := Fr.app N9 N15q
    have hp15 : own_h (1 : Int32) = (1 : Int32) := by decide
    rw [hp15] at st15
    have R17 : Rch p e below (s₁.setTop (entryFrame m #[(.int q0)] maxLocals)) T15 (mkF m 102 #[.val (.int q0), .val (.int (1 : Int32)), .val (.ref (fw (1 : Int32))), .val (.int (1 : Int32))] [(.int (1 : Int32))]) := fun t k => by
      refine R16 t ?_
      refine st15.trans ?_
      show Steps p.tables e below (T15.setTop (mkF m 93 #[.val (.int q0), .val (.int (1 : Int32)), .val (.ref (fw (1 : Int32))), .val (.int (1 : Int32))] [(.int (1 : Int32))])) t
      refine XS.iloadN X15.here hx rfl (hb hby at_93) rfl ?_
      show Steps p.tables e below (T15.setTop (mkF m 94 #[.val (.int q0), .val (.int (1 : Int32)), .val (.ref (fw (1 : Int32))), .val (.int (1 : Int32))] [(.int (1 : Int32)), (.int (1 : Int32))])) t
      refine XS.icmpNo X15.here hx rfl (hb hby at_94) rfl (teq (by decide : (1 : Int32) = (1 : Int32))).2 ?_
      show Steps p.tables e below (T15.setTop (mkF m 97 #[.val (.int q0), .val (.int (1 : Int32)), .val (.ref (fw (1 : Int32))), .val (.int (1 : Int32))] [])) t
      refine XS.iconst X15.here hx rfl (hb hby at_97) ?_
      show Steps p.tables e below (T15.setTop (mkF m 98 #[.val (.int q0), .val (.int (1 : Int32)), .val (.ref (fw (1 : Int32))), .val (.int (1 : Int32))] [(.int (1 : Int32))])) t
      refine XS.goto X15.here hx rfl (pc0 := 98) (pc' := 102) rfl (hb hby at_98) (by decide) (by decide) ?_
      exact k
    obtain ⟨fs, hr, hrun, hended, hW, hsame⟩ := X15.leave (v := some (.int (1 : Int32))) (fun h => by rw [Bd.returns] at h; cases h)
    refine ⟨_, _, R17 _ ?_, hrun, hended, _, _, rfl, ?_, ⟨_, rfl⟩, hW, hsame.mono (by decide) (by decide)⟩
    · exact retN X15 hx (t := .boolean) Bd.returns (by simp) (hb hby at_102) hr
    · show Q_rm0 Z q0 fw mr h0 n0 _ T15.heap _
      rw [e15]
      exact ⟨rfl, N15, rfl⟩
  · rw [hk] at R1
    have R19 : Rch p e below (s₁.setTop (entryFrame m #[(.int q0)] maxLocals)) s₁ (mkF m 9 #[.val (.int q0), .val (.int (2 : Int32)), .unset, .unset] [(.int (2 : Int32))]) := fun t k => by
      refine R1 t ?_
      refine XS.iloadN X0.here hx rfl (hb hby at_8) rfl ?_
      exact k
    obtain ⟨_, _, ⟨T18, L18, k18, n18⟩, -, X18, ⟨Lc18, hQ18, l18, y18, z18⟩, st18⟩ := Jvm.LawKit.callS X0 hx (y := (⟨"com/example/assertion_to_token/assertiontotoken/rules/RuleHoldsClientCredentialsPinLaw", "pick", "(I)Lcom/example/assertion_to_token/assertiontotoken/rules/Rule;"⟩ : MethodName)) hown (mvT hZ (hw _ (List.mem_of_getElem? (i := 1) rfl))) (mvT hZ (hw _ (List.mem_of_getElem? (i := 2) rfl))) (mvT hZ (hw _ (List.mem_of_getElem? (i := 3) rfl))) (mvT hZ (hw _ (List.mem_of_getElem? (i := 4) rfl))) (by decide) (backOf (W := 0) (rm1 l Z a0 hw [] (2 : Int32) fw h0 n0 (Nat.le_trans Z0 K0.1) pS0 pS1 pS2 pS3 pS4 pS5 pS6 pS7 pS8 pS9 pS10 pS11 pS12 pS13 pS14 pS15 pS16 pS17 pS18 pS19 pS20 pS21 pS22 pS23 pS24 pS25 pS26 pS27 pS28) hZ (hw _ (List.mem_of_getElem? (i := 4) rfl)) (hw _ (List.mem_of_getElem? (i := 3) rfl)) (by decide) (by decide)) (g := (mkF m 9 #[.val (.int q0), .val (.int (2 : Int32)), .unset, .unset] [(.int (2 : Int32))])) rfl (by rw [hml]; rfl) (argsL := [(.int (2 : Int32))]) (rest := []) (lenOf pd_1 rfl) rfl (by show 2 * 0 + _ ≤ _; exact Nat.le_of_eq rfl) (hb hby at_9) (fun _ _ => ⟨rfl, e0, (by decide : 0 + 0 ≤ _), (by decide : 0 + 0 ≤ _)⟩)
    dsimp only [Pt.U, Pt.locs, Pt.cells, Pt.slots] at X18 l18 y18 z18 st18 hQ18
    subst l18 y18 z18
    obtain ⟨rfl, N18q, e18⟩ := hQ18
    have N18 := Fr.app N0 N18q
    rw [own_cl_ok (by simp [own_ok] : own_ok (2 : Int32))] at st18
    have R21 : Rch p e below (s₁.setTop (entryFrame m #[(.int q0)] maxLocals)) T18 (mkF m 14 #[.val (.int q0), .val (.int (2 : Int32)), .val (.ref (fw (2 : Int32))), .unset] [(.ref (fw (2 : Int32)))]) := fun t k => by
      refine R19 t ?_
      refine st18 _ ?_
      show Steps p.tables e below (T18.setTop (mkF m 12 #[.val (.int q0), .val (.int (2 : Int32)), .unset, .unset] [(.ref (fw (2 : Int32)))])) t
      refine XS.astoreN X18.here hx rfl (hb hby at_12) rfl rfl (l' := #[.val (.int q0), .val (.int (2 : Int32)), .val (.ref (fw (2 : Int32))), .unset]) rfl ?_
      show Steps p.tables e below (T18.setTop (mkF m 13 #[.val (.int q0), .val (.int (2 : Int32)), .val (.ref (fw (2 : Int32))), .unset] [])) t
      refine XS.aloadN X18.here hx rfl (hb hby at_13) rfl rfl ?_
      exact k
    obtain ⟨T20, X20, e20, st20⟩ := getS2 X18 hx hZ hown (host := "") (Or.inl (hw _ (List.mem_of_getElem? (i := 5) rfl))) Via.refl e18 pS0 (g := (mkF m 14 #[.val (.int q0), .val (.int (2 : Int32)), .val (.ref (fw (2 : Int32))), .unset] [(.ref (fw (2 : Int32)))])) rfl (hb hby at_14)
    have R23 : Rch p e below (s₁.setTop (entryFrame m #[(.int q0)] maxLocals)) T20 (mkF m 21 #[.val (.int q0), .val (.int (2 : Int32)), .val (.ref (fw (2 : Int32))), .unset] [(.ref (fw (2 : Int32)))]) := fun t k => by
      refine R21 t ?_
      refine st20 _ ?_
      show Steps p.tables e below (T20.setTop (mkF m 17 #[.val (.int q0), .val (.int (2 : Int32)), .val (.ref (fw (2 : Int32))), .unset] [(.ref (fw (0 : Int32))), (.ref (fw (2 : Int32)))])) t
      refine Jvm.RoadKit.acmp (g := (mkF m 17 #[.val (.int q0), .val (.int (2 : Int32)), .val (.ref (fw (2 : Int32))), .unset] [(.ref (fw (0 : Int32))), (.ref (fw (2 : Int32)))])) X20 hx rfl rfl rfl (pc0 := 17) (pc' := 20) (same := false) rfl (hb hby at_17) rfl (decide_eq_false (fun q => ((pO _ (by simp [own_ok] : own_ok (2 : Int32))).ne (pO _ (by simp [own_ok] : own_ok (0 : Int32))) (by decide)) (Value.ref.inj q))) (by decide) (by decide) ?_
      show Steps p.tables e below (T20.setTop (mkF m 20 #[.val (.int q0), .val (.int (2 : Int32)), .val (.ref (fw (2 : Int32))), .unset] [])) t
      refine XS.aloadN X20.here hx rfl (hb hby at_20) rfl rfl ?_
      exact k
    obtain ⟨T22, X22, e22, st22⟩ := getS2 X20 hx hZ hown (host := "") (Or.inl (hw _ (List.mem_of_getElem? (i := 32) rfl))) Via.refl e20 pS1 (g := (mkF m 21 #[.val (.int q0), .val (.int (2 : Int32)), .val (.ref (fw (2 : Int32))), .unset] [(.ref (fw (2 : Int32)))])) rfl (hb hby at_21)
    have R25 : Rch p e below (s₁.setTop (entryFrame m #[(.int q0)] maxLocals)) T22 (mkF m 28 #[.val (.int q0), .val (.int (2 : Int32)), .val (.ref (fw (2 : Int32))), .unset] [(.ref (fw (2 : Int32)))]) := fun t k => by
      refine R23 t ?_
      refine st22 _ ?_
      show Steps p.tables e below (T22.setTop (mkF m 24 #[.val (.int q0), .val (.int (2 : Int32)), .val (.ref (fw (2 : Int32))), .unset] [(.ref (fw (1 : Int32))), (.ref (fw (2 : Int32)))])) t
      refine Jvm.RoadKit.acmp (g := (mkF m 24 #[.val (.int q0), .val (.int (2 : Int32)), .val (.ref (fw (2 : Int32))), .unset] [(.ref (fw (1 : Int32))), (.ref (fw (2 : Int32)))])) X22 hx rfl rfl rfl (pc0 := 24) (pc' := 27) (same := false) rfl (hb hby at_24) rfl (decide_eq_false (fun q => ((pO _ (by simp [own_ok] : own_ok (2 : Int32))).ne (pO _ (by simp [own_ok] : own_ok (1 : Int32))) (by decide)) (Value.ref.inj q))) (by decide) (by decide) ?_
      show Steps p.tables e below (T22.setTop (mkF m 27 #[.val (.int q0), .val (.int (2 : Int32)), .val (.ref (fw (2 : Int32))), .unset] [])) t
      refine XS.aloadN X22.here hx rfl (hb hby at_27) rfl rfl ?_
      exact k
    obtain ⟨T24, X24, e24, st24⟩ := getS2 X22 hx hZ hown (host := "") (Or.inl (hw _ (List.mem_of_getElem? (i := 34) rfl))) Via.refl e22 pS2 (g := (mkF m 28 #[.val (.int q0), .val (.int (2 : Int32)), .val (.ref (fw (2 : Int32))), .unset] [(.ref (fw (2 : Int32)))])) rfl (hb hby at_28)
    have R27 : Rch p e below (s₁.setTop (entryFrame m #[(.int q0)] maxLocals)) T24 (mkF m 90 #[.val (.int q0), .val (.int (2 : Int32)), .val (.ref (fw (2 : Int32))), .val (.int (1 : Int32))] [(.ref (fw (2 : Int32)))]) := fun t k => by
      refine R25 t ?_
      refine st24 _ ?_
      show Steps p.tables e below (T24.setTop (mkF m 31 #[.val (.int q0), .val (.int (2 : Int32)), .val (.ref (fw (2 : Int32))), .unset] [(.ref (fw (2 : Int32))), (.ref (fw (2 : Int32)))])) t
      refine Jvm.RoadKit.acmp (g := (mkF m 31 #[.val (.int q0), .val (.int (2 : Int32)), .val (.ref (fw (2 : Int32))), .unset] [(.ref (fw (2 : Int32))), (.ref (fw (2 : Int32)))])) X24 hx rfl rfl rfl (pc0 := 31) (pc' := 83) (same := true) rfl (hb hby at_31) rfl (decide_eq_true rfl) (by decide) (by decide) ?_
      show Steps p.tables e below (T24.setTop (mkF m 83 #[.val (.int q0), .val (.int (2 : Int32)), .val (.ref (fw (2 : Int32))), .unset] [])) t
      refine XS.iconst X24.here hx rfl (hb hby at_83) ?_
      show Steps p.tables e below (T24.setTop (mkF m 84 #[.val (.int q0), .val (.int (2 : Int32)), .val (.ref (fw (2 : Int32))), .unset] [(.int (1 : Int32))])) t
      refine XS.goto X24.here hx rfl (pc0 := 84) (pc' := 88) rfl (hb hby at_84) (by decide) (by decide) ?_
      show Steps p.tables e below (T24.setTop (mkF m 88 #[.val (.int q0), .val (.int (2 : Int32)), .val (.ref (fw (2 : Int32))), .unset] [(.int (1 : Int32))])) t
      refine XS.istoreN X24.here hx rfl (hb hby at_88) rfl (l' := #[.val (.int q0), .val (.int (2 : Int32)), .val (.ref (fw (2 : Int32))), .val (.int (1 : Int32))]) rfl ?_
      show Steps p.tables e below (T24.setTop (mkF m 89 #[.val (.int q0), .val (.int (2 : Int32)), .val (.ref (fw (2 : Int32))), .val (.int (1 : Int32))] [])) t
      refine XS.aloadN X24.here hx rfl (hb hby at_89) rfl rfl ?_
      exact k
    obtain ⟨cq26, kq26, q26a, q26b, q26c⟩ := isOf hZ e24 (pE _ (by simp [own_ok] : own_ok (2 : Int32)))
    obtain ⟨_, _, ⟨T26, L26, k26, n26⟩, -, X26, ⟨Lc26, hQ26, l26, y26, z26⟩, st26⟩ := X24.virtualBack hx (y := (⟨"com/example/assertion_to_token/assertiontotoken/rules/Rule", "holdsClientCredentials", "()Z"⟩ : MethodName)) (z := (⟨"com/example/assertion_to_token/assertiontotoken/rules/Rule", "holdsClientCredentials", "()Z"⟩ : MethodName)) hown (mvT hZ (hw _ (List.mem_of_getElem? (i := 8) rfl))) (mvT hZ (hw _ (List.mem_of_getElem? (i := 9) rfl))) (notFace_of_selects (args := #[]) (mvT hZ (hw _ (List.mem_of_getElem? (i := 11) rfl)))) (mvT hZ (hw _ (List.mem_of_getElem? (i := 11) rfl))) (mvT hZ (hw _ (List.mem_of_getElem? (i := 10) rfl))) (by decide) (backOf (W := 0) (rm2 l Z a0 hw [] (fw (2 : Int32)) (fw (10 : Int32)) (2 : Int32) mr h0 n0 (Nat.le_trans Z0 K0.1) pS10 (pE _ (by simp [own_ok] : own_ok (2 : Int32))) (pE _ (by simp [own_ok] : own_ok (10 : Int32))) (pO _ (by simp [own_ok] : own_ok (2 : Int32))) (pO _ (by simp [own_ok] : own_ok (10 : Int32))) pM) hZ (hw _ (List.mem_of_getElem? (i := 12) rfl)) (hw _ (List.mem_of_getElem? (i := 6) rfl)) (by decide) (by decide)) q26a q26c (g := (mkF m 90 #[.val (.int q0), .val (.int (2 : Int32)), .val (.ref (fw (2 : Int32))), .val (.int (1 : Int32))] [(.ref (fw (2 : Int32)))])) rfl (by rw [hml]; rfl) (Steps.refl _) (argsL := []) (rest := []) (lenOf pd_2 rfl) rfl (by show 2 * 0 + _ ≤ _; exact Nat.le_of_eq rfl) (hb hby at_90) (fun _ _ => ⟨rfl, e24, (by decide : 0 + 0 ≤ _), (by decide : 0 + 0 ≤ _)⟩)
    dsimp only [Pt.U, Pt.locs, Pt.cells, Pt.slots] at X26 l26 y26 z26 st26 hQ26
    subst l26 y26 z26
    obtain ⟨rfl, N26q, e26⟩ := hQ26
    have N26 := Fr.app N18 N26q
    have hp26 : own_h (2 : Int32) = (1 : Int32) := by decide
    rw [hp26] at st26
    have R28 : Rch p e below (s₁.setTop (entryFrame m #[(.int q0)] maxLocals)) T26 (mkF m 102 #[.val (.int q0), .val (.int (2 : Int32)), .val (.ref (fw (2 : Int32))), .val (.int (1 : Int32))] [(.int (1 : Int32))]) := fun t k => by
      refine R27 t ?_
      refine st26.trans ?_
      show Steps p.tables e below (T26.setTop (mkF m 93 #[.val (.int q0), .val (.int (2 : Int32)), .val (.ref (fw (2 : Int32))), .val (.int (1 : Int32))] [(.int (1 : Int32))])) t
      refine XS.iloadN X26.here hx rfl (hb hby at_93) rfl ?_
      show Steps p.tables e below (T26.setTop (mkF m 94 #[.val (.int q0), .val (.int (2 : Int32)), .val (.ref (fw (2 : Int32))), .val (.int (1 : Int32))] [(.int (1 : Int32)), (.int (1 : Int32))])) t
      refine XS.icmpNo X26.here hx rfl (hb hby at_94) rfl (teq (by decide : (1 : Int32) = (1 : Int32))).2 ?_
      show Steps p.tables e below (T26.setTop (mkF m 97 #[.val (.int q0), .val (.int (2 : Int32)), .val (.ref (fw (2 : Int32))), .val (.int (1 : Int32))] [])) t
      refine XS.iconst X26.here hx rfl (hb hby at_97) ?_
      show Steps p.tables e below (T26.setTop (mkF m 98 #[.val (.int q0), .val (.int (2 : Int32)), .val (.ref (fw (2 : Int32))), .val (.int (1 : Int32))] [(.int (1 : Int32))])) t
      refine XS.goto X26.here hx rfl (pc0 := 98) (pc' := 102) rfl (hb hby at_98) (by decide) (by decide) ?_
      exact k
    obtain ⟨fs, hr, hrun, hended, hW, hsame⟩ := X26.leave (v := some (.int (1 : Int32))) (fun h => by rw [Bd.returns] at h; cases h)
    refine ⟨_, _, R28 _ ?_, hrun, hended, _, _, rfl, ?_, ⟨_, rfl⟩, hW, hsame.mono (by decide) (by decide)⟩
    · exact retN X26 hx (t := .boolean) Bd.returns (by simp) (hb hby at_102) hr
    · show Q_rm0 Z q0 fw mr h0 n0 _ T26.heap _
      rw [e26]
      exact ⟨rfl, N26, rfl⟩
  · rw [hk] at R1
    have R30 : Rch p e below (s₁.setTop (entryFrame m #[(.int q0)] maxLocals)) s₁ (mkF m 9 #[.val (.int q0), .val (.int (3 : Int32)), .unset, .unset] [(.int (3 : Int32))]) := fun t k => by
      refine R1 t ?_
      refine XS.iloadN X0.here hx rfl (hb hby at_8) rfl ?_
      exact k
    obtain ⟨_, _, ⟨T29, L29, k29, n29⟩, -, X29, ⟨Lc29, hQ29, l29, y29, z29⟩, st29⟩ := Jvm.LawKit.callS X0 hx (y := (⟨"com/example/assertion_to_token/assertiontotoken/rules/RuleHoldsClientCredentialsPinLaw", "pick", "(I)Lcom/example/assertion_to_token/assertiontotoken/rules/Rule;"⟩ : MethodName)) hown (mvT hZ (hw _ (List.mem_of_getElem? (i := 1) rfl))) (mvT hZ (hw _ (List.mem_of_getElem? (i := 2) rfl))) (mvT hZ (hw _ (List.mem_of_getElem? (i := 3) rfl))) (mvT hZ (hw _ (List.mem_of_getElem? (i := 4) rfl))) (by decide) (backOf (W := 0) (rm1 l Z a0 hw [] (3 : Int32) fw h0 n0 (Nat.le_trans Z0 K0.1) pS0 pS1 pS2 pS3 pS4 pS5 pS6 pS7 pS8 pS9 pS10 pS11 pS12 pS13 pS14 pS15 pS16 pS17 pS18 pS19 pS20 pS21 pS22 pS23 pS24 pS25 pS26 pS27 pS28) hZ (hw _ (List.mem_of_getElem? (i := 4) rfl)) (hw _ (List.mem_of_getElem? (i := 3) rfl)) (by decide) (by decide)) (g := (mkF m 9 #[.val (.int q0), .val (.int (3 : Int32)), .unset, .unset] [(.int (3 : Int32))])) rfl (by rw [hml]; rfl) (argsL := [(.int (3 : Int32))]) (rest := []) (lenOf pd_1 rfl) rfl (by show 2 * 0 + _ ≤ _; exact Nat.le_of_eq rfl) (hb hby at_9) (fun _ _ => ⟨rfl, e0, (by decide : 0 + 0 ≤ _), (by decide : 0 + 0 ≤ _)⟩)
    dsimp only [Pt.U, Pt.locs, Pt.cells, Pt.slots] at X29 l29 y29 z29 st29 hQ29
    subst l29 y29 z29
    obtain ⟨rfl, N29q, e29⟩ := hQ29
    have N29 := Fr.app N0 N29q
    rw [own_cl_ok (by simp [own_ok] : own_ok (3 : Int32))] at st29
    have R32 : Rch p e below (s₁.setTop (entryFrame m #[(.int q0)] maxLocals)) T29 (mkF m 14 #[.val (.int q0), .val (.int (3 : Int32)), .val (.ref (fw (3 : Int32))), .unset] [(.ref (fw (3 : Int32)))]) := fun t k => by
      refine R30 t ?_
      refine st29 _ ?_
      show Steps p.tables e below (T29.setTop (mkF m 12 #[.val (.int q0), .val (.int (3 : Int32)), .unset, .unset] [(.ref (fw (3 : Int32)))])) t
      refine XS.astoreN X29.here hx rfl (hb hby at_12) rfl rfl (l' := #[.val (.int q0), .val (.int (3 : Int32)), .val (.ref (fw (3 : Int32))), .unset]) rfl ?_
      show Steps p.tables e below (T29.setTop (mkF m 13 #[.val (.int q0), .val (.int (3 : Int32)), .val (.ref (fw (3 : Int32))), .unset] [])) t
      refine XS.aloadN X29.here hx rfl (hb hby at_13) rfl rfl ?_
      exact k
    obtain ⟨T31, X31, e31, st31⟩ := getS2 X29 hx hZ hown (host := "") (Or.inl (hw _ (List.mem_of_getElem? (i := 5) rfl))) Via.refl e29 pS0 (g := (mkF m 14 #[.val (.int q0), .val (.int (3 : Int32)), .val (.ref (fw (3 : Int32))), .unset] [(.ref (fw (3 : Int32)))])) rfl (hb hby at_14)
    have R34 : Rch p e below (s₁.setTop (entryFrame m #[(.int q0)] maxLocals)) T31 (mkF m 21 #[.val (.int q0), .val (.int (3 : Int32)), .val (.ref (fw (3 : Int32))), .unset] [(.ref (fw (3 : Int32)))]) := fun t k => by
      refine R32 t ?_
      refine st31 _ ?_
      show Steps p.tables e below (T31.setTop (mkF m 17 #[.val (.int q0), .val (.int (3 : Int32)), .val (.ref (fw (3 : Int32))), .unset] [(.ref (fw (0 : Int32))), (.ref (fw (3 : Int32)))])) t
      refine Jvm.RoadKit.acmp (g := (mkF m 17 #[.val (.int q0), .val (.int (3 : Int32)), .val (.ref (fw (3 : Int32))), .unset] [(.ref (fw (0 : Int32))), (.ref (fw (3 : Int32)))])) X31 hx rfl rfl rfl (pc0 := 17) (pc' := 20) (same := false) rfl (hb hby at_17) rfl (decide_eq_false (fun q => ((pO _ (by simp [own_ok] : own_ok (3 : Int32))).ne (pO _ (by simp [own_ok] : own_ok (0 : Int32))) (by decide)) (Value.ref.inj q))) (by decide) (by decide) ?_
      show Steps p.tables e below (T31.setTop (mkF m 20 #[.val (.int q0), .val (.int (3 : Int32)), .val (.ref (fw (3 : Int32))), .unset] [])) t
      refine XS.aloadN X31.here hx rfl (hb hby at_20) rfl rfl ?_
      exact k
    obtain ⟨T33, X33, e33, st33⟩ := getS2 X31 hx hZ hown (host := "") (Or.inl (hw _ (List.mem_of_getElem? (i := 32) rfl))) Via.refl e31 pS1 (g := (mkF m 21 #[.val (.int q0), .val (.int (3 : Int32)), .val (.ref (fw (3 : Int32))), .unset] [(.ref (fw (3 : Int32)))])) rfl (hb hby at_21)
    have R36 : Rch p e below (s₁.setTop (entryFrame m #[(.int q0)] maxLocals)) T33 (mkF m 28 #[.val (.int q0), .val (.int (3 : Int32)), .val (.ref (fw (3 : Int32))), .unset] [(.ref (fw (3 : Int32)))]) := fun t k => by
      refine R34 t ?_
      refine st33 _ ?_
      show Steps p.tables e below (T33.setTop (mkF m 24 #[.val (.int q0), .val (.int (3 : Int32)), .val (.ref (fw (3 : Int32))), .unset] [(.ref (fw (1 : Int32))), (.ref (fw (3 : Int32)))])) t
      refine Jvm.RoadKit.acmp (g := (mkF m 24 #[.val (.int q0), .val (.int (3 : Int32)), .val (.ref (fw (3 : Int32))), .unset] [(.ref (fw (1 : Int32))), (.ref (fw (3 : Int32)))])) X33 hx rfl rfl rfl (pc0 := 24) (pc' := 27) (same := false) rfl (hb hby at_24) rfl (decide_eq_false (fun q => ((pO _ (by simp [own_ok] : own_ok (3 : Int32))).ne (pO _ (by simp [own_ok] : own_ok (1 : Int32))) (by decide)) (Value.ref.inj q))) (by decide) (by decide) ?_
      show Steps p.tables e below (T33.setTop (mkF m 27 #[.val (.int q0), .val (.int (3 : Int32)), .val (.ref (fw (3 : Int32))), .unset] [])) t
      refine XS.aloadN X33.here hx rfl (hb hby at_27) rfl rfl ?_
      exact k
    obtain ⟨T35, X35, e35, st35⟩ := getS2 X33 hx hZ hown (host := "") (Or.inl (hw _ (List.mem_of_getElem? (i := 34) rfl))) Via.refl e33 pS2 (g := (mkF m 28 #[.val (.int q0), .val (.int (3 : Int32)), .val (.ref (fw (3 : Int32))), .unset] [(.ref (fw (3 : Int32)))])) rfl (hb hby at_28)
    have R38 : Rch p e below (s₁.setTop (entryFrame m #[(.int q0)] maxLocals)) T35 (mkF m 35 #[.val (.int q0), .val (.int (3 : Int32)), .val (.ref (fw (3 : Int32))), .unset] [(.ref (fw (3 : Int32)))]) := fun t k => by
      refine R36 t ?_
      refine st35 _ ?_
      show Steps p.tables e below (T35.setTop (mkF m 31 #[.val (.int q0), .val (.int (3 : Int32)), .val (.ref (fw (3 : Int32))), .unset] [(.ref (fw (2 : Int32))), (.ref (fw (3 : Int32)))])) t
      refine Jvm.RoadKit.acmp (g := (mkF m 31 #[.val (.int q0), .val (.int (3 : Int32)), .val (.ref (fw (3 : Int32))), .unset] [(.ref (fw (2 : Int32))), (.ref (fw (3 : Int32)))])) X35 hx rfl rfl rfl (pc0 := 31) (pc' := 34) (same := false) rfl (hb hby at_31) rfl (decide_eq_false (fun q => ((pO _ (by simp [own_ok] : own_ok (3 : Int32))).ne (pO _ (by simp [own_ok] : own_ok (2 : Int32))) (by decide)) (Value.ref.inj q))) (by decide) (by decide) ?_
      show Steps p.tables e below (T35.setTop (mkF m 34 #[.val (.int q0), .val (.int (3 : Int32)), .val (.ref (fw (3 : Int32))), .unset] [])) t
      refine XS.aloadN X35.here hx rfl (hb hby at_34) rfl rfl ?_
      exact k
    obtain ⟨T37, X37, e37, st37⟩ := getS2 X35 hx hZ hown (host := "") (Or.inl (hw _ (List.mem_of_getElem? (i := 30) rfl))) Via.refl e35 pS3 (g := (mkF m 35 #[.val (.int q0), .val (.int (3 : Int32)), .val (.ref (fw (3 : Int32))), .unset] [(.ref (fw (3 : Int32)))])) rfl (hb hby at_35)
    have R40 : Rch p e below (s₁.setTop (entryFrame m #[(.int q0)] maxLocals)) T37 (mkF m 90 #[.val (.int q0), .val (.int (3 : Int32)), .val (.ref (fw (3 : Int32))), .val (.int (1 : Int32))] [(.ref (fw (3 : Int32)))]) := fun t k => by
      refine R38 t ?_
      refine st37 _ ?_
      show Steps p.tables e below (T37.setTop (mkF m 38 #[.val (.int q0), .val (.int (3 : Int32)), .val (.ref (fw (3 : Int32))), .unset] [(.ref (fw (3 : Int32))), (.ref (fw (3 : Int32)))])) t
      refine Jvm.RoadKit.acmp (g := (mkF m 38 #[.val (.int q0), .val (.int (3 : Int32)), .val (.ref (fw (3 : Int32))), .unset] [(.ref (fw (3 : Int32))), (.ref (fw (3 : Int32)))])) X37 hx rfl rfl rfl (pc0 := 38) (pc' := 83) (same := true) rfl (hb hby at_38) rfl (decide_eq_true rfl) (by decide) (by decide) ?_
      show Steps p.tables e below (T37.setTop (mkF m 83 #[.val (.int q0), .val (.int (3 : Int32)), .val (.ref (fw (3 : Int32))), .unset] [])) t
      refine XS.iconst X37.here hx rfl (hb hby at_83) ?_
      show Steps p.tables e below (T37.setTop (mkF m 84 #[.val (.int q0), .val (.int (3 : Int32)), .val (.ref (fw (3 : Int32))), .unset] [(.int (1 : Int32))])) t
      refine XS.goto X37.here hx rfl (pc0 := 84) (pc' := 88) rfl (hb hby at_84) (by decide) (by decide) ?_
      show Steps p.tables e below (T37.setTop (mkF m 88 #[.val (.int q0), .val (.int (3 : Int32)), .val (.ref (fw (3 : Int32))), .unset] [(.int (1 : Int32))])) t
      refine XS.istoreN X37.here hx rfl (hb hby at_88) rfl (l' := #[.val (.int q0), .val (.int (3 : Int32)), .val (.ref (fw (3 : Int32))), .val (.int (1 : Int32))]) rfl ?_
      show Steps p.tables e below (T37.setTop (mkF m 89 #[.val (.int q0), .val (.int (3 : Int32)), .val (.ref (fw (3 : Int32))), .val (.int (1 : Int32))] [])) t
      refine XS.aloadN X37.here hx rfl (hb hby at_89) rfl rfl ?_
      exact k
    obtain ⟨cq39, kq39, q39a, q39b, q39c⟩ := isOf hZ e37 (pE _ (by simp [own_ok] : own_ok (3 : Int32)))
    obtain ⟨_, _, ⟨T39, L39, k39, n39⟩, -, X39, ⟨Lc39, hQ39, l39, y39, z39⟩, st39⟩ := X37.virtualBack hx (y := (⟨"com/example/assertion_to_token/assertiontotoken/rules/Rule", "holdsClientCredentials", "()Z"⟩ : MethodName)) (z := (⟨"com/example/assertion_to_token/assertiontotoken/rules/Rule", "holdsClientCredentials", "()Z"⟩ : MethodName)) hown (mvT hZ (hw _ (List.mem_of_getElem? (i := 8) rfl))) (mvT hZ (hw _ (List.mem_of_getElem? (i := 9) rfl))) (notFace_of_selects (args := #[]) (mvT hZ (hw _ (List.mem_of_getElem? (i := 11) rfl)))) (mvT hZ (hw _ (List.mem_of_getElem? (i := 11) rfl))) (mvT hZ (hw _ (List.mem_of_getElem? (i := 10) rfl))) (by decide) (backOf (W := 0) (rm2 l Z a0 hw [] (fw (3 : Int32)) (fw (10 : Int32)) (3 : Int32) mr h0 n0 (Nat.le_trans Z0 K0.1) pS10 (pE _ (by simp [own_ok] : own_ok (3 : Int32))) (pE _ (by simp [own_ok] : own_ok (10 : Int32))) (pO _ (by simp [own_ok] : own_ok (3 : Int32))) (pO _ (by simp [own_ok] : own_ok (10 : Int32))) pM) hZ (hw _ (List.mem_of_getElem? (i := 12) rfl)) (hw _ (List.mem_of_getElem? (i := 6) rfl)) (by decide) (by decide)) q39a q39c (g := (mkF m 90 #[.val (.int q0), .val (.int (3 : Int32)), .val (.ref (fw (3 : Int32))), .val (.int (1 : Int32))] [(.ref (fw (3 : Int32)))])) rfl (by rw [hml]; rfl) (Steps.refl _) (argsL := []) (rest := []) (lenOf pd_2 rfl) rfl (by show 2 * 0 + _ ≤ _; exact Nat.le_of_eq rfl) (hb hby at_90) (fun _ _ => ⟨rfl, e37, (by decide : 0 + 0 ≤ _), (by decide : 0 + 0 ≤ _)⟩)
    dsimp only [Pt.U, Pt.locs, Pt.cells, Pt.slots] at X39 l39 y39 z39 st39 hQ39
    subst l39 y39 z39
    obtain ⟨rfl, N39q, e39⟩ := hQ39
    have N39 := Fr.app N29 N39q
    have hp39 : own_h (3 : Int32) = (1 : Int32) := by decide
    rw [hp39] at st39
    have R41 : Rch p e below (s₁.setTop (entryFrame m #[(.int q0)] maxLocals)) T39 (mkF m 102 #[.val (.int q0), .val (.int (3 : Int32)), .val (.ref (fw (3 : Int32))), .val (.int (1 : Int32))] [(.int (1 : Int32))]) := fun t k => by
      refine R40 t ?_
      refine st39.trans ?_
      show Steps p.tables e below (T39.setTop (mkF m 93 #[.val (.int q0), .val (.int (3 : Int32)), .val (.ref (fw (3 : Int32))), .val (.int (1 : Int32))] [(.int (1 : Int32))])) t
      refine XS.iloadN X39.here hx rfl (hb hby at_93) rfl ?_
      show Steps p.tables e below (T39.setTop (mkF m 94 #[.val (.int q0), .val (.int (3 : Int32)), .val (.ref (fw (3 : Int32))), .val (.int (1 : Int32))] [(.int (1 : Int32)), (.int (1 : Int32))])) t
      refine XS.icmpNo X39.here hx rfl (hb hby at_94) rfl (teq (by decide : (1 : Int32) = (1 : Int32))).2 ?_
      show Steps p.tables e below (T39.setTop (mkF m 97 #[.val (.int q0), .val (.int (3 : Int32)), .val (.ref (fw (3 : Int32))), .val (.int (1 : Int32))] [])) t
      refine XS.iconst X39.here hx rfl (hb hby at_97) ?_
      show Steps p.tables e below (T39.setTop (mkF m 98 #[.val (.int q0), .val (.int (3 : Int32)), .val (.ref (fw (3 : Int32))), .val (.int (1 : Int32))] [(.int (1 : Int32))])) t
      refine XS.goto X39.here hx rfl (pc0 := 98) (pc' := 102) rfl (hb hby at_98) (by decide) (by decide) ?_
      exact k
    obtain ⟨fs, hr, hrun, hended, hW, hsame⟩ := X39.leave (v := some (.int (1 : Int32))) (fun h => by rw [Bd.returns] at h; cases h)
    refine ⟨_, _, R41 _ ?_, hrun, hended, _, _, rfl, ?_, ⟨_, rfl⟩, hW, hsame.mono (by decide) (by decide)⟩
    · exact retN X39 hx (t := .boolean) Bd.returns (by simp) (hb hby at_102) hr
    · show Q_rm0 Z q0 fw mr h0 n0 _ T39.heap _
      rw [e39]
      exact ⟨rfl, N39, rfl⟩
  · rw [hk] at R1
    have R43 : Rch p e below (s₁.setTop (entryFrame m #[(.int q0)] maxLocals)) s₁ (mkF m 9 #[.val (.int q0), .val (.int (4 : Int32)), .unset, .unset] [(.int (4 : Int32))]) := fun t k => by
      refine R1 t ?_
      refine XS.iloadN X0.here hx rfl (hb hby at_8) rfl ?_
      exact k
    obtain ⟨_, _, ⟨T42, L42, k42, n42⟩, -, X42, ⟨Lc42, hQ42, l42, y42, z42⟩, st42⟩ := Jvm.LawKit.callS X0 hx (y := (⟨"com/example/assertion_to_token/assertiontotoken/rules/RuleHoldsClientCredentialsPinLaw", "pick", "(I)Lcom/example/assertion_to_token/assertiontotoken/rules/Rule;"⟩ : MethodName)) hown (mvT hZ (hw _ (List.mem_of_getElem? (i := 1) rfl))) (mvT hZ (hw _ (List.mem_of_getElem? (i := 2) rfl))) (mvT hZ (hw _ (List.mem_of_getElem? (i := 3) rfl))) (mvT hZ (hw _ (List.mem_of_getElem? (i := 4) rfl))) (by decide) (backOf (W := 0) (rm1 l Z a0 hw [] (4 : Int32) fw h0 n0 (Nat.le_trans Z0 K0.1) pS0 pS1 pS2 pS3 pS4 pS5 pS6 pS7 pS8 pS9 pS10 pS11 pS12 pS13 pS14 pS15 pS16 pS17 pS18 pS19 pS20 pS21 pS22 pS23 pS24 pS25 pS26 pS27 pS28) hZ (hw _ (List.mem_of_getElem? (i := 4) rfl)) (hw _ (List.mem_of_getElem? (i := 3) rfl)) (by decide) (by decide)) (g := (mkF m 9 #[.val (.int q0), .val (.int (4 : Int32)), .unset, .unset] [(.int (4 : Int32))])) rfl (by rw [hml]; rfl) (argsL := [(.int (4 : Int32))]) (rest := []) (lenOf pd_1 rfl) rfl (by show 2 * 0 + _ ≤ _; exact Nat.le_of_eq rfl) (hb hby at_9) (fun _ _ => ⟨rfl, e0, (by decide : 0 + 0 ≤ _), (by decide : 0 + 0 ≤ _)⟩)
    dsimp only [Pt.U, Pt.locs, Pt.cells, Pt.slots] at X42 l42 y42 z42 st42 hQ42
    subst l42 y42 z42
    obtain ⟨rfl, N42q, e42⟩ := hQ42
    have N42 := Fr.app N0 N42q
    rw [own_cl_ok (by simp [own_ok] : own_ok (4 : Int32))] at st42
    have R45 : Rch p e below (s₁.setTop (entryFrame m #[(.int q0)] maxLocals)) T42 (mkF m 14 #[.val (.int q0), .val (.int (4 : Int32)), .val (.ref (fw (4 : Int32))), .unset] [(.ref (fw (4 : Int32)))]) := fun t k => by
      refine R43 t ?_
      refine st42 _ ?_
      show Steps p.tables e below (T42.setTop (mkF m 12 #[.val (.int q0), .val (.int (4 : Int32)), .unset, .unset] [(.ref (fw (4 : Int32)))])) t
      refine XS.astoreN X42.here hx rfl (hb hby at_12) rfl rfl (l' := #[.val (.int q0), .val (.int (4 : Int32)), .val (.ref (fw (4 : Int32))), .unset]) rfl ?_
      show Steps p.tables e below (T42.setTop (mkF m 13 #[.val (.int q0), .val (.int (4 : Int32)), .val (.ref (fw (4 : Int32))), .unset] [])) t
      refine XS.aloadN X42.here hx rfl (hb hby at_13) rfl rfl ?_
      exact k
    obtain ⟨T44, X44, e44, st44⟩ := getS2 X42 hx hZ hown (host := "") (Or.inl (hw _ (List.mem_of_getElem? (i := 5) rfl))) Via.refl e42 pS0 (g := (mkF m 14 #[.val (.int q0), .val (.int (4 : Int32)), .val (.ref (fw (4 : Int32))), .unset] [(.ref (fw (4 : Int32)))])) rfl (hb hby at_14)
    have R47 : Rch p e below (s₁.setTop (entryFrame m #[(.int q0)] maxLocals)) T44 (mkF m 21 #[.val (.int q0), .val (.int (4 : Int32)), .val (.ref (fw (4 : Int32))), .unset] [(.ref (fw (4 : Int32)))]) := fun t k => by
      refine R45 t ?_
      refine st44 _ ?_
      show Steps p.tables e below (T44.setTop (mkF m 17 #[.val (.int q0), .val (.int (4 : Int32)), .val (.ref (fw (4 : Int32))), .unset] [(.ref (fw (0 : Int32))), (.ref (fw (4 : Int32)))])) t
      refine Jvm.RoadKit.acmp (g := (mkF m 17 #[.val (.int q0), .val (.int (4 : Int32)), .val (.ref (fw (4 : Int32))), .unset] [(.ref (fw (0 : Int32))), (.ref (fw (4 : Int32)))])) X44 hx rfl rfl rfl (pc0 := 17) (pc' := 20) (same := false) rfl (hb hby at_17) rfl (decide_eq_false (fun q => ((pO _ (by simp [own_ok] : own_ok (4 : Int32))).ne (pO _ (by simp [own_ok] : own_ok (0 : Int32))) (by decide)) (Value.ref.inj q))) (by decide) (by decide) ?_
      show Steps p.tables e below (T44.setTop (mkF m 20 #[.val (.int q0), .val (.int (4 : Int32)), .val (.ref (fw (4 : Int32))), .unset] [])) t
      refine XS.aloadN X44.here hx rfl (hb hby at_20) rfl rfl ?_
      exact k
    obtain ⟨T46, X46, e46, st46⟩ := getS2 X44 hx hZ hown (host := "") (Or.inl (hw _ (List.mem_of_getElem? (i := 32) rfl))) Via.refl e44 pS1 (g := (mkF m 21 #[.val (.int q0), .val (.int (4 : Int32)), .val (.ref (fw (4 : Int32))), .unset] [(.ref (fw (4 : Int32)))])) rfl (hb hby at_21)
    have R49 : Rch p e below (s₁.setTop (entryFrame m #[(.int q0)] maxLocals)) T46 (mkF m 28 #[.val (.int q0), .val (.int (4 : Int32)), .val (.ref (fw (4 : Int32))), .unset] [(.ref (fw (4 : Int32)))]) := fun t k => by
      refine R47 t ?_
      refine st46 _ ?_
      show Steps p.tables e below (T46.setTop (mkF m 24 #[.val (.int q0), .val (.int (4 : Int32)), .val (.ref (fw (4 : Int32))), .unset] [(.ref (fw (1 : Int32))), (.ref (fw (4 : Int32)))])) t
      refine Jvm.RoadKit.acmp (g := (mkF m 24 #[.val (.int q0), .val (.int (4 : Int32)), .val (.ref (fw (4 : Int32))), .unset] [(.ref (fw (1 : Int32))), (.ref (fw (4 : Int32)))])) X46 hx rfl rfl rfl (pc0 := 24) (pc' := 27) (same := false) rfl (hb hby at_24) rfl (decide_eq_false (fun q => ((pO _ (by simp [own_ok] : own_ok (4 : Int32))).ne (pO _ (by simp [own_ok] : own_ok (1 : Int32))) (by decide)) (Value.ref.inj q))) (by decide) (by decide) ?_
      show Steps p.tables e below (T46.setTop (mkF m 27 #[.val (.int q0), .val (.int (4 : Int32)), .val (.ref (fw (4 : Int32))), .unset] [])) t
      refine XS.aloadN X46.here hx rfl (hb hby at_27) rfl rfl ?_
      exact k
    obtain ⟨T48, X48, e48, st48⟩ := getS2 X46 hx hZ hown (host := "") (Or.inl (hw _ (List.mem_of_getElem? (i := 34) rfl))) Via.refl e46 pS2 (g := (mkF m 28 #[.val (.int q0), .val (.int (4 : Int32)), .val (.ref (fw (4 : Int32))), .unset] [(.ref (fw (4 : Int32)))])) rfl (hb hby at_28)
    have R51 : Rch p e below (s₁.setTop (entryFrame m #[(.int q0)] maxLocals)) T48 (mkF m 35 #[.val (.int q0), .val (.int (4 : Int32)), .val (.ref (fw (4 : Int32))), .unset] [(.ref (fw (4 : Int32)))]) := fun t k => by
      refine R49 t ?_
      refine st48 _ ?_
      show Steps p.tables e below (T48.setTop (mkF m 31 #[.val (.int q0), .val (.int (4 : Int32)), .val (.ref (fw (4 : Int32))), .unset] [(.ref (fw (2 : Int32))), (.ref (fw (4 : Int32)))])) t
      refine Jvm.RoadKit.acmp (g := (mkF m 31 #[.val (.int q0), .val (.int (4 : Int32)), .val (.ref (fw (4 : Int32))), .unset] [(.ref (fw (2 : Int32))), (.ref (fw (4 : Int32)))])) X48 hx rfl rfl rfl (pc0 := 31) (pc' := 34) (same := false) rfl (hb hby at_31) rfl (decide_eq_false (fun q => ((pO _ (by simp [own_ok] : own_ok (4 : Int32))).ne (pO _ (by simp [own_ok] : own_ok (2 : Int32))) (by decide)) (Value.ref.inj q))) (by decide) (by decide) ?_
      show Steps p.tables e below (T48.setTop (mkF m 34 #[.val (.int q0), .val (.int (4 : Int32)), .val (.ref (fw (4 : Int32))), .unset] [])) t
      refine XS.aloadN X48.here hx rfl (hb hby at_34) rfl rfl ?_
      exact k
    obtain ⟨T50, X50, e50, st50⟩ := getS2 X48 hx hZ hown (host := "") (Or.inl (hw _ (List.mem_of_getElem? (i := 30) rfl))) Via.refl e48 pS3 (g := (mkF m 35 #[.val (.int q0), .val (.int (4 : Int32)), .val (.ref (fw (4 : Int32))), .unset] [(.ref (fw (4 : Int32)))])) rfl (hb hby at_35)
    have R53 : Rch p e below (s₁.setTop (entryFrame m #[(.int q0)] maxLocals)) T50 (mkF m 42 #[.val (.int q0), .val (.int (4 : Int32)), .val (.ref (fw (4 : Int32))), .unset] [(.ref (fw (4 : Int32)))]) := fun t k => by
      refine R51 t ?_
      refine st50 _ ?_
      show Steps p.tables e below (T50.setTop (mkF m 38 #[.val (.int q0), .val (.int (4 : Int32)), .val (.ref (fw (4 : Int32))), .unset] [(.ref (fw (3 : Int32))), (.ref (fw (4 : Int32)))])) t
      refine Jvm.RoadKit.acmp (g := (mkF m 38 #[.val (.int q0), .val (.int (4 : Int32)), .val (.ref (fw (4 : Int32))), .unset] [(.ref (fw (3 : Int32))), (.ref (fw (4 : Int32)))])) X50 hx rfl rfl rfl (pc0 := 38) (pc' := 41) (same := false) rfl (hb hby at_38) rfl (decide_eq_false (fun q => ((pO _ (by simp [own_ok] : own_ok (4 : Int32))).ne (pO _ (by simp [own_ok] : own_ok (3 : Int32))) (by decide)) (Value.ref.inj q))) (by decide) (by decide) ?_
      show Steps p.tables e below (T50.setTop (mkF m 41 #[.val (.int q0), .val (.int (4 : Int32)), .val (.ref (fw (4 : Int32))), .unset] [])) t
      refine XS.aloadN X50.here hx rfl (hb hby at_41) rfl rfl ?_
      exact k
    obtain ⟨T52, X52, e52, st52⟩ := getS2 X50 hx hZ hown (host := "") (Or.inl (hw _ (List.mem_of_getElem? (i := 38) rfl))) Via.refl e50 pS4 (g := (mkF m 42 #[.val (.int q0), .val (.int (4 : Int32)), .val (.ref (fw (4 : Int32))), .unset] [(.ref (fw (4 : Int32)))])) rfl (hb hby at_42)
    have R55 : Rch p e below (s₁.setTop (entryFrame m #[(.int q0)] maxLocals)) T52 (mkF m 90 #[.val (.int q0), .val (.int (4 : Int32)), .val (.ref (fw (4 : Int32))), .val (.int (1 : Int32))] [(.ref (fw (4 : Int32)))]) := fun t k => by
      refine R53 t ?_
      refine st52 _ ?_
      show Steps p.tables e below (T52.setTop (mkF m 45 #[.val (.int q0), .val (.int (4 : Int32)), .val (.ref (fw (4 : Int32))), .unset] [(.ref (fw (4 : Int32))), (.ref (fw (4 : Int32)))])) t
      refine Jvm.RoadKit.acmp (g := (mkF m 45 #[.val (.int q0), .val (.int (4 : Int32)), .val (.ref (fw (4 : Int32))), .unset] [(.ref (fw (4 : Int32))), (.ref (fw (4 : Int32)))])) X52 hx rfl rfl rfl (pc0 := 45) (pc' := 83) (same := true) rfl (hb hby at_45) rfl (decide_eq_true rfl) (by decide) (by decide) ?_
      show Steps p.tables e below (T52.setTop (mkF m 83 #[.val (.int q0), .val (.int (4 : Int32)), .val (.ref (fw (4 : Int32))), .unset] [])) t
      refine XS.iconst X52.here hx rfl (hb hby at_83) ?_
      show Steps p.tables e below (T52.setTop (mkF m 84 #[.val (.int q0), .val (.int (4 : Int32)), .val (.ref (fw (4 : Int32))), .unset] [(.int (1 : Int32))])) t
      refine XS.goto X52.here hx rfl (pc0 := 84) (pc' := 88) rfl (hb hby at_84) (by decide) (by decide) ?_
      show Steps p.tables e below (T52.setTop (mkF m 88 #[.val (.int q0), .val (.int (4 : Int32)), .val (.ref (fw (4 : Int32))), .unset] [(.int (1 : Int32))])) t
      refine XS.istoreN X52.here hx rfl (hb hby at_88) rfl (l' := #[.val (.int q0), .val (.int (4 : Int32)), .val (.ref (fw (4 : Int32))), .val (.int (1 : Int32))]) rfl ?_
      show Steps p.tables e below (T52.setTop (mkF m 89 #[.val (.int q0), .val (.int (4 : Int32)), .val (.ref (fw (4 : Int32))), .val (.int (1 : Int32))] [])) t
      refine XS.aloadN X52.here hx rfl (hb hby at_89) rfl rfl ?_
      exact k
    obtain ⟨cq54, kq54, q54a, q54b, q54c⟩ := isOf hZ e52 (pE _ (by simp [own_ok] : own_ok (4 : Int32)))
    obtain ⟨_, _, ⟨T54, L54, k54, n54⟩, -, X54, ⟨Lc54, hQ54, l54, y54, z54⟩, st54⟩ := X52.virtualBack hx (y := (⟨"com/example/assertion_to_token/assertiontotoken/rules/Rule", "holdsClientCredentials", "()Z"⟩ : MethodName)) (z := (⟨"com/example/assertion_to_token/assertiontotoken/rules/Rule", "holdsClientCredentials", "()Z"⟩ : MethodName)) hown (mvT hZ (hw _ (List.mem_of_getElem? (i := 8) rfl))) (mvT hZ (hw _ (List.mem_of_getElem? (i := 9) rfl))) (notFace_of_selects (args := #[]) (mvT hZ (hw _ (List.mem_of_getElem? (i := 11) rfl)))) (mvT hZ (hw _ (List.mem_of_getElem? (i := 11) rfl))) (mvT hZ (hw _ (List.mem_of_getElem? (i := 10) rfl))) (by decide) (backOf (W := 0) (rm2 l Z a0 hw [] (fw (4 : Int32)) (fw (10 : Int32)) (4 : Int32) mr h0 n0 (Nat.le_trans Z0 K0.1) pS10 (pE _ (by simp [own_ok] : own_ok (4 : Int32))) (pE _ (by simp [own_ok] : own_ok (10 : Int32))) (pO _ (by simp [own_ok] : own_ok (4 : Int32))) (pO _ (by simp [own_ok] : own_ok (10 : Int32))) pM) hZ (hw _ (List.mem_of_getElem? (i := 12) rfl)) (hw _ (List.mem_of_getElem? (i := 6) rfl)) (by decide) (by decide)) q54a q54c (g := (mkF m 90 #[.val (.int q0), .val (.int (4 : Int32)), .val (.ref (fw (4 : Int32))), .val (.int (1 : Int32))] [(.ref (fw (4 : Int32)))])) rfl (by rw [hml]; rfl) (Steps.refl _) (argsL := []) (rest := []) (lenOf pd_2 rfl) rfl (by show 2 * 0 + _ ≤ _; exact Nat.le_of_eq rfl) (hb hby at_90) (fun _ _ => ⟨rfl, e52, (by decide : 0 + 0 ≤ _), (by decide : 0 + 0 ≤ _)⟩)
    dsimp only [Pt.U, Pt.locs, Pt.cells, Pt.slots] at X54 l54 y54 z54 st54 hQ54
    subst l54 y54 z54
    obtain ⟨rfl, N54q, e54⟩ := hQ54
    have N54 := Fr.app N42 N54q
    have hp54 : own_h (4 : Int32) = (1 : Int32) := by decide
    rw [hp54] at st54
    have R56 : Rch p e below (s₁.setTop (entryFrame m #[(.int q0)] maxLocals)) T54 (mkF m 102 #[.val (.int q0), .val (.int (4 : Int32)), .val (.ref (fw (4 : Int32))), .val (.int (1 : Int32))] [(.int (1 : Int32))]) := fun t k => by
      refine R55 t ?_
      refine st54.trans ?_
      show Steps p.tables e below (T54.setTop (mkF m 93 #[.val (.int q0), .val (.int (4 : Int32)), .val (.ref (fw (4 : Int32))), .val (.int (1 : Int32))] [(.int (1 : Int32))])) t
      refine XS.iloadN X54.here hx rfl (hb hby at_93) rfl ?_
      show Steps p.tables e below (T54.setTop (mkF m 94 #[.val (.int q0), .val (.int (4 : Int32)), .val (.ref (fw (4 : Int32))), .val (.int (1 : Int32))] [(.int (1 : Int32)), (.int (1 : Int32))])) t
      refine XS.icmpNo X54.here hx rfl (hb hby at_94) rfl (teq (by decide : (1 : Int32) = (1 : Int32))).2 ?_
      show Steps p.tables e below (T54.setTop (mkF m 97 #[.val (.int q0), .val (.int (4 : Int32)), .val (.ref (fw (4 : Int32))), .val (.int (1 : Int32))] [])) t
      refine XS.iconst X54.here hx rfl (hb hby at_97) ?_
      show Steps p.tables e below (T54.setTop (mkF m 98 #[.val (.int q0), .val (.int (4 : Int32)), .val (.ref (fw (4 : Int32))), .val (.int (1 : Int32))] [(.int (1 : Int32))])) t
      refine XS.goto X54.here hx rfl (pc0 := 98) (pc' := 102) rfl (hb hby at_98) (by decide) (by decide) ?_
      exact k
    obtain ⟨fs, hr, hrun, hended, hW, hsame⟩ := X54.leave (v := some (.int (1 : Int32))) (fun h => by rw [Bd.returns] at h; cases h)
    refine ⟨_, _, R56 _ ?_, hrun, hended, _, _, rfl, ?_, ⟨_, rfl⟩, hW, hsame.mono (by decide) (by decide)⟩
    · exact retN X54 hx (t := .boolean) Bd.returns (by simp) (hb hby at_102) hr
    · show Q_rm0 Z q0 fw mr h0 n0 _ T54.heap _
      rw [e54]
      exact ⟨rfl, N54, rfl⟩
  · rw [hk] at R1
    have R58 : Rch p e below (s₁.setTop (entryFrame m #[(.int q0)] maxLocals)) s₁ (mkF m 9 #[.val (.int q0), .val (.int (5 : Int32)), .unset, .unset] [(.int (5 : Int32))]) := fun t k => by
      refine R1 t ?_
      refine XS.iloadN X0.here hx rfl (hb hby at_8) rfl ?_
      exact k
    obtain ⟨_, _, ⟨T57, L57, k57, n57⟩, -, X57, ⟨Lc57, hQ57, l57, y57, z57⟩, st57⟩ := Jvm.LawKit.callS X0 hx (y := (⟨"com/example/assertion_to_token/assertiontotoken/rules/RuleHoldsClientCredentialsPinLaw", "pick", "(I)Lcom/example/assertion_to_token/assertiontotoken/rules/Rule;"⟩ : MethodName)) hown (mvT hZ (hw _ (List.mem_of_getElem? (i := 1) rfl))) (mvT hZ (hw _ (List.mem_of_getElem? (i := 2) rfl))) (mvT hZ (hw _ (List.mem_of_getElem? (i := 3) rfl))) (mvT hZ (hw _ (List.mem_of_getElem? (i := 4) rfl))) (by decide) (backOf (W := 0) (rm1 l Z a0 hw [] (5 : Int32) fw h0 n0 (Nat.le_trans Z0 K0.1) pS0 pS1 pS2 pS3 pS4 pS5 pS6 pS7 pS8 pS9 pS10 pS11 pS12 pS13 pS14 pS15 pS16 pS17 pS18 pS19 pS20 pS21 pS22 pS23 pS24 pS25 pS26 pS27 pS28) hZ (hw _ (List.mem_of_getElem? (i := 4) rfl)) (hw _ (List.mem_of_getElem? (i := 3) rfl)) (by decide) (by decide)) (g := (mkF m 9 #[.val (.int q0), .val (.int (5 : Int32)), .unset, .unset] [(.int (5 : Int32))])) rfl (by rw [hml]; rfl) (argsL := [(.int (5 : Int32))]) (rest := []) (lenOf pd_1 rfl) rfl (by show 2 * 0 + _ ≤ _; exact Nat.le_of_eq rfl) (hb hby at_9) (fun _ _ => ⟨rfl, e0, (by decide : 0 + 0 ≤ _), (by decide : 0 + 0 ≤ _)⟩)
    dsimp only [Pt.U, Pt.locs, Pt.cells, Pt.slots] at X57 l57 y57 z57 st57 hQ57
    subst l57 y57 z57
    obtain ⟨rfl, N57q, e57⟩ := hQ57
    have N57 := Fr.app N0 N57q
    rw [own_cl_ok (by simp [own_ok] : own_ok (5 : Int32))] at st57
    have R60 : Rch p e below (s₁.setTop (entryFrame m #[(.int q0)] maxLocals)) T57 (mkF m 14 #[.val (.int q0), .val (.int (5 : Int32)), .val (.ref (fw (5 : Int32))), .unset] [(.ref (fw (5 : Int32)))]) := fun t k => by
      refine R58 t ?_
      refine st57 _ ?_
      show Steps p.tables e below (T57.setTop (mkF m 12 #[.val (.int q0), .val (.int (5 : Int32)), .unset, .unset] [(.ref (fw (5 : Int32)))])) t
      refine XS.astoreN X57.here hx rfl (hb hby at_12) rfl rfl (l' := #[.val (.int q0), .val (.int (5 : Int32)), .val (.ref (fw (5 : Int32))), .unset]) rfl ?_
      show Steps p.tables e below (T57.setTop (mkF m 13 #[.val (.int q0), .val (.int (5 : Int32)), .val (.ref (fw (5 : Int32))), .unset] [])) t
      refine XS.aloadN X57.here hx rfl (hb hby at_13) rfl rfl ?_
      exact k
    obtain ⟨T59, X59, e59, st59⟩ := getS2 X57 hx hZ hown (host := "") (Or.inl (hw _ (List.mem_of_getElem? (i := 5) rfl))) Via.refl e57 pS0 (g := (mkF m 14 #[.val (.int q0), .val (.int (5 : Int32)), .val (.ref (fw (5 : Int32))), .unset] [(.ref (fw (5 : Int32)))])) rfl (hb hby at_14)
    have R62 : Rch p e below (s₁.setTop (entryFrame m #[(.int q0)] maxLocals)) T59 (mkF m 21 #[.val (.int q0), .val (.int (5 : Int32)), .val (.ref (fw (5 : Int32))), .unset] [(.ref (fw (5 : Int32)))]) := fun t k => by
      refine R60 t ?_
      refine st59 _ ?_
      show Steps p.tables e below (T59.setTop (mkF m 17 #[.val (.int q0), .val (.int (5 : Int32)), .val (.ref (fw (5 : Int32))), .unset] [(.ref (fw (0 : Int32))), (.ref (fw (5 : Int32)))])) t
      refine Jvm.RoadKit.acmp (g := (mkF m 17 #[.val (.int q0), .val (.int (5 : Int32)), .val (.ref (fw (5 : Int32))), .unset] [(.ref (fw (0 : Int32))), (.ref (fw (5 : Int32)))])) X59 hx rfl rfl rfl (pc0 := 17) (pc' := 20) (same := false) rfl (hb hby at_17) rfl (decide_eq_false (fun q => ((pO _ (by simp [own_ok] : own_ok (5 : Int32))).ne (pO _ (by simp [own_ok] : own_ok (0 : Int32))) (by decide)) (Value.ref.inj q))) (by decide) (by decide) ?_
      show Steps p.tables e below (T59.setTop (mkF m 20 #[.val (.int q0), .val (.int (5 : Int32)), .val (.ref (fw (5 : Int32))), .unset] [])) t
      refine XS.aloadN X59.here hx rfl (hb hby at_20) rfl rfl ?_
      exact k
    obtain ⟨T61, X61, e61, st61⟩ := getS2 X59 hx hZ hown (host := "") (Or.inl (hw _ (List.mem_of_getElem? (i := 32) rfl))) Via.refl e59 pS1 (g := (mkF m 21 #[.val (.int q0), .val (.int (5 : Int32)), .val (.ref (fw (5 : Int32))), .unset] [(.ref (fw (5 : Int32)))])) rfl (hb hby at_21)
    have R64 : Rch p e below (s₁.setTop (entryFrame m #[(.int q0)] maxLocals)) T61 (mkF m 28 #[.val (.int q0), .val (.int (5 : Int32)), .val (.ref (fw (5 : Int32))), .unset] [(.ref (fw (5 : Int32)))]) := fun t k => by
      refine R62 t ?_
      refine st61 _ ?_
      show Steps p.tables e below (T61.setTop (mkF m 24 #[.val (.int q0), .val (.int (5 : Int32)), .val (.ref (fw (5 : Int32))), .unset] [(.ref (fw (1 : Int32))), (.ref (fw (5 : Int32)))])) t
      refine Jvm.RoadKit.acmp (g := (mkF m 24 #[.val (.int q0), .val (.int (5 : Int32)), .val (.ref (fw (5 : Int32))), .unset] [(.ref (fw (1 : Int32))), (.ref (fw (5 : Int32)))])) X61 hx rfl rfl rfl (pc0 := 24) (pc' := 27) (same := false) rfl (hb hby at_24) rfl (decide_eq_false (fun q => ((pO _ (by simp [own_ok] : own_ok (5 : Int32))).ne (pO _ (by simp [own_ok] : own_ok (1 : Int32))) (by decide)) (Value.ref.inj q))) (by decide) (by decide) ?_
      show Steps p.tables e below (T61.setTop (mkF m 27 #[.val (.int q0), .val (.int (5 : Int32)), .val (.ref (fw (5 : Int32))), .unset] [])) t
      refine XS.aloadN X61.here hx rfl (hb hby at_27) rfl rfl ?_
      exact k
    obtain ⟨T63, X63, e63, st63⟩ := getS2 X61 hx hZ hown (host := "") (Or.inl (hw _ (List.mem_of_getElem? (i := 34) rfl))) Via.refl e61 pS2 (g := (mkF m 28 #[.val (.int q0), .val (.int (5 : Int32)), .val (.ref (fw (5 : Int32))), .unset] [(.ref (fw (5 : Int32)))])) rfl (hb hby at_28)
    have R66 : Rch p e below (s₁.setTop (entryFrame m #[(.int q0)] maxLocals)) T63 (mkF m 35 #[.val (.int q0), .val (.int (5 : Int32)), .val (.ref (fw (5 : Int32))), .unset] [(.ref (fw (5 : Int32)))]) := fun t k => by
      refine R64 t ?_
      refine st63 _ ?_
      show Steps p.tables e below (T63.setTop (mkF m 31 #[.val (.int q0), .val (.int (5 : Int32)), .val (.ref (fw (5 : Int32))), .unset] [(.ref (fw (2 : Int32))), (.ref (fw (5 : Int32)))])) t
      refine Jvm.RoadKit.acmp (g := (mkF m 31 #[.val (.int q0), .val (.int (5 : Int32)), .val (.ref (fw (5 : Int32))), .unset] [(.ref (fw (2 : Int32))), (.ref (fw (5 : Int32)))])) X63 hx rfl rfl rfl (pc0 := 31) (pc' := 34) (same := false) rfl (hb hby at_31) rfl (decide_eq_false (fun q => ((pO _ (by simp [own_ok] : own_ok (5 : Int32))).ne (pO _ (by simp [own_ok] : own_ok (2 : Int32))) (by decide)) (Value.ref.inj q))) (by decide) (by decide) ?_
      show Steps p.tables e below (T63.setTop (mkF m 34 #[.val (.int q0), .val (.int (5 : Int32)), .val (.ref (fw (5 : Int32))), .unset] [])) t
      refine XS.aloadN X63.here hx rfl (hb hby at_34) rfl rfl ?_
      exact k
    obtain ⟨T65, X65, e65, st65⟩ := getS2 X63 hx hZ hown (host := "") (Or.inl (hw _ (List.mem_of_getElem? (i := 30) rfl))) Via.refl e63 pS3 (g := (mkF m 35 #[.val (.int q0), .val (.int (5 : Int32)), .val (.ref (fw (5 : Int32))), .unset] [(.ref (fw (5 : Int32)))])) rfl (hb hby at_35)
    have R68 : Rch p e below (s₁.setTop (entryFrame m #[(.int q0)] maxLocals)) T65 (mkF m 42 #[.val (.int q0), .val (.int (5 : Int32)), .val (.ref (fw (5 : Int32))), .unset] [(.ref (fw (5 : Int32)))]) := fun t k => by
      refine R66 t ?_
      refine st65 _ ?_
      show Steps p.tables e below (T65.setTop (mkF m 38 #[.val (.int q0), .val (.int (5 : Int32)), .val (.ref (fw (5 : Int32))), .unset] [(.ref (fw (3 : Int32))), (.ref (fw (5 : Int32)))])) t
      refine Jvm.RoadKit.acmp (g := (mkF m 38 #[.val (.int q0), .val (.int (5 : Int32)), .val (.ref (fw (5 : Int32))), .unset] [(.ref (fw (3 : Int32))), (.ref (fw (5 : Int32)))])) X65 hx rfl rfl rfl (pc0 := 38) (pc' := 41) (same := false) rfl (hb hby at_38) rfl (decide_eq_false (fun q => ((pO _ (by simp [own_ok] : own_ok (5 : Int32))).ne (pO _ (by simp [own_ok] : own_ok (3 : Int32))) (by decide)) (Value.ref.inj q))) (by decide) (by decide) ?_
      show Steps p.tables e below (T65.setTop (mkF m 41 #[.val (.int q0), .val (.int (5 : Int32)), .val (.ref (fw (5 : Int32))), .unset] [])) t
      refine XS.aloadN X65.here hx rfl (hb hby at_41) rfl rfl ?_
      exact k
    obtain ⟨T67, X67, e67, st67⟩ := getS2 X65 hx hZ hown (host := "") (Or.inl (hw _ (List.mem_of_getElem? (i := 38) rfl))) Via.refl e65 pS4 (g := (mkF m 42 #[.val (.int q0), .val (.int (5 : Int32)), .val (.ref (fw (5 : Int32))), .unset] [(.ref (fw (5 : Int32)))])) rfl (hb hby at_42)
    have R70 : Rch p e below (s₁.setTop (entryFrame m #[(.int q0)] maxLocals)) T67 (mkF m 49 #[.val (.int q0), .val (.int (5 : Int32)), .val (.ref (fw (5 : Int32))), .unset] [(.ref (fw (5 : Int32)))]) := fun t k => by
      refine R68 t ?_
      refine st67 _ ?_
      show Steps p.tables e below (T67.setTop (mkF m 45 #[.val (.int q0), .val (.int (5 : Int32)), .val (.ref (fw (5 : Int32))), .unset] [(.ref (fw (4 : Int32))), (.ref (fw (5 : Int32)))])) t
      refine Jvm.RoadKit.acmp (g := (mkF m 45 #[.val (.int q0), .val (.int (5 : Int32)), .val (.ref (fw (5 : Int32))), .unset] [(.ref (fw (4 : Int32))), (.ref (fw (5 : Int32)))])) X67 hx rfl rfl rfl (pc0 := 45) (pc' := 48) (same := false) rfl (hb hby at_45) rfl (decide_eq_false (fun q => ((pO _ (by simp [own_ok] : own_ok (5 : Int32))).ne (pO _ (by simp [own_ok] : own_ok (4 : Int32))) (by decide)) (Value.ref.inj q))) (by decide) (by decide) ?_
      show Steps p.tables e below (T67.setTop (mkF m 48 #[.val (.int q0), .val (.int (5 : Int32)), .val (.ref (fw (5 : Int32))), .unset] [])) t
      refine XS.aloadN X67.here hx rfl (hb hby at_48) rfl rfl ?_
      exact k
    obtain ⟨T69, X69, e69, st69⟩ := getS2 X67 hx hZ hown (host := "") (Or.inl (hw _ (List.mem_of_getElem? (i := 40) rfl))) Via.refl e67 pS5 (g := (mkF m 49 #[.val (.int q0), .val (.int (5 : Int32)), .val (.ref (fw (5 : Int32))), .unset] [(.ref (fw (5 : Int32)))])) rfl (hb hby at_49)
    have R72 : Rch p e below (s₁.setTop (entryFrame m #[(.int q0)] maxLocals)) T69 (mkF m 90 #[.val (.int q0), .val (.int (5 : Int32)), .val (.ref (fw (5 : Int32))), .val (.int (1 : Int32))] [(.ref (fw (5 : Int32)))]) := fun t k => by
      refine R70 t ?_
      refine st69 _ ?_
      show Steps p.tables e below (T69.setTop (mkF m 52 #[.val (.int q0), .val (.int (5 : Int32)), .val (.ref (fw (5 : Int32))), .unset] [(.ref (fw (5 : Int32))), (.ref (fw (5 : Int32)))])) t
      refine Jvm.RoadKit.acmp (g := (mkF m 52 #[.val (.int q0), .val (.int (5 : Int32)), .val (.ref (fw (5 : Int32))), .unset] [(.ref (fw (5 : Int32))), (.ref (fw (5 : Int32)))])) X69 hx rfl rfl rfl (pc0 := 52) (pc' := 83) (same := true) rfl (hb hby at_52) rfl (decide_eq_true rfl) (by decide) (by decide) ?_
      show Steps p.tables e below (T69.setTop (mkF m 83 #[.val (.int q0), .val (.int (5 : Int32)), .val (.ref (fw (5 : Int32))), .unset] [])) t
      refine XS.iconst X69.here hx rfl (hb hby at_83) ?_
      show Steps p.tables e below (T69.setTop (mkF m 84 #[.val (.int q0), .val (.int (5 : Int32)), .val (.ref (fw (5 : Int32))), .unset] [(.int (1 : Int32))])) t
      refine XS.goto X69.here hx rfl (pc0 := 84) (pc' := 88) rfl (hb hby at_84) (by decide) (by decide) ?_
      show Steps p.tables e below (T69.setTop (mkF m 88 #[.val (.int q0), .val (.int (5 : Int32)), .val (.ref (fw (5 : Int32))), .unset] [(.int (1 : Int32))])) t
      refine XS.istoreN X69.here hx rfl (hb hby at_88) rfl (l' := #[.val (.int q0), .val (.int (5 : Int32)), .val (.ref (fw (5 : Int32))), .val (.int (1 : Int32))]) rfl ?_
      show Steps p.tables e below (T69.setTop (mkF m 89 #[.val (.int q0), .val (.int (5 : Int32)), .val (.ref (fw (5 : Int32))), .val (.int (1 : Int32))] [])) t
      refine XS.aloadN X69.here hx rfl (hb hby at_89) rfl rfl ?_
      exact k
    obtain ⟨cq71, kq71, q71a, q71b, q71c⟩ := isOf hZ e69 (pE _ (by simp [own_ok] : own_ok (5 : Int32)))
    obtain ⟨_, _, ⟨T71, L71, k71, n71⟩, -, X71, ⟨Lc71, hQ71, l71, y71, z71⟩, st71⟩ := X69.virtualBack hx (y := (⟨"com/example/assertion_to_token/assertiontotoken/rules/Rule", "holdsClientCredentials", "()Z"⟩ : MethodName)) (z := (⟨"com/example/assertion_to_token/assertiontotoken/rules/Rule", "holdsClientCredentials", "()Z"⟩ : MethodName)) hown (mvT hZ (hw _ (List.mem_of_getElem? (i := 8) rfl))) (mvT hZ (hw _ (List.mem_of_getElem? (i := 9) rfl))) (notFace_of_selects (args := #[]) (mvT hZ (hw _ (List.mem_of_getElem? (i := 11) rfl)))) (mvT hZ (hw _ (List.mem_of_getElem? (i := 11) rfl))) (mvT hZ (hw _ (List.mem_of_getElem? (i := 10) rfl))) (by decide) (backOf (W := 0) (rm2 l Z a0 hw [] (fw (5 : Int32)) (fw (10 : Int32)) (5 : Int32) mr h0 n0 (Nat.le_trans Z0 K0.1) pS10 (pE _ (by simp [own_ok] : own_ok (5 : Int32))) (pE _ (by simp [own_ok] : own_ok (10 : Int32))) (pO _ (by simp [own_ok] : own_ok (5 : Int32))) (pO _ (by simp [own_ok] : own_ok (10 : Int32))) pM) hZ (hw _ (List.mem_of_getElem? (i := 12) rfl)) (hw _ (List.mem_of_getElem? (i := 6) rfl)) (by decide) (by decide)) q71a q71c (g := (mkF m 90 #[.val (.int q0), .val (.int (5 : Int32)), .val (.ref (fw (5 : Int32))), .val (.int (1 : Int32))] [(.ref (fw (5 : Int32)))])) rfl (by rw [hml]; rfl) (Steps.refl _) (argsL := []) (rest := []) (lenOf pd_2 rfl) rfl (by show 2 * 0 + _ ≤ _; exact Nat.le_of_eq rfl) (hb hby at_90) (fun _ _ => ⟨rfl, e69, (by decide : 0 + 0 ≤ _), (by decide : 0 + 0 ≤ _)⟩)
    dsimp only [Pt.U, Pt.locs, Pt.cells, Pt.slots] at X71 l71 y71 z71 st71 hQ71
    subst l71 y71 z71
    obtain ⟨rfl, N71q, e71⟩ := hQ71
    have N71 := Fr.app N57 N71q
    have hp71 : own_h (5 : Int32) = (1 : Int32) := by decide
    rw [hp71] at st71
    have R73 : Rch p e below (s₁.setTop (entryFrame m #[(.int q0)] maxLocals)) T71 (mkF m 102 #[.val (.int q0), .val (.int (5 : Int32)), .val (.ref (fw (5 : Int32))), .val (.int (1 : Int32))] [(.int (1 : Int32))]) := fun t k => by
      refine R72 t ?_
      refine st71.trans ?_
      show Steps p.tables e below (T71.setTop (mkF m 93 #[.val (.int q0), .val (.int (5 : Int32)), .val (.ref (fw (5 : Int32))), .val (.int (1 : Int32))] [(.int (1 : Int32))])) t
      refine XS.iloadN X71.here hx rfl (hb hby at_93) rfl ?_
      show Steps p.tables e below (T71.setTop (mkF m 94 #[.val (.int q0), .val (.int (5 : Int32)), .val (.ref (fw (5 : Int32))), .val (.int (1 : Int32))] [(.int (1 : Int32)), (.int (1 : Int32))])) t
      refine XS.icmpNo X71.here hx rfl (hb hby at_94) rfl (teq (by decide : (1 : Int32) = (1 : Int32))).2 ?_
      show Steps p.tables e below (T71.setTop (mkF m 97 #[.val (.int q0), .val (.int (5 : Int32)), .val (.ref (fw (5 : Int32))), .val (.int (1 : Int32))] [])) t
      refine XS.iconst X71.here hx rfl (hb hby at_97) ?_
      show Steps p.tables e below (T71.setTop (mkF m 98 #[.val (.int q0), .val (.int (5 : Int32)), .val (.ref (fw (5 : Int32))), .val (.int (1 : Int32))] [(.int (1 : Int32))])) t
      refine XS.goto X71.here hx rfl (pc0 := 98) (pc' := 102) rfl (hb hby at_98) (by decide) (by decide) ?_
      exact k
    obtain ⟨fs, hr, hrun, hended, hW, hsame⟩ := X71.leave (v := some (.int (1 : Int32))) (fun h => by rw [Bd.returns] at h; cases h)
    refine ⟨_, _, R73 _ ?_, hrun, hended, _, _, rfl, ?_, ⟨_, rfl⟩, hW, hsame.mono (by decide) (by decide)⟩
    · exact retN X71 hx (t := .boolean) Bd.returns (by simp) (hb hby at_102) hr
    · show Q_rm0 Z q0 fw mr h0 n0 _ T71.heap _
      rw [e71]
      exact ⟨rfl, N71, rfl⟩
  · rw [hk] at R1
    have R75 : Rch p e below (s₁.setTop (entryFrame m #[(.int q0)] maxLocals)) s₁ (mkF m 9 #[.val (.int q0), .val (.int (6 : Int32)), .unset, .unset] [(.int (6 : Int32))]) := fun t k => by
      refine R1 t ?_
      refine XS.iloadN X0.here hx rfl (hb hby at_8) rfl ?_
      exact k
    obtain ⟨_, _, ⟨T74, L74, k74, n74⟩, -, X74, ⟨Lc74, hQ74, l74, y74, z74⟩, st74⟩ := Jvm.LawKit.callS X0 hx (y := (⟨"com/example/assertion_to_token/assertiontotoken/rules/RuleHoldsClientCredentialsPinLaw", "pick", "(I)Lcom/example/assertion_to_token/assertiontotoken/rules/Rule;"⟩ : MethodName)) hown (mvT hZ (hw _ (List.mem_of_getElem? (i := 1) rfl))) (mvT hZ (hw _ (List.mem_of_getElem? (i := 2) rfl))) (mvT hZ (hw _ (List.mem_of_getElem? (i := 3) rfl))) (mvT hZ (hw _ (List.mem_of_getElem? (i := 4) rfl))) (by decide) (backOf (W := 0) (rm1 l Z a0 hw [] (6 : Int32) fw h0 n0 (Nat.le_trans Z0 K0.1) pS0 pS1 pS2 pS3 pS4 pS5 pS6 pS7 pS8 pS9 pS10 pS11 pS12 pS13 pS14 pS15 pS16 pS17 pS18 pS19 pS20 pS21 pS22 pS23 pS24 pS25 pS26 pS27 pS28) hZ (hw _ (List.mem_of_getElem? (i := 4) rfl)) (hw _ (List.mem_of_getElem? (i := 3) rfl)) (by decide) (by decide)) (g := (mkF m 9 #[.val (.int q0), .val (.int (6 : Int32)), .unset, .unset] [(.int (6 : Int32))])) rfl (by rw [hml]; rfl) (argsL := [(.int (6 : Int32))]) (rest := []) (lenOf pd_1 rfl) rfl (by show 2 * 0 + _ ≤ _; exact Nat.le_of_eq rfl) (hb hby at_9) (fun _ _ => ⟨rfl, e0, (by decide : 0 + 0 ≤ _), (by decide : 0 + 0 ≤ _)⟩)
    dsimp only [Pt.U, Pt.locs, Pt.cells, Pt.slots] at X74 l74 y74 z74 st74 hQ74
    subst l74 y74 z74
    obtain ⟨rfl, N74q, e74⟩ := hQ74
    have N74 := Fr.app N0 N74q
    rw [own_cl_ok (by simp [own_ok] : own_ok (6 : Int32))] at st74
    have R77 : Rch p e below (s₁.setTop (entryFrame m #[(.int q0)] maxLocals)) T74 (mkF m 14 #[.val (.int q0), .val (.int (6 : Int32)), .val (.ref (fw (6 : Int32))), .unset] [(.ref (fw (6 : Int32)))]) := fun t k => by
      refine R75 t ?_
      refine st74 _ ?_
      show Steps p.tables e below (T74.setTop (mkF m 12 #[.val (.int q0), .val (.int (6 : Int32)), .unset, .unset] [(.ref (fw (6 : Int32)))])) t
      refine XS.astoreN X74.here hx rfl (hb hby at_12) rfl rfl (l' := #[.val (.int q0), .val (.int (6 : Int32)), .val (.ref (fw (6 : Int32))), .unset]) rfl ?_
      show Steps p.tables e below (T74.setTop (mkF m 13 #[.val (.int q0), .val (.int (6 : Int32)), .val (.ref (fw (6 : Int32))), .unset] [])) t
      refine XS.aloadN X74.here hx rfl (hb hby at_13) rfl rfl ?_
      exact k
    obtain ⟨T76, X76, e76, st76⟩ := getS2 X74 hx hZ hown (host := "") (Or.inl (hw _ (List.mem_of_getElem? (i := 5) rfl))) Via.refl e74 pS0 (g := (mkF m 14 #[.val (.int q0), .val (.int (6 : Int32)), .val (.ref (fw (6 : Int32))), .unset] [(.ref (fw (6 : Int32)))])) rfl (hb hby at_14)
    have R79 : Rch p e below (s₁.setTop (entryFrame m #[(.int q0)] maxLocals)) T76 (mkF m 21 #[.val (.int q0), .val (.int (6 : Int32)), .val (.ref (fw (6 : Int32))), .unset] [(.ref (fw (6 : Int32)))]) := fun t k => by
      refine R77 t ?_
      refine st76 _ ?_
      show Steps p.tables e below (T76.setTop (mkF m 17 #[.val (.int q0), .val (.int (6 : Int32)), .val (.ref (fw (6 : Int32))), .unset] [(.ref (fw (0 : Int32))), (.ref (fw (6 : Int32)))])) t
      refine Jvm.RoadKit.acmp (g := (mkF m 17 #[.val (.int q0), .val (.int (6 : Int32)), .val (.ref (fw (6 : Int32))), .unset] [(.ref (fw (0 : Int32))), (.ref (fw (6 : Int32)))])) X76 hx rfl rfl rfl (pc0 := 17) (pc' := 20) (same := false) rfl (hb hby at_17) rfl (decide_eq_false (fun q => ((pO _ (by simp [own_ok] : own_ok (6 : Int32))).ne (pO _ (by simp [own_ok] : own_ok (0 : Int32))) (by decide)) (Value.ref.inj q))) (by decide) (by decide) ?_
      show Steps p.tables e below (T76.setTop (mkF m 20 #[.val (.int q0), .val (.int (6 : Int32)), .val (.ref (fw (6 : Int32))), .unset] [])) t
      refine XS.aloadN X76.here hx rfl (hb hby at_20) rfl rfl ?_
      exact k
    obtain ⟨T78, X78, e78, st78⟩ := getS2 X76 hx hZ hown (host := "") (Or.inl (hw _ (List.mem_of_getElem? (i := 32) rfl))) Via.refl e76 pS1 (g := (mkF m 21 #[.val (.int q0), .val (.int (6 : Int32)), .val (.ref (fw (6 : Int32))), .unset] [(.ref (fw (6 : Int32)))])) rfl (hb hby at_21)
    have R81 : Rch p e below (s₁.setTop (entryFrame m #[(.int q0)] maxLocals)) T78 (mkF m 28 #[.val (.int q0), .val (.int (6 : Int32)), .val (.ref (fw (6 : Int32))), .unset] [(.ref (fw (6 : Int32)))]) := fun t k => by
      refine R79 t ?_
      refine st78 _ ?_
      show Steps p.tables e below (T78.setTop (mkF m 24 #[.val (.int q0), .val (.int (6 : Int32)), .val (.ref (fw (6 : Int32))), .unset] [(.ref (fw (1 : Int32))), (.ref (fw (6 : Int32)))])) t
      refine Jvm.RoadKit.acmp (g := (mkF m 24 #[.val (.int q0), .val (.int (6 : Int32)), .val (.ref (fw (6 : Int32))), .unset] [(.ref (fw (1 : Int32))), (.ref (fw (6 : Int32)))])) X78 hx rfl rfl rfl (pc0 := 24) (pc' := 27) (same := false) rfl (hb hby at_24) rfl (decide_eq_false (fun q => ((pO _ (by simp [own_ok] : own_ok (6 : Int32))).ne (pO _ (by simp [own_ok] : own_ok (1 : Int32))) (by decide)) (Value.ref.inj q))) (by decide) (by decide) ?_
      show Steps p.tables e below (T78.setTop (mkF m 27 #[.val (.int q0), .val (.int (6 : Int32)), .val (.ref (fw (6 : Int32))), .unset] [])) t
      refine XS.aloadN X78.here hx rfl (hb hby at_27) rfl rfl ?_
      exact k
    obtain ⟨T80, X80, e80, st80⟩ := getS2 X78 hx hZ hown (host := "") (Or.inl (hw _ (List.mem_of_getElem? (i := 34) rfl))) Via.refl e78 pS2 (g := (mkF m 28 #[.val (.int q0), .val (.int (6 : Int32)), .val (.ref (fw (6 : Int32))), .unset] [(.ref (fw (6 : Int32)))])) rfl (hb hby at_28)
    have R83 : Rch p e below (s₁.setTop (entryFrame m #[(.int q0)] maxLocals)) T80 (mkF m 35 #[.val (.int q0), .val (.int (6 : Int32)), .val (.ref (fw (6 : Int32))), .unset] [(.ref (fw (6 : Int32)))]) := fun t k => by
      refine R81 t ?_
      refine st80 _ ?_
      show Steps p.tables e below (T80.setTop (mkF m 31 #[.val (.int q0), .val (.int (6 : Int32)), .val (.ref (fw (6 : Int32))), .unset] [(.ref (fw (2 : Int32))), (.ref (fw (6 : Int32)))])) t
      refine Jvm.RoadKit.acmp (g := (mkF m 31 #[.val (.int q0), .val (.int (6 : Int32)), .val (.ref (fw (6 : Int32))), .unset] [(.ref (fw (2 : Int32))), (.ref (fw (6 : Int32)))])) X80 hx rfl rfl rfl (pc0 := 31) (pc' := 34) (same := false) rfl (hb hby at_31) rfl (decide_eq_false (fun q => ((pO _ (by simp [own_ok] : own_ok (6 : Int32))).ne (pO _ (by simp [own_ok] : own_ok (2 : Int32))) (by decide)) (Value.ref.inj q))) (by decide) (by decide) ?_
      show Steps p.tables e below (T80.setTop (mkF m 34 #[.val (.int q0), .val (.int (6 : Int32)), .val (.ref (fw (6 : Int32))), .unset] [])) t
      refine XS.aloadN X80.here hx rfl (hb hby at_34) rfl rfl ?_
      exact k
    obtain ⟨T82, X82, e82, st82⟩ := getS2 X80 hx hZ hown (host := "") (Or.inl (hw _ (List.mem_of_getElem? (i := 30) rfl))) Via.refl e80 pS3 (g := (mkF m 35 #[.val (.int q0), .val (.int (6 : Int32)), .val (.ref (fw (6 : Int32))), .unset] [(.ref (fw (6 : Int32)))])) rfl (hb hby at_35)
    have R85 : Rch p e below (s₁.setTop (entryFrame m #[(.int q0)] maxLocals)) T82 (mkF m 42 #[.val (.int q0), .val (.int (6 : Int32)), .val (.ref (fw (6 : Int32))), .unset] [(.ref (fw (6 : Int32)))]) := fun t k => by
      refine R83 t ?_
      refine st82 _ ?_
      show Steps p.tables e below (T82.setTop (mkF m 38 #[.val (.int q0), .val (.int (6 : Int32)), .val (.ref (fw (6 : Int32))), .unset] [(.ref (fw (3 : Int32))), (.ref (fw (6 : Int32)))])) t
      refine Jvm.RoadKit.acmp (g := (mkF m 38 #[.val (.int q0), .val (.int (6 : Int32)), .val (.ref (fw (6 : Int32))), .unset] [(.ref (fw (3 : Int32))), (.ref (fw (6 : Int32)))])) X82 hx rfl rfl rfl (pc0 := 38) (pc' := 41) (same := false) rfl (hb hby at_38) rfl (decide_eq_false (fun q => ((pO _ (by simp [own_ok] : own_ok (6 : Int32))).ne (pO _ (by simp [own_ok] : own_ok (3 : Int32))) (by decide)) (Value.ref.inj q))) (by decide) (by decide) ?_
      show Steps p.tables e below (T82.setTop (mkF m 41 #[.val (.int q0), .val (.int (6 : Int32)), .val (.ref (fw (6 : Int32))), .unset] [])) t
      refine XS.aloadN X82.here hx rfl (hb hby at_41) rfl rfl ?_
      exact k
    obtain ⟨T84, X84, e84, st84⟩ := getS2 X82 hx hZ hown (host := "") (Or.inl (hw _ (List.mem_of_getElem? (i := 38) rfl))) Via.refl e82 pS4 (g := (mkF m 42 #[.val (.int q0), .val (.int (6 : Int32)), .val (.ref (fw (6 : Int32))), .unset] [(.ref (fw (6 : Int32)))])) rfl (hb hby at_42)
    have R87 : Rch p e below (s₁.setTop (entryFrame m #[(.int q0)] maxLocals)) T84 (mkF m 49 #[.val (.int q0), .val (.int (6 : Int32)), .val (.ref (fw (6 : Int32))), .unset] [(.ref (fw (6 : Int32)))]) := fun t k => by
      refine R85 t ?_
      refine st84 _ ?_
      show Steps p.tables e below (T84.setTop (mkF m 45 #[.val (.int q0), .val (.int (6 : Int32)), .val (.ref (fw (6 : Int32))), .unset] [(.ref (fw (4 : Int32))), (.ref (fw (6 : Int32)))])) t
      refine Jvm.RoadKit.acmp (g := (mkF m 45 #[.val (.int q0), .val (.int (6 : Int32)), .val (.ref (fw (6 : Int32))), .unset] [(.ref (fw (4 : Int32))), (.ref (fw (6 : Int32)))])) X84 hx rfl rfl rfl (pc0 := 45) (pc' := 48) (same := false) rfl (hb hby at_45) rfl (decide_eq_false (fun q => ((pO _ (by simp [own_ok] : own_ok (6 : Int32))).ne (pO _ (by simp [own_ok] : own_ok (4 : Int32))) (by decide)) (Value.ref.inj q))) (by decide) (by decide) ?_
      show Steps p.tables e below (T84.setTop (mkF m 48 #[.val (.int q0), .val (.int (6 : Int32)), .val (.ref (fw (6 : Int32))), .unset] [])) t
      refine XS.aloadN X84.here hx rfl (hb hby at_48) rfl rfl ?_
      exact k
    obtain ⟨T86, X86, e86, st86⟩ := getS2 X84 hx hZ hown (host := "") (Or.inl (hw _ (List.mem_of_getElem? (i := 40) rfl))) Via.refl e84 pS5 (g := (mkF m 49 #[.val (.int q0), .val (.int (6 : Int32)), .val (.ref (fw (6 : Int32))), .unset] [(.ref (fw (6 : Int32)))])) rfl (hb hby at_49)
    have R89 : Rch p e below (s₁.setTop (entryFrame m #[(.int q0)] maxLocals)) T86 (mkF m 56 #[.val (.int q0), .val (.int (6 : Int32)), .val (.ref (fw (6 : Int32))), .unset] [(.ref (fw (6 : Int32)))]) := fun t k => by
      refine R87 t ?_
      refine st86 _ ?_
      show Steps p.tables e below (T86.setTop (mkF m 52 #[.val (.int q0), .val (.int (6 : Int32)), .val (.ref (fw (6 : Int32))), .unset] [(.ref (fw (5 : Int32))), (.ref (fw (6 : Int32)))])) t
      refine Jvm.RoadKit.acmp (g := (mkF m 52 #[.val (.int q0), .val (.int (6 : Int32)), .val (.ref (fw (6 : Int32))), .unset] [(.ref (fw (5 : Int32))), (.ref (fw (6 : Int32)))])) X86 hx rfl rfl rfl (pc0 := 52) (pc' := 55) (same := false) rfl (hb hby at_52) rfl (decide_eq_false (fun q => ((pO _ (by simp [own_ok] : own_ok (6 : Int32))).ne (pO _ (by simp [own_ok] : own_ok (5 : Int32))) (by decide)) (Value.ref.inj q))) (by decide) (by decide) ?_
      show Steps p.tables e below (T86.setTop (mkF m 55 #[.val (.int q0), .val (.int (6 : Int32)), .val (.ref (fw (6 : Int32))), .unset] [])) t
      refine XS.aloadN X86.here hx rfl (hb hby at_55) rfl rfl ?_
      exact k
    obtain ⟨T88, X88, e88, st88⟩ := getS2 X86 hx hZ hown (host := "") (Or.inl (hw _ (List.mem_of_getElem? (i := 42) rfl))) Via.refl e86 pS6 (g := (mkF m 56 #[.val (.int q0), .val (.int (6 : Int32)), .val (.ref (fw (6 : Int32))), .unset] [(.ref (fw (6 : Int32)))])) rfl (hb hby at_56)
    have R91 : Rch p e below (s₁.setTop (entryFrame m #[(.int q0)] maxLocals)) T88 (mkF m 90 #[.val (.int q0), .val (.int (6 : Int32)), .val (.ref (fw (6 : Int32))), .val (.int (1 : Int32))] [(.ref (fw (6 : Int32)))]) := fun t k => by
      refine R89 t ?_
      refine st88 _ ?_
      show Steps p.tables e below (T88.setTop (mkF m 59 #[.val (.int q0), .val (.int (6 : Int32)), .val (.ref (fw (6 : Int32))), .unset] [(.ref (fw (6 : Int32))), (.ref (fw (6 : Int32)))])) t
      refine Jvm.RoadKit.acmp (g := (mkF m 59 #[.val (.int q0), .val (.int (6 : Int32)), .val (.ref (fw (6 : Int32))), .unset] [(.ref (fw (6 : Int32))), (.ref (fw (6 : Int32)))])) X88 hx rfl rfl rfl (pc0 := 59) (pc' := 83) (same := true) rfl (hb hby at_59) rfl (decide_eq_true rfl) (by decide) (by decide) ?_
      show Steps p.tables e below (T88.setTop (mkF m 83 #[.val (.int q0), .val (.int (6 : Int32)), .val (.ref (fw (6 : Int32))), .unset] [])) t
      refine XS.iconst X88.here hx rfl (hb hby at_83) ?_
      show Steps p.tables e below (T88.setTop (mkF m 84 #[.val (.int q0), .val (.int (6 : Int32)), .val (.ref (fw (6 : Int32))), .unset] [(.int (1 : Int32))])) t
      refine XS.goto X88.here hx rfl (pc0 := 84) (pc' := 88) rfl (hb hby at_84) (by decide) (by decide) ?_
      show Steps p.tables e below (T88.setTop (mkF m 88 #[.val (.int q0), .val (.int (6 : Int32)), .val (.ref (fw (6 : Int32))), .unset] [(.int (1 : Int32))])) t
      refine XS.istoreN X88.here hx rfl (hb hby at_88) rfl (l' := #[.val (.int q0), .val (.int (6 : Int32)), .val (.ref (fw (6 : Int32))), .val (.int (1 : Int32))]) rfl ?_
      show Steps p.tables e below (T88.setTop (mkF m 89 #[.val (.int q0), .val (.int (6 : Int32)), .val (.ref (fw (6 : Int32))), .val (.int (1 : Int32))] [])) t
      refine XS.aloadN X88.here hx rfl (hb hby at_89) rfl rfl ?_
      exact k
    obtain ⟨cq90, kq90, q90a, q90b, q90c⟩ := isOf hZ e88 (pE _ (by simp [own_ok] : own_ok (6 : Int32)))
    obtain ⟨_, _, ⟨T90, L90, k90, n90⟩, -, X90, ⟨Lc90, hQ90, l90, y90, z90⟩, st90⟩ := X88.virtualBack hx (y := (⟨"com/example/assertion_to_token/assertiontotoken/rules/Rule", "holdsClientCredentials", "()Z"⟩ : MethodName)) (z := (⟨"com/example/assertion_to_token/assertiontotoken/rules/Rule", "holdsClientCredentials", "()Z"⟩ : MethodName)) hown (mvT hZ (hw _ (List.mem_of_getElem? (i := 8) rfl))) (mvT hZ (hw _ (List.mem_of_getElem? (i := 9) rfl))) (notFace_of_selects (args := #[]) (mvT hZ (hw _ (List.mem_of_getElem? (i := 11) rfl)))) (mvT hZ (hw _ (List.mem_of_getElem? (i := 11) rfl))) (mvT hZ (hw _ (List.mem_of_getElem? (i := 10) rfl))) (by decide) (backOf (W := 0) (rm2 l Z a0 hw [] (fw (6 : Int32)) (fw (10 : Int32)) (6 : Int32) mr h0 n0 (Nat.le_trans Z0 K0.1) pS10 (pE _ (by simp [own_ok] : own_ok (6 : Int32))) (pE _ (by simp [own_ok] : own_ok (10 : Int32))) (pO _ (by simp [own_ok] : own_ok (6 : Int32))) (pO _ (by simp [own_ok] : own_ok (10 : Int32))) pM) hZ (hw _ (List.mem_of_getElem? (i := 12) rfl)) (hw _ (List.mem_of_getElem? (i := 6) rfl)) (by decide) (by decide)) q90a q90c (g := (mkF m 90 #[.val (.int q0), .val (.int (6 : Int32)), .val (.ref (fw (6 : Int32))), .val (.int (1 : Int32))] [(.ref (fw (6 : Int32)))])) rfl (by rw [hml]; rfl) (Steps.refl _) (argsL := []) (rest := []) (lenOf pd_2 rfl) rfl (by show 2 * 0 + _ ≤ _; exact Nat.le_of_eq rfl) (hb hby at_90) (fun _ _ => ⟨rfl, e88, (by decide : 0 + 0 ≤ _), (by decide : 0 + 0 ≤ _)⟩)
    dsimp only [Pt.U, Pt.locs, Pt.cells, Pt.slots] at X90 l90 y90 z90 st90 hQ90
    subst l90 y90 z90
    obtain ⟨rfl, N90q, e90⟩ := hQ90
    have N90 := Fr.app N74 N90q
    have hp90 : own_h (6 : Int32) = (1 : Int32) := by decide
    rw [hp90] at st90
    have R92 : Rch p e below (s₁.setTop (entryFrame m #[(.int q0)] maxLocals)) T90 (mkF m 102 #[.val (.int q0), .val (.int (6 : Int32)), .val (.ref (fw (6 : Int32))), .val (.int (1 : Int32))] [(.int (1 : Int32))]) := fun t k => by
      refine R91 t ?_
      refine st90.trans ?_
      show Steps p.tables e below (T90.setTop (mkF m 93 #[.val (.int q0), .val (.int (6 : Int32)), .val (.ref (fw (6 : Int32))), .val (.int (1 : Int32))] [(.int (1 : Int32))])) t
      refine XS.iloadN X90.here hx rfl (hb hby at_93) rfl ?_
      show Steps p.tables e below (T90.setTop (mkF m 94 #[.val (.int q0), .val (.int (6 : Int32)), .val (.ref (fw (6 : Int32))), .val (.int (1 : Int32))] [(.int (1 : Int32)), (.int (1 : Int32))])) t
      refine XS.icmpNo X90.here hx rfl (hb hby at_94) rfl (teq (by decide : (1 : Int32) = (1 : Int32))).2 ?_
      show Steps p.tables e below (T90.setTop (mkF m 97 #[.val (.int q0), .val (.int (6 : Int32)), .val (.ref (fw (6 : Int32))), .val (.int (1 : Int32))] [])) t
      refine XS.iconst X90.here hx rfl (hb hby at_97) ?_
      show Steps p.tables e below (T90.setTop (mkF m 98 #[.val (.int q0), .val (.int (6 : Int32)), .val (.ref (fw (6 : Int32))), .val (.int (1 : Int32))] [(.int (1 : Int32))])) t
      refine XS.goto X90.here hx rfl (pc0 := 98) (pc' := 102) rfl (hb hby at_98) (by decide) (by decide) ?_
      exact k
    obtain ⟨fs, hr, hrun, hended, hW, hsame⟩ := X90.leave (v := some (.int (1 : Int32))) (fun h => by rw [Bd.returns] at h; cases h)
    refine ⟨_, _, R92 _ ?_, hrun, hended, _, _, rfl, ?_, ⟨_, rfl⟩, hW, hsame.mono (by decide) (by decide)⟩
    · exact retN X90 hx (t := .boolean) Bd.returns (by simp) (hb hby at_102) hr
    · show Q_rm0 Z q0 fw mr h0 n0 _ T90.heap _
      rw [e90]
      exact ⟨rfl, N90, rfl⟩
  · rw [hk] at R1
    have R94 : Rch p e below (s₁.setTop (entryFrame m #[(.int q0)] maxLocals)) s₁ (mkF m 9 #[.val (.int q0), .val (.int (7 : Int32)), .unset, .unset] [(.int (7 : Int32))]) := fun t k => by
      refine R1 t ?_
      refine XS.iloadN X0.here hx rfl (hb hby at_8) rfl ?_
      exact k
    obtain ⟨_, _, ⟨T93, L93, k93, n93⟩, -, X93, ⟨Lc93, hQ93, l93, y93, z93⟩, st93⟩ := Jvm.LawKit.callS X0 hx (y := (⟨"com/example/assertion_to_token/assertiontotoken/rules/RuleHoldsClientCredentialsPinLaw", "pick", "(I)Lcom/example/assertion_to_token/assertiontotoken/rules/Rule;"⟩ : MethodName)) hown (mvT hZ (hw _ (List.mem_of_getElem? (i := 1) rfl))) (mvT hZ (hw _ (List.mem_of_getElem? (i := 2) rfl))) (mvT hZ (hw _ (List.mem_of_getElem? (i := 3) rfl))) (mvT hZ (hw _ (List.mem_of_getElem? (i := 4) rfl))) (by decide) (backOf (W := 0) (rm1 l Z a0 hw [] (7 : Int32) fw h0 n0 (Nat.le_trans Z0 K0.1) pS0 pS1 pS2 pS3 pS4 pS5 pS6 pS7 pS8 pS9 pS10 pS11 pS12 pS13 pS14 pS15 pS16 pS17 pS18 pS19 pS20 pS21 pS22 pS23 pS24 pS25 pS26 pS27 pS28) hZ (hw _ (List.mem_of_getElem? (i := 4) rfl)) (hw _ (List.mem_of_getElem? (i := 3) rfl)) (by decide) (by decide)) (g := (mkF m 9 #[.val (.int q0), .val (.int (7 : Int32)), .unset, .unset] [(.int (7 : Int32))])) rfl (by rw [hml]; rfl) (argsL := [(.int (7 : Int32))]) (rest := []) (lenOf pd_1 rfl) rfl (by show 2 * 0 + _ ≤ _; exact Nat.le_of_eq rfl) (hb hby at_9) (fun _ _ => ⟨rfl, e0, (by decide : 0 + 0 ≤ _), (by decide : 0 + 0 ≤ _)⟩)
    dsimp only [Pt.U, Pt.locs, Pt.cells, Pt.slots] at X93 l93 y93 z93 st93 hQ93
    subst l93 y93 z93
    obtain ⟨rfl, N93q, e93⟩ := hQ93
    have N93 := Fr.app N0 N93q
    rw [own_cl_ok (by simp [own_ok] : own_ok (7 : Int32))] at st93
    have R96 : Rch p e below (s₁.setTop (entryFrame m #[(.int q0)] maxLocals)) T93 (mkF m 14 #[.val (.int q0), .val (.int (7 : Int32)), .val (.ref (fw (7 : Int32))), .unset] [(.ref (fw (7 : Int32)))]) := fun t k => by
      refine R94 t ?_
      refine st93 _ ?_
      show Steps p.tables e below (T93.setTop (mkF m 12 #[.val (.int q0), .val (.int (7 : Int32)), .unset, .unset] [(.ref (fw (7 : Int32)))])) t
      refine XS.astoreN X93.here hx rfl (hb hby at_12) rfl rfl (l' := #[.val (.int q0), .val (.int (7 : Int32)), .val (.ref (fw (7 : Int32))), .unset]) rfl ?_
      show Steps p.tables e below (T93.setTop (mkF m 13 #[.val (.int q0), .val (.int (7 : Int32)), .val (.ref (fw (7 : Int32))), .unset] [])) t
      refine XS.aloadN X93.here hx rfl (hb hby at_13) rfl rfl ?_
      exact k
    obtain ⟨T95, X95, e95, st95⟩ := getS2 X93 hx hZ hown (host := "") (Or.inl (hw _ (List.mem_of_getElem? (i := 5) rfl))) Via.refl e93 pS0 (g := (mkF m 14 #[.val (.int q0), .val (.int (7 : Int32)), .val (.ref (fw (7 : Int32))), .unset] [(.ref (fw (7 : Int32)))])) rfl (hb hby at_14)
    have R98 : Rch p e below (s₁.setTop (entryFrame m #[(.int q0)] maxLocals)) T95 (mkF m 21 #[.val (.int q0), .val (.int (7 : Int32)), .val (.ref (fw (7 : Int32))), .unset] [(.ref (fw (7 : Int32)))]) := fun t k => by
      refine R96 t ?_
      refine st95 _ ?_
      show Steps p.tables e below (T95.setTop (mkF m 17 #[.val (.int q0), .val (.int (7 : Int32)), .val (.ref (fw (7 : Int32))), .unset] [(.ref (fw (0 : Int32))), (.ref (fw (7 : Int32)))])) t
      refine Jvm.RoadKit.acmp (g := (mkF m 17 #[.val (.int q0), .val (.int (7 : Int32)), .val (.ref (fw (7 : Int32))), .unset] [(.ref (fw (0 : Int32))), (.ref (fw (7 : Int32)))])) X95 hx rfl rfl rfl (pc0 := 17) (pc' := 20) (same := false) rfl (hb hby at_17) rfl (decide_eq_false (fun q => ((pO _ (by simp [own_ok] : own_ok (7 : Int32))).ne (pO _ (by simp [own_ok] : own_ok (0 : Int32))) (by decide)) (Value.ref.inj q))) (by decide) (by decide) ?_
      show Steps p.tables e below (T95.setTop (mkF m 20 #[.val (.int q0), .val (.int (7 : Int32)), .val (.ref (fw (7 : Int32))), .unset] [])) t
      refine XS.aloadN X95.here hx rfl (hb hby at_20) rfl rfl ?_
      exact k
    obtain ⟨T97, X97, e97, st97⟩ := getS2 X95 hx hZ hown (host := "") (Or.inl (hw _ (List.mem_of_getElem? (i := 32) rfl))) Via.refl e95 pS1 (g := (mkF m 21 #[.val (.int q0), .val (.int (7 : Int32)), .val (.ref (fw (7 : Int32))), .unset] [(.ref (fw (7 : Int32)))])) rfl (hb hby at_21)
    have R100 : Rch p e below (s₁.setTop (entryFrame m #[(.int q0)] maxLocals)) T97 (mkF m 28 #[.val (.int q0), .val (.int (7 : Int32)), .val (.ref (fw (7 : Int32))), .unset] [(.ref (fw (7 : Int32)))]) := fun t k => by
      refine R98 t ?_
      refine st97 _ ?_
      show Steps p.tables e below (T97.setTop (mkF m 24 #[.val (.int q0), .val (.int (7 : Int32)), .val (.ref (fw (7 : Int32))), .unset] [(.ref (fw (1 : Int32))), (.ref (fw (7 : Int32)))])) t
      refine Jvm.RoadKit.acmp (g := (mkF m 24 #[.val (.int q0), .val (.int (7 : Int32)), .val (.ref (fw (7 : Int32))), .unset] [(.ref (fw (1 : Int32))), (.ref (fw (7 : Int32)))])) X97 hx rfl rfl rfl (pc0 := 24) (pc' := 27) (same := false) rfl (hb hby at_24) rfl (decide_eq_false (fun q => ((pO _ (by simp [own_ok] : own_ok (7 : Int32))).ne (pO _ (by simp [own_ok] : own_ok (1 : Int32))) (by decide)) (Value.ref.inj q))) (by decide) (by decide) ?_
      show Steps p.tables e below (T97.setTop (mkF m 27 #[.val (.int q0), .val (.int (7 : Int32)), .val (.ref (fw (7 : Int32))), .unset] [])) t
      refine XS.aloadN X97.here hx rfl (hb hby at_27) rfl rfl ?_
      exact k
    obtain ⟨T99, X99, e99, st99⟩ := getS2 X97 hx hZ hown (host := "") (Or.inl (hw _ (List.mem_of_getElem? (i := 34) rfl))) Via.refl e97 pS2 (g := (mkF m 28 #[.val (.int q0), .val (.int (7 : Int32)), .val (.ref (fw (7 : Int32))), .unset] [(.ref (fw (7 : Int32)))])) rfl (hb hby at_28)
    have R102 : Rch p e below (s₁.setTop (entryFrame m #[(.int q0)] maxLocals)) T99 (mkF m 35 #[.val (.int q0), .val (.int (7 : Int32)), .val (.ref (fw (7 : Int32))), .unset] [(.ref (fw (7 : Int32)))]) := fun t k => by
      refine R100 t ?_
      refine st99 _ ?_
      show Steps p.tables e below (T99.setTop (mkF m 31 #[.val (.int q0), .val (.int (7 : Int32)), .val (.ref (fw (7 : Int32))), .unset] [(.ref (fw (2 : Int32))), (.ref (fw (7 : Int32)))])) t
      refine Jvm.RoadKit.acmp (g := (mkF m 31 #[.val (.int q0), .val (.int (7 : Int32)), .val (.ref (fw (7 : Int32))), .unset] [(.ref (fw (2 : Int32))), (.ref (fw (7 : Int32)))])) X99 hx rfl rfl rfl (pc0 := 31) (pc' := 34) (same := false) rfl (hb hby at_31) rfl (decide_eq_false (fun q => ((pO _ (by simp [own_ok] : own_ok (7 : Int32))).ne (pO _ (by simp [own_ok] : own_ok (2 : Int32))) (by decide)) (Value.ref.inj q))) (by decide) (by decide) ?_
      show Steps p.tables e below (T99.setTop (mkF m 34 #[.val (.int q0), .val (.int (7 : Int32)), .val (.ref (fw (7 : Int32))), .unset] [])) t
      refine XS.aloadN X99.here hx rfl (hb hby at_34) rfl rfl ?_
      exact k
    obtain ⟨T101, X101, e101, st101⟩ := getS2 X99 hx hZ hown (host := "") (Or.inl (hw _ (List.mem_of_getElem? (i := 30) rfl))) Via.refl e99 pS3 (g := (mkF m 35 #[.val (.int q0), .val (.int (7 : Int32)), .val (.ref (fw (7 : Int32))), .unset] [(.ref (fw (7 : Int32)))])) rfl (hb hby at_35)
    have R104 : Rch p e below (s₁.setTop (entryFrame m #[(.int q0)] maxLocals)) T101 (mkF m 42 #[.val (.int q0), .val (.int (7 : Int32)), .val (.ref (fw (7 : Int32))), .unset] [(.ref (fw (7 : Int32)))]) := fun t k => by
      refine R102 t ?_
      refine st101 _ ?_
      show Steps p.tables e below (T101.setTop (mkF m 38 #[.val (.int q0), .val (.int (7 : Int32)), .val (.ref (fw (7 : Int32))), .unset] [(.ref (fw (3 : Int32))), (.ref (fw (7 : Int32)))])) t
      refine Jvm.RoadKit.acmp (g := (mkF m 38 #[.val (.int q0), .val (.int (7 : Int32)), .val (.ref (fw (7 : Int32))), .unset] [(.ref (fw (3 : Int32))), (.ref (fw (7 : Int32)))])) X101 hx rfl rfl rfl (pc0 := 38) (pc' := 41) (same := false) rfl (hb hby at_38) rfl (decide_eq_false (fun q => ((pO _ (by simp [own_ok] : own_ok (7 : Int32))).ne (pO _ (by simp [own_ok] : own_ok (3 : Int32))) (by decide)) (Value.ref.inj q))) (by decide) (by decide) ?_
      show Steps p.tables e below (T101.setTop (mkF m 41 #[.val (.int q0), .val (.int (7 : Int32)), .val (.ref (fw (7 : Int32))), .unset] [])) t
      refine XS.aloadN X101.here hx rfl (hb hby at_41) rfl rfl ?_
      exact k
    obtain ⟨T103, X103, e103, st103⟩ := getS2 X101 hx hZ hown (host := "") (Or.inl (hw _ (List.mem_of_getElem? (i := 38) rfl))) Via.refl e101 pS4 (g := (mkF m 42 #[.val (.int q0), .val (.int (7 : Int32)), .val (.ref (fw (7 : Int32))), .unset] [(.ref (fw (7 : Int32)))])) rfl (hb hby at_42)
    have R106 : Rch p e below (s₁.setTop (entryFrame m #[(.int q0)] maxLocals)) T103 (mkF m 49 #[.val (.int q0), .val (.int (7 : Int32)), .val (.ref (fw (7 : Int32))), .unset] [(.ref (fw (7 : Int32)))]) := fun t k => by
      refine R104 t ?_
      refine st103 _ ?_
      show Steps p.tables e below (T103.setTop (mkF m 45 #[.val (.int q0), .val (.int (7 : Int32)), .val (.ref (fw (7 : Int32))), .unset] [(.ref (fw (4 : Int32))), (.ref (fw (7 : Int32)))])) t
      refine Jvm.RoadKit.acmp (g := (mkF m 45 #[.val (.int q0), .val (.int (7 : Int32)), .val (.ref (fw (7 : Int32))), .unset] [(.ref (fw (4 : Int32))), (.ref (fw (7 : Int32)))])) X103 hx rfl rfl rfl (pc0 := 45) (pc' := 48) (same := false) rfl (hb hby at_45) rfl (decide_eq_false (fun q => ((pO _ (by simp [own_ok] : own_ok (7 : Int32))).ne (pO _ (by simp [own_ok] : own_ok (4 : Int32))) (by decide)) (Value.ref.inj q))) (by decide) (by decide) ?_
      show Steps p.tables e below (T103.setTop (mkF m 48 #[.val (.int q0), .val (.int (7 : Int32)), .val (.ref (fw (7 : Int32))), .unset] [])) t
      refine XS.aloadN X103.here hx rfl (hb hby at_48) rfl rfl ?_
      exact k
    obtain ⟨T105, X105, e105, st105⟩ := getS2 X103 hx hZ hown (host := "") (Or.inl (hw _ (List.mem_of_getElem? (i := 40) rfl))) Via.refl e103 pS5 (g := (mkF m 49 #[.val (.int q0), .val (.int (7 : Int32)), .val (.ref (fw (7 : Int32))), .unset] [(.ref (fw (7 : Int32)))])) rfl (hb hby at_49)
    have R108 : Rch p e below (s₁.setTop (entryFrame m #[(.int q0)] maxLocals)) T105 (mkF m 56 #[.val (.int q0), .val (.int (7 : Int32)), .val (.ref (fw (7 : Int32))), .unset] [(.ref (fw (7 : Int32)))]) := fun t k => by
      refine R106 t ?_
      refine st105 _ ?_
      show Steps p.tables e below (T105.setTop (mkF m 52 #[.val (.int q0), .val (.int (7 : Int32)), .val (.ref (fw (7 : Int32))), .unset] [(.ref (fw (5 : Int32))), (.ref (fw (7 : Int32)))])) t
      refine Jvm.RoadKit.acmp (g := (mkF m 52 #[.val (.int q0), .val (.int (7 : Int32)), .val (.ref (fw (7 : Int32))), .unset] [(.ref (fw (5 : Int32))), (.ref (fw (7 : Int32)))])) X105 hx rfl rfl rfl (pc0 := 52) (pc' := 55) (same := false) rfl (hb hby at_52) rfl (decide_eq_false (fun q => ((pO _ (by simp [own_ok] : own_ok (7 : Int32))).ne (pO _ (by simp [own_ok] : own_ok (5 : Int32))) (by decide)) (Value.ref.inj q))) (by decide) (by decide) ?_
      show Steps p.tables e below (T105.setTop (mkF m 55 #[.val (.int q0), .val (.int (7 : Int32)), .val (.ref (fw (7 : Int32))), .unset] [])) t
      refine XS.aloadN X105.here hx rfl (hb hby at_55) rfl rfl ?_
      exact k
    obtain ⟨T107, X107, e107, st107⟩ := getS2 X105 hx hZ hown (host := "") (Or.inl (hw _ (List.mem_of_getElem? (i := 42) rfl))) Via.refl e105 pS6 (g := (mkF m 56 #[.val (.int q0), .val (.int (7 : Int32)), .val (.ref (fw (7 : Int32))), .unset] [(.ref (fw (7 : Int32)))])) rfl (hb hby at_56)
    have R110 : Rch p e below (s₁.setTop (entryFrame m #[(.int q0)] maxLocals)) T107 (mkF m 63 #[.val (.int q0), .val (.int (7 : Int32)), .val (.ref (fw (7 : Int32))), .unset] [(.ref (fw (7 : Int32)))]) := fun t k => by
      refine R108 t ?_
      refine st107 _ ?_
      show Steps p.tables e below (T107.setTop (mkF m 59 #[.val (.int q0), .val (.int (7 : Int32)), .val (.ref (fw (7 : Int32))), .unset] [(.ref (fw (6 : Int32))), (.ref (fw (7 : Int32)))])) t
      refine Jvm.RoadKit.acmp (g := (mkF m 59 #[.val (.int q0), .val (.int (7 : Int32)), .val (.ref (fw (7 : Int32))), .unset] [(.ref (fw (6 : Int32))), (.ref (fw (7 : Int32)))])) X107 hx rfl rfl rfl (pc0 := 59) (pc' := 62) (same := false) rfl (hb hby at_59) rfl (decide_eq_false (fun q => ((pO _ (by simp [own_ok] : own_ok (7 : Int32))).ne (pO _ (by simp [own_ok] : own_ok (6 : Int32))) (by decide)) (Value.ref.inj q))) (by decide) (by decide) ?_
      show Steps p.tables e below (T107.setTop (mkF m 62 #[.val (.int q0), .val (.int (7 : Int32)), .val (.ref (fw (7 : Int32))), .unset] [])) t
      refine XS.aloadN X107.here hx rfl (hb hby at_62) rfl rfl ?_
      exact k
    obtain ⟨T109, X109, e109, st109⟩ := getS2 X107 hx hZ hown (host := "") (Or.inl (hw _ (List.mem_of_getElem? (i := 44) rfl))) Via.refl e107 pS7 (g := (mkF m 63 #[.val (.int q0), .val (.int (7 : Int32)), .val (.ref (fw (7 : Int32))), .unset] [(.ref (fw (7 : Int32)))])) rfl (hb hby at_63)
    have R112 : Rch p e below (s₁.setTop (entryFrame m #[(.int q0)] maxLocals)) T109 (mkF m 90 #[.val (.int q0), .val (.int (7 : Int32)), .val (.ref (fw (7 : Int32))), .val (.int (1 : Int32))] [(.ref (fw (7 : Int32)))]) := fun t k => by
      refine R110 t ?_
      refine st109 _ ?_
      show Steps p.tables e below (T109.setTop (mkF m 66 #[.val (.int q0), .val (.int (7 : Int32)), .val (.ref (fw (7 : Int32))), .unset] [(.ref (fw (7 : Int32))), (.ref (fw (7 : Int32)))])) t
      refine Jvm.RoadKit.acmp (g := (mkF m 66 #[.val (.int q0), .val (.int (7 : Int32)), .val (.ref (fw (7 : Int32))), .unset] [(.ref (fw (7 : Int32))), (.ref (fw (7 : Int32)))])) X109 hx rfl rfl rfl (pc0 := 66) (pc' := 83) (same := true) rfl (hb hby at_66) rfl (decide_eq_true rfl) (by decide) (by decide) ?_
      show Steps p.tables e below (T109.setTop (mkF m 83 #[.val (.int q0), .val (.int (7 : Int32)), .val (.ref (fw (7 : Int32))), .unset] [])) t
      refine XS.iconst X109.here hx rfl (hb hby at_83) ?_
      show Steps p.tables e below (T109.setTop (mkF m 84 #[.val (.int q0), .val (.int (7 : Int32)), .val (.ref (fw (7 : Int32))), .unset] [(.int (1 : Int32))])) t
      refine XS.goto X109.here hx rfl (pc0 := 84) (pc' := 88) rfl (hb hby at_84) (by decide) (by decide) ?_
      show Steps p.tables e below (T109.setTop (mkF m 88 #[.val (.int q0), .val (.int (7 : Int32)), .val (.ref (fw (7 : Int32))), .unset] [(.int (1 : Int32))])) t
      refine XS.istoreN X109.here hx rfl (hb hby at_88) rfl (l' := #[.val (.int q0), .val (.int (7 : Int32)), .val (.ref (fw (7 : Int32))), .val (.int (1 : Int32))]) rfl ?_
      show Steps p.tables e below (T109.setTop (mkF m 89 #[.val (.int q0), .val (.int (7 : Int32)), .val (.ref (fw (7 : Int32))), .val (.int (1 : Int32))] [])) t
      refine XS.aloadN X109.here hx rfl (hb hby at_89) rfl rfl ?_
      exact k
    obtain ⟨cq111, kq111, q111a, q111b, q111c⟩ := isOf hZ e109 (pE _ (by simp [own_ok] : own_ok (7 : Int32)))
    obtain ⟨_, _, ⟨T111, L111, k111, n111⟩, -, X111, ⟨Lc111, hQ111, l111, y111, z111⟩, st111⟩ := X109.virtualBack hx (y := (⟨"com/example/assertion_to_token/assertiontotoken/rules/Rule", "holdsClientCredentials", "()Z"⟩ : MethodName)) (z := (⟨"com/example/assertion_to_token/assertiontotoken/rules/Rule", "holdsClientCredentials", "()Z"⟩ : MethodName)) hown (mvT hZ (hw _ (List.mem_of_getElem? (i := 8) rfl))) (mvT hZ (hw _ (List.mem_of_getElem? (i := 9) rfl))) (notFace_of_selects (args := #[]) (mvT hZ (hw _ (List.mem_of_getElem? (i := 11) rfl)))) (mvT hZ (hw _ (List.mem_of_getElem? (i := 11) rfl))) (mvT hZ (hw _ (List.mem_of_getElem? (i := 10) rfl))) (by decide) (backOf (W := 0) (rm2 l Z a0 hw [] (fw (7 : Int32)) (fw (10 : Int32)) (7 : Int32) mr h0 n0 (Nat.le_trans Z0 K0.1) pS10 (pE _ (by simp [own_ok] : own_ok (7 : Int32))) (pE _ (by simp [own_ok] : own_ok (10 : Int32))) (pO _ (by simp [own_ok] : own_ok (7 : Int32))) (pO _ (by simp [own_ok] : own_ok (10 : Int32))) pM) hZ (hw _ (List.mem_of_getElem? (i := 12) rfl)) (hw _ (List.mem_of_getElem? (i := 6) rfl)) (by decide) (by decide)) q111a q111c (g := (mkF m 90 #[.val (.int q0), .val (.int (7 : Int32)), .val (.ref (fw (7 : Int32))), .val (.int (1 : Int32))] [(.ref (fw (7 : Int32)))])) rfl (by rw [hml]; rfl) (Steps.refl _) (argsL := []) (rest := []) (lenOf pd_2 rfl) rfl (by show 2 * 0 + _ ≤ _; exact Nat.le_of_eq rfl) (hb hby at_90) (fun _ _ => ⟨rfl, e109, (by decide : 0 + 0 ≤ _), (by decide : 0 + 0 ≤ _)⟩)
    dsimp only [Pt.U, Pt.locs, Pt.cells, Pt.slots] at X111 l111 y111 z111 st111 hQ111
    subst l111 y111 z111
    obtain ⟨rfl, N111q, e111⟩ := hQ111
    have N111 := Fr.app N93 N111q
    have hp111 : own_h (7 : Int32) = (1 : Int32) := by decide
    rw [hp111] at st111
    have R113 : Rch p e below (s₁.setTop (entryFrame m #[(.int q0)] maxLocals)) T111 (mkF m 102 #[.val (.int q0), .val (.int (7 : Int32)), .val (.ref (fw (7 : Int32))), .val (.int (1 : Int32))] [(.int (1 : Int32))]) := fun t k => by
      refine R112 t ?_
      refine st111.trans ?_
      show Steps p.tables e below (T111.setTop (mkF m 93 #[.val (.int q0), .val (.int (7 : Int32)), .val (.ref (fw (7 : Int32))), .val (.int (1 : Int32))] [(.int (1 : Int32))])) t
      refine XS.iloadN X111.here hx rfl (hb hby at_93) rfl ?_
      show Steps p.tables e below (T111.setTop (mkF m 94 #[.val (.int q0), .val (.int (7 : Int32)), .val (.ref (fw (7 : Int32))), .val (.int (1 : Int32))] [(.int (1 : Int32)), (.int (1 : Int32))])) t
      refine XS.icmpNo X111.here hx rfl (hb hby at_94) rfl (teq (by decide : (1 : Int32) = (1 : Int32))).2 ?_
      show Steps p.tables e below (T111.setTop (mkF m 97 #[.val (.int q0), .val (.int (7 : Int32)), .val (.ref (fw (7 : Int32))), .val (.int (1 : Int32))] [])) t
      refine XS.iconst X111.here hx rfl (hb hby at_97) ?_
      show Steps p.tables e below (T111.setTop (mkF m 98 #[.val (.int q0), .val (.int (7 : Int32)), .val (.ref (fw (7 : Int32))), .val (.int (1 : Int32))] [(.int (1 : Int32))])) t
      refine XS.goto X111.here hx rfl (pc0 := 98) (pc' := 102) rfl (hb hby at_98) (by decide) (by decide) ?_
      exact k
    obtain ⟨fs, hr, hrun, hended, hW, hsame⟩ := X111.leave (v := some (.int (1 : Int32))) (fun h => by rw [Bd.returns] at h; cases h)
    refine ⟨_, _, R113 _ ?_, hrun, hended, _, _, rfl, ?_, ⟨_, rfl⟩, hW, hsame.mono (by decide) (by decide)⟩
    · exact retN X111 hx (t := .boolean) Bd.returns (by simp) (hb hby at_102) hr
    · show Q_rm0 Z q0 fw mr h0 n0 _ T111.heap _
      rw [e111]
      exact ⟨rfl, N111, rfl⟩
  · rw [hk] at R1
    have R115 : Rch p e below (s₁.setTop (entryFrame m #[(.int q0)] maxLocals)) s₁ (mkF m 9 #[.val (.int q0), .val (.int (8 : Int32)), .unset, .unset] [(.int (8 : Int32))]) := fun t k => by
      refine R1 t ?_
      refine XS.iloadN X0.here hx rfl (hb hby at_8) rfl ?_
      exact k
    obtain ⟨_, _, ⟨T114, L114, k114, n114⟩, -, X114, ⟨Lc114, hQ114, l114, y114, z114⟩, st114⟩ := Jvm.LawKit.callS X0 hx (y := (⟨"com/example/assertion_to_token/assertiontotoken/rules/RuleHoldsClientCredentialsPinLaw", "pick", "(I)Lcom/example/assertion_to_token/assertiontotoken/rules/Rule;"⟩ : MethodName)) hown (mvT hZ (hw _ (List.mem_of_getElem? (i := 1) rfl))) (mvT hZ (hw _ (List.mem_of_getElem? (i := 2) rfl))) (mvT hZ (hw _ (List.mem_of_getElem? (i := 3) rfl))) (mvT hZ (hw _ (List.mem_of_getElem? (i := 4) rfl))) (by decide) (backOf (W := 0) (rm1 l Z a0 hw [] (8 : Int32) fw h0 n0 (Nat.le_trans Z0 K0.1) pS0 pS1 pS2 pS3 pS4 pS5 pS6 pS7 pS8 pS9 pS10 pS11 pS12 pS13 pS14 pS15 pS16 pS17 pS18 pS19 pS20 pS21 pS22 pS23 pS24 pS25 pS26 pS27 pS28) hZ (hw _ (List.mem_of_getElem? (i := 4) rfl)) (hw _ (List.mem_of_getElem? (i := 3) rfl)) (by decide) (by decide)) (g := (mkF m 9 #[.val (.int q0), .val (.int (8 : Int32)), .unset, .unset] [(.int (8 : Int32))])) rfl (by rw [hml]; rfl) (argsL := [(.int (8 : Int32))]) (rest := []) (lenOf pd_1 rfl) rfl (by show 2 * 0 + _ ≤ _; exact Nat.le_of_eq rfl) (hb hby at_9) (fun _ _ => ⟨rfl, e0, (by decide : 0 + 0 ≤ _), (by decide : 0 + 0 ≤ _)⟩)
    dsimp only [Pt.U, Pt.locs, Pt.cells, Pt.slots] at X114 l114 y114 z114 st114 hQ114
    subst l114 y114 z114
    obtain ⟨rfl, N114q, e114⟩ := hQ114
    have N114 := Fr.app N0 N114q
    rw [own_cl_ok (by simp [own_ok] : own_ok (8 : Int32))] at st114
    have R117 : Rch p e below (s₁.setTop (entryFrame m #[(.int q0)] maxLocals)) T114 (mkF m 14 #[.val (.int q0), .val (.int (8 : Int32)), .val (.ref (fw (8 : Int32))), .unset] [(.ref (fw (8 : Int32)))]) := fun t k => by
      refine R115 t ?_
      refine st114 _ ?_
      show Steps p.tables e below (T114.setTop (mkF m 12 #[.val (.int q0), .val (.int (8 : Int32)), .unset, .unset] [(.ref (fw (8 : Int32)))])) t
      refine XS.astoreN X114.here hx rfl (hb hby at_12) rfl rfl (l' := #[.val (.int q0), .val (.int (8 : Int32)), .val (.ref (fw (8 : Int32))), .unset]) rfl ?_
      show Steps p.tables e below (T114.setTop (mkF m 13 #[.val (.int q0), .val (.int (8 : Int32)), .val (.ref (fw (8 : Int32))), .unset] [])) t
      refine XS.aloadN X114.here hx rfl (hb hby at_13) rfl rfl ?_
      exact k
    obtain ⟨T116, X116, e116, st116⟩ := getS2 X114 hx hZ hown (host := "") (Or.inl (hw _ (List.mem_of_getElem? (i := 5) rfl))) Via.refl e114 pS0 (g := (mkF m 14 #[.val (.int q0), .val (.int (8 : Int32)), .val (.ref (fw (8 : Int32))), .unset] [(.ref (fw (8 : Int32)))])) rfl (hb hby at_14)
    have R119 : Rch p e below (s₁.setTop (entryFrame m #[(.int q0)] maxLocals)) T116 (mkF m 21 #[.val (.int q0), .val (.int (8 : Int32)), .val (.ref (fw (8 : Int32))), .unset] [(.ref (fw (8 : Int32)))]) := fun t k => by
      refine R117 t ?_
      refine st116 _ ?_
      show Steps p.tables e below (T116.setTop (mkF m 17 #[.val (.int q0), .val (.int (8 : Int32)), .val (.ref (fw (8 : Int32))), .unset] [(.ref (fw (0 : Int32))), (.ref (fw (8 : Int32)))])) t
      refine Jvm.RoadKit.acmp (g := (mkF m 17 #[.val (.int q0), .val (.int (8 : Int32)), .val (.ref (fw (8 : Int32))), .unset] [(.ref (fw (0 : Int32))), (.ref (fw (8 : Int32)))])) X116 hx rfl rfl rfl (pc0 := 17) (pc' := 20) (same := false) rfl (hb hby at_17) rfl (decide_eq_false (fun q => ((pO _ (by simp [own_ok] : own_ok (8 : Int32))).ne (pO _ (by simp [own_ok] : own_ok (0 : Int32))) (by decide)) (Value.ref.inj q))) (by decide) (by decide) ?_
      show Steps p.tables e below (T116.setTop (mkF m 20 #[.val (.int q0), .val (.int (8 : Int32)), .val (.ref (fw (8 : Int32))), .unset] [])) t
      refine XS.aloadN X116.here hx rfl (hb hby at_20) rfl rfl ?_
      exact k
    obtain ⟨T118, X118, e118, st118⟩ := getS2 X116 hx hZ hown (host := "") (Or.inl (hw _ (List.mem_of_getElem? (i := 32) rfl))) Via.refl e116 pS1 (g := (mkF m 21 #[.val (.int q0), .val (.int (8 : Int32)), .val (.ref (fw (8 : Int32))), .unset] [(.ref (fw (8 : Int32)))])) rfl (hb hby at_21)
    have R121 : Rch p e below (s₁.setTop (entryFrame m #[(.int q0)] maxLocals)) T118 (mkF m 28 #[.val (.int q0), .val (.int (8 : Int32)), .val (.ref (fw (8 : Int32))), .unset] [(.ref (fw (8 : Int32)))]) := fun t k => by
      refine R119 t ?_
      refine st118 _ ?_
      show Steps p.tables e below (T118.setTop (mkF m 24 #[.val (.int q0), .val (.int (8 : Int32)), .val (.ref (fw (8 : Int32))), .unset] [(.ref (fw (1 : Int32))), (.ref (fw (8 : Int32)))])) t
      refine Jvm.RoadKit.acmp (g := (mkF m 24 #[.val (.int q0), .val (.int (8 : Int32)), .val (.ref (fw (8 : Int32))), .unset] [(.ref (fw (1 : Int32))), (.ref (fw (8 : Int32)))])) X118 hx rfl rfl rfl (pc0 := 24) (pc' := 27) (same := false) rfl (hb hby at_24) rfl (decide_eq_false (fun q => ((pO _ (by simp [own_ok] : own_ok (8 : Int32))).ne (pO _ (by simp [own_ok] : own_ok (1 : Int32))) (by decide)) (Value.ref.inj q))) (by decide) (by decide) ?_
      show Steps p.tables e below (T118.setTop (mkF m 27 #[.val (.int q0), .val (.int (8 : Int32)), .val (.ref (fw (8 : Int32))), .unset] [])) t
      refine XS.aloadN X118.here hx rfl (hb hby at_27) rfl rfl ?_
      exact k
    obtain ⟨T120, X120, e120, st120⟩ := getS2 X118 hx hZ hown (host := "") (Or.inl (hw _ (List.mem_of_getElem? (i := 34) rfl))) Via.refl e118 pS2 (g := (mkF m 28 #[.val (.int q0), .val (.int (8 : Int32)), .val (.ref (fw (8 : Int32))), .unset] [(.ref (fw (8 : Int32)))])) rfl (hb hby at_28)
    have R123 : Rch p e below (s₁.setTop (entryFrame m #[(.int q0)] maxLocals)) T120 (mkF m 35 #[.val (.int q0), .val (.int (8 : Int32)), .val (.ref (fw (8 : Int32))), .unset] [(.ref (fw (8 : Int32)))]) := fun t k => by
      refine R121 t ?_
      refine st120 _ ?_
      show Steps p.tables e below (T120.setTop (mkF m 31 #[.val (.int q0), .val (.int (8 : Int32)), .val (.ref (fw (8 : Int32))), .unset] [(.ref (fw (2 : Int32))), (.ref (fw (8 : Int32)))])) t
      refine Jvm.RoadKit.acmp (g := (mkF m 31 #[.val (.int q0), .val (.int (8 : Int32)), .val (.ref (fw (8 : Int32))), .unset] [(.ref (fw (2 : Int32))), (.ref (fw (8 : Int32)))])) X120 hx rfl rfl rfl (pc0 := 31) (pc' := 34) (same := false) rfl (hb hby at_31) rfl (decide_eq_false (fun q => ((pO _ (by simp [own_ok] : own_ok (8 : Int32))).ne (pO _ (by simp [own_ok] : own_ok (2 : Int32))) (by decide)) (Value.ref.inj q))) (by decide) (by decide) ?_
      show Steps p.tables e below (T120.setTop (mkF m 34 #[.val (.int q0), .val (.int (8 : Int32)), .val (.ref (fw (8 : Int32))), .unset] [])) t
      refine XS.aloadN X120.here hx rfl (hb hby at_34) rfl rfl ?_
      exact k
    obtain ⟨T122, X122, e122, st122⟩ := getS2 X120 hx hZ hown (host := "") (Or.inl (hw _ (List.mem_of_getElem? (i := 30) rfl))) Via.refl e120 pS3 (g := (mkF m 35 #[.val (.int q0), .val (.int (8 : Int32)), .val (.ref (fw (8 : Int32))), .unset] [(.ref (fw (8 : Int32)))])) rfl (hb hby at_35)
    have R125 : Rch p e below (s₁.setTop (entryFrame m #[(.int q0)] maxLocals)) T122 (mkF m 42 #[.val (.int q0), .val (.int (8 : Int32)), .val (.ref (fw (8 : Int32))), .unset] [(.ref (fw (8 : Int32)))]) := fun t k => by
      refine R123 t ?_
      refine st122 _ ?_
      show Steps p.tables e below (T122.setTop (mkF m 38 #[.val (.int q0), .val (.int (8 : Int32)), .val (.ref (fw (8 : Int32))), .unset] [(.ref (fw (3 : Int32))), (.ref (fw (8 : Int32)))])) t
      refine Jvm.RoadKit.acmp (g := (mkF m 38 #[.val (.int q0), .val (.int (8 : Int32)), .val (.ref (fw (8 : Int32))), .unset] [(.ref (fw (3 : Int32))), (.ref (fw (8 : Int32)))])) X122 hx rfl rfl rfl (pc0 := 38) (pc' := 41) (same := false) rfl (hb hby at_38) rfl (decide_eq_false (fun q => ((pO _ (by simp [own_ok] : own_ok (8 : Int32))).ne (pO _ (by simp [own_ok] : own_ok (3 : Int32))) (by decide)) (Value.ref.inj q))) (by decide) (by decide) ?_
      show Steps p.tables e below (T122.setTop (mkF m 41 #[.val (.int q0), .val (.int (8 : Int32)), .val (.ref (fw (8 : Int32))), .unset] [])) t
      refine XS.aloadN X122.here hx rfl (hb hby at_41) rfl rfl ?_
      exact k
    obtain ⟨T124, X124, e124, st124⟩ := getS2 X122 hx hZ hown (host := "") (Or.inl (hw _ (List.mem_of_getElem? (i := 38) rfl))) Via.refl e122 pS4 (g := (mkF m 42 #[.val (.int q0), .val (.int (8 : Int32)), .val (.ref (fw (8 : Int32))), .unset] [(.ref (fw (8 : Int32)))])) rfl (hb hby at_42)
    have R127 : Rch p e below (s₁.setTop (entryFrame m #[(.int q0)] maxLocals)) T124 (mkF m 49 #[.val (.int q0), .val (.int (8 : Int32)), .val (.ref (fw (8 : Int32))), .unset] [(.ref (fw (8 : Int32)))]) := fun t k => by
      refine R125 t ?_
      refine st124 _ ?_
      show Steps p.tables e below (T124.setTop (mkF m 45 #[.val (.int q0), .val (.int (8 : Int32)), .val (.ref (fw (8 : Int32))), .unset] [(.ref (fw (4 : Int32))), (.ref (fw (8 : Int32)))])) t
      refine Jvm.RoadKit.acmp (g := (mkF m 45 #[.val (.int q0), .val (.int (8 : Int32)), .val (.ref (fw (8 : Int32))), .unset] [(.ref (fw (4 : Int32))), (.ref (fw (8 : Int32)))])) X124 hx rfl rfl rfl (pc0 := 45) (pc' := 48) (same := false) rfl (hb hby at_45) rfl (decide_eq_false (fun q => ((pO _ (by simp [own_ok] : own_ok (8 : Int32))).ne (pO _ (by simp [own_ok] : own_ok (4 : Int32))) (by decide)) (Value.ref.inj q))) (by decide) (by decide) ?_
      show Steps p.tables e below (T124.setTop (mkF m 48 #[.val (.int q0), .val (.int (8 : Int32)), .val (.ref (fw (8 : Int32))), .unset] [])) t
      refine XS.aloadN X124.here hx rfl (hb hby at_48) rfl rfl ?_
      exact k
    obtain ⟨T126, X126, e126, st126⟩ := getS2 X124 hx hZ hown (host := "") (Or.inl (hw _ (List.mem_of_getElem? (i := 40) rfl))) Via.refl e124 pS5 (g := (mkF m 49 #[.val (.int q0), .val (.int (8 : Int32)), .val (.ref (fw (8 : Int32))), .unset] [(.ref (fw (8 : Int32)))])) rfl (hb hby at_49)
    have R129 : Rch p e below (s₁.setTop (entryFrame m #[(.int q0)] maxLocals)) T126 (mkF m 56 #[.val (.int q0), .val (.int (8 : Int32)), .val (.ref (fw (8 : Int32))), .unset] [(.ref (fw (8 : Int32)))]) := fun t k => by
      refine R127 t ?_
      refine st126 _ ?_
      show Steps p.tables e below (T126.setTop (mkF m 52 #[.val (.int q0), .val (.int (8 : Int32)), .val (.ref (fw (8 : Int32))), .unset] [(.ref (fw (5 : Int32))), (.ref (fw (8 : Int32)))])) t
      refine Jvm.RoadKit.acmp (g := (mkF m 52 #[.val (.int q0), .val (.int (8 : Int32)), .val (.ref (fw (8 : Int32))), .unset] [(.ref (fw (5 : Int32))), (.ref (fw (8 : Int32)))])) X126 hx rfl rfl rfl (pc0 := 52) (pc' := 55) (same := false) rfl (hb hby at_52) rfl (decide_eq_false (fun q => ((pO _ (by simp [own_ok] : own_ok (8 : Int32))).ne (pO _ (by simp [own_ok] : own_ok (5 : Int32))) (by decide)) (Value.ref.inj q))) (by decide) (by decide) ?_
      show Steps p.tables e below (T126.setTop (mkF m 55 #[.val (.int q0), .val (.int (8 : Int32)), .val (.ref (fw (8 : Int32))), .unset] [])) t
      refine XS.aloadN X126.here hx rfl (hb hby at_55) rfl rfl ?_
      exact k
    obtain ⟨T128, X128, e128, st128⟩ := getS2 X126 hx hZ hown (host := "") (Or.inl (hw _ (List.mem_of_getElem? (i := 42) rfl))) Via.refl e126 pS6 (g := (mkF m 56 #[.val (.int q0), .val (.int (8 : Int32)), .val (.ref (fw (8 : Int32))), .unset] [(.ref (fw (8 : Int32)))])) rfl (hb hby at_56)
    have R131 : Rch p e below (s₁.setTop (entryFrame m #[(.int q0)] maxLocals)) T128 (mkF m 63 #[.val (.int q0), .val (.int (8 : Int32)), .val (.ref (fw (8 : Int32))), .unset] [(.ref (fw (8 : Int32)))]) := fun t k => by
      refine R129 t ?_
      refine st128 _ ?_
      show Steps p.tables e below (T128.setTop (mkF m 59 #[.val (.int q0), .val (.int (8 : Int32)), .val (.ref (fw (8 : Int32))), .unset] [(.ref (fw (6 : Int32))), (.ref (fw (8 : Int32)))])) t
      refine Jvm.RoadKit.acmp (g := (mkF m 59 #[.val (.int q0), .val (.int (8 : Int32)), .val (.ref (fw (8 : Int32))), .unset] [(.ref (fw (6 : Int32))), (.ref (fw (8 : Int32)))])) X128 hx rfl rfl rfl (pc0 := 59) (pc' := 62) (same := false) rfl (hb hby at_59) rfl (decide_eq_false (fun q => ((pO _ (by simp [own_ok] : own_ok (8 : Int32))).ne (pO _ (by simp [own_ok] : own_ok (6 : Int32))) (by decide)) (Value.ref.inj q))) (by decide) (by decide) ?_
      show Steps p.tables e below (T128.setTop (mkF m 62 #[.val (.int q0), .val (.int (8 : Int32)), .val (.ref (fw (8 : Int32))), .unset] [])) t
      refine XS.aloadN X128.here hx rfl (hb hby at_62) rfl rfl ?_
      exact k
    obtain ⟨T130, X130, e130, st130⟩ := getS2 X128 hx hZ hown (host := "") (Or.inl (hw _ (List.mem_of_getElem? (i := 44) rfl))) Via.refl e128 pS7 (g := (mkF m 63 #[.val (.int q0), .val (.int (8 : Int32)), .val (.ref (fw (8 : Int32))), .unset] [(.ref (fw (8 : Int32)))])) rfl (hb hby at_63)
    have R133 : Rch p e below (s₁.setTop (entryFrame m #[(.int q0)] maxLocals)) T130 (mkF m 70 #[.val (.int q0), .val (.int (8 : Int32)), .val (.ref (fw (8 : Int32))), .unset] [(.ref (fw (8 : Int32)))]) := fun t k => by
      refine R131 t ?_
      refine st130 _ ?_
      show Steps p.tables e below (T130.setTop (mkF m 66 #[.val (.int q0), .val (.int (8 : Int32)), .val (.ref (fw (8 : Int32))), .unset] [(.ref (fw (7 : Int32))), (.ref (fw (8 : Int32)))])) t
      refine Jvm.RoadKit.acmp (g := (mkF m 66 #[.val (.int q0), .val (.int (8 : Int32)), .val (.ref (fw (8 : Int32))), .unset] [(.ref (fw (7 : Int32))), (.ref (fw (8 : Int32)))])) X130 hx rfl rfl rfl (pc0 := 66) (pc' := 69) (same := false) rfl (hb hby at_66) rfl (decide_eq_false (fun q => ((pO _ (by simp [own_ok] : own_ok (8 : Int32))).ne (pO _ (by simp [own_ok] : own_ok (7 : Int32))) (by decide)) (Value.ref.inj q))) (by decide) (by decide) ?_
      show Steps p.tables e below (T130.setTop (mkF m 69 #[.val (.int q0), .val (.int (8 : Int32)), .val (.ref (fw (8 : Int32))), .unset] [])) t
      refine XS.aloadN X130.here hx rfl (hb hby at_69) rfl rfl ?_
      exact k
    obtain ⟨T132, X132, e132, st132⟩ := getS2 X130 hx hZ hown (host := "") (Or.inl (hw _ (List.mem_of_getElem? (i := 46) rfl))) Via.refl e130 pS8 (g := (mkF m 70 #[.val (.int q0), .val (.int (8 : Int32)), .val (.ref (fw (8 : Int32))), .unset] [(.ref (fw (8 : Int32)))])) rfl (hb hby at_70)
    have R135 : Rch p e below (s₁.setTop (entryFrame m #[(.int q0)] maxLocals)) T132 (mkF m 90 #[.val (.int q0), .val (.int (8 : Int32)), .val (.ref (fw (8 : Int32))), .val (.int (1 : Int32))] [(.ref (fw (8 : Int32)))]) := fun t k => by
      refine R133 t ?_
      refine st132 _ ?_
      show Steps p.tables e below (T132.setTop (mkF m 73 #[.val (.int q0), .val (.int (8 : Int32)), .val (.ref (fw (8 : Int32))), .unset] [(.ref (fw (8 : Int32))), (.ref (fw (8 : Int32)))])) t
      refine Jvm.RoadKit.acmp (g := (mkF m 73 #[.val (.int q0), .val (.int (8 : Int32)), .val (.ref (fw (8 : Int32))), .unset] [(.ref (fw (8 : Int32))), (.ref (fw (8 : Int32)))])) X132 hx rfl rfl rfl (pc0 := 73) (pc' := 83) (same := true) rfl (hb hby at_73) rfl (decide_eq_true rfl) (by decide) (by decide) ?_
      show Steps p.tables e below (T132.setTop (mkF m 83 #[.val (.int q0), .val (.int (8 : Int32)), .val (.ref (fw (8 : Int32))), .unset] [])) t
      refine XS.iconst X132.here hx rfl (hb hby at_83) ?_
      show Steps p.tables e below (T132.setTop (mkF m 84 #[.val (.int q0), .val (.int (8 : Int32)), .val (.ref (fw (8 : Int32))), .unset] [(.int (1 : Int32))])) t
      refine XS.goto X132.here hx rfl (pc0 := 84) (pc' := 88) rfl (hb hby at_84) (by decide) (by decide) ?_
      show Steps p.tables e below (T132.setTop (mkF m 88 #[.val (.int q0), .val (.int (8 : Int32)), .val (.ref (fw (8 : Int32))), .unset] [(.int (1 : Int32))])) t
      refine XS.istoreN X132.here hx rfl (hb hby at_88) rfl (l' := #[.val (.int q0), .val (.int (8 : Int32)), .val (.ref (fw (8 : Int32))), .val (.int (1 : Int32))]) rfl ?_
      show Steps p.tables e below (T132.setTop (mkF m 89 #[.val (.int q0), .val (.int (8 : Int32)), .val (.ref (fw (8 : Int32))), .val (.int (1 : Int32))] [])) t
      refine XS.aloadN X132.here hx rfl (hb hby at_89) rfl rfl ?_
      exact k
    obtain ⟨cq134, kq134, q134a, q134b, q134c⟩ := isOf hZ e132 (pE _ (by simp [own_ok] : own_ok (8 : Int32)))
    obtain ⟨_, _, ⟨T134, L134, k134, n134⟩, -, X134, ⟨Lc134, hQ134, l134, y134, z134⟩, st134⟩ := X132.virtualBack hx (y := (⟨"com/example/assertion_to_token/assertiontotoken/rules/Rule", "holdsClientCredentials", "()Z"⟩ : MethodName)) (z := (⟨"com/example/assertion_to_token/assertiontotoken/rules/Rule", "holdsClientCredentials", "()Z"⟩ : MethodName)) hown (mvT hZ (hw _ (List.mem_of_getElem? (i := 8) rfl))) (mvT hZ (hw _ (List.mem_of_getElem? (i := 9) rfl))) (notFace_of_selects (args := #[]) (mvT hZ (hw _ (List.mem_of_getElem? (i := 11) rfl)))) (mvT hZ (hw _ (List.mem_of_getElem? (i := 11) rfl))) (mvT hZ (hw _ (List.mem_of_getElem? (i := 10) rfl))) (by decide) (backOf (W := 0) (rm2 l Z a0 hw [] (fw (8 : Int32)) (fw (10 : Int32)) (8 : Int32) mr h0 n0 (Nat.le_trans Z0 K0.1) pS10 (pE _ (by simp [own_ok] : own_ok (8 : Int32))) (pE _ (by simp [own_ok] : own_ok (10 : Int32))) (pO _ (by simp [own_ok] : own_ok (8 : Int32))) (pO _ (by simp [own_ok] : own_ok (10 : Int32))) pM) hZ (hw _ (List.mem_of_getElem? (i := 12) rfl)) (hw _ (List.mem_of_getElem? (i := 6) rfl)) (by decide) (by decide)) q134a q134c (g := (mkF m 90 #[.val (.int q0), .val (.int (8 : Int32)), .val (.ref (fw (8 : Int32))), .val (.int (1 : Int32))] [(.ref (fw (8 : Int32)))])) rfl (by rw [hml]; rfl) (Steps.refl _) (argsL := []) (rest := []) (lenOf pd_2 rfl) rfl (by show 2 * 0 + _ ≤ _; exact Nat.le_of_eq rfl) (hb hby at_90) (fun _ _ => ⟨rfl, e132, (by decide : 0 + 0 ≤ _), (by decide : 0 + 0 ≤ _)⟩)
    dsimp only [Pt.U, Pt.locs, Pt.cells, Pt.slots] at X134 l134 y134 z134 st134 hQ134
    subst l134 y134 z134
    obtain ⟨rfl, N134q, e134⟩ := hQ134
    have N134 := Fr.app N114 N134q
    have hp134 : own_h (8 : Int32) = (1 : Int32) := by decide
    rw [hp134] at st134
    have R136 : Rch p e below (s₁.setTop (entryFrame m #[(.int q0)] maxLocals)) T134 (mkF m 102 #[.val (.int q0), .val (.int (8 : Int32)), .val (.ref (fw (8 : Int32))), .val (.int (1 : Int32))] [(.int (1 : Int32))]) := fun t k => by
      refine R135 t ?_
      refine st134.trans ?_
      show Steps p.tables e below (T134.setTop (mkF m 93 #[.val (.int q0), .val (.int (8 : Int32)), .val (.ref (fw (8 : Int32))), .val (.int (1 : Int32))] [(.int (1 : Int32))])) t
      refine XS.iloadN X134.here hx rfl (hb hby at_93) rfl ?_
      show Steps p.tables e below (T134.setTop (mkF m 94 #[.val (.int q0), .val (.int (8 : Int32)), .val (.ref (fw (8 : Int32))), .val (.int (1 : Int32))] [(.int (1 : Int32)), (.int (1 : Int32))])) t
      refine XS.icmpNo X134.here hx rfl (hb hby at_94) rfl (teq (by decide : (1 : Int32) = (1 : Int32))).2 ?_
      show Steps p.tables e below (T134.setTop (mkF m 97 #[.val (.int q0), .val (.int (8 : Int32)), .val (.ref (fw (8 : Int32))), .val (.int (1 : Int32))] [])) t
      refine XS.iconst X134.here hx rfl (hb hby at_97) ?_
      show Steps p.tables e below (T134.setTop (mkF m 98 #[.val (.int q0), .val (.int (8 : Int32)), .val (.ref (fw (8 : Int32))), .val (.int (1 : Int32))] [(.int (1 : Int32))])) t
      refine XS.goto X134.here hx rfl (pc0 := 98) (pc' := 102) rfl (hb hby at_98) (by decide) (by decide) ?_
      exact k
    obtain ⟨fs, hr, hrun, hended, hW, hsame⟩ := X134.leave (v := some (.int (1 : Int32))) (fun h => by rw [Bd.returns] at h; cases h)
    refine ⟨_, _, R136 _ ?_, hrun, hended, _, _, rfl, ?_, ⟨_, rfl⟩, hW, hsame.mono (by decide) (by decide)⟩
    · exact retN X134 hx (t := .boolean) Bd.returns (by simp) (hb hby at_102) hr
    · show Q_rm0 Z q0 fw mr h0 n0 _ T134.heap _
      rw [e134]
      exact ⟨rfl, N134, rfl⟩
  · rw [hk] at R1
    have R138 : Rch p e below (s₁.setTop (entryFrame m #[(.int q0)] maxLocals)) s₁ (mkF m 9 #[.val (.int q0), .val (.int (9 : Int32)), .unset, .unset] [(.int (9 : Int32))]) := fun t k => by
      refine R1 t ?_
      refine XS.iloadN X0.here hx rfl (hb hby at_8) rfl ?_
      exact k
    obtain ⟨_, _, ⟨T137, L137, k137, n137⟩, -, X137, ⟨Lc137, hQ137, l137, y137, z137⟩, st137⟩ := Jvm.LawKit.callS X0 hx (y := (⟨"com/example/assertion_to_token/assertiontotoken/rules/RuleHoldsClientCredentialsPinLaw", "pick", "(I)Lcom/example/assertion_to_token/assertiontotoken/rules/Rule;"⟩ : MethodName)) hown (mvT hZ (hw _ (List.mem_of_getElem? (i := 1) rfl))) (mvT hZ (hw _ (List.mem_of_getElem? (i := 2) rfl))) (mvT hZ (hw _ (List.mem_of_getElem? (i := 3) rfl))) (mvT hZ (hw _ (List.mem_of_getElem? (i := 4) rfl))) (by decide) (backOf (W := 0) (rm1 l Z a0 hw [] (9 : Int32) fw h0 n0 (Nat.le_trans Z0 K0.1) pS0 pS1 pS2 pS3 pS4 pS5 pS6 pS7 pS8 pS9 pS10 pS11 pS12 pS13 pS14 pS15 pS16 pS17 pS18 pS19 pS20 pS21 pS22 pS23 pS24 pS25 pS26 pS27 pS28) hZ (hw _ (List.mem_of_getElem? (i := 4) rfl)) (hw _ (List.mem_of_getElem? (i := 3) rfl)) (by decide) (by decide)) (g := (mkF m 9 #[.val (.int q0), .val (.int (9 : Int32)), .unset, .unset] [(.int (9 : Int32))])) rfl (by rw [hml]; rfl) (argsL := [(.int (9 : Int32))]) (rest := []) (lenOf pd_1 rfl) rfl (by show 2 * 0 + _ ≤ _; exact Nat.le_of_eq rfl) (hb hby at_9) (fun _ _ => ⟨rfl, e0, (by decide : 0 + 0 ≤ _), (by decide : 0 + 0 ≤ _)⟩)
    dsimp only [Pt.U, Pt.locs, Pt.cells, Pt.slots] at X137 l137 y137 z137 st137 hQ137
    subst l137 y137 z137
    obtain ⟨rfl, N137q, e137⟩ := hQ137
    have N137 := Fr.app N0 N137q
    rw [own_cl_ok (by simp [own_ok] : own_ok (9 : Int32))] at st137
    have R140 : Rch p e below (s₁.setTop (entryFrame m #[(.int q0)] maxLocals)) T137 (mkF m 14 #[.val (.int q0), .val (.int (9 : Int32)), .val (.ref (fw (9 : Int32))), .unset] [(.ref (fw (9 : Int32)))]) := fun t k => by
      refine R138 t ?_
      refine st137 _ ?_
      show Steps p.tables e below (T137.setTop (mkF m 12 #[.val (.int q0), .val (.int (9 : Int32)), .unset, .unset] [(.ref (fw (9 : Int32)))])) t
      refine XS.astoreN X137.here hx rfl (hb hby at_12) rfl rfl (l' := #[.val (.int q0), .val (.int (9 : Int32)), .val (.ref (fw (9 : Int32))), .unset]) rfl ?_
      show Steps p.tables e below (T137.setTop (mkF m 13 #[.val (.int q0), .val (.int (9 : Int32)), .val (.ref (fw (9 : Int32))), .unset] [])) t
      refine XS.aloadN X137.here hx rfl (hb hby at_13) rfl rfl ?_
      exact k
    obtain ⟨T139, X139, e139, st139⟩ := getS2 X137 hx hZ hown (host := "") (Or.inl (hw _ (List.mem_of_getElem? (i := 5) rfl))) Via.refl e137 pS0 (g := (mkF m 14 #[.val (.int q0), .val (.int (9 : Int32)), .val (.ref (fw (9 : Int32))), .unset] [(.ref (fw (9 : Int32)))])) rfl (hb hby at_14)
    have R142 : Rch p e below (s₁.setTop (entryFrame m #[(.int q0)] maxLocals)) T139 (mkF m 21 #[.val (.int q0), .val (.int (9 : Int32)), .val (.ref (fw (9 : Int32))), .unset] [(.ref (fw (9 : Int32)))]) := fun t k => by
      refine R140 t ?_
      refine st139 _ ?_
      show Steps p.tables e below (T139.setTop (mkF m 17 #[.val (.int q0), .val (.int (9 : Int32)), .val (.ref (fw (9 : Int32))), .unset] [(.ref (fw (0 : Int32))), (.ref (fw (9 : Int32)))])) t
      refine Jvm.RoadKit.acmp (g := (mkF m 17 #[.val (.int q0), .val (.int (9 : Int32)), .val (.ref (fw (9 : Int32))), .unset] [(.ref (fw (0 : Int32))), (.ref (fw (9 : Int32)))])) X139 hx rfl rfl rfl (pc0 := 17) (pc' := 20) (same := false) rfl (hb hby at_17) rfl (decide_eq_false (fun q => ((pO _ (by simp [own_ok] : own_ok (9 : Int32))).ne (pO _ (by simp [own_ok] : own_ok (0 : Int32))) (by decide)) (Value.ref.inj q))) (by decide) (by decide) ?_
      show Steps p.tables e below (T139.setTop (mkF m 20 #[.val (.int q0), .val (.int (9 : Int32)), .val (.ref (fw (9 : Int32))), .unset] [])) t
      refine XS.aloadN X139.here hx rfl (hb hby at_20) rfl rfl ?_
      exact k
    obtain ⟨T141, X141, e141, st141⟩ := getS2 X139 hx hZ hown (host := "") (Or.inl (hw _ (List.mem_of_getElem? (i := 32) rfl))) Via.refl e139 pS1 (g := (mkF m 21 #[.val (.int q0), .val (.int (9 : Int32)), .val (.ref (fw (9 : Int32))), .unset] [(.ref (fw (9 : Int32)))])) rfl (hb hby at_21)
    have R144 : Rch p e below (s₁.setTop (entryFrame m #[(.int q0)] maxLocals)) T141 (mkF m 28 #[.val (.int q0), .val (.int (9 : Int32)), .val (.ref (fw (9 : Int32))), .unset] [(.ref (fw (9 : Int32)))]) := fun t k => by
      refine R142 t ?_
      refine st141 _ ?_
      show Steps p.tables e below (T141.setTop (mkF m 24 #[.val (.int q0), .val (.int (9 : Int32)), .val (.ref (fw (9 : Int32))), .unset] [(.ref (fw (1 : Int32))), (.ref (fw (9 : Int32)))])) t
      refine Jvm.RoadKit.acmp (g := (mkF m 24 #[.val (.int q0), .val (.int (9 : Int32)), .val (.ref (fw (9 : Int32))), .unset] [(.ref (fw (1 : Int32))), (.ref (fw (9 : Int32)))])) X141 hx rfl rfl rfl (pc0 := 24) (pc' := 27) (same := false) rfl (hb hby at_24) rfl (decide_eq_false (fun q => ((pO _ (by simp [own_ok] : own_ok (9 : Int32))).ne (pO _ (by simp [own_ok] : own_ok (1 : Int32))) (by decide)) (Value.ref.inj q))) (by decide) (by decide) ?_
      show Steps p.tables e below (T141.setTop (mkF m 27 #[.val (.int q0), .val (.int (9 : Int32)), .val (.ref (fw (9 : Int32))), .unset] [])) t
      refine XS.aloadN X141.here hx rfl (hb hby at_27) rfl rfl ?_
      exact k
    obtain ⟨T143, X143, e143, st143⟩ := getS2 X141 hx hZ hown (host := "") (Or.inl (hw _ (List.mem_of_getElem? (i := 34) rfl))) Via.refl e141 pS2 (g := (mkF m 28 #[.val (.int q0), .val (.int (9 : Int32)), .val (.ref (fw (9 : Int32))), .unset] [(.ref (fw (9 : Int32)))])) rfl (hb hby at_28)
    have R146 : Rch p e below (s₁.setTop (entryFrame m #[(.int q0)] maxLocals)) T143 (mkF m 35 #[.val (.int q0), .val (.int (9 : Int32)), .val (.ref (fw (9 : Int32))), .unset] [(.ref (fw (9 : Int32)))]) := fun t k => by
      refine R144 t ?_
      refine st143 _ ?_
      show Steps p.tables e below (T143.setTop (mkF m 31 #[.val (.int q0), .val (.int (9 : Int32)), .val (.ref (fw (9 : Int32))), .unset] [(.ref (fw (2 : Int32))), (.ref (fw (9 : Int32)))])) t
      refine Jvm.RoadKit.acmp (g := (mkF m 31 #[.val (.int q0), .val (.int (9 : Int32)), .val (.ref (fw (9 : Int32))), .unset] [(.ref (fw (2 : Int32))), (.ref (fw (9 : Int32)))])) X143 hx rfl rfl rfl (pc0 := 31) (pc' := 34) (same := false) rfl (hb hby at_31) rfl (decide_eq_false (fun q => ((pO _ (by simp [own_ok] : own_ok (9 : Int32))).ne (pO _ (by simp [own_ok] : own_ok (2 : Int32))) (by decide)) (Value.ref.inj q))) (by decide) (by decide) ?_
      show Steps p.tables e below (T143.setTop (mkF m 34 #[.val (.int q0), .val (.int (9 : Int32)), .val (.ref (fw (9 : Int32))), .unset] [])) t
      refine XS.aloadN X143.here hx rfl (hb hby at_34) rfl rfl ?_
      exact k
    obtain ⟨T145, X145, e145, st145⟩ := getS2 X143 hx hZ hown (host := "") (Or.inl (hw _ (List.mem_of_getElem? (i := 30) rfl))) Via.refl e143 pS3 (g := (mkF m 35 #[.val (.int q0), .val (.int (9 : Int32)), .val (.ref (fw (9 : Int32))), .unset] [(.ref (fw (9 : Int32)))])) rfl (hb hby at_35)
    have R148 : Rch p e below (s₁.setTop (entryFrame m #[(.int q0)] maxLocals)) T145 (mkF m 42 #[.val (.int q0), .val (.int (9 : Int32)), .val (.ref (fw (9 : Int32))), .unset] [(.ref (fw (9 : Int32)))]) := fun t k => by
      refine R146 t ?_
      refine st145 _ ?_
      show Steps p.tables e below (T145.setTop (mkF m 38 #[.val (.int q0), .val (.int (9 : Int32)), .val (.ref (fw (9 : Int32))), .unset] [(.ref (fw (3 : Int32))), (.ref (fw (9 : Int32)))])) t
      refine Jvm.RoadKit.acmp (g := (mkF m 38 #[.val (.int q0), .val (.int (9 : Int32)), .val (.ref (fw (9 : Int32))), .unset] [(.ref (fw (3 : Int32))), (.ref (fw (9 : Int32)))])) X145 hx rfl rfl rfl (pc0 := 38) (pc' := 41) (same := false) rfl (hb hby at_38) rfl (decide_eq_false (fun q => ((pO _ (by simp [own_ok] : own_ok (9 : Int32))).ne (pO _ (by simp [own_ok] : own_ok (3 : Int32))) (by decide)) (Value.ref.inj q))) (by decide) (by decide) ?_
      show Steps p.tables e below (T145.setTop (mkF m 41 #[.val (.int q0), .val (.int (9 : Int32)), .val (.ref (fw (9 : Int32))), .unset] [])) t
      refine XS.aloadN X145.here hx rfl (hb hby at_41) rfl rfl ?_
      exact k
    obtain ⟨T147, X147, e147, st147⟩ := getS2 X145 hx hZ hown (host := "") (Or.inl (hw _ (List.mem_of_getElem? (i := 38) rfl))) Via.refl e145 pS4 (g := (mkF m 42 #[.val (.int q0), .val (.int (9 : Int32)), .val (.ref (fw (9 : Int32))), .unset] [(.ref (fw (9 : Int32)))])) rfl (hb hby at_42)
    have R150 : Rch p e below (s₁.setTop (entryFrame m #[(.int q0)] maxLocals)) T147 (mkF m 49 #[.val (.int q0), .val (.int (9 : Int32)), .val (.ref (fw (9 : Int32))), .unset] [(.ref (fw (9 : Int32)))]) := fun t k => by
      refine R148 t ?_
      refine st147 _ ?_
      show Steps p.tables e below (T147.setTop (mkF m 45 #[.val (.int q0), .val (.int (9 : Int32)), .val (.ref (fw (9 : Int32))), .unset] [(.ref (fw (4 : Int32))), (.ref (fw (9 : Int32)))])) t
      refine Jvm.RoadKit.acmp (g := (mkF m 45 #[.val (.int q0), .val (.int (9 : Int32)), .val (.ref (fw (9 : Int32))), .unset] [(.ref (fw (4 : Int32))), (.ref (fw (9 : Int32)))])) X147 hx rfl rfl rfl (pc0 := 45) (pc' := 48) (same := false) rfl (hb hby at_45) rfl (decide_eq_false (fun q => ((pO _ (by simp [own_ok] : own_ok (9 : Int32))).ne (pO _ (by simp [own_ok] : own_ok (4 : Int32))) (by decide)) (Value.ref.inj q))) (by decide) (by decide) ?_
      show Steps p.tables e below (T147.setTop (mkF m 48 #[.val (.int q0), .val (.int (9 : Int32)), .val (.ref (fw (9 : Int32))), .unset] [])) t
      refine XS.aloadN X147.here hx rfl (hb hby at_48) rfl rfl ?_
      exact k
    obtain ⟨T149, X149, e149, st149⟩ := getS2 X147 hx hZ hown (host := "") (Or.inl (hw _ (List.mem_of_getElem? (i := 40) rfl))) Via.refl e147 pS5 (g := (mkF m 49 #[.val (.int q0), .val (.int (9 : Int32)), .val (.ref (fw (9 : Int32))), .unset] [(.ref (fw (9 : Int32)))])) rfl (hb hby at_49)
    have R152 : Rch p e below (s₁.setTop (entryFrame m #[(.int q0)] maxLocals)) T149 (mkF m 56 #[.val (.int q0), .val (.int (9 : Int32)), .val (.ref (fw (9 : Int32))), .unset] [(.ref (fw (9 : Int32)))]) := fun t k => by
      refine R150 t ?_
      refine st149 _ ?_
      show Steps p.tables e below (T149.setTop (mkF m 52 #[.val (.int q0), .val (.int (9 : Int32)), .val (.ref (fw (9 : Int32))), .unset] [(.ref (fw (5 : Int32))), (.ref (fw (9 : Int32)))])) t
      refine Jvm.RoadKit.acmp (g := (mkF m 52 #[.val (.int q0), .val (.int (9 : Int32)), .val (.ref (fw (9 : Int32))), .unset] [(.ref (fw (5 : Int32))), (.ref (fw (9 : Int32)))])) X149 hx rfl rfl rfl (pc0 := 52) (pc' := 55) (same := false) rfl (hb hby at_52) rfl (decide_eq_false (fun q => ((pO _ (by simp [own_ok] : own_ok (9 : Int32))).ne (pO _ (by simp [own_ok] : own_ok (5 : Int32))) (by decide)) (Value.ref.inj q))) (by decide) (by decide) ?_
      show Steps p.tables e below (T149.setTop (mkF m 55 #[.val (.int q0), .val (.int (9 : Int32)), .val (.ref (fw (9 : Int32))), .unset] [])) t
      refine XS.aloadN X149.here hx rfl (hb hby at_55) rfl rfl ?_
      exact k
    obtain ⟨T151, X151, e151, st151⟩ := getS2 X149 hx hZ hown (host := "") (Or.inl (hw _ (List.mem_of_getElem? (i := 42) rfl))) Via.refl e149 pS6 (g := (mkF m 56 #[.val (.int q0), .val (.int (9 : Int32)), .val (.ref (fw (9 : Int32))), .unset] [(.ref (fw (9 : Int32)))])) rfl (hb hby at_56)
    have R154 : Rch p e below (s₁.setTop (entryFrame m #[(.int q0)] maxLocals)) T151 (mkF m 63 #[.val (.int q0), .val (.int (9 : Int32)), .val (.ref (fw (9 : Int32))), .unset] [(.ref (fw (9 : Int32)))]) := fun t k => by
      refine R152 t ?_
      refine st151 _ ?_
      show Steps p.tables e below (T151.setTop (mkF m 59 #[.val (.int q0), .val (.int (9 : Int32)), .val (.ref (fw (9 : Int32))), .unset] [(.ref (fw (6 : Int32))), (.ref (fw (9 : Int32)))])) t
      refine Jvm.RoadKit.acmp (g := (mkF m 59 #[.val (.int q0), .val (.int (9 : Int32)), .val (.ref (fw (9 : Int32))), .unset] [(.ref (fw (6 : Int32))), (.ref (fw (9 : Int32)))])) X151 hx rfl rfl rfl (pc0 := 59) (pc' := 62) (same := false) rfl (hb hby at_59) rfl (decide_eq_false (fun q => ((pO _ (by simp [own_ok] : own_ok (9 : Int32))).ne (pO _ (by simp [own_ok] : own_ok (6 : Int32))) (by decide)) (Value.ref.inj q))) (by decide) (by decide) ?_
      show Steps p.tables e below (T151.setTop (mkF m 62 #[.val (.int q0), .val (.int (9 : Int32)), .val (.ref (fw (9 : Int32))), .unset] [])) t
      refine XS.aloadN X151.here hx rfl (hb hby at_62) rfl rfl ?_
      exact k
    obtain ⟨T153, X153, e153, st153⟩ := getS2 X151 hx hZ hown (host := "") (Or.inl (hw _ (List.mem_of_getElem? (i := 44) rfl))) Via.refl e151 pS7 (g := (mkF m 63 #[.val (.int q0), .val (.int (9 : Int32)), .val (.ref (fw (9 : Int32))), .unset] [(.ref (fw (9 : Int32)))])) rfl (hb hby at_63)
    have R156 : Rch p e below (s₁.setTop (entryFrame m #[(.int q0)] maxLocals)) T153 (mkF m 70 #[.val (.int q0), .val (.int (9 : Int32)), .val (.ref (fw (9 : Int32))), .unset] [(.ref (fw (9 : Int32)))]) := fun t k => by
      refine R154 t ?_
      refine st153 _ ?_
      show Steps p.tables e below (T153.setTop (mkF m 66 #[.val (.int q0), .val (.int (9 : Int32)), .val (.ref (fw (9 : Int32))), .unset] [(.ref (fw (7 : Int32))), (.ref (fw (9 : Int32)))])) t
      refine Jvm.RoadKit.acmp (g := (mkF m 66 #[.val (.int q0), .val (.int (9 : Int32)), .val (.ref (fw (9 : Int32))), .unset] [(.ref (fw (7 : Int32))), (.ref (fw (9 : Int32)))])) X153 hx rfl rfl rfl (pc0 := 66) (pc' := 69) (same := false) rfl (hb hby at_66) rfl (decide_eq_false (fun q => ((pO _ (by simp [own_ok] : own_ok (9 : Int32))).ne (pO _ (by simp [own_ok] : own_ok (7 : Int32))) (by decide)) (Value.ref.inj q))) (by decide) (by decide) ?_
      show Steps p.tables e below (T153.setTop (mkF m 69 #[.val (.int q0), .val (.int (9 : Int32)), .val (.ref (fw (9 : Int32))), .unset] [])) t
      refine XS.aloadN X153.here hx rfl (hb hby at_69) rfl rfl ?_
      exact k
    obtain ⟨T155, X155, e155, st155⟩ := getS2 X153 hx hZ hown (host := "") (Or.inl (hw _ (List.mem_of_getElem? (i := 46) rfl))) Via.refl e153 pS8 (g := (mkF m 70 #[.val (.int q0), .val (.int (9 : Int32)), .val (.ref (fw (9 : Int32))), .unset] [(.ref (fw (9 : Int32)))])) rfl (hb hby at_70)
    have R158 : Rch p e below (s₁.setTop (entryFrame m #[(.int q0)] maxLocals)) T155 (mkF m 77 #[.val (.int q0), .val (.int (9 : Int32)), .val (.ref (fw (9 : Int32))), .unset] [(.ref (fw (9 : Int32)))]) := fun t k => by
      refine R156 t ?_
      refine st155 _ ?_
      show Steps p.tables e below (T155.setTop (mkF m 73 #[.val (.int q0), .val (.int (9 : Int32)), .val (.ref (fw (9 : Int32))), .unset] [(.ref (fw (8 : Int32))), (.ref (fw (9 : Int32)))])) t
      refine Jvm.RoadKit.acmp (g := (mkF m 73 #[.val (.int q0), .val (.int (9 : Int32)), .val (.ref (fw (9 : Int32))), .unset] [(.ref (fw (8 : Int32))), (.ref (fw (9 : Int32)))])) X155 hx rfl rfl rfl (pc0 := 73) (pc' := 76) (same := false) rfl (hb hby at_73) rfl (decide_eq_false (fun q => ((pO _ (by simp [own_ok] : own_ok (9 : Int32))).ne (pO _ (by simp [own_ok] : own_ok (8 : Int32))) (by decide)) (Value.ref.inj q))) (by decide) (by decide) ?_
      show Steps p.tables e below (T155.setTop (mkF m 76 #[.val (.int q0), .val (.int (9 : Int32)), .val (.ref (fw (9 : Int32))), .unset] [])) t
      refine XS.aloadN X155.here hx rfl (hb hby at_76) rfl rfl ?_
      exact k
    obtain ⟨T157, X157, e157, st157⟩ := getS2 X155 hx hZ hown (host := "") (Or.inl (hw _ (List.mem_of_getElem? (i := 48) rfl))) Via.refl e155 pS9 (g := (mkF m 77 #[.val (.int q0), .val (.int (9 : Int32)), .val (.ref (fw (9 : Int32))), .unset] [(.ref (fw (9 : Int32)))])) rfl (hb hby at_77)
    have R160 : Rch p e below (s₁.setTop (entryFrame m #[(.int q0)] maxLocals)) T157 (mkF m 90 #[.val (.int q0), .val (.int (9 : Int32)), .val (.ref (fw (9 : Int32))), .val (.int (1 : Int32))] [(.ref (fw (9 : Int32)))]) := fun t k => by
      refine R158 t ?_
      refine st157 _ ?_
      show Steps p.tables e below (T157.setTop (mkF m 80 #[.val (.int q0), .val (.int (9 : Int32)), .val (.ref (fw (9 : Int32))), .unset] [(.ref (fw (9 : Int32))), (.ref (fw (9 : Int32)))])) t
      refine Jvm.RoadKit.acmp (g := (mkF m 80 #[.val (.int q0), .val (.int (9 : Int32)), .val (.ref (fw (9 : Int32))), .unset] [(.ref (fw (9 : Int32))), (.ref (fw (9 : Int32)))])) X157 hx rfl rfl rfl (pc0 := 80) (pc' := 83) (same := true) rfl (hb hby at_80) rfl (decide_eq_true rfl) (by decide) (by decide) ?_
      show Steps p.tables e below (T157.setTop (mkF m 83 #[.val (.int q0), .val (.int (9 : Int32)), .val (.ref (fw (9 : Int32))), .unset] [])) t
      refine XS.iconst X157.here hx rfl (hb hby at_83) ?_
      show Steps p.tables e below (T157.setTop (mkF m 84 #[.val (.int q0), .val (.int (9 : Int32)), .val (.ref (fw (9 : Int32))), .unset] [(.int (1 : Int32))])) t
      refine XS.goto X157.here hx rfl (pc0 := 84) (pc' := 88) rfl (hb hby at_84) (by decide) (by decide) ?_
      show Steps p.tables e below (T157.setTop (mkF m 88 #[.val (.int q0), .val (.int (9 : Int32)), .val (.ref (fw (9 : Int32))), .unset] [(.int (1 : Int32))])) t
      refine XS.istoreN X157.here hx rfl (hb hby at_88) rfl (l' := #[.val (.int q0), .val (.int (9 : Int32)), .val (.ref (fw (9 : Int32))), .val (.int (1 : Int32))]) rfl ?_
      show Steps p.tables e below (T157.setTop (mkF m 89 #[.val (.int q0), .val (.int (9 : Int32)), .val (.ref (fw (9 : Int32))), .val (.int (1 : Int32))] [])) t
      refine XS.aloadN X157.here hx rfl (hb hby at_89) rfl rfl ?_
      exact k
    obtain ⟨cq159, kq159, q159a, q159b, q159c⟩ := isOf hZ e157 (pE _ (by simp [own_ok] : own_ok (9 : Int32)))
    obtain ⟨_, _, ⟨T159, L159, k159, n159⟩, -, X159, ⟨Lc159, hQ159, l159, y159, z159⟩, st159⟩ := X157.virtualBack hx (y := (⟨"com/example/assertion_to_token/assertiontotoken/rules/Rule", "holdsClientCredentials", "()Z"⟩ : MethodName)) (z := (⟨"com/example/assertion_to_token/assertiontotoken/rules/Rule", "holdsClientCredentials", "()Z"⟩ : MethodName)) hown (mvT hZ (hw _ (List.mem_of_getElem? (i := 8) rfl))) (mvT hZ (hw _ (List.mem_of_getElem? (i := 9) rfl))) (notFace_of_selects (args := #[]) (mvT hZ (hw _ (List.mem_of_getElem? (i := 11) rfl)))) (mvT hZ (hw _ (List.mem_of_getElem? (i := 11) rfl))) (mvT hZ (hw _ (List.mem_of_getElem? (i := 10) rfl))) (by decide) (backOf (W := 0) (rm2 l Z a0 hw [] (fw (9 : Int32)) (fw (10 : Int32)) (9 : Int32) mr h0 n0 (Nat.le_trans Z0 K0.1) pS10 (pE _ (by simp [own_ok] : own_ok (9 : Int32))) (pE _ (by simp [own_ok] : own_ok (10 : Int32))) (pO _ (by simp [own_ok] : own_ok (9 : Int32))) (pO _ (by simp [own_ok] : own_ok (10 : Int32))) pM) hZ (hw _ (List.mem_of_getElem? (i := 12) rfl)) (hw _ (List.mem_of_getElem? (i := 6) rfl)) (by decide) (by decide)) q159a q159c (g := (mkF m 90 #[.val (.int q0), .val (.int (9 : Int32)), .val (.ref (fw (9 : Int32))), .val (.int (1 : Int32))] [(.ref (fw (9 : Int32)))])) rfl (by rw [hml]; rfl) (Steps.refl _) (argsL := []) (rest := []) (lenOf pd_2 rfl) rfl (by show 2 * 0 + _ ≤ _; exact Nat.le_of_eq rfl) (hb hby at_90) (fun _ _ => ⟨rfl, e157, (by decide : 0 + 0 ≤ _), (by decide : 0 + 0 ≤ _)⟩)
    dsimp only [Pt.U, Pt.locs, Pt.cells, Pt.slots] at X159 l159 y159 z159 st159 hQ159
    subst l159 y159 z159
    obtain ⟨rfl, N159q, e159⟩ := hQ159
    have N159 := Fr.app N137 N159q
    have hp159 : own_h (9 : Int32) = (1 : Int32) := by decide
    rw [hp159] at st159
    have R161 : Rch p e below (s₁.setTop (entryFrame m #[(.int q0)] maxLocals)) T159 (mkF m 102 #[.val (.int q0), .val (.int (9 : Int32)), .val (.ref (fw (9 : Int32))), .val (.int (1 : Int32))] [(.int (1 : Int32))]) := fun t k => by
      refine R160 t ?_
      refine st159.trans ?_
      show Steps p.tables e below (T159.setTop (mkF m 93 #[.val (.int q0), .val (.int (9 : Int32)), .val (.ref (fw (9 : Int32))), .val (.int (1 : Int32))] [(.int (1 : Int32))])) t
      refine XS.iloadN X159.here hx rfl (hb hby at_93) rfl ?_
      show Steps p.tables e below (T159.setTop (mkF m 94 #[.val (.int q0), .val (.int (9 : Int32)), .val (.ref (fw (9 : Int32))), .val (.int (1 : Int32))] [(.int (1 : Int32)), (.int (1 : Int32))])) t
      refine XS.icmpNo X159.here hx rfl (hb hby at_94) rfl (teq (by decide : (1 : Int32) = (1 : Int32))).2 ?_
      show Steps p.tables e below (T159.setTop (mkF m 97 #[.val (.int q0), .val (.int (9 : Int32)), .val (.ref (fw (9 : Int32))), .val (.int (1 : Int32))] [])) t
      refine XS.iconst X159.here hx rfl (hb hby at_97) ?_
      show Steps p.tables e below (T159.setTop (mkF m 98 #[.val (.int q0), .val (.int (9 : Int32)), .val (.ref (fw (9 : Int32))), .val (.int (1 : Int32))] [(.int (1 : Int32))])) t
      refine XS.goto X159.here hx rfl (pc0 := 98) (pc' := 102) rfl (hb hby at_98) (by decide) (by decide) ?_
      exact k
    obtain ⟨fs, hr, hrun, hended, hW, hsame⟩ := X159.leave (v := some (.int (1 : Int32))) (fun h => by rw [Bd.returns] at h; cases h)
    refine ⟨_, _, R161 _ ?_, hrun, hended, _, _, rfl, ?_, ⟨_, rfl⟩, hW, hsame.mono (by decide) (by decide)⟩
    · exact retN X159 hx (t := .boolean) Bd.returns (by simp) (hb hby at_102) hr
    · show Q_rm0 Z q0 fw mr h0 n0 _ T159.heap _
      rw [e159]
      exact ⟨rfl, N159, rfl⟩
  · obtain ⟨hok, hh0, hn0, hn1, hn2, hn3, hn4, hn5, hn6, hn7, hn8, hn9⟩ := hk
    have R163 : Rch p e below (s₁.setTop (entryFrame m #[(.int q0)] maxLocals)) s₁ (mkF m 9 #[.val (.int q0), .val (.int ((q0 &&& (2147483647 : Int32)) % (29 : Int32))), .unset, .unset] [(.int ((q0 &&& (2147483647 : Int32)) % (29 : Int32)))]) := fun t k => by
      refine R1 t ?_
      refine XS.iloadN X0.here hx rfl (hb hby at_8) rfl ?_
      exact k
    obtain ⟨_, _, ⟨T162, L162, k162, n162⟩, -, X162, ⟨Lc162, hQ162, l162, y162, z162⟩, st162⟩ := Jvm.LawKit.callS X0 hx (y := (⟨"com/example/assertion_to_token/assertiontotoken/rules/RuleHoldsClientCredentialsPinLaw", "pick", "(I)Lcom/example/assertion_to_token/assertiontotoken/rules/Rule;"⟩ : MethodName)) hown (mvT hZ (hw _ (List.mem_of_getElem? (i := 1) rfl))) (mvT hZ (hw _ (List.mem_of_getElem? (i := 2) rfl))) (mvT hZ (hw _ (List.mem_of_getElem? (i := 3) rfl))) (mvT hZ (hw _ (List.mem_of_getElem? (i := 4) rfl))) (by decide) (backOf (W := 0) (rm1 l Z a0 hw [] ((q0 &&& (2147483647 : Int32)) % (29 : Int32)) fw h0 n0 (Nat.le_trans Z0 K0.1) pS0 pS1 pS2 pS3 pS4 pS5 pS6 pS7 pS8 pS9 pS10 pS11 pS12 pS13 pS14 pS15 pS16 pS17 pS18 pS19 pS20 pS21 pS22 pS23 pS24 pS25 pS26 pS27 pS28) hZ (hw _ (List.mem_of_getElem? (i := 4) rfl)) (hw _ (List.mem_of_getElem? (i := 3) rfl)) (by decide) (by decide)) (g := (mkF m 9 #[.val (.int q0), .val (.int ((q0 &&& (2147483647 : Int32)) % (29 : Int32))), .unset, .unset] [(.int ((q0 &&& (2147483647 : Int32)) % (29 : Int32)))])) rfl (by rw [hml]; rfl) (argsL := [(.int ((q0 &&& (2147483647 : Int32)) % (29 : Int32)))]) (rest := []) (lenOf pd_1 rfl) rfl (by show 2 * 0 + _ ≤ _; exact Nat.le_of_eq rfl) (hb hby at_9) (fun _ _ => ⟨rfl, e0, (by decide : 0 + 0 ≤ _), (by decide : 0 + 0 ≤ _)⟩)
    dsimp only [Pt.U, Pt.locs, Pt.cells, Pt.slots] at X162 l162 y162 z162 st162 hQ162
    subst l162 y162 z162
    obtain ⟨rfl, N162q, e162⟩ := hQ162
    have N162 := Fr.app N0 N162q
    rw [own_cl_ok hok] at st162
    have R165 : Rch p e below (s₁.setTop (entryFrame m #[(.int q0)] maxLocals)) T162 (mkF m 14 #[.val (.int q0), .val (.int ((q0 &&& (2147483647 : Int32)) % (29 : Int32))), .val (.ref (fw ((q0 &&& (2147483647 : Int32)) % (29 : Int32)))), .unset] [(.ref (fw ((q0 &&& (2147483647 : Int32)) % (29 : Int32))))]) := fun t k => by
      refine R163 t ?_
      refine st162 _ ?_
      show Steps p.tables e below (T162.setTop (mkF m 12 #[.val (.int q0), .val (.int ((q0 &&& (2147483647 : Int32)) % (29 : Int32))), .unset, .unset] [(.ref (fw ((q0 &&& (2147483647 : Int32)) % (29 : Int32))))])) t
      refine XS.astoreN X162.here hx rfl (hb hby at_12) rfl rfl (l' := #[.val (.int q0), .val (.int ((q0 &&& (2147483647 : Int32)) % (29 : Int32))), .val (.ref (fw ((q0 &&& (2147483647 : Int32)) % (29 : Int32)))), .unset]) rfl ?_
      show Steps p.tables e below (T162.setTop (mkF m 13 #[.val (.int q0), .val (.int ((q0 &&& (2147483647 : Int32)) % (29 : Int32))), .val (.ref (fw ((q0 &&& (2147483647 : Int32)) % (29 : Int32)))), .unset] [])) t
      refine XS.aloadN X162.here hx rfl (hb hby at_13) rfl rfl ?_
      exact k
    obtain ⟨T164, X164, e164, st164⟩ := getS2 X162 hx hZ hown (host := "") (Or.inl (hw _ (List.mem_of_getElem? (i := 5) rfl))) Via.refl e162 pS0 (g := (mkF m 14 #[.val (.int q0), .val (.int ((q0 &&& (2147483647 : Int32)) % (29 : Int32))), .val (.ref (fw ((q0 &&& (2147483647 : Int32)) % (29 : Int32)))), .unset] [(.ref (fw ((q0 &&& (2147483647 : Int32)) % (29 : Int32))))])) rfl (hb hby at_14)
    have R167 : Rch p e below (s₁.setTop (entryFrame m #[(.int q0)] maxLocals)) T164 (mkF m 21 #[.val (.int q0), .val (.int ((q0 &&& (2147483647 : Int32)) % (29 : Int32))), .val (.ref (fw ((q0 &&& (2147483647 : Int32)) % (29 : Int32)))), .unset] [(.ref (fw ((q0 &&& (2147483647 : Int32)) % (29 : Int32))))]) := fun t k => by
      refine R165 t ?_
      refine st164 _ ?_
      show Steps p.tables e below (T164.setTop (mkF m 17 #[.val (.int q0), .val (.int ((q0 &&& (2147483647 : Int32)) % (29 : Int32))), .val (.ref (fw ((q0 &&& (2147483647 : Int32)) % (29 : Int32)))), .unset] [(.ref (fw (0 : Int32))), (.ref (fw ((q0 &&& (2147483647 : Int32)) % (29 : Int32))))])) t
      refine Jvm.RoadKit.acmp (g := (mkF m 17 #[.val (.int q0), .val (.int ((q0 &&& (2147483647 : Int32)) % (29 : Int32))), .val (.ref (fw ((q0 &&& (2147483647 : Int32)) % (29 : Int32)))), .unset] [(.ref (fw (0 : Int32))), (.ref (fw ((q0 &&& (2147483647 : Int32)) % (29 : Int32))))])) X164 hx rfl rfl rfl (pc0 := 17) (pc' := 20) (same := false) rfl (hb hby at_17) rfl (decide_eq_false (fun q => ((pO _ hok).ne (pO _ (by simp [own_ok] : own_ok (0 : Int32))) (fun hq => hn0 (Value.int.inj hq))) (Value.ref.inj q))) (by decide) (by decide) ?_
      show Steps p.tables e below (T164.setTop (mkF m 20 #[.val (.int q0), .val (.int ((q0 &&& (2147483647 : Int32)) % (29 : Int32))), .val (.ref (fw ((q0 &&& (2147483647 : Int32)) % (29 : Int32)))), .unset] [])) t
      refine XS.aloadN X164.here hx rfl (hb hby at_20) rfl rfl ?_
      exact k
    obtain ⟨T166, X166, e166, st166⟩ := getS2 X164 hx hZ hown (host := "") (Or.inl (hw _ (List.mem_of_getElem? (i := 32) rfl))) Via.refl e164 pS1 (g := (mkF m 21 #[.val (.int q0), .val (.int ((q0 &&& (2147483647 : Int32)) % (29 : Int32))), .val (.ref (fw ((q0 &&& (2147483647 : Int32)) % (29 : Int32)))), .unset] [(.ref (fw ((q0 &&& (2147483647 : Int32)) % (29 : Int32))))])) rfl (hb hby at_21)
    have R169 : Rch p e below (s₁.setTop (entryFrame m #[(.int q0)] maxLocals)) T166 (mkF m 28 #[.val (.int q0), .val (.int ((q0 &&& (2147483647 : Int32)) % (29 : Int32))), .val (.ref (fw ((q0 &&& (2147483647 : Int32)) % (29 : Int32)))), .unset] [(.ref (fw ((q0 &&& (2147483647 : Int32)) % (29 : Int32))))]) := fun t k => by
      refine R167 t ?_
      refine st166 _ ?_
      show Steps p.tables e below (T166.setTop (mkF m 24 #[.val (.int q0), .val (.int ((q0 &&& (2147483647 : Int32)) % (29 : Int32))), .val (.ref (fw ((q0 &&& (2147483647 : Int32)) % (29 : Int32)))), .unset] [(.ref (fw (1 : Int32))), (.ref (fw ((q0 &&& (2147483647 : Int32)) % (29 : Int32))))])) t
      refine Jvm.RoadKit.acmp (g := (mkF m 24 #[.val (.int q0), .val (.int ((q0 &&& (2147483647 : Int32)) % (29 : Int32))), .val (.ref (fw ((q0 &&& (2147483647 : Int32)) % (29 : Int32)))), .unset] [(.ref (fw (1 : Int32))), (.ref (fw ((q0 &&& (2147483647 : Int32)) % (29 : Int32))))])) X166 hx rfl rfl rfl (pc0 := 24) (pc' := 27) (same := false) rfl (hb hby at_24) rfl (decide_eq_false (fun q => ((pO _ hok).ne (pO _ (by simp [own_ok] : own_ok (1 : Int32))) (fun hq => hn1 (Value.int.inj hq))) (Value.ref.inj q))) (by decide) (by decide) ?_
      show Steps p.tables e below (T166.setTop (mkF m 27 #[.val (.int q0), .val (.int ((q0 &&& (2147483647 : Int32)) % (29 : Int32))), .val (.ref (fw ((q0 &&& (2147483647 : Int32)) % (29 : Int32)))), .unset] [])) t
      refine XS.aloadN X166.here hx rfl (hb hby at_27) rfl rfl ?_
      exact k
    obtain ⟨T168, X168, e168, st168⟩ := getS2 X166 hx hZ hown (host := "") (Or.inl (hw _ (List.mem_of_getElem? (i := 34) rfl))) Via.refl e166 pS2 (g := (mkF m 28 #[.val (.int q0), .val (.int ((q0 &&& (2147483647 : Int32)) % (29 : Int32))), .val (.ref (fw ((q0 &&& (2147483647 : Int32)) % (29 : Int32)))), .unset] [(.ref (fw ((q0 &&& (2147483647 : Int32)) % (29 : Int32))))])) rfl (hb hby at_28)
    have R171 : Rch p e below (s₁.setTop (entryFrame m #[(.int q0)] maxLocals)) T168 (mkF m 35 #[.val (.int q0), .val (.int ((q0 &&& (2147483647 : Int32)) % (29 : Int32))), .val (.ref (fw ((q0 &&& (2147483647 : Int32)) % (29 : Int32)))), .unset] [(.ref (fw ((q0 &&& (2147483647 : Int32)) % (29 : Int32))))]) := fun t k => by
      refine R169 t ?_
      refine st168 _ ?_
      show Steps p.tables e below (T168.setTop (mkF m 31 #[.val (.int q0), .val (.int ((q0 &&& (2147483647 : Int32)) % (29 : Int32))), .val (.ref (fw ((q0 &&& (2147483647 : Int32)) % (29 : Int32)))), .unset] [(.ref (fw (2 : Int32))), (.ref (fw ((q0 &&& (2147483647 : Int32)) % (29 : Int32))))])) t
      refine Jvm.RoadKit.acmp (g := (mkF m 31 #[.val (.int q0), .val (.int ((q0 &&& (2147483647 : Int32)) % (29 : Int32))), .val (.ref (fw ((q0 &&& (2147483647 : Int32)) % (29 : Int32)))), .unset] [(.ref (fw (2 : Int32))), (.ref (fw ((q0 &&& (2147483647 : Int32)) % (29 : Int32))))])) X168 hx rfl rfl rfl (pc0 := 31) (pc' := 34) (same := false) rfl (hb hby at_31) rfl (decide_eq_false (fun q => ((pO _ hok).ne (pO _ (by simp [own_ok] : own_ok (2 : Int32))) (fun hq => hn2 (Value.int.inj hq))) (Value.ref.inj q))) (by decide) (by decide) ?_
      show Steps p.tables e below (T168.setTop (mkF m 34 #[.val (.int q0), .val (.int ((q0 &&& (2147483647 : Int32)) % (29 : Int32))), .val (.ref (fw ((q0 &&& (2147483647 : Int32)) % (29 : Int32)))), .unset] [])) t
      refine XS.aloadN X168.here hx rfl (hb hby at_34) rfl rfl ?_
      exact k
    obtain ⟨T170, X170, e170, st170⟩ := getS2 X168 hx hZ hown (host := "") (Or.inl (hw _ (List.mem_of_getElem? (i := 30) rfl))) Via.refl e168 pS3 (g := (mkF m 35 #[.val (.int q0), .val (.int ((q0 &&& (2147483647 : Int32)) % (29 : Int32))), .val (.ref (fw ((q0 &&& (2147483647 : Int32)) % (29 : Int32)))), .unset] [(.ref (fw ((q0 &&& (2147483647 : Int32)) % (29 : Int32))))])) rfl (hb hby at_35)
    have R173 : Rch p e below (s₁.setTop (entryFrame m #[(.int q0)] maxLocals)) T170 (mkF m 42 #[.val (.int q0), .val (.int ((q0 &&& (2147483647 : Int32)) % (29 : Int32))), .val (.ref (fw ((q0 &&& (2147483647 : Int32)) % (29 : Int32)))), .unset] [(.ref (fw ((q0 &&& (2147483647 : Int32)) % (29 : Int32))))]) := fun t k => by
      refine R171 t ?_
      refine st170 _ ?_
      show Steps p.tables e below (T170.setTop (mkF m 38 #[.val (.int q0), .val (.int ((q0 &&& (2147483647 : Int32)) % (29 : Int32))), .val (.ref (fw ((q0 &&& (2147483647 : Int32)) % (29 : Int32)))), .unset] [(.ref (fw (3 : Int32))), (.ref (fw ((q0 &&& (2147483647 : Int32)) % (29 : Int32))))])) t
      refine Jvm.RoadKit.acmp (g := (mkF m 38 #[.val (.int q0), .val (.int ((q0 &&& (2147483647 : Int32)) % (29 : Int32))), .val (.ref (fw ((q0 &&& (2147483647 : Int32)) % (29 : Int32)))), .unset] [(.ref (fw (3 : Int32))), (.ref (fw ((q0 &&& (2147483647 : Int32)) % (29 : Int32))))])) X170 hx rfl rfl rfl (pc0 := 38) (pc' := 41) (same := false) rfl (hb hby at_38) rfl (decide_eq_false (fun q => ((pO _ hok).ne (pO _ (by simp [own_ok] : own_ok (3 : Int32))) (fun hq => hn3 (Value.int.inj hq))) (Value.ref.inj q))) (by decide) (by decide) ?_
      show Steps p.tables e below (T170.setTop (mkF m 41 #[.val (.int q0), .val (.int ((q0 &&& (2147483647 : Int32)) % (29 : Int32))), .val (.ref (fw ((q0 &&& (2147483647 : Int32)) % (29 : Int32)))), .unset] [])) t
      refine XS.aloadN X170.here hx rfl (hb hby at_41) rfl rfl ?_
      exact k
    obtain ⟨T172, X172, e172, st172⟩ := getS2 X170 hx hZ hown (host := "") (Or.inl (hw _ (List.mem_of_getElem? (i := 38) rfl))) Via.refl e170 pS4 (g := (mkF m 42 #[.val (.int q0), .val (.int ((q0 &&& (2147483647 : Int32)) % (29 : Int32))), .val (.ref (fw ((q0 &&& (2147483647 : Int32)) % (29 : Int32)))), .unset] [(.ref (fw ((q0 &&& (2147483647 : Int32)) % (29 : Int32))))])) rfl (hb hby at_42)
    have R175 : Rch p e below (s₁.setTop (entryFrame m #[(.int q0)] maxLocals)) T172 (mkF m 49 #[.val (.int q0), .val (.int ((q0 &&& (2147483647 : Int32)) % (29 : Int32))), .val (.ref (fw ((q0 &&& (2147483647 : Int32)) % (29 : Int32)))), .unset] [(.ref (fw ((q0 &&& (2147483647 : Int32)) % (29 : Int32))))]) := fun t k => by
      refine R173 t ?_
      refine st172 _ ?_
      show Steps p.tables e below (T172.setTop (mkF m 45 #[.val (.int q0), .val (.int ((q0 &&& (2147483647 : Int32)) % (29 : Int32))), .val (.ref (fw ((q0 &&& (2147483647 : Int32)) % (29 : Int32)))), .unset] [(.ref (fw (4 : Int32))), (.ref (fw ((q0 &&& (2147483647 : Int32)) % (29 : Int32))))])) t
      refine Jvm.RoadKit.acmp (g := (mkF m 45 #[.val (.int q0), .val (.int ((q0 &&& (2147483647 : Int32)) % (29 : Int32))), .val (.ref (fw ((q0 &&& (2147483647 : Int32)) % (29 : Int32)))), .unset] [(.ref (fw (4 : Int32))), (.ref (fw ((q0 &&& (2147483647 : Int32)) % (29 : Int32))))])) X172 hx rfl rfl rfl (pc0 := 45) (pc' := 48) (same := false) rfl (hb hby at_45) rfl (decide_eq_false (fun q => ((pO _ hok).ne (pO _ (by simp [own_ok] : own_ok (4 : Int32))) (fun hq => hn4 (Value.int.inj hq))) (Value.ref.inj q))) (by decide) (by decide) ?_
      show Steps p.tables e below (T172.setTop (mkF m 48 #[.val (.int q0), .val (.int ((q0 &&& (2147483647 : Int32)) % (29 : Int32))), .val (.ref (fw ((q0 &&& (2147483647 : Int32)) % (29 : Int32)))), .unset] [])) t
      refine XS.aloadN X172.here hx rfl (hb hby at_48) rfl rfl ?_
      exact k
    obtain ⟨T174, X174, e174, st174⟩ := getS2 X172 hx hZ hown (host := "") (Or.inl (hw _ (List.mem_of_getElem? (i := 40) rfl))) Via.refl e172 pS5 (g := (mkF m 49 #[.val (.int q0), .val (.int ((q0 &&& (2147483647 : Int32)) % (29 : Int32))), .val (.ref (fw ((q0 &&& (2147483647 : Int32)) % (29 : Int32)))), .unset] [(.ref (fw ((q0 &&& (2147483647 : Int32)) % (29 : Int32))))])) rfl (hb hby at_49)
    have R177 : Rch p e below (s₁.setTop (entryFrame m #[(.int q0)] maxLocals)) T174 (mkF m 56 #[.val (.int q0), .val (.int ((q0 &&& (2147483647 : Int32)) % (29 : Int32))), .val (.ref (fw ((q0 &&& (2147483647 : Int32)) % (29 : Int32)))), .unset] [(.ref (fw ((q0 &&& (2147483647 : Int32)) % (29 : Int32))))]) := fun t k => by
      refine R175 t ?_
      refine st174 _ ?_
      show Steps p.tables e below (T174.setTop (mkF m 52 #[.val (.int q0), .val (.int ((q0 &&& (2147483647 : Int32)) % (29 : Int32))), .val (.ref (fw ((q0 &&& (2147483647 : Int32)) % (29 : Int32)))), .unset] [(.ref (fw (5 : Int32))), (.ref (fw ((q0 &&& (2147483647 : Int32)) % (29 : Int32))))])) t
      refine Jvm.RoadKit.acmp (g := (mkF m 52 #[.val (.int q0), .val (.int ((q0 &&& (2147483647 : Int32)) % (29 : Int32))), .val (.ref (fw ((q0 &&& (2147483647 : Int32)) % (29 : Int32)))), .unset] [(.ref (fw (5 : Int32))), (.ref (fw ((q0 &&& (2147483647 : Int32)) % (29 : Int32))))])) X174 hx rfl rfl rfl (pc0 := 52) (pc' := 55) (same := false) rfl (hb hby at_52) rfl (decide_eq_false (fun q => ((pO _ hok).ne (pO _ (by simp [own_ok] : own_ok (5 : Int32))) (fun hq => hn5 (Value.int.inj hq))) (Value.ref.inj q))) (by decide) (by decide) ?_
      show Steps p.tables e below (T174.setTop (mkF m 55 #[.val (.int q0), .val (.int ((q0 &&& (2147483647 : Int32)) % (29 : Int32))), .val (.ref (fw ((q0 &&& (2147483647 : Int32)) % (29 : Int32)))), .unset] [])) t
      refine XS.aloadN X174.here hx rfl (hb hby at_55) rfl rfl ?_
      exact k
    obtain ⟨T176, X176, e176, st176⟩ := getS2 X174 hx hZ hown (host := "") (Or.inl (hw _ (List.mem_of_getElem? (i := 42) rfl))) Via.refl e174 pS6 (g := (mkF m 56 #[.val (.int q0), .val (.int ((q0 &&& (2147483647 : Int32)) % (29 : Int32))), .val (.ref (fw ((q0 &&& (2147483647 : Int32)) % (29 : Int32)))), .unset] [(.ref (fw ((q0 &&& (2147483647 : Int32)) % (29 : Int32))))])) rfl (hb hby at_56)
    have R179 : Rch p e below (s₁.setTop (entryFrame m #[(.int q0)] maxLocals)) T176 (mkF m 63 #[.val (.int q0), .val (.int ((q0 &&& (2147483647 : Int32)) % (29 : Int32))), .val (.ref (fw ((q0 &&& (2147483647 : Int32)) % (29 : Int32)))), .unset] [(.ref (fw ((q0 &&& (2147483647 : Int32)) % (29 : Int32))))]) := fun t k => by
      refine R177 t ?_
      refine st176 _ ?_
      show Steps p.tables e below (T176.setTop (mkF m 59 #[.val (.int q0), .val (.int ((q0 &&& (2147483647 : Int32)) % (29 : Int32))), .val (.ref (fw ((q0 &&& (2147483647 : Int32)) % (29 : Int32)))), .unset] [(.ref (fw (6 : Int32))), (.ref (fw ((q0 &&& (2147483647 : Int32)) % (29 : Int32))))])) t
      refine Jvm.RoadKit.acmp (g := (mkF m 59 #[.val (.int q0), .val (.int ((q0 &&& (2147483647 : Int32)) % (29 : Int32))), .val (.ref (fw ((q0 &&& (2147483647 : Int32)) % (29 : Int32)))), .unset] [(.ref (fw (6 : Int32))), (.ref (fw ((q0 &&& (2147483647 : Int32)) % (29 : Int32))))])) X176 hx rfl rfl rfl (pc0 := 59) (pc' := 62) (same := false) rfl (hb hby at_59) rfl (decide_eq_false (fun q => ((pO _ hok).ne (pO _ (by simp [own_ok] : own_ok (6 : Int32))) (fun hq => hn6 (Value.int.inj hq))) (Value.ref.inj q))) (by decide) (by decide) ?_
      show Steps p.tables e below (T176.setTop (mkF m 62 #[.val (.int q0), .val (.int ((q0 &&& (2147483647 : Int32)) % (29 : Int32))), .val (.ref (fw ((q0 &&& (2147483647 : Int32)) % (29 : Int32)))), .unset] [])) t
      refine XS.aloadN X176.here hx rfl (hb hby at_62) rfl rfl ?_
      exact k
    obtain ⟨T178, X178, e178, st178⟩ := getS2 X176 hx hZ hown (host := "") (Or.inl (hw _ (List.mem_of_getElem? (i := 44) rfl))) Via.refl e176 pS7 (g := (mkF m 63 #[.val (.int q0), .val (.int ((q0 &&& (2147483647 : Int32)) % (29 : Int32))), .val (.ref (fw ((q0 &&& (2147483647 : Int32)) % (29 : Int32)))), .unset] [(.ref (fw ((q0 &&& (2147483647 : Int32)) % (29 : Int32))))])) rfl (hb hby at_63)
    have R181 : Rch p e below (s₁.setTop (entryFrame m #[(.int q0)] maxLocals)) T178 (mkF m 70 #[.val (.int q0), .val (.int ((q0 &&& (2147483647 : Int32)) % (29 : Int32))), .val (.ref (fw ((q0 &&& (2147483647 : Int32)) % (29 : Int32)))), .unset] [(.ref (fw ((q0 &&& (2147483647 : Int32)) % (29 : Int32))))]) := fun t k => by
      refine R179 t ?_
      refine st178 _ ?_
      show Steps p.tables e below (T178.setTop (mkF m 66 #[.val (.int q0), .val (.int ((q0 &&& (2147483647 : Int32)) % (29 : Int32))), .val (.ref (fw ((q0 &&& (2147483647 : Int32)) % (29 : Int32)))), .unset] [(.ref (fw (7 : Int32))), (.ref (fw ((q0 &&& (2147483647 : Int32)) % (29 : Int32))))])) t
      refine Jvm.RoadKit.acmp (g := (mkF m 66 #[.val (.int q0), .val (.int ((q0 &&& (2147483647 : Int32)) % (29 : Int32))), .val (.ref (fw ((q0 &&& (2147483647 : Int32)) % (29 : Int32)))), .unset] [(.ref (fw (7 : Int32))), (.ref (fw ((q0 &&& (2147483647 : Int32)) % (29 : Int32))))])) X178 hx rfl rfl rfl (pc0 := 66) (pc' := 69) (same := false) rfl (hb hby at_66) rfl (decide_eq_false (fun q => ((pO _ hok).ne (pO _ (by simp [own_ok] : own_ok (7 : Int32))) (fun hq => hn7 (Value.int.inj hq))) (Value.ref.inj q))) (by decide) (by decide) ?_
      show Steps p.tables e below (T178.setTop (mkF m 69 #[.val (.int q0), .val (.int ((q0 &&& (2147483647 : Int32)) % (29 : Int32))), .val (.ref (fw ((q0 &&& (2147483647 : Int32)) % (29 : Int32)))), .unset] [])) t
      refine XS.aloadN X178.here hx rfl (hb hby at_69) rfl rfl ?_
      exact k
    obtain ⟨T180, X180, e180, st180⟩ := getS2 X178 hx hZ hown (host := "") (Or.inl (hw _ (List.mem_of_getElem? (i := 46) rfl))) Via.refl e178 pS8 (g := (mkF m 70 #[.val (.int q0), .val (.int ((q0 &&& (2147483647 : Int32)) % (29 : Int32))), .val (.ref (fw ((q0 &&& (2147483647 : Int32)) % (29 : Int32)))), .unset] [(.ref (fw ((q0 &&& (2147483647 : Int32)) % (29 : Int32))))])) rfl (hb hby at_70)
    have R183 : Rch p e below (s₁.setTop (entryFrame m #[(.int q0)] maxLocals)) T180 (mkF m 77 #[.val (.int q0), .val (.int ((q0 &&& (2147483647 : Int32)) % (29 : Int32))), .val (.ref (fw ((q0 &&& (2147483647 : Int32)) % (29 : Int32)))), .unset] [(.ref (fw ((q0 &&& (2147483647 : Int32)) % (29 : Int32))))]) := fun t k => by
      refine R181 t ?_
      refine st180 _ ?_
      show Steps p.tables e below (T180.setTop (mkF m 73 #[.val (.int q0), .val (.int ((q0 &&& (2147483647 : Int32)) % (29 : Int32))), .val (.ref (fw ((q0 &&& (2147483647 : Int32)) % (29 : Int32)))), .unset] [(.ref (fw (8 : Int32))), (.ref (fw ((q0 &&& (2147483647 : Int32)) % (29 : Int32))))])) t
      refine Jvm.RoadKit.acmp (g := (mkF m 73 #[.val (.int q0), .val (.int ((q0 &&& (2147483647 : Int32)) % (29 : Int32))), .val (.ref (fw ((q0 &&& (2147483647 : Int32)) % (29 : Int32)))), .unset] [(.ref (fw (8 : Int32))), (.ref (fw ((q0 &&& (2147483647 : Int32)) % (29 : Int32))))])) X180 hx rfl rfl rfl (pc0 := 73) (pc' := 76) (same := false) rfl (hb hby at_73) rfl (decide_eq_false (fun q => ((pO _ hok).ne (pO _ (by simp [own_ok] : own_ok (8 : Int32))) (fun hq => hn8 (Value.int.inj hq))) (Value.ref.inj q))) (by decide) (by decide) ?_
      show Steps p.tables e below (T180.setTop (mkF m 76 #[.val (.int q0), .val (.int ((q0 &&& (2147483647 : Int32)) % (29 : Int32))), .val (.ref (fw ((q0 &&& (2147483647 : Int32)) % (29 : Int32)))), .unset] [])) t
      refine XS.aloadN X180.here hx rfl (hb hby at_76) rfl rfl ?_
      exact k
    obtain ⟨T182, X182, e182, st182⟩ := getS2 X180 hx hZ hown (host := "") (Or.inl (hw _ (List.mem_of_getElem? (i := 48) rfl))) Via.refl e180 pS9 (g := (mkF m 77 #[.val (.int q0), .val (.int ((q0 &&& (2147483647 : Int32)) % (29 : Int32))), .val (.ref (fw ((q0 &&& (2147483647 : Int32)) % (29 : Int32)))), .unset] [(.ref (fw ((q0 &&& (2147483647 : Int32)) % (29 : Int32))))])) rfl (hb hby at_77)
    have R185 : Rch p e below (s₁.setTop (entryFrame m #[(.int q0)] maxLocals)) T182 (mkF m 90 #[.val (.int q0), .val (.int ((q0 &&& (2147483647 : Int32)) % (29 : Int32))), .val (.ref (fw ((q0 &&& (2147483647 : Int32)) % (29 : Int32)))), .val (.int (0 : Int32))] [(.ref (fw ((q0 &&& (2147483647 : Int32)) % (29 : Int32))))]) := fun t k => by
      refine R183 t ?_
      refine st182 _ ?_
      show Steps p.tables e below (T182.setTop (mkF m 80 #[.val (.int q0), .val (.int ((q0 &&& (2147483647 : Int32)) % (29 : Int32))), .val (.ref (fw ((q0 &&& (2147483647 : Int32)) % (29 : Int32)))), .unset] [(.ref (fw (9 : Int32))), (.ref (fw ((q0 &&& (2147483647 : Int32)) % (29 : Int32))))])) t
      refine Jvm.RoadKit.acmp (g := (mkF m 80 #[.val (.int q0), .val (.int ((q0 &&& (2147483647 : Int32)) % (29 : Int32))), .val (.ref (fw ((q0 &&& (2147483647 : Int32)) % (29 : Int32)))), .unset] [(.ref (fw (9 : Int32))), (.ref (fw ((q0 &&& (2147483647 : Int32)) % (29 : Int32))))])) X182 hx rfl rfl rfl (pc0 := 80) (pc' := 87) (same := false) rfl (hb hby at_80) rfl (decide_eq_false (fun q => ((pO _ hok).ne (pO _ (by simp [own_ok] : own_ok (9 : Int32))) (fun hq => hn9 (Value.int.inj hq))) (Value.ref.inj q))) (by decide) (by decide) ?_
      show Steps p.tables e below (T182.setTop (mkF m 87 #[.val (.int q0), .val (.int ((q0 &&& (2147483647 : Int32)) % (29 : Int32))), .val (.ref (fw ((q0 &&& (2147483647 : Int32)) % (29 : Int32)))), .unset] [])) t
      refine XS.iconst X182.here hx rfl (hb hby at_87) ?_
      show Steps p.tables e below (T182.setTop (mkF m 88 #[.val (.int q0), .val (.int ((q0 &&& (2147483647 : Int32)) % (29 : Int32))), .val (.ref (fw ((q0 &&& (2147483647 : Int32)) % (29 : Int32)))), .unset] [(.int (0 : Int32))])) t
      refine XS.istoreN X182.here hx rfl (hb hby at_88) rfl (l' := #[.val (.int q0), .val (.int ((q0 &&& (2147483647 : Int32)) % (29 : Int32))), .val (.ref (fw ((q0 &&& (2147483647 : Int32)) % (29 : Int32)))), .val (.int (0 : Int32))]) rfl ?_
      show Steps p.tables e below (T182.setTop (mkF m 89 #[.val (.int q0), .val (.int ((q0 &&& (2147483647 : Int32)) % (29 : Int32))), .val (.ref (fw ((q0 &&& (2147483647 : Int32)) % (29 : Int32)))), .val (.int (0 : Int32))] [])) t
      refine XS.aloadN X182.here hx rfl (hb hby at_89) rfl rfl ?_
      exact k
    obtain ⟨cq184, kq184, q184a, q184b, q184c⟩ := isOf hZ e182 (pE _ hok)
    obtain ⟨_, _, ⟨T184, L184, k184, n184⟩, -, X184, ⟨Lc184, hQ184, l184, y184, z184⟩, st184⟩ := X182.virtualBack hx (y := (⟨"com/example/assertion_to_token/assertiontotoken/rules/Rule", "holdsClientCredentials", "()Z"⟩ : MethodName)) (z := (⟨"com/example/assertion_to_token/assertiontotoken/rules/Rule", "holdsClientCredentials", "()Z"⟩ : MethodName)) hown (mvT hZ (hw _ (List.mem_of_getElem? (i := 8) rfl))) (mvT hZ (hw _ (List.mem_of_getElem? (i := 9) rfl))) (notFace_of_selects (args := #[]) (mvT hZ (hw _ (List.mem_of_getElem? (i := 11) rfl)))) (mvT hZ (hw _ (List.mem_of_getElem? (i := 11) rfl))) (mvT hZ (hw _ (List.mem_of_getElem? (i := 10) rfl))) (by decide) (backOf (W := 0) (rm2 l Z a0 hw [] (fw ((q0 &&& (2147483647 : Int32)) % (29 : Int32))) (fw (10 : Int32)) ((q0 &&& (2147483647 : Int32)) % (29 : Int32)) mr h0 n0 (Nat.le_trans Z0 K0.1) pS10 (pE _ hok) (pE _ (by simp [own_ok] : own_ok (10 : Int32))) (pO _ hok) (pO _ (by simp [own_ok] : own_ok (10 : Int32))) pM) hZ (hw _ (List.mem_of_getElem? (i := 12) rfl)) (hw _ (List.mem_of_getElem? (i := 6) rfl)) (by decide) (by decide)) q184a q184c (g := (mkF m 90 #[.val (.int q0), .val (.int ((q0 &&& (2147483647 : Int32)) % (29 : Int32))), .val (.ref (fw ((q0 &&& (2147483647 : Int32)) % (29 : Int32)))), .val (.int (0 : Int32))] [(.ref (fw ((q0 &&& (2147483647 : Int32)) % (29 : Int32))))])) rfl (by rw [hml]; rfl) (Steps.refl _) (argsL := []) (rest := []) (lenOf pd_2 rfl) rfl (by show 2 * 0 + _ ≤ _; exact Nat.le_of_eq rfl) (hb hby at_90) (fun _ _ => ⟨rfl, e182, (by decide : 0 + 0 ≤ _), (by decide : 0 + 0 ≤ _)⟩)
    dsimp only [Pt.U, Pt.locs, Pt.cells, Pt.slots] at X184 l184 y184 z184 st184 hQ184
    subst l184 y184 z184
    obtain ⟨rfl, N184q, e184⟩ := hQ184
    have N184 := Fr.app N162 N184q
    have hp184 : own_h ((q0 &&& (2147483647 : Int32)) % (29 : Int32)) = (0 : Int32) := hh0
    rw [hp184] at st184
    have R186 : Rch p e below (s₁.setTop (entryFrame m #[(.int q0)] maxLocals)) T184 (mkF m 102 #[.val (.int q0), .val (.int ((q0 &&& (2147483647 : Int32)) % (29 : Int32))), .val (.ref (fw ((q0 &&& (2147483647 : Int32)) % (29 : Int32)))), .val (.int (0 : Int32))] [(.int (1 : Int32))]) := fun t k => by
      refine R185 t ?_
      refine st184.trans ?_
      show Steps p.tables e below (T184.setTop (mkF m 93 #[.val (.int q0), .val (.int ((q0 &&& (2147483647 : Int32)) % (29 : Int32))), .val (.ref (fw ((q0 &&& (2147483647 : Int32)) % (29 : Int32)))), .val (.int (0 : Int32))] [(.int (0 : Int32))])) t
      refine XS.iloadN X184.here hx rfl (hb hby at_93) rfl ?_
      show Steps p.tables e below (T184.setTop (mkF m 94 #[.val (.int q0), .val (.int ((q0 &&& (2147483647 : Int32)) % (29 : Int32))), .val (.ref (fw ((q0 &&& (2147483647 : Int32)) % (29 : Int32)))), .val (.int (0 : Int32))] [(.int (0 : Int32)), (.int (0 : Int32))])) t
      refine XS.icmpNo X184.here hx rfl (hb hby at_94) rfl (teq (by decide : (0 : Int32) = (0 : Int32))).2 ?_
      show Steps p.tables e below (T184.setTop (mkF m 97 #[.val (.int q0), .val (.int ((q0 &&& (2147483647 : Int32)) % (29 : Int32))), .val (.ref (fw ((q0 &&& (2147483647 : Int32)) % (29 : Int32)))), .val (.int (0 : Int32))] [])) t
      refine XS.iconst X184.here hx rfl (hb hby at_97) ?_
      show Steps p.tables e below (T184.setTop (mkF m 98 #[.val (.int q0), .val (.int ((q0 &&& (2147483647 : Int32)) % (29 : Int32))), .val (.ref (fw ((q0 &&& (2147483647 : Int32)) % (29 : Int32)))), .val (.int (0 : Int32))] [(.int (1 : Int32))])) t
      refine XS.goto X184.here hx rfl (pc0 := 98) (pc' := 102) rfl (hb hby at_98) (by decide) (by decide) ?_
      exact k
    obtain ⟨fs, hr, hrun, hended, hW, hsame⟩ := X184.leave (v := some (.int (1 : Int32))) (fun h => by rw [Bd.returns] at h; cases h)
    refine ⟨_, _, R186 _ ?_, hrun, hended, _, _, rfl, ?_, ⟨_, rfl⟩, hW, hsame.mono (by decide) (by decide)⟩
    · exact retN X184 hx (t := .boolean) Bd.returns (by simp) (hb hby at_102) hr
    · show Q_rm0 Z q0 fw mr h0 n0 _ T184.heap _
      rw [e184]
      exact ⟨rfl, N184, rfl⟩
set_option maxRecDepth 65536 in
set_option maxHeartbeats 40000000 in
theorem comes_1 {Post : Tables → Env → Array Value → State → Outcome → State → Prop} (hpost : ∀ tb e args s v u, (limb_1_1.after args s (.returned v) u = true ∧ limb_1_2.after args s (.returned v) u = true ∧ True) → FrameEnd s (.returned v) u (Jvm.fieldLocs frame_1_writes args s ++ Jvm.arrayLocs frame_1_arrays args s ++ Jvm.staticLocs frame_1_statics s) 0 0 → Post tb e args s (.returned v) u) :
    ArmFor flags0 classFile x code maxLocals ret World_1 tables_1 room_1 Calls_1 rest_1 Pre_1 Post := by
  intro l hfl _ _ p e ha hc hk s m args below hf hA hF happ hP
  obtain ⟨hcalls, hrest, hpre⟩ := hP
  obtain ⟨-, -, -, hnamed, -, -, -, hat⟩ := (Spec.applies_iff hf).mp happ
  obtain ⟨hg, hn⟩ := and_e (Cond.before_iff.mp (show (Jvm.Cond.and given_1 narrow_1).before args s = true from hpre))
  obtain ⟨g0, g1⟩ := and_e hg
  obtain ⟨w0, rfl⟩ : ∃ w0 : Value, args = #[w0] := by
    have hs : args.size = 1 := by simpa [Cond.value, given_1] using g0
    obtain ⟨L⟩ := args
    match L, hs with
    | [w0], _ => exact ⟨w0, rfl⟩
  have hw := fun d (hd : d ∈ tables_1) => atoms_spec (ws := Jvm.Cond.code x code maxLocals ret :: tables_1) hat d (List.mem_cons_of_mem _ hd)
  have hfit : Fit s := fun {y c} hc i hi => by
    obtain ⟨ha, rfl⟩ := Array.getElem?_eq_some_iff.mp hc
    have q := List.all_eq_true.mp ((Array.all_eq_true_iff_forall_mem.mp hF) _ (Array.getElem_mem ha)) i (List.mem_range.mpr hi)
    simpa [Array.getElem?_eq_getElem hi] using q
  obtain ⟨i0, ei0⟩ := is_v g1
  obtain rfl : w0 = (.int i0) := Option.some.inj ei0
  obtain ⟨c0, hn0⟩ := and_e hn
  obtain ⟨c1, hn1⟩ := and_e hn0
  obtain ⟨c2, hn2⟩ := and_e hn1
  obtain ⟨c3, hn3⟩ := and_e hn2
  obtain ⟨c4, hn4⟩ := and_e hn3
  obtain ⟨c5, hn5⟩ := and_e hn4
  obtain ⟨c6, hn6⟩ := and_e hn5
  obtain ⟨c7, hn7⟩ := and_e hn6
  obtain ⟨c8, hn8⟩ := and_e hn7
  obtain ⟨c9, hn9⟩ := and_e hn8
  obtain ⟨c10, hn10⟩ := and_e hn9
  obtain ⟨c11, hn11⟩ := and_e hn10
  obtain ⟨c12, hn12⟩ := and_e hn11
  obtain ⟨c13, hn13⟩ := and_e hn12
  obtain ⟨c14, hn14⟩ := and_e hn13
  obtain ⟨c15, hn15⟩ := and_e hn14
  obtain ⟨c16, hn16⟩ := and_e hn15
  obtain ⟨c17, hn17⟩ := and_e hn16
  obtain ⟨c18, hn18⟩ := and_e hn17
  obtain ⟨c19, hn19⟩ := and_e hn18
  obtain ⟨c20, hn20⟩ := and_e hn19
  obtain ⟨c21, hn21⟩ := and_e hn20
  obtain ⟨c22, hn22⟩ := and_e hn21
  obtain ⟨c23, hn23⟩ := and_e hn22
  obtain ⟨c24, hn24⟩ := and_e hn23
  obtain ⟨c25, hn25⟩ := and_e hn24
  obtain ⟨c26, hn26⟩ := and_e hn25
  obtain ⟨c27, hn27⟩ := and_e hn26
  obtain ⟨c28, hn28⟩ := and_e hn27
  obtain ⟨c29, hn29⟩ := and_e hn28
  obtain ⟨c30, hn30⟩ := and_e hn29
  obtain ⟨c31, hn31⟩ := and_e hn30
  obtain ⟨c32, hn32⟩ := and_e hn31
  obtain ⟨c33, hn33⟩ := and_e hn32
  obtain ⟨c34, hn34⟩ := and_e hn33
  obtain ⟨c35, hn35⟩ := and_e hn34
  obtain ⟨c36, hn36⟩ := and_e hn35
  obtain ⟨c37, hn37⟩ := and_e hn36
  obtain ⟨c38, hn38⟩ := and_e hn37
  obtain ⟨c39, hn39⟩ := and_e hn38
  obtain ⟨c40, hn40⟩ := and_e hn39
  obtain ⟨c41, hn41⟩ := and_e hn40
  obtain ⟨c42, hn42⟩ := and_e hn41
  obtain ⟨c43, hn43⟩ := and_e hn42
  obtain ⟨c44, hn44⟩ := and_e hn43
  obtain ⟨c45, hn45⟩ := and_e hn44
  obtain ⟨c46, hn46⟩ := and_e hn45
  obtain ⟨c47, hn47⟩ := and_e hn46
  obtain ⟨c48, hn48⟩ := and_e hn47
  obtain ⟨c49, hn49⟩ := and_e hn48
  obtain ⟨c50, hn50⟩ := and_e hn49
  obtain ⟨c51, hn51⟩ := and_e hn50
  obtain ⟨c52, hn52⟩ := and_e hn51
  obtain ⟨c53, hn53⟩ := and_e hn52
  obtain ⟨c54, hn54⟩ := and_e hn53
  obtain ⟨c55, hn55⟩ := and_e hn54
  obtain ⟨c56, hn56⟩ := and_e hn55
  obtain ⟨v0, ev_v0⟩ := exa_v c0
  have E_v0 : Exa s s.heap v0 "com/example/assertion_to_token/assertiontotoken/rules/Rule" := Exa.start ev_v0 c0
  have S_v0 : Sta s s.heap "com/example/assertion_to_token/assertiontotoken/rules/Rule" "CLIENT" "Lcom/example/assertion_to_token/assertiontotoken/rules/Rule;" (.ref v0) := Sta.start ev_v0 (Or.inr ⟨(hw _ (List.mem_of_getElem? (i := 6) rfl)), (hw _ (List.mem_of_getElem? (i := 7) rfl))⟩)
  obtain ⟨v10, ev_v10⟩ := exa_v c1
  have E_v10 : Exa s s.heap v10 "com/example/assertion_to_token/assertiontotoken/rules/Rule" := Exa.start ev_v10 c1
  have S_v10 : Sta s s.heap "com/example/assertion_to_token/assertiontotoken/rules/Rule" "FORMAT" "Lcom/example/assertion_to_token/assertiontotoken/rules/Rule;" (.ref v10) := Sta.start ev_v10 (Or.inr ⟨(hw _ (List.mem_of_getElem? (i := 6) rfl)), (hw _ (List.mem_of_getElem? (i := 14) rfl))⟩)
  obtain ⟨v3, ev_v3⟩ := exa_v c4
  have E_v3 : Exa s s.heap v3 "com/example/assertion_to_token/assertiontotoken/rules/Rule" := Exa.start ev_v3 c4
  have S_v3 : Sta s s.heap "com/example/assertion_to_token/assertiontotoken/rules/Rule" "CLIENT_ALGORITHM" "Lcom/example/assertion_to_token/assertiontotoken/rules/Rule;" (.ref v3) := Sta.start ev_v3 (Or.inr ⟨(hw _ (List.mem_of_getElem? (i := 6) rfl)), (hw _ (List.mem_of_getElem? (i := 31) rfl))⟩)
  obtain ⟨v1, ev_v1⟩ := exa_v c6
  have E_v1 : Exa s s.heap v1 "com/example/assertion_to_token/assertiontotoken/rules/Rule" := Exa.start ev_v1 c6
  have S_v1 : Sta s s.heap "com/example/assertion_to_token/assertiontotoken/rules/Rule" "CLIENT_FORMAT" "Lcom/example/assertion_to_token/assertiontotoken/rules/Rule;" (.ref v1) := Sta.start ev_v1 (Or.inr ⟨(hw _ (List.mem_of_getElem? (i := 6) rfl)), (hw _ (List.mem_of_getElem? (i := 33) rfl))⟩)
  obtain ⟨v2, ev_v2⟩ := exa_v c8
  have E_v2 : Exa s s.heap v2 "com/example/assertion_to_token/assertiontotoken/rules/Rule" := Exa.start ev_v2 c8
  have S_v2 : Sta s s.heap "com/example/assertion_to_token/assertiontotoken/rules/Rule" "CLIENT_SUBJECT" "Lcom/example/assertion_to_token/assertiontotoken/rules/Rule;" (.ref v2) := Sta.start ev_v2 (Or.inr ⟨(hw _ (List.mem_of_getElem? (i := 6) rfl)), (hw _ (List.mem_of_getElem? (i := 35) rfl))⟩)
  obtain ⟨v23, ev_v23⟩ := exa_v c10
  have E_v23 : Exa s s.heap v23 "com/example/assertion_to_token/assertiontotoken/rules/Rule" := Exa.start ev_v23 c10
  have S_v23 : Sta s s.heap "com/example/assertion_to_token/assertiontotoken/rules/Rule" "NOT_BEFORE" "Lcom/example/assertion_to_token/assertiontotoken/rules/Rule;" (.ref v23) := Sta.start ev_v23 (Or.inr ⟨(hw _ (List.mem_of_getElem? (i := 6) rfl)), (hw _ (List.mem_of_getElem? (i := 37) rfl))⟩)
  obtain ⟨v4, ev_v4⟩ := exa_v c12
  have E_v4 : Exa s s.heap v4 "com/example/assertion_to_token/assertiontotoken/rules/Rule" := Exa.start ev_v4 c12
  have S_v4 : Sta s s.heap "com/example/assertion_to_token/assertiontotoken/rules/Rule" "CLIENT_SIGNATURE" "Lcom/example/assertion_to_token/assertiontotoken/rules/Rule;" (.ref v4) := Sta.start ev_v4 (Or.inr ⟨(hw _ (List.mem_of_getElem? (i := 6) rfl)), (hw _ (List.mem_of_getElem? (i := 39) rfl))⟩)
  obtain ⟨v5, ev_v5⟩ := exa_v c14
  have E_v5 : Exa s s.heap v5 "com/example/assertion_to_token/assertiontotoken/rules/Rule" := Exa.start ev_v5 c14
  have S_v5 : Sta s s.heap "com/example/assertion_to_token/assertiontotoken/rules/Rule" "CLIENT_AUDIENCE" "Lcom/example/assertion_to_token/assertiontotoken/rules/Rule;" (.ref v5) := Sta.start ev_v5 (Or.inr ⟨(hw _ (List.mem_of_getElem? (i := 6) rfl)), (hw _ (List.mem_of_getElem? (i := 41) rfl))⟩)
  obtain ⟨v6, ev_v6⟩ := exa_v c16
  have E_v6 : Exa s s.heap v6 "com/example/assertion_to_token/assertiontotoken/rules/Rule" := Exa.start ev_v6 c16
  have S_v6 : Sta s s.heap "com/example/assertion_to_token/assertiontotoken/rules/Rule" "CLIENT_EXPIRY" "Lcom/example/assertion_to_token/assertiontotoken/rules/Rule;" (.ref v6) := Sta.start ev_v6 (Or.inr ⟨(hw _ (List.mem_of_getElem? (i := 6) rfl)), (hw _ (List.mem_of_getElem? (i := 43) rfl))⟩)
  obtain ⟨v7, ev_v7⟩ := exa_v c18
  have E_v7 : Exa s s.heap v7 "com/example/assertion_to_token/assertiontotoken/rules/Rule" := Exa.start ev_v7 c18
  have S_v7 : Sta s s.heap "com/example/assertion_to_token/assertiontotoken/rules/Rule" "CLIENT_JTI" "Lcom/example/assertion_to_token/assertiontotoken/rules/Rule;" (.ref v7) := Sta.start ev_v7 (Or.inr ⟨(hw _ (List.mem_of_getElem? (i := 6) rfl)), (hw _ (List.mem_of_getElem? (i := 45) rfl))⟩)
  obtain ⟨v8, ev_v8⟩ := exa_v c20
  have E_v8 : Exa s s.heap v8 "com/example/assertion_to_token/assertiontotoken/rules/Rule" := Exa.start ev_v8 c20
  have S_v8 : Sta s s.heap "com/example/assertion_to_token/assertiontotoken/rules/Rule" "CLIENT_ID" "Lcom/example/assertion_to_token/assertiontotoken/rules/Rule;" (.ref v8) := Sta.start ev_v8 (Or.inr ⟨(hw _ (List.mem_of_getElem? (i := 6) rfl)), (hw _ (List.mem_of_getElem? (i := 47) rfl))⟩)
  obtain ⟨v9, ev_v9⟩ := exa_v c22
  have E_v9 : Exa s s.heap v9 "com/example/assertion_to_token/assertiontotoken/rules/Rule" := Exa.start ev_v9 c22
  have S_v9 : Sta s s.heap "com/example/assertion_to_token/assertiontotoken/rules/Rule" "CLIENT_REPLAY" "Lcom/example/assertion_to_token/assertiontotoken/rules/Rule;" (.ref v9) := Sta.start ev_v9 (Or.inr ⟨(hw _ (List.mem_of_getElem? (i := 6) rfl)), (hw _ (List.mem_of_getElem? (i := 49) rfl))⟩)
  obtain ⟨v20, ev_v20⟩ := exa_v c24
  have E_v20 : Exa s s.heap v20 "com/example/assertion_to_token/assertiontotoken/rules/Rule" := Exa.start ev_v20 c24
  have S_v20 : Sta s s.heap "com/example/assertion_to_token/assertiontotoken/rules/Rule" "SUBJECT_NOT_ALLOWED" "Lcom/example/assertion_to_token/assertiontotoken/rules/Rule;" (.ref v20) := Sta.start ev_v20 (Or.inr ⟨(hw _ (List.mem_of_getElem? (i := 6) rfl)), (hw _ (List.mem_of_getElem? (i := 51) rfl))⟩)
  obtain ⟨v16, ev_v16⟩ := exa_v c26
  have E_v16 : Exa s s.heap v16 "com/example/assertion_to_token/assertiontotoken/rules/Rule" := Exa.start ev_v16 c26
  have S_v16 : Sta s s.heap "com/example/assertion_to_token/assertiontotoken/rules/Rule" "KEY_SOURCE" "Lcom/example/assertion_to_token/assertiontotoken/rules/Rule;" (.ref v16) := Sta.start ev_v16 (Or.inr ⟨(hw _ (List.mem_of_getElem? (i := 6) rfl)), (hw _ (List.mem_of_getElem? (i := 53) rfl))⟩)
  obtain ⟨v11, ev_v11⟩ := exa_v c28
  have E_v11 : Exa s s.heap v11 "com/example/assertion_to_token/assertiontotoken/rules/Rule" := Exa.start ev_v11 c28
  have S_v11 : Sta s s.heap "com/example/assertion_to_token/assertiontotoken/rules/Rule" "ISSUER" "Lcom/example/assertion_to_token/assertiontotoken/rules/Rule;" (.ref v11) := Sta.start ev_v11 (Or.inr ⟨(hw _ (List.mem_of_getElem? (i := 6) rfl)), (hw _ (List.mem_of_getElem? (i := 55) rfl))⟩)
  obtain ⟨v27, ev_v27⟩ := exa_v c30
  have E_v27 : Exa s s.heap v27 "com/example/assertion_to_token/assertiontotoken/rules/Rule" := Exa.start ev_v27 c30
  have S_v27 : Sta s s.heap "com/example/assertion_to_token/assertiontotoken/rules/Rule" "SCOPE" "Lcom/example/assertion_to_token/assertiontotoken/rules/Rule;" (.ref v27) := Sta.start ev_v27 (Or.inr ⟨(hw _ (List.mem_of_getElem? (i := 6) rfl)), (hw _ (List.mem_of_getElem? (i := 57) rfl))⟩)
  obtain ⟨v28, ev_v28⟩ := exa_v c32
  have E_v28 : Exa s s.heap v28 "com/example/assertion_to_token/assertiontotoken/rules/Rule" := Exa.start ev_v28 c32
  have S_v28 : Sta s s.heap "com/example/assertion_to_token/assertiontotoken/rules/Rule" "REPLAY" "Lcom/example/assertion_to_token/assertiontotoken/rules/Rule;" (.ref v28) := Sta.start ev_v28 (Or.inr ⟨(hw _ (List.mem_of_getElem? (i := 6) rfl)), (hw _ (List.mem_of_getElem? (i := 59) rfl))⟩)
  obtain ⟨v25, ev_v25⟩ := exa_v c34
  have E_v25 : Exa s s.heap v25 "com/example/assertion_to_token/assertiontotoken/rules/Rule" := Exa.start ev_v25 c34
  have S_v25 : Sta s s.heap "com/example/assertion_to_token/assertiontotoken/rules/Rule" "LIFETIME" "Lcom/example/assertion_to_token/assertiontotoken/rules/Rule;" (.ref v25) := Sta.start ev_v25 (Or.inr ⟨(hw _ (List.mem_of_getElem? (i := 6) rfl)), (hw _ (List.mem_of_getElem? (i := 61) rfl))⟩)
  obtain ⟨v24, ev_v24⟩ := exa_v c36
  have E_v24 : Exa s s.heap v24 "com/example/assertion_to_token/assertiontotoken/rules/Rule" := Exa.start ev_v24 c36
  have S_v24 : Sta s s.heap "com/example/assertion_to_token/assertiontotoken/rules/Rule" "ISSUED_AT" "Lcom/example/assertion_to_token/assertiontotoken/rules/Rule;" (.ref v24) := Sta.start ev_v24 (Or.inr ⟨(hw _ (List.mem_of_getElem? (i := 6) rfl)), (hw _ (List.mem_of_getElem? (i := 64) rfl))⟩)
  obtain ⟨v19, ev_v19⟩ := exa_v c38
  have E_v19 : Exa s s.heap v19 "com/example/assertion_to_token/assertiontotoken/rules/Rule" := Exa.start ev_v19 c38
  have S_v19 : Sta s s.heap "com/example/assertion_to_token/assertiontotoken/rules/Rule" "SUBJECT" "Lcom/example/assertion_to_token/assertiontotoken/rules/Rule;" (.ref v19) := Sta.start ev_v19 (Or.inr ⟨(hw _ (List.mem_of_getElem? (i := 6) rfl)), (hw _ (List.mem_of_getElem? (i := 66) rfl))⟩)
  obtain ⟨v15, ev_v15⟩ := exa_v c40
  have E_v15 : Exa s s.heap v15 "com/example/assertion_to_token/assertiontotoken/rules/Rule" := Exa.start ev_v15 c40
  have S_v15 : Sta s s.heap "com/example/assertion_to_token/assertiontotoken/rules/Rule" "ALGORITHM" "Lcom/example/assertion_to_token/assertiontotoken/rules/Rule;" (.ref v15) := Sta.start ev_v15 (Or.inr ⟨(hw _ (List.mem_of_getElem? (i := 6) rfl)), (hw _ (List.mem_of_getElem? (i := 68) rfl))⟩)
  obtain ⟨v14, ev_v14⟩ := exa_v c42
  have E_v14 : Exa s s.heap v14 "com/example/assertion_to_token/assertiontotoken/rules/Rule" := Exa.start ev_v14 c42
  have S_v14 : Sta s s.heap "com/example/assertion_to_token/assertiontotoken/rules/Rule" "TRUST_EXPIRED" "Lcom/example/assertion_to_token/assertiontotoken/rules/Rule;" (.ref v14) := Sta.start ev_v14 (Or.inr ⟨(hw _ (List.mem_of_getElem? (i := 6) rfl)), (hw _ (List.mem_of_getElem? (i := 70) rfl))⟩)
  obtain ⟨v18, ev_v18⟩ := exa_v c44
  have E_v18 : Exa s s.heap v18 "com/example/assertion_to_token/assertiontotoken/rules/Rule" := Exa.start ev_v18 c44
  have S_v18 : Sta s s.heap "com/example/assertion_to_token/assertiontotoken/rules/Rule" "SIGNATURE" "Lcom/example/assertion_to_token/assertiontotoken/rules/Rule;" (.ref v18) := Sta.start ev_v18 (Or.inr ⟨(hw _ (List.mem_of_getElem? (i := 6) rfl)), (hw _ (List.mem_of_getElem? (i := 72) rfl))⟩)
  obtain ⟨v22, ev_v22⟩ := exa_v c46
  have E_v22 : Exa s s.heap v22 "com/example/assertion_to_token/assertiontotoken/rules/Rule" := Exa.start ev_v22 c46
  have S_v22 : Sta s s.heap "com/example/assertion_to_token/assertiontotoken/rules/Rule" "EXPIRY" "Lcom/example/assertion_to_token/assertiontotoken/rules/Rule;" (.ref v22) := Sta.start ev_v22 (Or.inr ⟨(hw _ (List.mem_of_getElem? (i := 6) rfl)), (hw _ (List.mem_of_getElem? (i := 74) rfl))⟩)
  obtain ⟨v12, ev_v12⟩ := exa_v c48
  have E_v12 : Exa s s.heap v12 "com/example/assertion_to_token/assertiontotoken/rules/Rule" := Exa.start ev_v12 c48
  have S_v12 : Sta s s.heap "com/example/assertion_to_token/assertiontotoken/rules/Rule" "CLIENT_REQUIRED" "Lcom/example/assertion_to_token/assertiontotoken/rules/Rule;" (.ref v12) := Sta.start ev_v12 (Or.inr ⟨(hw _ (List.mem_of_getElem? (i := 6) rfl)), (hw _ (List.mem_of_getElem? (i := 76) rfl))⟩)
  obtain ⟨v17, ev_v17⟩ := exa_v c50
  have E_v17 : Exa s s.heap v17 "com/example/assertion_to_token/assertiontotoken/rules/Rule" := Exa.start ev_v17 c50
  have S_v17 : Sta s s.heap "com/example/assertion_to_token/assertiontotoken/rules/Rule" "KEY" "Lcom/example/assertion_to_token/assertiontotoken/rules/Rule;" (.ref v17) := Sta.start ev_v17 (Or.inr ⟨(hw _ (List.mem_of_getElem? (i := 6) rfl)), (hw _ (List.mem_of_getElem? (i := 78) rfl))⟩)
  obtain ⟨v13, ev_v13⟩ := exa_v c52
  have E_v13 : Exa s s.heap v13 "com/example/assertion_to_token/assertiontotoken/rules/Rule" := Exa.start ev_v13 c52
  have S_v13 : Sta s s.heap "com/example/assertion_to_token/assertiontotoken/rules/Rule" "CLIENT_NOT_ALLOWED" "Lcom/example/assertion_to_token/assertiontotoken/rules/Rule;" (.ref v13) := Sta.start ev_v13 (Or.inr ⟨(hw _ (List.mem_of_getElem? (i := 6) rfl)), (hw _ (List.mem_of_getElem? (i := 80) rfl))⟩)
  obtain ⟨v21, ev_v21⟩ := exa_v c54
  have E_v21 : Exa s s.heap v21 "com/example/assertion_to_token/assertiontotoken/rules/Rule" := Exa.start ev_v21 c54
  have S_v21 : Sta s s.heap "com/example/assertion_to_token/assertiontotoken/rules/Rule" "AUDIENCE" "Lcom/example/assertion_to_token/assertiontotoken/rules/Rule;" (.ref v21) := Sta.start ev_v21 (Or.inr ⟨(hw _ (List.mem_of_getElem? (i := 6) rfl)), (hw _ (List.mem_of_getElem? (i := 82) rfl))⟩)
  obtain ⟨v26, ev_v26⟩ := exa_v c56
  have E_v26 : Exa s s.heap v26 "com/example/assertion_to_token/assertiontotoken/rules/Rule" := Exa.start ev_v26 c56
  have S_v26 : Sta s s.heap "com/example/assertion_to_token/assertiontotoken/rules/Rule" "JTI" "Lcom/example/assertion_to_token/assertiontotoken/rules/Rule;" (.ref v26) := Sta.start ev_v26 (Or.inr ⟨(hw _ (List.mem_of_getElem? (i := 6) rfl)), (hw _ (List.mem_of_getElem? (i := 84) rfl))⟩)
  have F_v0_ordinal : Fld s s.heap v0 "java/lang/Enum" "ordinal" "I" (.int (0 : Int32)) := Fld.start ((fld_at ev_v0).symm.trans (own_eq_int c2))
  have F_v10_ordinal : Fld s s.heap v10 "java/lang/Enum" "ordinal" "I" (.int (10 : Int32)) := Fld.start ((fld_at ev_v10).symm.trans (own_eq_int c3))
  have F_v3_ordinal : Fld s s.heap v3 "java/lang/Enum" "ordinal" "I" (.int (3 : Int32)) := Fld.start ((fld_at ev_v3).symm.trans (own_eq_int c5))
  have F_v1_ordinal : Fld s s.heap v1 "java/lang/Enum" "ordinal" "I" (.int (1 : Int32)) := Fld.start ((fld_at ev_v1).symm.trans (own_eq_int c7))
  have F_v2_ordinal : Fld s s.heap v2 "java/lang/Enum" "ordinal" "I" (.int (2 : Int32)) := Fld.start ((fld_at ev_v2).symm.trans (own_eq_int c9))
  have F_v23_ordinal : Fld s s.heap v23 "java/lang/Enum" "ordinal" "I" (.int (23 : Int32)) := Fld.start ((fld_at ev_v23).symm.trans (own_eq_int c11))
  have F_v4_ordinal : Fld s s.heap v4 "java/lang/Enum" "ordinal" "I" (.int (4 : Int32)) := Fld.start ((fld_at ev_v4).symm.trans (own_eq_int c13))
  have F_v5_ordinal : Fld s s.heap v5 "java/lang/Enum" "ordinal" "I" (.int (5 : Int32)) := Fld.start ((fld_at ev_v5).symm.trans (own_eq_int c15))
  have F_v6_ordinal : Fld s s.heap v6 "java/lang/Enum" "ordinal" "I" (.int (6 : Int32)) := Fld.start ((fld_at ev_v6).symm.trans (own_eq_int c17))
  have F_v7_ordinal : Fld s s.heap v7 "java/lang/Enum" "ordinal" "I" (.int (7 : Int32)) := Fld.start ((fld_at ev_v7).symm.trans (own_eq_int c19))
  have F_v8_ordinal : Fld s s.heap v8 "java/lang/Enum" "ordinal" "I" (.int (8 : Int32)) := Fld.start ((fld_at ev_v8).symm.trans (own_eq_int c21))
  have F_v9_ordinal : Fld s s.heap v9 "java/lang/Enum" "ordinal" "I" (.int (9 : Int32)) := Fld.start ((fld_at ev_v9).symm.trans (own_eq_int c23))
  have F_v20_ordinal : Fld s s.heap v20 "java/lang/Enum" "ordinal" "I" (.int (20 : Int32)) := Fld.start ((fld_at ev_v20).symm.trans (own_eq_int c25))
  have F_v16_ordinal : Fld s s.heap v16 "java/lang/Enum" "ordinal" "I" (.int (16 : Int32)) := Fld.start ((fld_at ev_v16).symm.trans (own_eq_int c27))
  have F_v11_ordinal : Fld s s.heap v11 "java/lang/Enum" "ordinal" "I" (.int (11 : Int32)) := Fld.start ((fld_at ev_v11).symm.trans (own_eq_int c29))
  have F_v27_ordinal : Fld s s.heap v27 "java/lang/Enum" "ordinal" "I" (.int (27 : Int32)) := Fld.start ((fld_at ev_v27).symm.trans (own_eq_int c31))
  have F_v28_ordinal : Fld s s.heap v28 "java/lang/Enum" "ordinal" "I" (.int (28 : Int32)) := Fld.start ((fld_at ev_v28).symm.trans (own_eq_int c33))
  have F_v25_ordinal : Fld s s.heap v25 "java/lang/Enum" "ordinal" "I" (.int (25 : Int32)) := Fld.start ((fld_at ev_v25).symm.trans (own_eq_int c35))
  have F_v24_ordinal : Fld s s.heap v24 "java/lang/Enum" "ordinal" "I" (.int (24 : Int32)) := Fld.start ((fld_at ev_v24).symm.trans (own_eq_int c37))
  have F_v19_ordinal : Fld s s.heap v19 "java/lang/Enum" "ordinal" "I" (.int (19 : Int32)) := Fld.start ((fld_at ev_v19).symm.trans (own_eq_int c39))
  have F_v15_ordinal : Fld s s.heap v15 "java/lang/Enum" "ordinal" "I" (.int (15 : Int32)) := Fld.start ((fld_at ev_v15).symm.trans (own_eq_int c41))
  have F_v14_ordinal : Fld s s.heap v14 "java/lang/Enum" "ordinal" "I" (.int (14 : Int32)) := Fld.start ((fld_at ev_v14).symm.trans (own_eq_int c43))
  have F_v18_ordinal : Fld s s.heap v18 "java/lang/Enum" "ordinal" "I" (.int (18 : Int32)) := Fld.start ((fld_at ev_v18).symm.trans (own_eq_int c45))
  have F_v22_ordinal : Fld s s.heap v22 "java/lang/Enum" "ordinal" "I" (.int (22 : Int32)) := Fld.start ((fld_at ev_v22).symm.trans (own_eq_int c47))
  have F_v12_ordinal : Fld s s.heap v12 "java/lang/Enum" "ordinal" "I" (.int (12 : Int32)) := Fld.start ((fld_at ev_v12).symm.trans (own_eq_int c49))
  have F_v17_ordinal : Fld s s.heap v17 "java/lang/Enum" "ordinal" "I" (.int (17 : Int32)) := Fld.start ((fld_at ev_v17).symm.trans (own_eq_int c51))
  have F_v13_ordinal : Fld s s.heap v13 "java/lang/Enum" "ordinal" "I" (.int (13 : Int32)) := Fld.start ((fld_at ev_v13).symm.trans (own_eq_int c53))
  have F_v21_ordinal : Fld s s.heap v21 "java/lang/Enum" "ordinal" "I" (.int (21 : Int32)) := Fld.start ((fld_at ev_v21).symm.trans (own_eq_int c55))
  have F_v26_ordinal : Fld s s.heap v26 "java/lang/Enum" "ordinal" "I" (.int (26 : Int32)) := Fld.start ((fld_at ev_v26).symm.trans (own_eq_int hn56))
  obtain ⟨⟨mc, mk, mr, hm1, hm2, hm3⟩, -⟩ := hcalls
  obtain ⟨fw, hfw⟩ : ∃ fw : Int32 → Addr, fw (0 : Int32) = v0 ∧ fw (1 : Int32) = v1 ∧ fw (2 : Int32) = v2 ∧ fw (3 : Int32) = v3 ∧ fw (4 : Int32) = v4 ∧ fw (5 : Int32) = v5 ∧ fw (6 : Int32) = v6 ∧ fw (7 : Int32) = v7 ∧ fw (8 : Int32) = v8 ∧ fw (9 : Int32) = v9 ∧ fw (10 : Int32) = v10 ∧ fw (11 : Int32) = v11 ∧ fw (12 : Int32) = v12 ∧ fw (13 : Int32) = v13 ∧ fw (14 : Int32) = v14 ∧ fw (15 : Int32) = v15 ∧ fw (16 : Int32) = v16 ∧ fw (17 : Int32) = v17 ∧ fw (18 : Int32) = v18 ∧ fw (19 : Int32) = v19 ∧ fw (20 : Int32) = v20 ∧ fw (21 : Int32) = v21 ∧ fw (22 : Int32) = v22 ∧ fw (23 : Int32) = v23 ∧ fw (24 : Int32) = v24 ∧ fw (25 : Int32) = v25 ∧ fw (26 : Int32) = v26 ∧ fw (27 : Int32) = v27 ∧ fw (28 : Int32) = v28 := ⟨fun i => if i = 0 then v0 else if i = 1 then v1 else if i = 2 then v2 else if i = 3 then v3 else if i = 4 then v4 else if i = 5 then v5 else if i = 6 then v6 else if i = 7 then v7 else if i = 8 then v8 else if i = 9 then v9 else if i = 10 then v10 else if i = 11 then v11 else if i = 12 then v12 else if i = 13 then v13 else if i = 14 then v14 else if i = 15 then v15 else if i = 16 then v16 else if i = 17 then v17 else if i = 18 then v18 else if i = 19 then v19 else if i = 20 then v20 else if i = 21 then v21 else if i = 22 then v22 else if i = 23 then v23 else if i = 24 then v24 else if i = 25 then v25 else if i = 26 then v26 else if i = 27 then v27 else v28, by simp, by simp, by simp, by simp, by simp, by simp, by simp, by simp, by simp, by simp, by simp, by simp, by simp, by simp, by simp, by simp, by simp, by simp, by simp, by simp, by simp, by simp, by simp, by simp, by simp, by simp, by simp, by simp, by simp⟩
  obtain ⟨hv0, hv1, hv2, hv3, hv4, hv5, hv6, hv7, hv8, hv9, hv10, hv11, hv12, hv13, hv14, hv15, hv16, hv17, hv18, hv19, hv20, hv21, hv22, hv23, hv24, hv25, hv26, hv27, hv28⟩ := hfw
  obtain ⟨n, o, h1, h2, h3, _, L, rfl, ⟨rfl, N, -⟩, hq⟩ := rm0 l s _ hw tables_1 i0 fw mr s.heap s.heap.size (Nat.le_refl _) (hv0.symm ▸ S_v0) (hv1.symm ▸ S_v1) (hv2.symm ▸ S_v2) (hv3.symm ▸ S_v3) (hv4.symm ▸ S_v4) (hv5.symm ▸ S_v5) (hv6.symm ▸ S_v6) (hv7.symm ▸ S_v7) (hv8.symm ▸ S_v8) (hv9.symm ▸ S_v9) (hv10.symm ▸ S_v10) (hv11.symm ▸ S_v11) (hv12.symm ▸ S_v12) (hv13.symm ▸ S_v13) (hv14.symm ▸ S_v14) (hv15.symm ▸ S_v15) (hv16.symm ▸ S_v16) (hv17.symm ▸ S_v17) (hv18.symm ▸ S_v18) (hv19.symm ▸ S_v19) (hv20.symm ▸ S_v20) (hv21.symm ▸ S_v21) (hv22.symm ▸ S_v22) (hv23.symm ▸ S_v23) (hv24.symm ▸ S_v24) (hv25.symm ▸ S_v25) (hv26.symm ▸ S_v26) (hv27.symm ▸ S_v27) (hv28.symm ▸ S_v28) (by rintro k (rfl | rfl | rfl | rfl | rfl | rfl | rfl | rfl | rfl | rfl | rfl | rfl | rfl | rfl | rfl | rfl | rfl | rfl | rfl | rfl | rfl | rfl | rfl | rfl | rfl | rfl | rfl | rfl | rfl) <;> simp only [hv0, hv1, hv2, hv3, hv4, hv5, hv6, hv7, hv8, hv9, hv10, hv11, hv12, hv13, hv14, hv15, hv16, hv17, hv18, hv19, hv20, hv21, hv22, hv23, hv24, hv25, hv26, hv27, hv28] <;> assumption) (by rintro k (rfl | rfl | rfl | rfl | rfl | rfl | rfl | rfl | rfl | rfl | rfl | rfl | rfl | rfl | rfl | rfl | rfl | rfl | rfl | rfl | rfl | rfl | rfl | rfl | rfl | rfl | rfl | rfl | rfl) <;> simp only [hv0, hv1, hv2, hv3, hv4, hv5, hv6, hv7, hv8, hv9, hv10, hv11, hv12, hv13, hv14, hv15, hv16, hv17, hv18, hv19, hv20, hv21, hv22, hv23, hv24, hv25, hv26, hv27, hv28] <;> assumption) ⟨mc, mk, hm1, hm2, hm3.1⟩ p e ha hc hk s m _ below hf ((Spec.applies_iff_loose hf).mp happ).1 ⟨rfl, State.Warmed39.refl s, rfl⟩ trivial
  refine ⟨n, _, h1, h2, h3, hpost _ _ _ _ _ _ ⟨Cond.after_iff.mpr rfl, Cond.after_iff.mpr (eq_i res_at (Term.int_eval (1)) rfl), trivial⟩ ⟨hq.1, hq.2.1, (hq.2.2.sift fun y hy => Or.inr (N y hy)).mono (by decide) (by decide)⟩⟩
theorem main_1_1 : Claimed_1_1 := comes_1 fun _ _ _ _ _ _ h hF => ⟨h.1, hF⟩
theorem main_1_2 : Claimed_1_2 := comes_1 fun _ _ _ _ _ _ h hF => ⟨h.2.1, hF⟩
end Jvm.Pilot.@@N@@
namespace Jvm.Pilot.@@N@@
open Jvm Jvm.ClassFile Sem Op Lib Jvm.Free Jvm.Stand Jvm.Pilot.@@N@@.Jvm.D
/-! MADE BY PROGRAM (witnessworld.py) out of the Statement's table words and the real class files: 13 classes; the members and pool entries that the words name. The judged class is class 1, her method 1. -/
namespace start1
open Jvm.ClassFile
def u (s : String) : CpInfo := .utf8 (stringToUtf16 s)
/-- a pool by its gaps: so many unusable entries, then the entry; so many at the end -/
def gap : Nat → List CpInfo → List CpInfo
  | 0, r => r
  | n + 1, r => .unusable :: gap n r
def poolList (es : List (Nat × CpInfo)) (last : Nat) : List CpInfo := es.foldr (fun e r => gap e.1 (e.2 :: r)) (gap last [])
def pool (es : List (Nat × CpInfo)) (last : Nat) : Array CpInfo := ⟨poolList es last⟩
def fileOf (pool : Array CpInfo) (this : Nat) (attrs : Array Attribute := #[]) (ms : Array MethodInfo := #[]) (fl : Nat := 33) (sup : Nat := 0) (ifs : Array Nat := #[]) (fds : Array FieldInfo := #[]) : ClassFile where
  minorVersion := 0
  majorVersion := 65
  constantPool := pool
  accessFlags := fl
  thisClass := this
  superClass := sup
  interfaces := ifs
  fields := fds
  methods := ms
  attributes := attrs
def plain (name : String) (sup : Option ClassId) : Class where
  name := name
  kind := .ordinary
  loader := none
  accessFlags := 33
  super := sup
  interfaces := #[]
  cf := none
  fields := #[]
  methods := #[]
  instanceTypes := #[]
  staticTypes := #[]
  resolved := #[]
  callSites := []
  init := .initialized
  statics := none
  mirror := none

def pool0 : Array CpInfo := pool [(5, u "<init>"), (0, u "()V"), (1, .class_ 10), (1, u "java/lang/Object"), (0, u "getClass"), (0, u "()Ljava/lang/Class;")] 111

def k0m0 : Method := { name := "<init>", desc := "()V", sig := { parameters := [], returnType := none }, accessFlags := 1, code := none }
def k0m1 : Method := { name := "getClass", desc := "()Ljava/lang/Class;", sig := { parameters := [], returnType := some (.object "java/lang/Class") }, accessFlags := 273, code := none }
/-- java/lang/Object -/
def k0 : Class := { plain "java/lang/Object" none with
  accessFlags := 33
  interfaces := #[]
  cf := some (fileOf pool0 8 #[] #[{ accessFlags := 1, nameIndex := 5, descriptorIndex := 6, attributes := #[] }, { accessFlags := 273, nameIndex := 11, descriptorIndex := 12, attributes := #[] }] 33 0 #[] #[])
  fields := #[]
  methods := #[k0m0, k0m1]
  instanceTypes := #[]
  staticTypes := #[]
  resolved := Array.replicate 124 none
  statics := none }

def pool1 : Array CpInfo := pool [(2, .class_ 4), (1, u "java/lang/Object"), (0, u "<init>"), (0, u "()V"), (0, .integer 2147483647), (0, .methodref 9 10), (0, .class_ 11), (0, .nameAndType 12 13), (0, u "com/example/assertion_to_token/assertiontotoken/rules/RuleHoldsClientCredentialsPinLaw"), (0, u "pick"), (0, u "(I)Lcom/example/assertion_to_token/assertiontotoken/rules/Rule;"), (0, .fieldref 15 16), (0, .class_ 17), (0, .nameAndType 18 19), (0, u "com/example/assertion_to_token/assertiontotoken/rules/Rule"), (0, u "CLIENT"), (0, u "Lcom/example/assertion_to_token/assertiontotoken/rules/Rule;"), (0, .fieldref 15 21), (0, .nameAndType 22 19), (0, u "CLIENT_FORMAT"), (0, .fieldref 15 24), (0, .nameAndType 25 19), (0, u "CLIENT_SUBJECT"), (0, .fieldref 15 27), (0, .nameAndType 28 19), (0, u "CLIENT_ALGORITHM"), (0, .fieldref 15 30), (0, .nameAndType 31 19), (0, u "CLIENT_SIGNATURE"), (0, .fieldref 15 33), (0, .nameAndType 34 19), (0, u "CLIENT_AUDIENCE"), (0, .fieldref 15 36), (0, .nameAndType 37 19), (0, u "CLIENT_EXPIRY"), (0, .fieldref 15 39), (0, .nameAndType 40 19), (0, u "CLIENT_JTI"), (0, .fieldref 15 42), (0, .nameAndType 43 19), (0, u "CLIENT_ID"), (0, .fieldref 15 45), (0, .nameAndType 46 19), (0, u "CLIENT_REPLAY"), (0, .methodref 15 48), (0, .nameAndType 49 50), (0, u "holdsClientCredentials"), (0, u "()Z"), (0, .fieldref 15 52), (0, .nameAndType 53 19), (0, u "FORMAT"), (0, .fieldref 15 55), (0, .nameAndType 56 19), (0, u "ISSUER"), (0, .fieldref 15 58), (0, .nameAndType 59 19), (0, u "CLIENT_REQUIRED"), (0, .fieldref 15 61), (0, .nameAndType 62 19), (0, u "CLIENT_NOT_ALLOWED"), (0, .fieldref 15 64), (0, .nameAndType 65 19), (0, u "TRUST_EXPIRED"), (0, .fieldref 15 67), (0, .nameAndType 68 19), (0, u "ALGORITHM"), (0, .fieldref 15 70), (0, .nameAndType 71 19), (0, u "KEY_SOURCE"), (0, .fieldref 15 73), (0, .nameAndType 74 19), (0, u "KEY"), (0, .fieldref 15 76), (0, .nameAndType 77 19), (0, u "SIGNATURE"), (0, .fieldref 15 79), (0, .nameAndType 80 19), (0, u "SUBJECT"), (0, .fieldref 15 82), (0, .nameAndType 83 19), (0, u "SUBJECT_NOT_ALLOWED"), (0, .fieldref 15 85), (0, .nameAndType 86 19), (0, u "AUDIENCE"), (0, .fieldref 15 88), (0, .nameAndType 89 19), (0, u "EXPIRY"), (0, .fieldref 15 91), (0, .nameAndType 92 19), (0, u "NOT_BEFORE"), (0, .fieldref 15 94), (0, .nameAndType 95 19), (0, u "ISSUED_AT"), (0, .fieldref 15 97), (0, .nameAndType 98 19), (0, u "LIFETIME"), (0, .fieldref 15 100), (0, .nameAndType 101 19), (0, u "JTI"), (0, .fieldref 15 103), (0, .nameAndType 104 19), (0, u "SCOPE"), (0, .fieldref 15 106), (0, .nameAndType 107 19), (0, u "REPLAY"), (2, u "law"), (0, u "(I)Z")] 3

def k1m0 : Method := { name := "<init>", desc := "()V", sig := { parameters := [], returnType := none }, accessFlags := 1, code := none }
def k1c1 : Code := { maxStack := 2, maxLocals := 4, code := code, exceptionTable := #[], attributes := #[] }
def k1m1 : Method := { name := "law", desc := "(I)Z", sig := { parameters := [.int], returnType := some .boolean }, accessFlags := 9, code := some k1c1 }
def k1c2 : Code := { maxStack := 2, maxLocals := 1, code := method_3_code, exceptionTable := #[], attributes := #[] }
def k1m2 : Method := { name := "pick", desc := "(I)Lcom/example/assertion_to_token/assertiontotoken/rules/Rule;", sig := { parameters := [.int], returnType := some (.object "com/example/assertion_to_token/assertiontotoken/rules/Rule") }, accessFlags := 10, code := some k1c2 }
/-- com/example/assertion_to_token/assertiontotoken/rules/RuleHoldsClientCredentialsPinLaw -/
def k1 : Class := { plain "com/example/assertion_to_token/assertiontotoken/rules/RuleHoldsClientCredentialsPinLaw" (some 0) with
  accessFlags := 49
  interfaces := #[]
  cf := some (fileOf pool1 9 #[] #[{ accessFlags := 1, nameIndex := 5, descriptorIndex := 6, attributes := #[] }, { accessFlags := 9, nameIndex := 110, descriptorIndex := 111, attributes := #[] }, { accessFlags := 10, nameIndex := 12, descriptorIndex := 13, attributes := #[] }] 49 2 #[] #[])
  fields := #[]
  methods := #[k1m0, k1m1, k1m2]
  instanceTypes := #[]
  staticTypes := #[]
  resolved := Array.replicate 115 none
  statics := none }

def pool2 : Array CpInfo := pool [(1, .class_ 2), (0, u "java/lang/constant/Constable"), (0, .class_ 4), (0, u "java/lang/Object")] 6

/-- java/lang/constant/Constable -/
def k2 : Class := { plain "java/lang/constant/Constable" (some 0) with
  accessFlags := 1537
  interfaces := #[]
  cf := some (fileOf pool2 1 #[] #[] 1537 3 #[] #[])
  fields := #[]
  methods := #[]
  instanceTypes := #[]
  staticTypes := #[]
  resolved := Array.replicate 11 none
  statics := none }

def pool3 : Array CpInfo := pool [(1, .class_ 2), (0, u "java/lang/Comparable"), (0, .class_ 4), (0, u "java/lang/Object")] 7

/-- java/lang/Comparable -/
def k3 : Class := { plain "java/lang/Comparable" (some 0) with
  accessFlags := 1537
  interfaces := #[]
  cf := some (fileOf pool3 1 #[] #[] 1537 3 #[] #[])
  fields := #[]
  methods := #[]
  instanceTypes := #[]
  staticTypes := #[]
  resolved := Array.replicate 12 none
  statics := none }

def pool4 : Array CpInfo := pool [(1, .class_ 2), (0, u "java/io/Serializable"), (0, .class_ 4), (0, u "java/lang/Object")] 2

/-- java/io/Serializable -/
def k4 : Class := { plain "java/io/Serializable" (some 0) with
  accessFlags := 1537
  interfaces := #[]
  cf := some (fileOf pool4 1 #[] #[] 1537 3 #[] #[])
  fields := #[]
  methods := #[]
  instanceTypes := #[]
  staticTypes := #[]
  resolved := Array.replicate 7 none
  statics := none }

def pool5 : Array CpInfo := pool [(2, .class_ 4), (1, u "java/lang/Enum"), (0, u "name"), (0, u "Ljava/lang/String;"), (0, .fieldref 2 8), (0, .nameAndType 9 10), (0, u "ordinal"), (0, u "I"), (1, .class_ 14), (1, u "java/lang/Object"), (4, u "hash"), (9, .methodref 12 30), (0, .nameAndType 31 32), (0, u "getClass"), (0, u "()Ljava/lang/Class;"), (70, u "compareTo"), (0, u "(Ljava/lang/Enum;)I"), (1, .class_ 108), (1, u "java/lang/Enum$EnumDesc"), (2, .class_ 112), (0, u "java/lang/constant/Constable"), (0, .class_ 114), (0, u "java/lang/Comparable"), (0, .class_ 116), (0, u "java/io/Serializable")] 87

def k5c0 : Code := { maxStack := 2, maxLocals := 4, code := jdk_37_method_8_code, exceptionTable := #[], attributes := #[] }
def k5m0 : Method := { name := "compareTo", desc := "(Ljava/lang/Enum;)I", sig := { parameters := [(.object "java/lang/Enum")], returnType := some .int }, accessFlags := 17, code := some k5c0 }
/-- java/lang/Enum -/
def k5 : Class := { plain "java/lang/Enum" (some 0) with
  accessFlags := 1057
  interfaces := #[2, 3, 4]
  cf := some (fileOf pool5 2 #[.nestMembers #[106]] #[{ accessFlags := 17, nameIndex := 103, descriptorIndex := 104, attributes := #[] }] 1057 12 #[111, 113, 115] #[{ accessFlags := 18, nameIndex := 5, descriptorIndex := 6, attributes := #[] }, { accessFlags := 18, nameIndex := 9, descriptorIndex := 10, attributes := #[] }, { accessFlags := 2, nameIndex := 19, descriptorIndex := 10, attributes := #[] }])
  fields := #[{ name := "name", type := (.object "java/lang/String"), accessFlags := 18, slot := 0, constantValue := 0 }, { name := "ordinal", type := .int, accessFlags := 18, slot := 1, constantValue := 0 }, { name := "hash", type := .int, accessFlags := 2, slot := 2, constantValue := 0 }]
  methods := #[k5m0]
  instanceTypes := #[(.object "java/lang/String"), .int, .int]
  staticTypes := #[]
  resolved := Array.replicate 204 none
  statics := none }

def pool6 : Array CpInfo := pool [(1, .class_ 2), (0, u "com/example/assertion_to_token/assertiontotoken/rules/Rule"), (2, u "CLIENT"), (0, u "Lcom/example/assertion_to_token/assertiontotoken/rules/Rule;"), (2, u "CLIENT_FORMAT"), (2, u "CLIENT_SUBJECT"), (2, u "CLIENT_ALGORITHM"), (2, u "CLIENT_SIGNATURE"), (2, u "CLIENT_AUDIENCE"), (2, u "CLIENT_EXPIRY"), (2, u "CLIENT_JTI"), (2, u "CLIENT_ID"), (2, u "CLIENT_REPLAY"), (0, .fieldref 1 35), (0, .nameAndType 36 6), (0, u "FORMAT"), (2, u "ISSUER"), (2, u "CLIENT_REQUIRED"), (2, u "CLIENT_NOT_ALLOWED"), (2, u "TRUST_EXPIRED"), (2, u "ALGORITHM"), (2, u "KEY_SOURCE"), (2, u "KEY"), (2, u "SIGNATURE"), (2, u "SUBJECT"), (2, u "SUBJECT_NOT_ALLOWED"), (2, u "AUDIENCE"), (2, u "EXPIRY"), (2, u "NOT_BEFORE"), (2, u "ISSUED_AT"), (2, u "LIFETIME"), (2, u "JTI"), (2, u "SCOPE"), (2, u "REPLAY"), (2, u "$VALUES"), (0, u "[Lcom/example/assertion_to_token/assertiontotoken/rules/Rule;"), (6, .class_ 103), (1, u "java/lang/Enum"), (6, .methodref 1 111), (0, .nameAndType 112 113), (0, u "compareTo"), (0, u "(Ljava/lang/Enum;)I"), (61, u "holdsClientCredentials"), (0, u "()Z")] 6

def k6c0 : Code := { maxStack := 2, maxLocals := 1, code := prog_16_method_4_code, exceptionTable := #[], attributes := #[] }
def k6m0 : Method := { name := "holdsClientCredentials", desc := "()Z", sig := { parameters := [], returnType := some .boolean }, accessFlags := 1, code := some k6c0 }
/-- com/example/assertion_to_token/assertiontotoken/rules/Rule -/
def k6 : Class := { plain "com/example/assertion_to_token/assertiontotoken/rules/Rule" (some 5) with
  accessFlags := 16433
  interfaces := #[]
  cf := some (fileOf pool6 1 #[] #[{ accessFlags := 1, nameIndex := 175, descriptorIndex := 176, attributes := #[] }] 16433 101 #[] #[{ accessFlags := 16409, nameIndex := 5, descriptorIndex := 6, attributes := #[] }, { accessFlags := 16409, nameIndex := 9, descriptorIndex := 6, attributes := #[] }, { accessFlags := 16409, nameIndex := 12, descriptorIndex := 6, attributes := #[] }, { accessFlags := 16409, nameIndex := 15, descriptorIndex := 6, attributes := #[] }, { accessFlags := 16409, nameIndex := 18, descriptorIndex := 6, attributes := #[] }, { accessFlags := 16409, nameIndex := 21, descriptorIndex := 6, attributes := #[] }, { accessFlags := 16409, nameIndex := 24, descriptorIndex := 6, attributes := #[] }, { accessFlags := 16409, nameIndex := 27, descriptorIndex := 6, attributes := #[] }, { accessFlags := 16409, nameIndex := 30, descriptorIndex := 6, attributes := #[] }, { accessFlags := 16409, nameIndex := 33, descriptorIndex := 6, attributes := #[] }, { accessFlags := 16409, nameIndex := 36, descriptorIndex := 6, attributes := #[] }, { accessFlags := 16409, nameIndex := 39, descriptorIndex := 6, attributes := #[] }, { accessFlags := 16409, nameIndex := 42, descriptorIndex := 6, attributes := #[] }, { accessFlags := 16409, nameIndex := 45, descriptorIndex := 6, attributes := #[] }, { accessFlags := 16409, nameIndex := 48, descriptorIndex := 6, attributes := #[] }, { accessFlags := 16409, nameIndex := 51, descriptorIndex := 6, attributes := #[] }, { accessFlags := 16409, nameIndex := 54, descriptorIndex := 6, attributes := #[] }, { accessFlags := 16409, nameIndex := 57, descriptorIndex := 6, attributes := #[] }, { accessFlags := 16409, nameIndex := 60, descriptorIndex := 6, attributes := #[] }, { accessFlags := 16409, nameIndex := 63, descriptorIndex := 6, attributes := #[] }, { accessFlags := 16409, nameIndex := 66, descriptorIndex := 6, attributes := #[] }, { accessFlags := 16409, nameIndex := 69, descriptorIndex := 6, attributes := #[] }, { accessFlags := 16409, nameIndex := 72, descriptorIndex := 6, attributes := #[] }, { accessFlags := 16409, nameIndex := 75, descriptorIndex := 6, attributes := #[] }, { accessFlags := 16409, nameIndex := 78, descriptorIndex := 6, attributes := #[] }, { accessFlags := 16409, nameIndex := 81, descriptorIndex := 6, attributes := #[] }, { accessFlags := 16409, nameIndex := 84, descriptorIndex := 6, attributes := #[] }, { accessFlags := 16409, nameIndex := 87, descriptorIndex := 6, attributes := #[] }, { accessFlags := 16409, nameIndex := 90, descriptorIndex := 6, attributes := #[] }, { accessFlags := 4122, nameIndex := 93, descriptorIndex := 94, attributes := #[] }])
  fields := #[{ name := "CLIENT", type := (.object "com/example/assertion_to_token/assertiontotoken/rules/Rule"), accessFlags := 16409, slot := 0, constantValue := 0 }, { name := "CLIENT_FORMAT", type := (.object "com/example/assertion_to_token/assertiontotoken/rules/Rule"), accessFlags := 16409, slot := 1, constantValue := 0 }, { name := "CLIENT_SUBJECT", type := (.object "com/example/assertion_to_token/assertiontotoken/rules/Rule"), accessFlags := 16409, slot := 2, constantValue := 0 }, { name := "CLIENT_ALGORITHM", type := (.object "com/example/assertion_to_token/assertiontotoken/rules/Rule"), accessFlags := 16409, slot := 3, constantValue := 0 }, { name := "CLIENT_SIGNATURE", type := (.object "com/example/assertion_to_token/assertiontotoken/rules/Rule"), accessFlags := 16409, slot := 4, constantValue := 0 }, { name := "CLIENT_AUDIENCE", type := (.object "com/example/assertion_to_token/assertiontotoken/rules/Rule"), accessFlags := 16409, slot := 5, constantValue := 0 }, { name := "CLIENT_EXPIRY", type := (.object "com/example/assertion_to_token/assertiontotoken/rules/Rule"), accessFlags := 16409, slot := 6, constantValue := 0 }, { name := "CLIENT_JTI", type := (.object "com/example/assertion_to_token/assertiontotoken/rules/Rule"), accessFlags := 16409, slot := 7, constantValue := 0 }, { name := "CLIENT_ID", type := (.object "com/example/assertion_to_token/assertiontotoken/rules/Rule"), accessFlags := 16409, slot := 8, constantValue := 0 }, { name := "CLIENT_REPLAY", type := (.object "com/example/assertion_to_token/assertiontotoken/rules/Rule"), accessFlags := 16409, slot := 9, constantValue := 0 }, { name := "FORMAT", type := (.object "com/example/assertion_to_token/assertiontotoken/rules/Rule"), accessFlags := 16409, slot := 10, constantValue := 0 }, { name := "ISSUER", type := (.object "com/example/assertion_to_token/assertiontotoken/rules/Rule"), accessFlags := 16409, slot := 11, constantValue := 0 }, { name := "CLIENT_REQUIRED", type := (.object "com/example/assertion_to_token/assertiontotoken/rules/Rule"), accessFlags := 16409, slot := 12, constantValue := 0 }, { name := "CLIENT_NOT_ALLOWED", type := (.object "com/example/assertion_to_token/assertiontotoken/rules/Rule"), accessFlags := 16409, slot := 13, constantValue := 0 }, { name := "TRUST_EXPIRED", type := (.object "com/example/assertion_to_token/assertiontotoken/rules/Rule"), accessFlags := 16409, slot := 14, constantValue := 0 }, { name := "ALGORITHM", type := (.object "com/example/assertion_to_token/assertiontotoken/rules/Rule"), accessFlags := 16409, slot := 15, constantValue := 0 }, { name := "KEY_SOURCE", type := (.object "com/example/assertion_to_token/assertiontotoken/rules/Rule"), accessFlags := 16409, slot := 16, constantValue := 0 }, { name := "KEY", type := (.object "com/example/assertion_to_token/assertiontotoken/rules/Rule"), accessFlags := 16409, slot := 17, constantValue := 0 }, { name := "SIGNATURE", type := (.object "com/example/assertion_to_token/assertiontotoken/rules/Rule"), accessFlags := 16409, slot := 18, constantValue := 0 }, { name := "SUBJECT", type := (.object "com/example/assertion_to_token/assertiontotoken/rules/Rule"), accessFlags := 16409, slot := 19, constantValue := 0 }, { name := "SUBJECT_NOT_ALLOWED", type := (.object "com/example/assertion_to_token/assertiontotoken/rules/Rule"), accessFlags := 16409, slot := 20, constantValue := 0 }, { name := "AUDIENCE", type := (.object "com/example/assertion_to_token/assertiontotoken/rules/Rule"), accessFlags := 16409, slot := 21, constantValue := 0 }, { name := "EXPIRY", type := (.object "com/example/assertion_to_token/assertiontotoken/rules/Rule"), accessFlags := 16409, slot := 22, constantValue := 0 }, { name := "NOT_BEFORE", type := (.object "com/example/assertion_to_token/assertiontotoken/rules/Rule"), accessFlags := 16409, slot := 23, constantValue := 0 }, { name := "ISSUED_AT", type := (.object "com/example/assertion_to_token/assertiontotoken/rules/Rule"), accessFlags := 16409, slot := 24, constantValue := 0 }, { name := "LIFETIME", type := (.object "com/example/assertion_to_token/assertiontotoken/rules/Rule"), accessFlags := 16409, slot := 25, constantValue := 0 }, { name := "JTI", type := (.object "com/example/assertion_to_token/assertiontotoken/rules/Rule"), accessFlags := 16409, slot := 26, constantValue := 0 }, { name := "SCOPE", type := (.object "com/example/assertion_to_token/assertiontotoken/rules/Rule"), accessFlags := 16409, slot := 27, constantValue := 0 }, { name := "REPLAY", type := (.object "com/example/assertion_to_token/assertiontotoken/rules/Rule"), accessFlags := 16409, slot := 28, constantValue := 0 }, { name := "$VALUES", type := (.array (.object "com/example/assertion_to_token/assertiontotoken/rules/Rule")), accessFlags := 4122, slot := 29, constantValue := 0 }]
  methods := #[k6m0]
  instanceTypes := #[(.object "java/lang/String"), .int, .int]
  staticTypes := #[(.object "com/example/assertion_to_token/assertiontotoken/rules/Rule"), (.object "com/example/assertion_to_token/assertiontotoken/rules/Rule"), (.object "com/example/assertion_to_token/assertiontotoken/rules/Rule"), (.object "com/example/assertion_to_token/assertiontotoken/rules/Rule"), (.object "com/example/assertion_to_token/assertiontotoken/rules/Rule"), (.object "com/example/assertion_to_token/assertiontotoken/rules/Rule"), (.object "com/example/assertion_to_token/assertiontotoken/rules/Rule"), (.object "com/example/assertion_to_token/assertiontotoken/rules/Rule"), (.object "com/example/assertion_to_token/assertiontotoken/rules/Rule"), (.object "com/example/assertion_to_token/assertiontotoken/rules/Rule"), (.object "com/example/assertion_to_token/assertiontotoken/rules/Rule"), (.object "com/example/assertion_to_token/assertiontotoken/rules/Rule"), (.object "com/example/assertion_to_token/assertiontotoken/rules/Rule"), (.object "com/example/assertion_to_token/assertiontotoken/rules/Rule"), (.object "com/example/assertion_to_token/assertiontotoken/rules/Rule"), (.object "com/example/assertion_to_token/assertiontotoken/rules/Rule"), (.object "com/example/assertion_to_token/assertiontotoken/rules/Rule"), (.object "com/example/assertion_to_token/assertiontotoken/rules/Rule"), (.object "com/example/assertion_to_token/assertiontotoken/rules/Rule"), (.object "com/example/assertion_to_token/assertiontotoken/rules/Rule"), (.object "com/example/assertion_to_token/assertiontotoken/rules/Rule"), (.object "com/example/assertion_to_token/assertiontotoken/rules/Rule"), (.object "com/example/assertion_to_token/assertiontotoken/rules/Rule"), (.object "com/example/assertion_to_token/assertiontotoken/rules/Rule"), (.object "com/example/assertion_to_token/assertiontotoken/rules/Rule"), (.object "com/example/assertion_to_token/assertiontotoken/rules/Rule"), (.object "com/example/assertion_to_token/assertiontotoken/rules/Rule"), (.object "com/example/assertion_to_token/assertiontotoken/rules/Rule"), (.object "com/example/assertion_to_token/assertiontotoken/rules/Rule"), (.array (.object "com/example/assertion_to_token/assertiontotoken/rules/Rule"))]
  resolved := Array.replicate 183 none
  mirror := some 1
  statics := some 0 }

def pool7 : Array CpInfo := pool [(1, u "java/lang/Class"), (0, .class_ 1), (0, u "java/lang/Object"), (0, .class_ 3)] 3

/-- java/lang/Class -/
def k7 : Class := { plain "java/lang/Class" (some 0) with
  accessFlags := 49
  interfaces := #[]
  cf := some (fileOf pool7 2 #[] #[] 49 4 #[] #[])
  fields := #[]
  methods := #[]
  instanceTypes := #[]
  staticTypes := #[]
  resolved := Array.replicate 8 none
  statics := none }

def pool8 : Array CpInfo := pool [(1, u "java/lang/Cloneable"), (0, .class_ 1), (0, u "java/lang/Object"), (0, .class_ 3)] 3

/-- java/lang/Cloneable -/
def k8 : Class := { plain "java/lang/Cloneable" (some 0) with
  accessFlags := 1537
  interfaces := #[]
  cf := some (fileOf pool8 2 #[] #[] 1537 4 #[] #[])
  fields := #[]
  methods := #[]
  instanceTypes := #[]
  staticTypes := #[]
  resolved := Array.replicate 8 none
  statics := none }

/-- the primitive byte -/
def k9 : Class := { plain "byte" none with kind := .primitive 'B', accessFlags := 0x411 }
/-- [B -/
def k10 : Class := { plain "[B" (some 0) with kind := .array 9 .byte, interfaces := #[8, 4], accessFlags := 1041 }

/-- the primitive int -/
def k11 : Class := { plain "int" none with kind := .primitive 'I', accessFlags := 0x411 }
/-- [I -/
def k12 : Class := { plain "[I" (some 0) with kind := .array 11 .int, interfaces := #[8, 4], accessFlags := 1041 }

def heap : Heap := #[{ cls := 6, slots := #[.ref 2, .ref 3, .ref 4, .ref 5, .ref 6, .ref 7, .ref 8, .ref 9, .ref 10, .ref 11, .ref 12, .ref 13, .ref 14, .ref 15, .ref 16, .ref 17, .ref 18, .ref 19, .ref 20, .ref 21, .ref 22, .ref 23, .ref 24, .ref 25, .ref 26, .ref 27, .ref 28, .ref 29, .ref 30, .null], vm := .statics 6 },
  { cls := 7, slots := #[], vm := .mirror 6 },
  { cls := 6, slots := #[.null, .int 0, .int 0], vm := .none },
  { cls := 6, slots := #[.null, .int 1, .int 0], vm := .none },
  { cls := 6, slots := #[.null, .int 2, .int 0], vm := .none },
  { cls := 6, slots := #[.null, .int 3, .int 0], vm := .none },
  { cls := 6, slots := #[.null, .int 4, .int 0], vm := .none },
  { cls := 6, slots := #[.null, .int 5, .int 0], vm := .none },
  { cls := 6, slots := #[.null, .int 6, .int 0], vm := .none },
  { cls := 6, slots := #[.null, .int 7, .int 0], vm := .none },
  { cls := 6, slots := #[.null, .int 8, .int 0], vm := .none },
  { cls := 6, slots := #[.null, .int 9, .int 0], vm := .none },
  { cls := 6, slots := #[.null, .int 10, .int 0], vm := .none },
  { cls := 6, slots := #[.null, .int 11, .int 0], vm := .none },
  { cls := 6, slots := #[.null, .int 12, .int 0], vm := .none },
  { cls := 6, slots := #[.null, .int 13, .int 0], vm := .none },
  { cls := 6, slots := #[.null, .int 14, .int 0], vm := .none },
  { cls := 6, slots := #[.null, .int 15, .int 0], vm := .none },
  { cls := 6, slots := #[.null, .int 16, .int 0], vm := .none },
  { cls := 6, slots := #[.null, .int 17, .int 0], vm := .none },
  { cls := 6, slots := #[.null, .int 18, .int 0], vm := .none },
  { cls := 6, slots := #[.null, .int 19, .int 0], vm := .none },
  { cls := 6, slots := #[.null, .int 20, .int 0], vm := .none },
  { cls := 6, slots := #[.null, .int 21, .int 0], vm := .none },
  { cls := 6, slots := #[.null, .int 22, .int 0], vm := .none },
  { cls := 6, slots := #[.null, .int 23, .int 0], vm := .none },
  { cls := 6, slots := #[.null, .int 24, .int 0], vm := .none },
  { cls := 6, slots := #[.null, .int 25, .int 0], vm := .none },
  { cls := 6, slots := #[.null, .int 26, .int 0], vm := .none },
  { cls := 6, slots := #[.null, .int 27, .int 0], vm := .none },
  { cls := 6, slots := #[.null, .int 28, .int 0], vm := .none }]
def classes : Array Class := #[k0, k1, k2, k3, k4, k5, k6, k7, k8, k9, k10, k11, k12]
def interned : List (Array UInt16 × Addr) := []
def slotsUsed : Nat := 117
def theMethod : MethodId := ⟨1, 1⟩
def args0 : Array Value := #[.int 5]
def aboutOver (below : List Frame) : State where
  vm := { classes := classes, interned := interned.toArray }
  heap := heap
  slotsUsed := slotsUsed
  threads := #[{ frames := .invoking theMethod args0 :: below }]
def below0 : List Frame := [.native { method := ⟨0, 0⟩, args := #[] }]
def about1 : State := aboutOver below0
def p0 : Program := .bare "" "" ""
def e0 : Env := launch0.env 0 0 0
theorem w_frames : about1.frames = Frame.invoking theMethod args0 :: below0 := rfl
set_option maxRecDepth 65536 in
theorem w_args : argsFit about1.vm theMethod args0 = true := by decide +kernel
set_option maxRecDepth 65536 in
theorem w_heap : heapFits about1 = true := by decide +kernel
set_option maxRecDepth 65536 in
theorem w_runnable : about1.curStatus? = some .runnable := by decide +kernel
set_option maxRecDepth 65536 in
theorem w_alone : about1.alone = true := by decide +kernel
set_option maxRecDepth 65536 in
theorem w_named : about1.methodNamed? x = some theMethod := by decide +kernel
set_option maxRecDepth 65536 in
theorem w_hears : about1.hears theMethod below0 = true := by decide +kernel
set_option maxRecDepth 65536 in
theorem w_ripe : about1.ripe theMethod args0 below0 = true := by decide +kernel
theorem w_running : about1.status = .running := rfl
set_option maxRecDepth 65536 in
theorem w_room : about1.hasRoom e0.platform room_1 = true :=
  launch0.hasRoom_least _ room_1 (by decide +kernel) (by decide +kernel) (by decide +kernel) (by decide +kernel) (by decide +kernel) (by decide +kernel)
theorem allAtoms_all (ts : List Jvm.Cond) (a : Array Jvm.Value) (st : Jvm.State) : (allAtoms ts).before a st = ts.all (fun c => c.before a st) := by
  induction ts with
  | nil => rfl
  | cons c t ih =>
    show (Jvm.Cond.and c (allAtoms t)).before a st = _
    rw [Jvm.Cond.before_and, ih, List.all_cons]
def words1 : List Jvm.Cond := Jvm.Cond.code x code maxLocals ret :: tables_1
/-- a 'code' word, met by the world's own term for the bytes: nothing is compared byte by byte -/
theorem code_word {y : MethodName} {bytes : ByteArray} {mx : Nat} {rt : Option FieldType} {a : Array Value} {s : State} {m : MethodId} {meth : Method} {c : Code} (h1 : s.methodNamed? y = some m) (h2 : s.vm.method? m = some meth) (h3 : meth.code = some c) (h4 : c.code = bytes)
    (h5 : (c.maxLocals == mx && c.exceptionTable.isEmpty && decide (c.maxStack ≤ mostOperands) && decide (meth.sig.returnType = rt) && !meth.locks && decide (parseMethodDescriptor y.desc = some meth.sig)) = true) : (Jvm.Cond.code y bytes mx rt).before a s = true := by
  simp only [Bool.and_eq_true, beq_iff_eq, Bool.not_eq_true', decide_eq_true_eq] at h5
  obtain ⟨⟨⟨⟨⟨g1, g2⟩, g3⟩, g4⟩, g5⟩, g6⟩ := h5
  simp [Cond.before, Cond.holds, Cond.value, h1, h2, h3, h4, g1, g2, g3, g4, g5, g6]
def isCode : Jvm.Cond → Bool
  | .code _ _ _ _ => true
  | _ => false
theorem all_split {L : List Jvm.Cond} {P : Jvm.Cond → Bool} (h1 : L.all (fun c => isCode c || P c) = true) (h2 : ∀ c ∈ L.filter isCode, P c = true) : L.all P = true := by
  refine List.all_eq_true.mpr fun c hc => ?_
  have h := List.all_eq_true.mp h1 c hc
  rcases Bool.eq_false_or_eq_true (isCode c) with hi | hi
  · exact h2 c (List.mem_filter.mpr ⟨hc, hi⟩)
  · simpa [hi] using h
set_option maxRecDepth 65536 in
theorem w_c0 : (Jvm.Cond.code x code maxLocals ret).before args0 about1 = true := code_word (m := ⟨1, 1⟩) (meth := k1m1) (c := k1c1) (by decide +kernel) rfl rfl rfl (by decide +kernel)
set_option maxRecDepth 65536 in
theorem w_c1 : (Jvm.Cond.code ({ cls := "com/example/assertion_to_token/assertiontotoken/rules/RuleHoldsClientCredentialsPinLaw", name := "pick", desc := "(I)Lcom/example/assertion_to_token/assertiontotoken/rules/Rule;" } : Jvm.MethodName) method_3_code (1 : Nat) (Option.some (Jvm.ClassFile.FieldType.object "com/example/assertion_to_token/assertiontotoken/rules/Rule"))).before args0 about1 = true := code_word (m := ⟨1, 2⟩) (meth := k1m2) (c := k1c2) (by decide +kernel) rfl rfl rfl (by decide +kernel)
set_option maxRecDepth 65536 in
theorem w_c2 : (Jvm.Cond.code ({ cls := "com/example/assertion_to_token/assertiontotoken/rules/Rule", name := "holdsClientCredentials", desc := "()Z" } : Jvm.MethodName) prog_16_method_4_code (1 : Nat) (Option.some Jvm.ClassFile.FieldType.boolean)).before args0 about1 = true := code_word (m := ⟨6, 0⟩) (meth := k6m0) (c := k6c0) (by decide +kernel) rfl rfl rfl (by decide +kernel)
set_option maxRecDepth 65536 in
theorem w_c3 : (Jvm.Cond.code ({ cls := "java/lang/Enum", name := "compareTo", desc := "(Ljava/lang/Enum;)I" } : Jvm.MethodName) jdk_37_method_8_code (4 : Nat) (Option.some Jvm.ClassFile.FieldType.int)).before args0 about1 = true := code_word (m := ⟨5, 0⟩) (meth := k5m0) (c := k5c0) (by decide +kernel) rfl rfl rfl (by decide +kernel)
def codes1 : List Jvm.Cond := [Jvm.Cond.code x code maxLocals ret, Jvm.Cond.code ({ cls := "com/example/assertion_to_token/assertiontotoken/rules/RuleHoldsClientCredentialsPinLaw", name := "pick", desc := "(I)Lcom/example/assertion_to_token/assertiontotoken/rules/Rule;" } : Jvm.MethodName) method_3_code (1 : Nat) (Option.some (Jvm.ClassFile.FieldType.object "com/example/assertion_to_token/assertiontotoken/rules/Rule")), Jvm.Cond.code ({ cls := "com/example/assertion_to_token/assertiontotoken/rules/Rule", name := "holdsClientCredentials", desc := "()Z" } : Jvm.MethodName) prog_16_method_4_code (1 : Nat) (Option.some Jvm.ClassFile.FieldType.boolean), Jvm.Cond.code ({ cls := "java/lang/Enum", name := "compareTo", desc := "(Ljava/lang/Enum;)I" } : Jvm.MethodName) jdk_37_method_8_code (4 : Nat) (Option.some Jvm.ClassFile.FieldType.int)]
set_option maxRecDepth 65536 in
theorem codes_eq : words1.filter isCode = codes1 := rfl
theorem w_codes : ∀ c ∈ words1.filter isCode, c.before args0 about1 = true := by
  rw [codes_eq]
  intro c hc
  simp only [codes1, List.mem_cons, List.not_mem_nil, or_false] at hc
  rcases hc with rfl | rfl | rfl | rfl
  · exact w_c0
  · exact w_c1
  · exact w_c2
  · exact w_c3
set_option maxRecDepth 65536 in
theorem w_t1 : (words1.take 24).all (fun c => isCode c || c.before args0 about1) = true := by decide +kernel
set_option maxRecDepth 65536 in
theorem w_t2 : ((words1.drop 24).take 24).all (fun c => isCode c || c.before args0 about1) = true := by decide +kernel
set_option maxRecDepth 65536 in
theorem w_t3 : (((words1.drop 24).drop 24).take 24).all (fun c => isCode c || c.before args0 about1) = true := by decide +kernel
set_option maxRecDepth 65536 in
theorem w_t4 : (((words1.drop 24).drop 24).drop 24).all (fun c => isCode c || c.before args0 about1) = true := by decide +kernel
theorem w_tables : (allAtoms (Jvm.Cond.code x code maxLocals ret :: tables_1)).before args0 about1 = true := by
  rw [allAtoms_all]
  show words1.all (fun c => c.before args0 about1) = true
  refine all_split ?_ w_codes
  rw [← List.take_append_drop 24 words1, List.all_append, w_t1, ← List.take_append_drop 24 (words1.drop 24), List.all_append, w_t2, ← List.take_append_drop 24 ((words1.drop 24).drop 24), List.all_append, w_t3, w_t4]
  rfl
set_option maxRecDepth 65536 in
theorem w_case : (Jvm.Cond.and given_1 narrow_1).before args0 about1 = true := by decide +kernel
theorem w_applies : (headSpec (Jvm.Cond.code x code maxLocals ret :: tables_1) room_1).applies x e0.platform about1 = true :=
  (Spec.applies_iff w_frames).mpr ⟨w_running, w_runnable, w_alone, w_named, w_hears, w_ripe, w_room, w_tables⟩
theorem atStart : AtStart classFile x code maxLocals ret World_1 tables_1 room_1 Calls_1 rest_1 Pre_1 launch0 p0 e0 about1 theMethod args0 below0 :=
  ⟨lists_1, trivial, launch0.admits_env _ _ _, launch0.least_env, fairChoices_fair.cas, fairChoices_fair.clock, w_frames, w_args, w_heap, w_applies, ⟨⟨6, k6, 1, by decide +kernel, rfl, rfl, _, rfl, rfl⟩, trivial⟩, trivial, w_case⟩
end start1
theorem witness_1 : WitnessClaimed_1 := ⟨start1.p0, start1.e0, start1.about1, start1.theMethod, start1.args0, start1.below0, start1.atStart⟩
end Jvm.Pilot.@@N@@
