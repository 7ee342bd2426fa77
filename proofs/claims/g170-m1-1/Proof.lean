import JvmDerived
import JvmDerived.Pilot.@@N@@Statement
import JvmDerived.Pilot.@@N@@Code
set_option linter.unusedVariables false
set_option linter.unusedSimpArgs false
namespace Jvm.RoadKit
open Sem ClassFile Op Lib Jvm.Stand Jvm.Free Jvm.LawKit
section New
variable {p : Program} {l : Launch} {e : Env} {R : Room} {s : State} {m : MethodId} {args : Array Value} {below : List Frame} {meth : Method} {c : Code} {T : State} {locs : List Loc} {cells slots : Nat}
theorem retI (X : Stand p l e R s m args below meth c T locs cells slots) (hx : p.tables.exec = Jvm.exec) {pc : Nat} {Ls : Array Slot} {z : Int32} {rest : List Value} (hret : meth.sig.returnType = some .int) (hd : decode c.code pc = .ok (.ireturn, 1)) {fs : List Frame}
    (hl : ∀ (f : JFrame) (acts : List Action), f.method = m → f.locked = none → f.entered = [] → (doReturn e (T.setTop f) acts (some (.int z))).1 = T.setFrames fs) : Steps p.tables e below (T.setTop (mkF m pc Ls (.int z :: rest))) (T.setFrames fs) := by
  have hm' : T.vm.method? m = some meth := X.method'
  have hn : narrow .int (.int z) = .int z := rfl
  show Steps p.tables e below (T.setTop { method := m, pc := pc, locals := Ls, stack := _ :: rest, locked := none }) _
  jvm_step X.here [X.here.top, hx, hd, hm', hret, hn]
  first | (intro acts; rw [hl _ acts rfl rfl rfl]) | rw [hl _ _ rfl rfl rfl]
  exact Steps.refl _
end New
end Jvm.RoadKit
namespace Jvm.Pilot.@@N@@
open Jvm Jvm.ClassFile Sem Op Lib Jvm.Free Jvm.Stand Jvm.LawKit Jvm.RoadKit Bundle Jvm.Pilot.@@N@@.Jvm.D
/-- the road so far: whoever comes from T with the frame g comes from S -/
def Rch (p : Program) (e : Env) (below : List Frame) (S T : State) (g : JFrame) : Prop := ∀ t, Steps p.tables e below (T.setTop g) t → Steps p.tables e below S t
theorem own_sta_keep {Z : State} {h h' : Heap} {C n d : String} {v : Value} {ws : List Addr} (F : Sta Z h C n d v) (K : Keep h h' ws) (q : ∀ x ∈ ws, ∀ cell : Cell, h[x]? = some cell → cell.vm.isStatics = false) : Sta Z h' C n d v := by
  obtain ⟨cf, i, k, f, st, cell, h1, h2, h3, h4, h5, h6, h7⟩ := F
  exact ⟨cf, i, k, f, st, cell, h1, h2, h3, h4, K.2.1 _ _ h5 (fun hm => by rw [q st hm cell h5] at h6; cases h6), h6, h7⟩
theorem own_selp {Z s : State} {a0 args : Array Value} {y : MethodName} {n : Nat} (hZ : Z.Warmed39 s.vm) (wi : (Jvm.Cond.instantiable y.cls n).before a0 Z = true) (wp : (Jvm.Cond.privateMethod y).before a0 Z = true) (wm : (Jvm.Cond.instanceMethod y).before a0 Z = true) (hy : y.cls ≠ "java/lang/invoke/MethodHandle" ∧ y.cls ≠ "java/lang/invoke/VarHandle") : (Jvm.Cond.selects y.cls y y).before args s = true := by
  have wi' : (Jvm.Cond.instantiable y.cls n).before args s = true := mvT hZ wi
  obtain ⟨c, k, h1, h2, h3, h4, -⟩ := Cond.instantiable_spec wi'
  exact selects_self_of_private h1 h2 (Bool.or_eq_false_iff.mp h4).1 (Cond.privateMethod_at (mvP hZ wp (args := #[]))) (mvT hZ wm) hy
theorem own_eq_int {args : Array Value} {s : State} {a : Term} {k : Int32} (h : (Jvm.Cond.eq a (Term.int k)).value args s none s [] = some true) : a.eval args s none [] s = some (.int k) := by
  simp only [Cond.value, Term.eval] at h
  cases ha : a.eval args s none [] s with
  | none => simp [ha] at h
  | some x => cases x <;> simp [ha] at h ⊢; exact h
theorem own_eq_ref {args : Array Value} {s : State} {a b : Term} {y : Addr} (h : (Jvm.Cond.eq a b).value args s none s [] = some true) (hb : b.eval args s none [] s = some (.ref y)) : a.eval args s none [] s = some (.ref y) := by
  simp only [Cond.value] at h
  cases ha : a.eval args s none [] s with
  | none => simp [ha] at h
  | some x => cases x <;> simp [ha, hb] at h ⊢; exact h
theorem own_i {a b : Int32} (h : a = b) : some (Value.int a) = some (Value.int b) := by rw [h]
theorem own_v {a b : Addr} (h : a = b) : some (Value.ref a) = some (Value.ref b) := by rw [h]
theorem own_k (q0 : Int32) : (q0 &&& (7 : Int32)) = (0 : Int32) ∨ (q0 &&& (7 : Int32)) = (1 : Int32) ∨ (q0 &&& (7 : Int32)) = (2 : Int32) ∨ (q0 &&& (7 : Int32)) = (3 : Int32) ∨ (q0 &&& (7 : Int32)) = (4 : Int32) ∨ (q0 &&& (7 : Int32)) = (5 : Int32) ∨ (q0 &&& (7 : Int32)) = (6 : Int32) ∨ (q0 &&& (7 : Int32)) = (7 : Int32) := by
  have h : 0 ≤ ((q0 &&& (7 : Int32))).toInt ∧ ((q0 &&& (7 : Int32))).toInt < 8 := ⟨(c_and q0 7 (by decide)).1, Int.lt_of_le_of_lt (c_and q0 7 (by decide)).2 (by decide)⟩
  generalize (q0 &&& (7 : Int32)) = r at h ⊢
  have hr : r.toInt = 0 ∨ r.toInt = 1 ∨ r.toInt = 2 ∨ r.toInt = 3 ∨ r.toInt = 4 ∨ r.toInt = 5 ∨ r.toInt = 6 ∨ r.toInt = 7 := by omega
  rcases hr with h' | h' | h' | h' | h' | h' | h' | h' <;> simp [← Int32.toInt_inj, h']
def own_f (o a b c d e : Addr) : Int32 := if o = a then 1 else if o = b then 1 else if o = c then 1 else if o = d then 1 else if o = e then 1 else 0
theorem d1_0 : decode prog_77_method_4_code 0 = .ok (.aload_n 0, 1) := by decide +kernel
theorem d1_1 : decode prog_77_method_4_code 1 = .ok (.getstatic 3, 3) := by decide +kernel
theorem d1_4 : decode prog_77_method_4_code 4 = .ok (.if_acmp .eq 31, 3) := by decide +kernel
theorem d1_35 : decode prog_77_method_4_code 35 = .ok (.iconst 1, 1) := by decide +kernel
theorem d1_36 : decode prog_77_method_4_code 36 = .ok (.goto 4, 3) := by decide +kernel
theorem d1_40 : decode prog_77_method_4_code 40 = .ok (.ireturn, 1) := by decide +kernel
theorem d1_7 : decode prog_77_method_4_code 7 = .ok (.aload_n 0, 1) := by decide +kernel
theorem d1_8 : decode prog_77_method_4_code 8 = .ok (.getstatic 7, 3) := by decide +kernel
theorem d1_11 : decode prog_77_method_4_code 11 = .ok (.if_acmp .eq 24, 3) := by decide +kernel
theorem d1_14 : decode prog_77_method_4_code 14 = .ok (.aload_n 0, 1) := by decide +kernel
theorem d1_15 : decode prog_77_method_4_code 15 = .ok (.getstatic 10, 3) := by decide +kernel
theorem d1_18 : decode prog_77_method_4_code 18 = .ok (.if_acmp .eq 17, 3) := by decide +kernel
theorem d1_21 : decode prog_77_method_4_code 21 = .ok (.aload_n 0, 1) := by decide +kernel
theorem d1_22 : decode prog_77_method_4_code 22 = .ok (.getstatic 13, 3) := by decide +kernel
theorem d1_25 : decode prog_77_method_4_code 25 = .ok (.if_acmp .eq 10, 3) := by decide +kernel
theorem d1_28 : decode prog_77_method_4_code 28 = .ok (.aload_n 0, 1) := by decide +kernel
theorem d1_29 : decode prog_77_method_4_code 29 = .ok (.getstatic 16, 3) := by decide +kernel
theorem d1_32 : decode prog_77_method_4_code 32 = .ok (.if_acmp .ne 7, 3) := by decide +kernel
theorem d1_39 : decode prog_77_method_4_code 39 = .ok (.iconst 0, 1) := by decide +kernel
theorem ef_rm1 (m : MethodId) (x0 : Addr) : entryFrame m #[(.ref x0)] 1 = mkF m 0 #[.val (.ref x0)] [] := by first | (simp [entryFrame, mkF, argsToLocals, Value.category]; done) | rfl
theorem pn_0 : plainName "com/example/logtide/logtide/mariadb/DdlStatement$Role" = true := by first | (simp [plainName, overriddenIn]; done) | decide +kernel
def Q_rm1 (Z : State) (o0 : Addr) (w0 : Addr) (w1 : Addr) (w2 : Addr) (w3 : Addr) (w4 : Addr) (h0 : Heap) (n0 : Nat) (v : Option Value) (h : Heap) (L : List Loc) : Prop := (v = some (.int (own_f o0 w0 w1 w2 w3 w4))) ∧ (Fr n0 L) ∧ (h = h0)
set_option maxRecDepth 65536 in
set_option maxHeartbeats 40000000 in
theorem rm1 (l : Launch) (Z : State) (a0 : Array Value) (hw : ∀ d ∈ tables_1, d.before a0 Z = true) (ws : List Jvm.Cond) (o0 : Addr) (w0 : Addr) (w1 : Addr) (w2 : Addr) (w3 : Addr) (w4 : Addr) (h0 : Heap) (n0 : Nat) (Z0 : n0 ≤ h0.size) (pS0 : Sta Z h0 "com/example/logtide/logtide/mariadb/DdlStatement$Role" "CHANGED" "Lcom/example/logtide/logtide/mariadb/DdlStatement$Role;" (.ref w0)) (pS1 : Sta Z h0 "com/example/logtide/logtide/mariadb/DdlStatement$Role" "MADE" "Lcom/example/logtide/logtide/mariadb/DdlStatement$Role;" (.ref w1)) (pS2 : Sta Z h0 "com/example/logtide/logtide/mariadb/DdlStatement$Role" "REPLACED" "Lcom/example/logtide/logtide/mariadb/DdlStatement$Role;" (.ref w2)) (pS3 : Sta Z h0 "com/example/logtide/logtide/mariadb/DdlStatement$Role" "RENAMED_TO" "Lcom/example/logtide/logtide/mariadb/DdlStatement$Role;" (.ref w3)) (pS4 : Sta Z h0 "com/example/logtide/logtide/mariadb/DdlStatement$Role" "MERGED" "Lcom/example/logtide/logtide/mariadb/DdlStatement$Role;" (.ref w4)) :
    MetFree l (⟨"com/example/logtide/logtide/mariadb/DdlStatement$Role", "changes", "()Z"⟩ : MethodName) (head1 (Jvm.Cond.code (⟨"com/example/logtide/logtide/mariadb/DdlStatement$Role", "changes", "()Z"⟩ : MethodName) prog_77_method_4_code 1 (some .boolean) :: ws) ({ frames := 0, cells := 0, slots := 0, locals := 0 } : Room)) (fun a U => a = #[(.ref o0)] ∧ Z.Warmed39 U.vm ∧ U.heap = h0) (fun _ _ _ _ _ => True) (fun _ U o U' => ∃ v L, o = .returned v ∧ Q_rm1 Z o0 w0 w1 w2 w3 w4 h0 n0 v U'.heap L ∧ FrameEnd U o U' L ({ frames := 0, cells := 0, slots := 0, locals := 0 } : Room).cells ({ frames := 0, cells := 0, slots := 0, locals := 0 } : Room).slots) := by
  refine MetFree.of_bodySF (plainFor_of_name pn_0) hisR ?_
  intro p e s m args below meth c s₁ Bd hml0 hP hK
  obtain ⟨rfl, hZ, hh⟩ := hP
  have hx := Bd.exec
  have hby := Bd.bytes
  have hml : c.maxLocals = 1 := hml0
  have hown : s.vm.findClass "com/example/logtide/logtide/mariadb/DdlStatement$Role" = some m.cls := findClass_of_methodNamed Bd.named
  have hnm := (name_of_methodNamed Bd.named Bd.method).1
  have X0 : Stand p l e ({ frames := 0, cells := 0, slots := 0, locals := 0 } : Room) s m #[(.ref o0)] below meth c s₁ [] 0 0 := Stand.of_body Bd
  have e0 : s₁.heap = h0 := by rw [← hh, Bd.state]; rfl
  have N0 := Fr.nil n0
  have K0 : Keep h0 h0 [] := Keep.refl _ _
  have R0 : Rch p e below (s₁.setTop (entryFrame m #[(.ref o0)] 1)) s₁ (mkF m 0 #[.val (.ref o0)] []) := fun t k => castTop (ef_rm1 m o0) k
  have R2 : Rch p e below (s₁.setTop (entryFrame m #[(.ref o0)] 1)) s₁ (mkF m 1 #[.val (.ref o0)] [(.ref o0)]) := fun t k => by
    refine R0 t ?_
    refine XS.aloadN X0.here hx rfl (hb hby d1_0) rfl rfl ?_
    exact k
  obtain ⟨T1, X1, e1, st1⟩ := getS2 X0 hx hZ hown (host := "") (Or.inl (hw _ (List.mem_of_getElem? (i := 25) rfl))) Via.refl e0 pS0 (g := (mkF m 1 #[.val (.ref o0)] [(.ref o0)])) rfl (hb hby d1_1)
  have R4 : Rch p e below (s₁.setTop (entryFrame m #[(.ref o0)] 1)) T1 (mkF m 4 #[.val (.ref o0)] [(.ref w0), (.ref o0)]) := fun t k => by
    refine R2 t ?_
    refine st1 _ ?_
    exact k
  by_cases ha4_3 : o0 = w0
  · have R5 : Rch p e below (s₁.setTop (entryFrame m #[(.ref o0)] 1)) T1 (mkF m 40 #[.val (.ref o0)] [(.int (1 : Int32))]) := fun t k => by
      refine R4 t ?_
      refine Jvm.RoadKit.acmp (g := (mkF m 4 #[.val (.ref o0)] [(.ref w0), (.ref o0)])) X1 hx rfl rfl rfl (pc0 := 4) (pc' := 35) (same := true) rfl (hb hby d1_4) rfl (decide_eq_true (congrArg Value.ref ha4_3)) (by decide) (by decide) ?_
      show Steps p.tables e below (T1.setTop (mkF m 35 #[.val (.ref o0)] [])) t
      refine XS.iconst X1.here hx rfl (hb hby d1_35) ?_
      show Steps p.tables e below (T1.setTop (mkF m 36 #[.val (.ref o0)] [(.int (1 : Int32))])) t
      refine XS.goto X1.here hx rfl (pc0 := 36) (pc' := 40) rfl (hb hby d1_36) (by decide) (by decide) ?_
      exact k
    obtain ⟨fs, hr, hrun, hended, hW, hsame⟩ := X1.leave (v := some (.int (1 : Int32))) (fun h => by rw [Bd.returns] at h; cases h)
    refine ⟨_, _, R5 _ ?_, hrun, hended, _, _, rfl, ?_, ⟨_, rfl⟩, hW, hsame.mono (by decide) (by decide)⟩
    · exact retN X1 hx (t := .boolean) Bd.returns (by simp) (hb hby d1_40) hr
    · show Q_rm1 Z o0 w0 w1 w2 w3 w4 h0 n0 _ T1.heap _
      rw [e1]
      exact ⟨own_i (by simp [own_f, ha4_3]), N0, rfl⟩
  · have R7 : Rch p e below (s₁.setTop (entryFrame m #[(.ref o0)] 1)) T1 (mkF m 8 #[.val (.ref o0)] [(.ref o0)]) := fun t k => by
      refine R4 t ?_
      refine Jvm.RoadKit.acmp (g := (mkF m 4 #[.val (.ref o0)] [(.ref w0), (.ref o0)])) X1 hx rfl rfl rfl (pc0 := 4) (pc' := 7) (same := false) rfl (hb hby d1_4) rfl (decide_eq_false (fun q => ha4_3 (Value.ref.inj q))) (by decide) (by decide) ?_
      show Steps p.tables e below (T1.setTop (mkF m 7 #[.val (.ref o0)] [])) t
      refine XS.aloadN X1.here hx rfl (hb hby d1_7) rfl rfl ?_
      exact k
    obtain ⟨T6, X6, e6, st6⟩ := getS2 X1 hx hZ hown (host := "") (Or.inl (hw _ (List.mem_of_getElem? (i := 26) rfl))) Via.refl e1 pS1 (g := (mkF m 8 #[.val (.ref o0)] [(.ref o0)])) rfl (hb hby d1_8)
    have R9 : Rch p e below (s₁.setTop (entryFrame m #[(.ref o0)] 1)) T6 (mkF m 11 #[.val (.ref o0)] [(.ref w1), (.ref o0)]) := fun t k => by
      refine R7 t ?_
      refine st6 _ ?_
      exact k
    by_cases ha11_8 : o0 = w1
    · have R10 : Rch p e below (s₁.setTop (entryFrame m #[(.ref o0)] 1)) T6 (mkF m 40 #[.val (.ref o0)] [(.int (1 : Int32))]) := fun t k => by
        refine R9 t ?_
        refine Jvm.RoadKit.acmp (g := (mkF m 11 #[.val (.ref o0)] [(.ref w1), (.ref o0)])) X6 hx rfl rfl rfl (pc0 := 11) (pc' := 35) (same := true) rfl (hb hby d1_11) rfl (decide_eq_true (congrArg Value.ref ha11_8)) (by decide) (by decide) ?_
        show Steps p.tables e below (T6.setTop (mkF m 35 #[.val (.ref o0)] [])) t
        refine XS.iconst X6.here hx rfl (hb hby d1_35) ?_
        show Steps p.tables e below (T6.setTop (mkF m 36 #[.val (.ref o0)] [(.int (1 : Int32))])) t
        refine XS.goto X6.here hx rfl (pc0 := 36) (pc' := 40) rfl (hb hby d1_36) (by decide) (by decide) ?_
        exact k
      obtain ⟨fs, hr, hrun, hended, hW, hsame⟩ := X6.leave (v := some (.int (1 : Int32))) (fun h => by rw [Bd.returns] at h; cases h)
      refine ⟨_, _, R10 _ ?_, hrun, hended, _, _, rfl, ?_, ⟨_, rfl⟩, hW, hsame.mono (by decide) (by decide)⟩
      · exact retN X6 hx (t := .boolean) Bd.returns (by simp) (hb hby d1_40) hr
      · show Q_rm1 Z o0 w0 w1 w2 w3 w4 h0 n0 _ T6.heap _
        rw [e6]
        exact ⟨own_i (by simp [own_f, ha4_3, ha11_8]), N0, rfl⟩
    · have R12 : Rch p e below (s₁.setTop (entryFrame m #[(.ref o0)] 1)) T6 (mkF m 15 #[.val (.ref o0)] [(.ref o0)]) := fun t k => by
        refine R9 t ?_
        refine Jvm.RoadKit.acmp (g := (mkF m 11 #[.val (.ref o0)] [(.ref w1), (.ref o0)])) X6 hx rfl rfl rfl (pc0 := 11) (pc' := 14) (same := false) rfl (hb hby d1_11) rfl (decide_eq_false (fun q => ha11_8 (Value.ref.inj q))) (by decide) (by decide) ?_
        show Steps p.tables e below (T6.setTop (mkF m 14 #[.val (.ref o0)] [])) t
        refine XS.aloadN X6.here hx rfl (hb hby d1_14) rfl rfl ?_
        exact k
      obtain ⟨T11, X11, e11, st11⟩ := getS2 X6 hx hZ hown (host := "") (Or.inl (hw _ (List.mem_of_getElem? (i := 27) rfl))) Via.refl e6 pS2 (g := (mkF m 15 #[.val (.ref o0)] [(.ref o0)])) rfl (hb hby d1_15)
      have R14 : Rch p e below (s₁.setTop (entryFrame m #[(.ref o0)] 1)) T11 (mkF m 18 #[.val (.ref o0)] [(.ref w2), (.ref o0)]) := fun t k => by
        refine R12 t ?_
        refine st11 _ ?_
        exact k
      by_cases ha18_13 : o0 = w2
      · have R15 : Rch p e below (s₁.setTop (entryFrame m #[(.ref o0)] 1)) T11 (mkF m 40 #[.val (.ref o0)] [(.int (1 : Int32))]) := fun t k => by
          refine R14 t ?_
          refine Jvm.RoadKit.acmp (g := (mkF m 18 #[.val (.ref o0)] [(.ref w2), (.ref o0)])) X11 hx rfl rfl rfl (pc0 := 18) (pc' := 35) (same := true) rfl (hb hby d1_18) rfl (decide_eq_true (congrArg Value.ref ha18_13)) (by decide) (by decide) ?_
          show Steps p.tables e below (T11.setTop (mkF m 35 #[.val (.ref o0)] [])) t
          refine XS.iconst X11.here hx rfl (hb hby d1_35) ?_
          show Steps p.tables e below (T11.setTop (mkF m 36 #[.val (.ref o0)] [(.int (1 : Int32))])) t
          refine XS.goto X11.here hx rfl (pc0 := 36) (pc' := 40) rfl (hb hby d1_36) (by decide) (by decide) ?_
          exact k
        obtain ⟨fs, hr, hrun, hended, hW, hsame⟩ := X11.leave (v := some (.int (1 : Int32))) (fun h => by rw [Bd.returns] at h; cases h)
        refine ⟨_, _, R15 _ ?_, hrun, hended, _, _, rfl, ?_, ⟨_, rfl⟩, hW, hsame.mono (by decide) (by decide)⟩
        · exact retN X11 hx (t := .boolean) Bd.returns (by simp) (hb hby d1_40) hr
        · show Q_rm1 Z o0 w0 w1 w2 w3 w4 h0 n0 _ T11.heap _
          rw [e11]
          exact ⟨own_i (by simp [own_f, ha4_3, ha11_8, ha18_13]), N0, rfl⟩
      · have R17 : Rch p e below (s₁.setTop (entryFrame m #[(.ref o0)] 1)) T11 (mkF m 22 #[.val (.ref o0)] [(.ref o0)]) := fun t k => by
          refine R14 t ?_
          refine Jvm.RoadKit.acmp (g := (mkF m 18 #[.val (.ref o0)] [(.ref w2), (.ref o0)])) X11 hx rfl rfl rfl (pc0 := 18) (pc' := 21) (same := false) rfl (hb hby d1_18) rfl (decide_eq_false (fun q => ha18_13 (Value.ref.inj q))) (by decide) (by decide) ?_
          show Steps p.tables e below (T11.setTop (mkF m 21 #[.val (.ref o0)] [])) t
          refine XS.aloadN X11.here hx rfl (hb hby d1_21) rfl rfl ?_
          exact k
        obtain ⟨T16, X16, e16, st16⟩ := getS2 X11 hx hZ hown (host := "") (Or.inl (hw _ (List.mem_of_getElem? (i := 28) rfl))) Via.refl e11 pS3 (g := (mkF m 22 #[.val (.ref o0)] [(.ref o0)])) rfl (hb hby d1_22)
        have R19 : Rch p e below (s₁.setTop (entryFrame m #[(.ref o0)] 1)) T16 (mkF m 25 #[.val (.ref o0)] [(.ref w3), (.ref o0)]) := fun t k => by
          refine R17 t ?_
          refine st16 _ ?_
          exact k
        by_cases ha25_18 : o0 = w3
        · have R20 : Rch p e below (s₁.setTop (entryFrame m #[(.ref o0)] 1)) T16 (mkF m 40 #[.val (.ref o0)] [(.int (1 : Int32))]) := fun t k => by
            refine R19 t ?_
            refine Jvm.RoadKit.acmp (g := (mkF m 25 #[.val (.ref o0)] [(.ref w3), (.ref o0)])) X16 hx rfl rfl rfl (pc0 := 25) (pc' := 35) (same := true) rfl (hb hby d1_25) rfl (decide_eq_true (congrArg Value.ref ha25_18)) (by decide) (by decide) ?_
            show Steps p.tables e below (T16.setTop (mkF m 35 #[.val (.ref o0)] [])) t
            refine XS.iconst X16.here hx rfl (hb hby d1_35) ?_
            show Steps p.tables e below (T16.setTop (mkF m 36 #[.val (.ref o0)] [(.int (1 : Int32))])) t
            refine XS.goto X16.here hx rfl (pc0 := 36) (pc' := 40) rfl (hb hby d1_36) (by decide) (by decide) ?_
            exact k
          obtain ⟨fs, hr, hrun, hended, hW, hsame⟩ := X16.leave (v := some (.int (1 : Int32))) (fun h => by rw [Bd.returns] at h; cases h)
          refine ⟨_, _, R20 _ ?_, hrun, hended, _, _, rfl, ?_, ⟨_, rfl⟩, hW, hsame.mono (by decide) (by decide)⟩
          · exact retN X16 hx (t := .boolean) Bd.returns (by simp) (hb hby d1_40) hr
          · show Q_rm1 Z o0 w0 w1 w2 w3 w4 h0 n0 _ T16.heap _
            rw [e16]
            exact ⟨own_i (by simp [own_f, ha4_3, ha11_8, ha18_13, ha25_18]), N0, rfl⟩
        · have R22 : Rch p e below (s₁.setTop (entryFrame m #[(.ref o0)] 1)) T16 (mkF m 29 #[.val (.ref o0)] [(.ref o0)]) := fun t k => by
            refine R19 t ?_
            refine Jvm.RoadKit.acmp (g := (mkF m 25 #[.val (.ref o0)] [(.ref w3), (.ref o0)])) X16 hx rfl rfl rfl (pc0 := 25) (pc' := 28) (same := false) rfl (hb hby d1_25) rfl (decide_eq_false (fun q => ha25_18 (Value.ref.inj q))) (by decide) (by decide) ?_
            show Steps p.tables e below (T16.setTop (mkF m 28 #[.val (.ref o0)] [])) t
            refine XS.aloadN X16.here hx rfl (hb hby d1_28) rfl rfl ?_
            exact k
          obtain ⟨T21, X21, e21, st21⟩ := getS2 X16 hx hZ hown (host := "") (Or.inl (hw _ (List.mem_of_getElem? (i := 29) rfl))) Via.refl e16 pS4 (g := (mkF m 29 #[.val (.ref o0)] [(.ref o0)])) rfl (hb hby d1_29)
          have R24 : Rch p e below (s₁.setTop (entryFrame m #[(.ref o0)] 1)) T21 (mkF m 32 #[.val (.ref o0)] [(.ref w4), (.ref o0)]) := fun t k => by
            refine R22 t ?_
            refine st21 _ ?_
            exact k
          by_cases ha32_23 : o0 = w4
          · have R25 : Rch p e below (s₁.setTop (entryFrame m #[(.ref o0)] 1)) T21 (mkF m 40 #[.val (.ref o0)] [(.int (1 : Int32))]) := fun t k => by
              refine R24 t ?_
              refine Jvm.RoadKit.acmp (g := (mkF m 32 #[.val (.ref o0)] [(.ref w4), (.ref o0)])) X21 hx rfl rfl rfl (pc0 := 32) (pc' := 35) (same := true) rfl (hb hby d1_32) rfl (decide_eq_true (congrArg Value.ref ha32_23)) (by decide) (by decide) ?_
              show Steps p.tables e below (T21.setTop (mkF m 35 #[.val (.ref o0)] [])) t
              refine XS.iconst X21.here hx rfl (hb hby d1_35) ?_
              show Steps p.tables e below (T21.setTop (mkF m 36 #[.val (.ref o0)] [(.int (1 : Int32))])) t
              refine XS.goto X21.here hx rfl (pc0 := 36) (pc' := 40) rfl (hb hby d1_36) (by decide) (by decide) ?_
              exact k
            obtain ⟨fs, hr, hrun, hended, hW, hsame⟩ := X21.leave (v := some (.int (1 : Int32))) (fun h => by rw [Bd.returns] at h; cases h)
            refine ⟨_, _, R25 _ ?_, hrun, hended, _, _, rfl, ?_, ⟨_, rfl⟩, hW, hsame.mono (by decide) (by decide)⟩
            · exact retN X21 hx (t := .boolean) Bd.returns (by simp) (hb hby d1_40) hr
            · show Q_rm1 Z o0 w0 w1 w2 w3 w4 h0 n0 _ T21.heap _
              rw [e21]
              exact ⟨own_i (by simp [own_f, ha4_3, ha11_8, ha18_13, ha25_18, ha32_23]), N0, rfl⟩
          · have R26 : Rch p e below (s₁.setTop (entryFrame m #[(.ref o0)] 1)) T21 (mkF m 40 #[.val (.ref o0)] [(.int (0 : Int32))]) := fun t k => by
              refine R24 t ?_
              refine Jvm.RoadKit.acmp (g := (mkF m 32 #[.val (.ref o0)] [(.ref w4), (.ref o0)])) X21 hx rfl rfl rfl (pc0 := 32) (pc' := 39) (same := false) rfl (hb hby d1_32) rfl (decide_eq_false (fun q => ha32_23 (Value.ref.inj q))) (by decide) (by decide) ?_
              show Steps p.tables e below (T21.setTop (mkF m 39 #[.val (.ref o0)] [])) t
              refine XS.iconst X21.here hx rfl (hb hby d1_39) ?_
              exact k
            obtain ⟨fs, hr, hrun, hended, hW, hsame⟩ := X21.leave (v := some (.int (0 : Int32))) (fun h => by rw [Bd.returns] at h; cases h)
            refine ⟨_, _, R26 _ ?_, hrun, hended, _, _, rfl, ?_, ⟨_, rfl⟩, hW, hsame.mono (by decide) (by decide)⟩
            · exact retN X21 hx (t := .boolean) Bd.returns (by simp) (hb hby d1_40) hr
            · show Q_rm1 Z o0 w0 w1 w2 w3 w4 h0 n0 _ T21.heap _
              rw [e21]
              exact ⟨own_i (by simp [own_f, ha4_3, ha11_8, ha18_13, ha25_18, ha32_23]), N0, rfl⟩
theorem pd_0 : parseMethodDescriptor "()Z" = some ⟨[], some .boolean⟩ := by decide +kernel
theorem ef_rm0 (m : MethodId) (x0 : Int32) : entryFrame m #[(.int x0)] maxLocals = mkF m 0 #[.val (.int x0), .unset, .unset, .unset, .unset] [] := by first | (simp [entryFrame, mkF, argsToLocals, Value.category, maxLocals]; done) | rfl
theorem pn_1 : plainName "com/example/logtide/logtide/mariadb/RoleChangesPinLaw" = true := by first | (simp [plainName, overriddenIn]; done) | decide +kernel
def Q_rm0 (Z : State) (q0 : Int32) (w0 : Addr) (w1 : Addr) (w2 : Addr) (w3 : Addr) (w4 : Addr) (w5 : Addr) (w6 : Addr) (w7 : Addr) (h0 : Heap) (n0 : Nat) (v : Option Value) (h : Heap) (L : List Loc) : Prop := (v = some (.int (1 : Int32))) ∧ (Fr n0 L) ∧ (Keep h0 h [])
set_option maxRecDepth 65536 in
set_option maxHeartbeats 40000000 in
theorem rm0 (l : Launch) (Z : State) (a0 : Array Value) (hw : ∀ d ∈ tables_1, d.before a0 Z = true) (ws : List Jvm.Cond) (q0 : Int32) (w0 : Addr) (w1 : Addr) (w2 : Addr) (w3 : Addr) (w4 : Addr) (w5 : Addr) (w6 : Addr) (w7 : Addr) (h0 : Heap) (n0 : Nat) (Z0 : n0 ≤ h0.size) (pS0 : Sta Z h0 "com/example/logtide/logtide/mariadb/DdlStatement$Role" "CHANGED" "Lcom/example/logtide/logtide/mariadb/DdlStatement$Role;" (.ref w0)) (pS1 : Sta Z h0 "com/example/logtide/logtide/mariadb/DdlStatement$Role" "MADE" "Lcom/example/logtide/logtide/mariadb/DdlStatement$Role;" (.ref w1)) (pS2 : Sta Z h0 "com/example/logtide/logtide/mariadb/DdlStatement$Role" "REPLACED" "Lcom/example/logtide/logtide/mariadb/DdlStatement$Role;" (.ref w2)) (pS3 : Sta Z h0 "com/example/logtide/logtide/mariadb/DdlStatement$Role" "RENAMED_TO" "Lcom/example/logtide/logtide/mariadb/DdlStatement$Role;" (.ref w3)) (pS4 : Sta Z h0 "com/example/logtide/logtide/mariadb/DdlStatement$Role" "MERGED" "Lcom/example/logtide/logtide/mariadb/DdlStatement$Role;" (.ref w4)) (pS5 : Sta Z h0 "com/example/logtide/logtide/mariadb/DdlStatement$Role" "MODEL" "Lcom/example/logtide/logtide/mariadb/DdlStatement$Role;" (.ref w5)) (pS6 : Sta Z h0 "com/example/logtide/logtide/mariadb/DdlStatement$Role" "REFERENCED" "Lcom/example/logtide/logtide/mariadb/DdlStatement$Role;" (.ref w6)) (pS7 : Sta Z h0 "com/example/logtide/logtide/mariadb/DdlStatement$Role" "SEQUENCE" "Lcom/example/logtide/logtide/mariadb/DdlStatement$Role;" (.ref w7)) (pE0 : Exa Z h0 w0 "com/example/logtide/logtide/mariadb/DdlStatement$Role") (pE1 : Exa Z h0 w1 "com/example/logtide/logtide/mariadb/DdlStatement$Role") (pE2 : Exa Z h0 w2 "com/example/logtide/logtide/mariadb/DdlStatement$Role") (pE3 : Exa Z h0 w3 "com/example/logtide/logtide/mariadb/DdlStatement$Role") (pE4 : Exa Z h0 w4 "com/example/logtide/logtide/mariadb/DdlStatement$Role") (pE5 : Exa Z h0 w5 "com/example/logtide/logtide/mariadb/DdlStatement$Role") (pE6 : Exa Z h0 w6 "com/example/logtide/logtide/mariadb/DdlStatement$Role") (pE7 : Exa Z h0 w7 "com/example/logtide/logtide/mariadb/DdlStatement$Role") (pn0_1 : w0 ≠ w1) (pn0_2 : w0 ≠ w2) (pn0_3 : w0 ≠ w3) (pn0_4 : w0 ≠ w4) (pn1_0 : w1 ≠ w0) (pn1_2 : w1 ≠ w2) (pn1_3 : w1 ≠ w3) (pn1_4 : w1 ≠ w4) (pn2_0 : w2 ≠ w0) (pn2_1 : w2 ≠ w1) (pn2_3 : w2 ≠ w3) (pn2_4 : w2 ≠ w4) (pn3_0 : w3 ≠ w0) (pn3_1 : w3 ≠ w1) (pn3_2 : w3 ≠ w2) (pn3_4 : w3 ≠ w4) (pn4_0 : w4 ≠ w0) (pn4_1 : w4 ≠ w1) (pn4_2 : w4 ≠ w2) (pn4_3 : w4 ≠ w3) (pn5_0 : w5 ≠ w0) (pn5_1 : w5 ≠ w1) (pn5_2 : w5 ≠ w2) (pn5_3 : w5 ≠ w3) (pn5_4 : w5 ≠ w4) (pn6_0 : w6 ≠ w0) (pn6_1 : w6 ≠ w1) (pn6_2 : w6 ≠ w2) (pn6_3 : w6 ≠ w3) (pn6_4 : w6 ≠ w4) (pn7_0 : w7 ≠ w0) (pn7_1 : w7 ≠ w1) (pn7_2 : w7 ≠ w2) (pn7_3 : w7 ≠ w3) (pn7_4 : w7 ≠ w4) :
    MetFree l x (head1 (Jvm.Cond.code x code maxLocals ret :: ws) room_1) (fun a U => a = #[(.int q0)] ∧ Z.Warmed39 U.vm ∧ U.heap = h0) (fun _ _ _ _ _ => True) (fun _ U o U' => ∃ v L, o = .returned v ∧ Q_rm0 Z q0 w0 w1 w2 w3 w4 w5 w6 w7 h0 n0 v U'.heap L ∧ FrameEnd U o U' L room_1.cells room_1.slots) := by
  refine MetFree.of_bodySF (plainFor_of_name pn_1) hisR ?_
  intro p e s m args below meth c s₁ Bd hml0 hP hK
  obtain ⟨rfl, hZ, hh⟩ := hP
  have hx := Bd.exec
  have hby := Bd.bytes
  have hml : c.maxLocals = 5 := hml0
  have hown : s.vm.findClass "com/example/logtide/logtide/mariadb/RoleChangesPinLaw" = some m.cls := findClass_of_methodNamed Bd.named
  have hnm := (name_of_methodNamed Bd.named Bd.method).1
  have X0 : Stand p l e room_1 s m #[(.int q0)] below meth c s₁ [] 0 0 := Stand.of_body Bd
  have e0 : s₁.heap = h0 := by rw [← hh, Bd.state]; rfl
  have N0 := Fr.nil n0
  have K0 : Keep h0 h0 [] := Keep.refl _ _
  have R0 : Rch p e below (s₁.setTop (entryFrame m #[(.int q0)] maxLocals)) s₁ (mkF m 0 #[.val (.int q0), .unset, .unset, .unset, .unset] []) := fun t k => castTop (ef_rm0 m q0) k
  have R2 : Rch p e below (s₁.setTop (entryFrame m #[(.int q0)] maxLocals)) s₁ (mkF m 7 #[.val (.int q0), .val (.int (q0 &&& (7 : Int32))), .unset, .unset, .unset] [(.int (8 : Int32))]) := fun t k => by
    refine R0 t ?_
    refine XS.iloadN X0.here hx rfl (hb hby at_0) rfl ?_
    show Steps p.tables e below (s₁.setTop (mkF m 1 #[.val (.int q0), .unset, .unset, .unset, .unset] [(.int q0)])) t
    refine XS.bipush X0.here hx rfl (hb hby at_1) ?_
    show Steps p.tables e below (s₁.setTop (mkF m 3 #[.val (.int q0), .unset, .unset, .unset, .unset] [(.int (7 : Int32)), (.int q0)])) t
    refine XS.iand X0.here hx rfl (hb hby at_3) rfl ?_
    show Steps p.tables e below (s₁.setTop (mkF m 4 #[.val (.int q0), .unset, .unset, .unset, .unset] [(.int (q0 &&& (7 : Int32)))])) t
    refine XS.istoreN X0.here hx rfl (hb hby at_4) rfl (l' := #[.val (.int q0), .val (.int (q0 &&& (7 : Int32))), .unset, .unset, .unset]) rfl ?_
    show Steps p.tables e below (s₁.setTop (mkF m 5 #[.val (.int q0), .val (.int (q0 &&& (7 : Int32))), .unset, .unset, .unset] [])) t
    refine XS.bipush X0.here hx rfl (hb hby at_5) ?_
    exact k
  obtain ⟨T1, h1, k1, X1, e1, E1, A1, O1, st1⟩ := newR X0 hx hZ hown (hw _ (List.mem_of_getElem? (i := 0) rfl)) (hw _ (List.mem_of_getElem? (i := 1) rfl)) e0 (g := (mkF m 7 #[.val (.int q0), .val (.int (q0 &&& (7 : Int32))), .unset, .unset, .unset] [(.int (8 : Int32))])) rfl (hb hby at_7) rfl (by decide) (cap := 8) (by decide) (by decide) (by decide) (by decide)
  obtain ⟨b1, g1⟩ : ∃ z, z = h0.size := ⟨_, rfl⟩
  rw [← g1] at A1 st1
  have g_b1 : n0 ≤ b1 := Nat.le_trans (Nat.le_trans Z0 K0.1) (Nat.le_of_eq g1.symm)
  have sz_b1 : h0.size ≤ b1 := Nat.le_trans K0.1 (Nat.le_of_eq g1.symm)
  have K1 : Keep h0 h1 [] := K0.ext E1
  have V1 : Arv Z h1 b1 k1 (.object "com/example/logtide/logtide/mariadb/DdlStatement$Role") (8 : Int32) [.null, .null, .null, .null, .null, .null, .null, .null] .null := (Arv.new A1 (by decide)).pad (pad_rep [] .null 8)
  have R4 : Rch p e below (s₁.setTop (entryFrame m #[(.int q0)] maxLocals)) T1 (mkF m 12 #[.val (.int q0), .val (.int (q0 &&& (7 : Int32))), .unset, .unset, .unset] [(.int (0 : Int32)), (.ref b1), (.ref b1)]) := fun t k => by
    refine R2 t ?_
    refine st1 _ ?_
    show Steps p.tables e below (T1.setTop (mkF m 10 #[.val (.int q0), .val (.int (q0 &&& (7 : Int32))), .unset, .unset, .unset] [(.ref b1)])) t
    refine XS.dup X1.here hx rfl (hb hby at_10) rfl rfl ?_
    show Steps p.tables e below (T1.setTop (mkF m 11 #[.val (.int q0), .val (.int (q0 &&& (7 : Int32))), .unset, .unset, .unset] [(.ref b1), (.ref b1)])) t
    refine XS.iconst X1.here hx rfl (hb hby at_11) ?_
    exact k
  obtain ⟨T3, X3, e3, st3⟩ := getS2 X1 hx hZ hown (host := "") (Or.inl (hw _ (List.mem_of_getElem? (i := 2) rfl))) Via.refl e1 (pS0.ext E1) (g := (mkF m 12 #[.val (.int q0), .val (.int (q0 &&& (7 : Int32))), .unset, .unset, .unset] [(.int (0 : Int32)), (.ref b1), (.ref b1)])) rfl (hb hby at_12)
  have R6 : Rch p e below (s₁.setTop (entryFrame m #[(.int q0)] maxLocals)) T3 (mkF m 15 #[.val (.int q0), .val (.int (q0 &&& (7 : Int32))), .unset, .unset, .unset] [(.ref w0), (.int (0 : Int32)), (.ref b1), (.ref b1)]) := fun t k => by
    refine R4 t ?_
    refine st3 _ ?_
    exact k
  obtain ⟨cl5, Ar5, q5, Sz5, N5_, Hs5, G5⟩ := V1
  have hin5 : ¬ ((0 : Int32) < 0 ∨ cl5.slots.size ≤ ((0 : Int32)).toNatClampNeg) := inb_of Sz5 ⟨by decide, by decide⟩
  obtain ⟨T7, h7, X7, e7, W7, st7⟩ := stR X3 hx hZ e3 Ar5 (j := (0 : Int32)) hin5 rfl (Sto.ofV Ar5 q5 O1 (Ins.self (pE0.ext E1))) (g := (mkF m 15 #[.val (.int q0), .val (.int (q0 &&& (7 : Int32))), .unset, .unset, .unset] [(.ref w0), (.int (0 : Int32)), (.ref b1), (.ref b1)])) rfl rfl (hb hby at_15)
  have V7 : Arv Z h7 b1 k1 (.object "com/example/logtide/logtide/mariadb/DdlStatement$Role") (8 : Int32) [(.ref w0), .null, .null, .null, .null, .null, .null, .null] .null := Arv.set Ar5 q5 Sz5 N5_ Hs5 G5 rfl W7 0 rfl (Nat.le_of_ble_eq_true rfl)
  have K7 : Keep h0 h7 [] := K1.wr W7 (Or.inr sz_b1)
  have N7 := Fr.snoc X7 N0 g_b1
  have R9 : Rch p e below (s₁.setTop (entryFrame m #[(.int q0)] maxLocals)) T7 (mkF m 18 #[.val (.int q0), .val (.int (q0 &&& (7 : Int32))), .unset, .unset, .unset] [(.int (1 : Int32)), (.ref b1), (.ref b1)]) := fun t k => by
    refine R6 t ?_
    refine st7 _ ?_
    show Steps p.tables e below (T7.setTop (mkF m 16 #[.val (.int q0), .val (.int (q0 &&& (7 : Int32))), .unset, .unset, .unset] [(.ref b1)])) t
    refine XS.dup X7.here hx rfl (hb hby at_16) rfl rfl ?_
    show Steps p.tables e below (T7.setTop (mkF m 17 #[.val (.int q0), .val (.int (q0 &&& (7 : Int32))), .unset, .unset, .unset] [(.ref b1), (.ref b1)])) t
    refine XS.iconst X7.here hx rfl (hb hby at_17) ?_
    exact k
  obtain ⟨T8, X8, e8, st8⟩ := getS2 X7 hx hZ hown (host := "") (Or.inl (hw _ (List.mem_of_getElem? (i := 6) rfl))) Via.refl e7 ((pS1.ext E1).wr W7) (g := (mkF m 18 #[.val (.int q0), .val (.int (q0 &&& (7 : Int32))), .unset, .unset, .unset] [(.int (1 : Int32)), (.ref b1), (.ref b1)])) rfl (hb hby at_18)
  have R11 : Rch p e below (s₁.setTop (entryFrame m #[(.int q0)] maxLocals)) T8 (mkF m 21 #[.val (.int q0), .val (.int (q0 &&& (7 : Int32))), .unset, .unset, .unset] [(.ref w1), (.int (1 : Int32)), (.ref b1), (.ref b1)]) := fun t k => by
    refine R9 t ?_
    refine st8 _ ?_
    exact k
  obtain ⟨cl10, Ar10, q10, Sz10, N10_, Hs10, G10⟩ := V7
  have hin10 : ¬ ((1 : Int32) < 0 ∨ cl10.slots.size ≤ ((1 : Int32)).toNatClampNeg) := inb_of Sz10 ⟨by decide, by decide⟩
  obtain ⟨T12, h12, X12, e12, W12, st12⟩ := stR X8 hx hZ e8 Ar10 (j := (1 : Int32)) hin10 rfl (Sto.ofV Ar10 q10 O1 (Ins.self ((pE1.ext E1).wr W7))) (g := (mkF m 21 #[.val (.int q0), .val (.int (q0 &&& (7 : Int32))), .unset, .unset, .unset] [(.ref w1), (.int (1 : Int32)), (.ref b1), (.ref b1)])) rfl rfl (hb hby at_21)
  have V12 : Arv Z h12 b1 k1 (.object "com/example/logtide/logtide/mariadb/DdlStatement$Role") (8 : Int32) [(.ref w0), (.ref w1), .null, .null, .null, .null, .null, .null] .null := Arv.set Ar10 q10 Sz10 N10_ Hs10 G10 rfl W12 1 rfl (Nat.le_of_ble_eq_true rfl)
  have K12 : Keep h0 h12 [] := K7.wr W12 (Or.inr sz_b1)
  have N12 := Fr.snoc X12 N7 g_b1
  have R14 : Rch p e below (s₁.setTop (entryFrame m #[(.int q0)] maxLocals)) T12 (mkF m 24 #[.val (.int q0), .val (.int (q0 &&& (7 : Int32))), .unset, .unset, .unset] [(.int (2 : Int32)), (.ref b1), (.ref b1)]) := fun t k => by
    refine R11 t ?_
    refine st12 _ ?_
    show Steps p.tables e below (T12.setTop (mkF m 22 #[.val (.int q0), .val (.int (q0 &&& (7 : Int32))), .unset, .unset, .unset] [(.ref b1)])) t
    refine XS.dup X12.here hx rfl (hb hby at_22) rfl rfl ?_
    show Steps p.tables e below (T12.setTop (mkF m 23 #[.val (.int q0), .val (.int (q0 &&& (7 : Int32))), .unset, .unset, .unset] [(.ref b1), (.ref b1)])) t
    refine XS.iconst X12.here hx rfl (hb hby at_23) ?_
    exact k
  obtain ⟨T13, X13, e13, st13⟩ := getS2 X12 hx hZ hown (host := "") (Or.inl (hw _ (List.mem_of_getElem? (i := 8) rfl))) Via.refl e12 (((pS2.ext E1).wr W7).wr W12) (g := (mkF m 24 #[.val (.int q0), .val (.int (q0 &&& (7 : Int32))), .unset, .unset, .unset] [(.int (2 : Int32)), (.ref b1), (.ref b1)])) rfl (hb hby at_24)
  have R16 : Rch p e below (s₁.setTop (entryFrame m #[(.int q0)] maxLocals)) T13 (mkF m 27 #[.val (.int q0), .val (.int (q0 &&& (7 : Int32))), .unset, .unset, .unset] [(.ref w2), (.int (2 : Int32)), (.ref b1), (.ref b1)]) := fun t k => by
    refine R14 t ?_
    refine st13 _ ?_
    exact k
  obtain ⟨cl15, Ar15, q15, Sz15, N15_, Hs15, G15⟩ := V12
  have hin15 : ¬ ((2 : Int32) < 0 ∨ cl15.slots.size ≤ ((2 : Int32)).toNatClampNeg) := inb_of Sz15 ⟨by decide, by decide⟩
  obtain ⟨T17, h17, X17, e17, W17, st17⟩ := stR X13 hx hZ e13 Ar15 (j := (2 : Int32)) hin15 rfl (Sto.ofV Ar15 q15 O1 (Ins.self (((pE2.ext E1).wr W7).wr W12))) (g := (mkF m 27 #[.val (.int q0), .val (.int (q0 &&& (7 : Int32))), .unset, .unset, .unset] [(.ref w2), (.int (2 : Int32)), (.ref b1), (.ref b1)])) rfl rfl (hb hby at_27)
  have V17 : Arv Z h17 b1 k1 (.object "com/example/logtide/logtide/mariadb/DdlStatement$Role") (8 : Int32) [(.ref w0), (.ref w1), (.ref w2), .null, .null, .null, .null, .null] .null := Arv.set Ar15 q15 Sz15 N15_ Hs15 G15 rfl W17 2 rfl (Nat.le_of_ble_eq_true rfl)
  have K17 : Keep h0 h17 [] := K12.wr W17 (Or.inr sz_b1)
  have N17 := Fr.snoc X17 N12 g_b1
  have R19 : Rch p e below (s₁.setTop (entryFrame m #[(.int q0)] maxLocals)) T17 (mkF m 30 #[.val (.int q0), .val (.int (q0 &&& (7 : Int32))), .unset, .unset, .unset] [(.int (3 : Int32)), (.ref b1), (.ref b1)]) := fun t k => by
    refine R16 t ?_
    refine st17 _ ?_
    show Steps p.tables e below (T17.setTop (mkF m 28 #[.val (.int q0), .val (.int (q0 &&& (7 : Int32))), .unset, .unset, .unset] [(.ref b1)])) t
    refine XS.dup X17.here hx rfl (hb hby at_28) rfl rfl ?_
    show Steps p.tables e below (T17.setTop (mkF m 29 #[.val (.int q0), .val (.int (q0 &&& (7 : Int32))), .unset, .unset, .unset] [(.ref b1), (.ref b1)])) t
    refine XS.iconst X17.here hx rfl (hb hby at_29) ?_
    exact k
  obtain ⟨T18, X18, e18, st18⟩ := getS2 X17 hx hZ hown (host := "") (Or.inl (hw _ (List.mem_of_getElem? (i := 10) rfl))) Via.refl e17 ((((pS3.ext E1).wr W7).wr W12).wr W17) (g := (mkF m 30 #[.val (.int q0), .val (.int (q0 &&& (7 : Int32))), .unset, .unset, .unset] [(.int (3 : Int32)), (.ref b1), (.ref b1)])) rfl (hb hby at_30)
  have R21 : Rch p e below (s₁.setTop (entryFrame m #[(.int q0)] maxLocals)) T18 (mkF m 33 #[.val (.int q0), .val (.int (q0 &&& (7 : Int32))), .unset, .unset, .unset] [(.ref w3), (.int (3 : Int32)), (.ref b1), (.ref b1)]) := fun t k => by
    refine R19 t ?_
    refine st18 _ ?_
    exact k
  obtain ⟨cl20, Ar20, q20, Sz20, N20_, Hs20, G20⟩ := V17
  have hin20 : ¬ ((3 : Int32) < 0 ∨ cl20.slots.size ≤ ((3 : Int32)).toNatClampNeg) := inb_of Sz20 ⟨by decide, by decide⟩
  obtain ⟨T22, h22, X22, e22, W22, st22⟩ := stR X18 hx hZ e18 Ar20 (j := (3 : Int32)) hin20 rfl (Sto.ofV Ar20 q20 O1 (Ins.self ((((pE3.ext E1).wr W7).wr W12).wr W17))) (g := (mkF m 33 #[.val (.int q0), .val (.int (q0 &&& (7 : Int32))), .unset, .unset, .unset] [(.ref w3), (.int (3 : Int32)), (.ref b1), (.ref b1)])) rfl rfl (hb hby at_33)
  have V22 : Arv Z h22 b1 k1 (.object "com/example/logtide/logtide/mariadb/DdlStatement$Role") (8 : Int32) [(.ref w0), (.ref w1), (.ref w2), (.ref w3), .null, .null, .null, .null] .null := Arv.set Ar20 q20 Sz20 N20_ Hs20 G20 rfl W22 3 rfl (Nat.le_of_ble_eq_true rfl)
  have K22 : Keep h0 h22 [] := K17.wr W22 (Or.inr sz_b1)
  have N22 := Fr.snoc X22 N17 g_b1
  have R24 : Rch p e below (s₁.setTop (entryFrame m #[(.int q0)] maxLocals)) T22 (mkF m 36 #[.val (.int q0), .val (.int (q0 &&& (7 : Int32))), .unset, .unset, .unset] [(.int (4 : Int32)), (.ref b1), (.ref b1)]) := fun t k => by
    refine R21 t ?_
    refine st22 _ ?_
    show Steps p.tables e below (T22.setTop (mkF m 34 #[.val (.int q0), .val (.int (q0 &&& (7 : Int32))), .unset, .unset, .unset] [(.ref b1)])) t
    refine XS.dup X22.here hx rfl (hb hby at_34) rfl rfl ?_
    show Steps p.tables e below (T22.setTop (mkF m 35 #[.val (.int q0), .val (.int (q0 &&& (7 : Int32))), .unset, .unset, .unset] [(.ref b1), (.ref b1)])) t
    refine XS.iconst X22.here hx rfl (hb hby at_35) ?_
    exact k
  obtain ⟨T23, X23, e23, st23⟩ := getS2 X22 hx hZ hown (host := "") (Or.inl (hw _ (List.mem_of_getElem? (i := 12) rfl))) Via.refl e22 (((((pS4.ext E1).wr W7).wr W12).wr W17).wr W22) (g := (mkF m 36 #[.val (.int q0), .val (.int (q0 &&& (7 : Int32))), .unset, .unset, .unset] [(.int (4 : Int32)), (.ref b1), (.ref b1)])) rfl (hb hby at_36)
  have R26 : Rch p e below (s₁.setTop (entryFrame m #[(.int q0)] maxLocals)) T23 (mkF m 39 #[.val (.int q0), .val (.int (q0 &&& (7 : Int32))), .unset, .unset, .unset] [(.ref w4), (.int (4 : Int32)), (.ref b1), (.ref b1)]) := fun t k => by
    refine R24 t ?_
    refine st23 _ ?_
    exact k
  obtain ⟨cl25, Ar25, q25, Sz25, N25_, Hs25, G25⟩ := V22
  have hin25 : ¬ ((4 : Int32) < 0 ∨ cl25.slots.size ≤ ((4 : Int32)).toNatClampNeg) := inb_of Sz25 ⟨by decide, by decide⟩
  obtain ⟨T27, h27, X27, e27, W27, st27⟩ := stR X23 hx hZ e23 Ar25 (j := (4 : Int32)) hin25 rfl (Sto.ofV Ar25 q25 O1 (Ins.self (((((pE4.ext E1).wr W7).wr W12).wr W17).wr W22))) (g := (mkF m 39 #[.val (.int q0), .val (.int (q0 &&& (7 : Int32))), .unset, .unset, .unset] [(.ref w4), (.int (4 : Int32)), (.ref b1), (.ref b1)])) rfl rfl (hb hby at_39)
  have V27 : Arv Z h27 b1 k1 (.object "com/example/logtide/logtide/mariadb/DdlStatement$Role") (8 : Int32) [(.ref w0), (.ref w1), (.ref w2), (.ref w3), (.ref w4), .null, .null, .null] .null := Arv.set Ar25 q25 Sz25 N25_ Hs25 G25 rfl W27 4 rfl (Nat.le_of_ble_eq_true rfl)
  have K27 : Keep h0 h27 [] := K22.wr W27 (Or.inr sz_b1)
  have N27 := Fr.snoc X27 N22 g_b1
  have R29 : Rch p e below (s₁.setTop (entryFrame m #[(.int q0)] maxLocals)) T27 (mkF m 42 #[.val (.int q0), .val (.int (q0 &&& (7 : Int32))), .unset, .unset, .unset] [(.int (5 : Int32)), (.ref b1), (.ref b1)]) := fun t k => by
    refine R26 t ?_
    refine st27 _ ?_
    show Steps p.tables e below (T27.setTop (mkF m 40 #[.val (.int q0), .val (.int (q0 &&& (7 : Int32))), .unset, .unset, .unset] [(.ref b1)])) t
    refine XS.dup X27.here hx rfl (hb hby at_40) rfl rfl ?_
    show Steps p.tables e below (T27.setTop (mkF m 41 #[.val (.int q0), .val (.int (q0 &&& (7 : Int32))), .unset, .unset, .unset] [(.ref b1), (.ref b1)])) t
    refine XS.iconst X27.here hx rfl (hb hby at_41) ?_
    exact k
  obtain ⟨T28, X28, e28, st28⟩ := getS2 X27 hx hZ hown (host := "") (Or.inl (hw _ (List.mem_of_getElem? (i := 14) rfl))) Via.refl e27 ((((((pS5.ext E1).wr W7).wr W12).wr W17).wr W22).wr W27) (g := (mkF m 42 #[.val (.int q0), .val (.int (q0 &&& (7 : Int32))), .unset, .unset, .unset] [(.int (5 : Int32)), (.ref b1), (.ref b1)])) rfl (hb hby at_42)
  have R31 : Rch p e below (s₁.setTop (entryFrame m #[(.int q0)] maxLocals)) T28 (mkF m 45 #[.val (.int q0), .val (.int (q0 &&& (7 : Int32))), .unset, .unset, .unset] [(.ref w5), (.int (5 : Int32)), (.ref b1), (.ref b1)]) := fun t k => by
    refine R29 t ?_
    refine st28 _ ?_
    exact k
  obtain ⟨cl30, Ar30, q30, Sz30, N30_, Hs30, G30⟩ := V27
  have hin30 : ¬ ((5 : Int32) < 0 ∨ cl30.slots.size ≤ ((5 : Int32)).toNatClampNeg) := inb_of Sz30 ⟨by decide, by decide⟩
  obtain ⟨T32, h32, X32, e32, W32, st32⟩ := stR X28 hx hZ e28 Ar30 (j := (5 : Int32)) hin30 rfl (Sto.ofV Ar30 q30 O1 (Ins.self ((((((pE5.ext E1).wr W7).wr W12).wr W17).wr W22).wr W27))) (g := (mkF m 45 #[.val (.int q0), .val (.int (q0 &&& (7 : Int32))), .unset, .unset, .unset] [(.ref w5), (.int (5 : Int32)), (.ref b1), (.ref b1)])) rfl rfl (hb hby at_45)
  have V32 : Arv Z h32 b1 k1 (.object "com/example/logtide/logtide/mariadb/DdlStatement$Role") (8 : Int32) [(.ref w0), (.ref w1), (.ref w2), (.ref w3), (.ref w4), (.ref w5), .null, .null] .null := Arv.set Ar30 q30 Sz30 N30_ Hs30 G30 rfl W32 5 rfl (Nat.le_of_ble_eq_true rfl)
  have K32 : Keep h0 h32 [] := K27.wr W32 (Or.inr sz_b1)
  have N32 := Fr.snoc X32 N27 g_b1
  have R34 : Rch p e below (s₁.setTop (entryFrame m #[(.int q0)] maxLocals)) T32 (mkF m 49 #[.val (.int q0), .val (.int (q0 &&& (7 : Int32))), .unset, .unset, .unset] [(.int (6 : Int32)), (.ref b1), (.ref b1)]) := fun t k => by
    refine R31 t ?_
    refine st32 _ ?_
    show Steps p.tables e below (T32.setTop (mkF m 46 #[.val (.int q0), .val (.int (q0 &&& (7 : Int32))), .unset, .unset, .unset] [(.ref b1)])) t
    refine XS.dup X32.here hx rfl (hb hby at_46) rfl rfl ?_
    show Steps p.tables e below (T32.setTop (mkF m 47 #[.val (.int q0), .val (.int (q0 &&& (7 : Int32))), .unset, .unset, .unset] [(.ref b1), (.ref b1)])) t
    refine XS.bipush X32.here hx rfl (hb hby at_47) ?_
    exact k
  obtain ⟨T33, X33, e33, st33⟩ := getS2 X32 hx hZ hown (host := "") (Or.inl (hw _ (List.mem_of_getElem? (i := 16) rfl))) Via.refl e32 (((((((pS6.ext E1).wr W7).wr W12).wr W17).wr W22).wr W27).wr W32) (g := (mkF m 49 #[.val (.int q0), .val (.int (q0 &&& (7 : Int32))), .unset, .unset, .unset] [(.int (6 : Int32)), (.ref b1), (.ref b1)])) rfl (hb hby at_49)
  have R36 : Rch p e below (s₁.setTop (entryFrame m #[(.int q0)] maxLocals)) T33 (mkF m 52 #[.val (.int q0), .val (.int (q0 &&& (7 : Int32))), .unset, .unset, .unset] [(.ref w6), (.int (6 : Int32)), (.ref b1), (.ref b1)]) := fun t k => by
    refine R34 t ?_
    refine st33 _ ?_
    exact k
  obtain ⟨cl35, Ar35, q35, Sz35, N35_, Hs35, G35⟩ := V32
  have hin35 : ¬ ((6 : Int32) < 0 ∨ cl35.slots.size ≤ ((6 : Int32)).toNatClampNeg) := inb_of Sz35 ⟨by decide, by decide⟩
  obtain ⟨T37, h37, X37, e37, W37, st37⟩ := stR X33 hx hZ e33 Ar35 (j := (6 : Int32)) hin35 rfl (Sto.ofV Ar35 q35 O1 (Ins.self (((((((pE6.ext E1).wr W7).wr W12).wr W17).wr W22).wr W27).wr W32))) (g := (mkF m 52 #[.val (.int q0), .val (.int (q0 &&& (7 : Int32))), .unset, .unset, .unset] [(.ref w6), (.int (6 : Int32)), (.ref b1), (.ref b1)])) rfl rfl (hb hby at_52)
  have V37 : Arv Z h37 b1 k1 (.object "com/example/logtide/logtide/mariadb/DdlStatement$Role") (8 : Int32) [(.ref w0), (.ref w1), (.ref w2), (.ref w3), (.ref w4), (.ref w5), (.ref w6), .null] .null := Arv.set Ar35 q35 Sz35 N35_ Hs35 G35 rfl W37 6 rfl (Nat.le_of_ble_eq_true rfl)
  have K37 : Keep h0 h37 [] := K32.wr W37 (Or.inr sz_b1)
  have N37 := Fr.snoc X37 N32 g_b1
  have R39 : Rch p e below (s₁.setTop (entryFrame m #[(.int q0)] maxLocals)) T37 (mkF m 56 #[.val (.int q0), .val (.int (q0 &&& (7 : Int32))), .unset, .unset, .unset] [(.int (7 : Int32)), (.ref b1), (.ref b1)]) := fun t k => by
    refine R36 t ?_
    refine st37 _ ?_
    show Steps p.tables e below (T37.setTop (mkF m 53 #[.val (.int q0), .val (.int (q0 &&& (7 : Int32))), .unset, .unset, .unset] [(.ref b1)])) t
    refine XS.dup X37.here hx rfl (hb hby at_53) rfl rfl ?_
    show Steps p.tables e below (T37.setTop (mkF m 54 #[.val (.int q0), .val (.int (q0 &&& (7 : Int32))), .unset, .unset, .unset] [(.ref b1), (.ref b1)])) t
    refine XS.bipush X37.here hx rfl (hb hby at_54) ?_
    exact k
  obtain ⟨T38, X38, e38, st38⟩ := getS2 X37 hx hZ hown (host := "") (Or.inl (hw _ (List.mem_of_getElem? (i := 18) rfl))) Via.refl e37 ((((((((pS7.ext E1).wr W7).wr W12).wr W17).wr W22).wr W27).wr W32).wr W37) (g := (mkF m 56 #[.val (.int q0), .val (.int (q0 &&& (7 : Int32))), .unset, .unset, .unset] [(.int (7 : Int32)), (.ref b1), (.ref b1)])) rfl (hb hby at_56)
  have R41 : Rch p e below (s₁.setTop (entryFrame m #[(.int q0)] maxLocals)) T38 (mkF m 59 #[.val (.int q0), .val (.int (q0 &&& (7 : Int32))), .unset, .unset, .unset] [(.ref w7), (.int (7 : Int32)), (.ref b1), (.ref b1)]) := fun t k => by
    refine R39 t ?_
    refine st38 _ ?_
    exact k
  obtain ⟨cl40, Ar40, q40, Sz40, N40_, Hs40, G40⟩ := V37
  have hin40 : ¬ ((7 : Int32) < 0 ∨ cl40.slots.size ≤ ((7 : Int32)).toNatClampNeg) := inb_of Sz40 ⟨by decide, by decide⟩
  obtain ⟨T42, h42, X42, e42, W42, st42⟩ := stR X38 hx hZ e38 Ar40 (j := (7 : Int32)) hin40 rfl (Sto.ofV Ar40 q40 O1 (Ins.self ((((((((pE7.ext E1).wr W7).wr W12).wr W17).wr W22).wr W27).wr W32).wr W37))) (g := (mkF m 59 #[.val (.int q0), .val (.int (q0 &&& (7 : Int32))), .unset, .unset, .unset] [(.ref w7), (.int (7 : Int32)), (.ref b1), (.ref b1)])) rfl rfl (hb hby at_59)
  have V42 : Arv Z h42 b1 k1 (.object "com/example/logtide/logtide/mariadb/DdlStatement$Role") (8 : Int32) [(.ref w0), (.ref w1), (.ref w2), (.ref w3), (.ref w4), (.ref w5), (.ref w6), (.ref w7)] .null := Arv.set Ar40 q40 Sz40 N40_ Hs40 G40 rfl W42 7 rfl (Nat.le_of_ble_eq_true rfl)
  have K42 : Keep h0 h42 [] := K37.wr W42 (Or.inr sz_b1)
  have N42 := Fr.snoc X42 N37 g_b1
  have R43 : Rch p e below (s₁.setTop (entryFrame m #[(.int q0)] maxLocals)) T42 (mkF m 61 #[.val (.int q0), .val (.int (q0 &&& (7 : Int32))), .val (.ref b1), .unset, .unset] []) := fun t k => by
    refine R41 t ?_
    refine st42 _ ?_
    show Steps p.tables e below (T42.setTop (mkF m 60 #[.val (.int q0), .val (.int (q0 &&& (7 : Int32))), .unset, .unset, .unset] [(.ref b1)])) t
    refine XS.astoreN X42.here hx rfl (hb hby at_60) rfl rfl (l' := #[.val (.int q0), .val (.int (q0 &&& (7 : Int32))), .val (.ref b1), .unset, .unset]) rfl ?_
    exact k
  rcases own_k q0 with hk | hk | hk | hk | hk | hk | hk | hk
  · rw [hk] at R43
    have R45 : Rch p e below (s₁.setTop (entryFrame m #[(.int q0)] maxLocals)) T42 (mkF m 63 #[.val (.int q0), .val (.int (0 : Int32)), .val (.ref b1), .unset, .unset] [(.int (0 : Int32)), (.ref b1)]) := fun t k => by
      refine R43 t ?_
      refine XS.aloadN X42.here hx rfl (hb hby at_61) rfl rfl ?_
      show Steps p.tables e below (T42.setTop (mkF m 62 #[.val (.int q0), .val (.int (0 : Int32)), .val (.ref b1), .unset, .unset] [(.ref b1)])) t
      refine XS.iloadN X42.here hx rfl (hb hby at_62) rfl ?_
      exact k
    obtain ⟨cl44, Ar44, q44, Sz44, N44_, Hs44, G44⟩ := V42
    have hin44 : ¬ ((0 : Int32) < 0 ∨ cl44.slots.size ≤ ((0 : Int32)).toNatClampNeg) := inb_of Sz44 ⟨by decide, by decide⟩
    have hat44 : cl44.slots[((0 : Int32)).toNatClampNeg]? = some (.ref w0) := Hs44.at hin44 rfl
    have R47 : Rch p e below (s₁.setTop (entryFrame m #[(.int q0)] maxLocals)) T42 (mkF m 78 #[.val (.int q0), .val (.int (0 : Int32)), .val (.ref b1), .val (.ref w0), .val (.int (1 : Int32))] [(.ref w0)]) := fun t k => by
      refine R45 t ?_
      refine X42.aaload hx (j := (0 : Int32)) (v := (.ref w0)) (by rw [e42]; exact Ar44.1) (State.isArrayOf_alike hZ.alike Ar44.2.1) rfl Ar44.2.2 hin44 hat44 (g := (mkF m 63 #[.val (.int q0), .val (.int (0 : Int32)), .val (.ref b1), .unset, .unset] [(.int (0 : Int32)), (.ref b1)])) rfl rfl (hb hby at_63) _ ?_
      show Steps p.tables e below (T42.setTop (mkF m 64 #[.val (.int q0), .val (.int (0 : Int32)), .val (.ref b1), .unset, .unset] [(.ref w0)])) t
      refine XS.astoreN X42.here hx rfl (hb hby at_64) rfl rfl (l' := #[.val (.int q0), .val (.int (0 : Int32)), .val (.ref b1), .val (.ref w0), .unset]) rfl ?_
      show Steps p.tables e below (T42.setTop (mkF m 65 #[.val (.int q0), .val (.int (0 : Int32)), .val (.ref b1), .val (.ref w0), .unset] [])) t
      refine XS.iloadN X42.here hx rfl (hb hby at_65) rfl ?_
      show Steps p.tables e below (T42.setTop (mkF m 66 #[.val (.int q0), .val (.int (0 : Int32)), .val (.ref b1), .val (.ref w0), .unset] [(.int (0 : Int32))])) t
      refine XS.iconst X42.here hx rfl (hb hby at_66) ?_
      show Steps p.tables e below (T42.setTop (mkF m 67 #[.val (.int q0), .val (.int (0 : Int32)), .val (.ref b1), .val (.ref w0), .unset] [(.int (5 : Int32)), (.int (0 : Int32))])) t
      refine XS.icmpNo X42.here hx rfl (hb hby at_67) rfl (tlt (by decide : (0 : Int32) < (5 : Int32))).2.1 ?_
      show Steps p.tables e below (T42.setTop (mkF m 70 #[.val (.int q0), .val (.int (0 : Int32)), .val (.ref b1), .val (.ref w0), .unset] [])) t
      refine XS.iconst X42.here hx rfl (hb hby at_70) ?_
      show Steps p.tables e below (T42.setTop (mkF m 71 #[.val (.int q0), .val (.int (0 : Int32)), .val (.ref b1), .val (.ref w0), .unset] [(.int (1 : Int32))])) t
      refine XS.goto X42.here hx rfl (pc0 := 71) (pc' := 75) rfl (hb hby at_71) (by decide) (by decide) ?_
      show Steps p.tables e below (T42.setTop (mkF m 75 #[.val (.int q0), .val (.int (0 : Int32)), .val (.ref b1), .val (.ref w0), .unset] [(.int (1 : Int32))])) t
      refine XS.istore X42.here hx rfl (hb hby at_75) rfl (l' := #[.val (.int q0), .val (.int (0 : Int32)), .val (.ref b1), .val (.ref w0), .val (.int (1 : Int32))]) rfl ?_
      show Steps p.tables e below (T42.setTop (mkF m 77 #[.val (.int q0), .val (.int (0 : Int32)), .val (.ref b1), .val (.ref w0), .val (.int (1 : Int32))] [])) t
      refine XS.aloadN X42.here hx rfl (hb hby at_77) rfl rfl ?_
      exact k
    obtain ⟨cq46, kq46, q46a, q46b, q46c⟩ := isOf hZ e42 (((((((((pE0.ext E1).wr W7).wr W12).wr W17).wr W22).wr W27).wr W32).wr W37).wr W42)
    obtain ⟨_, _, ⟨T46, L46, k46, n46⟩, -, X46, ⟨Lc46, hQ46, l46, y46, z46⟩, st46⟩ := X42.virtualBack hx (y := (⟨"com/example/logtide/logtide/mariadb/DdlStatement$Role", "changes", "()Z"⟩ : MethodName)) (z := (⟨"com/example/logtide/logtide/mariadb/DdlStatement$Role", "changes", "()Z"⟩ : MethodName)) hown (mvT hZ (hw _ (List.mem_of_getElem? (i := 20) rfl))) (mvT hZ (hw _ (List.mem_of_getElem? (i := 21) rfl))) (notFace_of_selects (args := #[]) (mvT hZ (hw _ (List.mem_of_getElem? (i := 23) rfl)))) (mvT hZ (hw _ (List.mem_of_getElem? (i := 23) rfl))) (mvT hZ (hw _ (List.mem_of_getElem? (i := 22) rfl))) (by decide) (backOf (W := 0) (rm1 l Z a0 hw [] w0 w0 w1 w2 w3 w4 h42 n0 (Nat.le_trans Z0 K42.1) (((((((((pS0.ext E1).wr W7).wr W12).wr W17).wr W22).wr W27).wr W32).wr W37).wr W42) (((((((((pS1.ext E1).wr W7).wr W12).wr W17).wr W22).wr W27).wr W32).wr W37).wr W42) (((((((((pS2.ext E1).wr W7).wr W12).wr W17).wr W22).wr W27).wr W32).wr W37).wr W42) (((((((((pS3.ext E1).wr W7).wr W12).wr W17).wr W22).wr W27).wr W32).wr W37).wr W42) (((((((((pS4.ext E1).wr W7).wr W12).wr W17).wr W22).wr W27).wr W32).wr W37).wr W42)) hZ (hw _ (List.mem_of_getElem? (i := 24) rfl)) (hw _ (List.mem_of_getElem? (i := 3) rfl)) (by decide) (by decide)) q46a q46c (g := (mkF m 78 #[.val (.int q0), .val (.int (0 : Int32)), .val (.ref b1), .val (.ref w0), .val (.int (1 : Int32))] [(.ref w0)])) rfl (by rw [hml]; rfl) (Steps.refl _) (argsL := []) (rest := []) (lenOf pd_0 rfl) rfl (by show 2 * 0 + _ ≤ _; exact Nat.le_of_eq rfl) (hb hby at_78) (fun _ _ => ⟨rfl, e42, (by decide : 1 + 0 ≤ _), (by decide : 8 + 0 ≤ _)⟩)
    dsimp only [Pt.U, Pt.locs, Pt.cells, Pt.slots] at X46 l46 y46 z46 st46 hQ46
    subst l46 y46 z46
    obtain ⟨rfl, N46q, e46⟩ := hQ46
    have N46 := Fr.app N42 N46q
    have hp46 : own_f w0 w0 w1 w2 w3 w4 = (1 : Int32) := by simp [own_f, pn0_1, pn0_2, pn0_3, pn0_4]
    rw [hp46] at st46
    have R48 : Rch p e below (s₁.setTop (entryFrame m #[(.int q0)] maxLocals)) T46 (mkF m 91 #[.val (.int q0), .val (.int (0 : Int32)), .val (.ref b1), .val (.ref w0), .val (.int (1 : Int32))] [(.int (1 : Int32))]) := fun t k => by
      refine R47 t ?_
      refine st46.trans ?_
      show Steps p.tables e below (T46.setTop (mkF m 81 #[.val (.int q0), .val (.int (0 : Int32)), .val (.ref b1), .val (.ref w0), .val (.int (1 : Int32))] [(.int (1 : Int32))])) t
      refine XS.iload X46.here hx rfl (hb hby at_81) rfl ?_
      show Steps p.tables e below (T46.setTop (mkF m 83 #[.val (.int q0), .val (.int (0 : Int32)), .val (.ref b1), .val (.ref w0), .val (.int (1 : Int32))] [(.int (1 : Int32)), (.int (1 : Int32))])) t
      refine XS.icmpNo X46.here hx rfl (hb hby at_83) rfl (teq (by decide : (1 : Int32) = (1 : Int32))).2 ?_
      show Steps p.tables e below (T46.setTop (mkF m 86 #[.val (.int q0), .val (.int (0 : Int32)), .val (.ref b1), .val (.ref w0), .val (.int (1 : Int32))] [])) t
      refine XS.iconst X46.here hx rfl (hb hby at_86) ?_
      show Steps p.tables e below (T46.setTop (mkF m 87 #[.val (.int q0), .val (.int (0 : Int32)), .val (.ref b1), .val (.ref w0), .val (.int (1 : Int32))] [(.int (1 : Int32))])) t
      refine XS.goto X46.here hx rfl (pc0 := 87) (pc' := 91) rfl (hb hby at_87) (by decide) (by decide) ?_
      exact k
    obtain ⟨fs, hr, hrun, hended, hW, hsame⟩ := X46.leave (v := some (.int (1 : Int32))) (fun h => by rw [Bd.returns] at h; cases h)
    refine ⟨_, _, R48 _ ?_, hrun, hended, _, _, rfl, ?_, ⟨_, rfl⟩, hW, hsame.mono (by decide) (by decide)⟩
    · exact retN X46 hx (t := .boolean) Bd.returns (by simp) (hb hby at_91) hr
    · show Q_rm0 Z q0 w0 w1 w2 w3 w4 w5 w6 w7 h0 n0 _ T46.heap _
      rw [e46]
      exact ⟨rfl, N46, K42⟩
  · rw [hk] at R43
    have R50 : Rch p e below (s₁.setTop (entryFrame m #[(.int q0)] maxLocals)) T42 (mkF m 63 #[.val (.int q0), .val (.int (1 : Int32)), .val (.ref b1), .unset, .unset] [(.int (1 : Int32)), (.ref b1)]) := fun t k => by
      refine R43 t ?_
      refine XS.aloadN X42.here hx rfl (hb hby at_61) rfl rfl ?_
      show Steps p.tables e below (T42.setTop (mkF m 62 #[.val (.int q0), .val (.int (1 : Int32)), .val (.ref b1), .unset, .unset] [(.ref b1)])) t
      refine XS.iloadN X42.here hx rfl (hb hby at_62) rfl ?_
      exact k
    obtain ⟨cl49, Ar49, q49, Sz49, N49_, Hs49, G49⟩ := V42
    have hin49 : ¬ ((1 : Int32) < 0 ∨ cl49.slots.size ≤ ((1 : Int32)).toNatClampNeg) := inb_of Sz49 ⟨by decide, by decide⟩
    have hat49 : cl49.slots[((1 : Int32)).toNatClampNeg]? = some (.ref w1) := Hs49.at hin49 rfl
    have R52 : Rch p e below (s₁.setTop (entryFrame m #[(.int q0)] maxLocals)) T42 (mkF m 78 #[.val (.int q0), .val (.int (1 : Int32)), .val (.ref b1), .val (.ref w1), .val (.int (1 : Int32))] [(.ref w1)]) := fun t k => by
      refine R50 t ?_
      refine X42.aaload hx (j := (1 : Int32)) (v := (.ref w1)) (by rw [e42]; exact Ar49.1) (State.isArrayOf_alike hZ.alike Ar49.2.1) rfl Ar49.2.2 hin49 hat49 (g := (mkF m 63 #[.val (.int q0), .val (.int (1 : Int32)), .val (.ref b1), .unset, .unset] [(.int (1 : Int32)), (.ref b1)])) rfl rfl (hb hby at_63) _ ?_
      show Steps p.tables e below (T42.setTop (mkF m 64 #[.val (.int q0), .val (.int (1 : Int32)), .val (.ref b1), .unset, .unset] [(.ref w1)])) t
      refine XS.astoreN X42.here hx rfl (hb hby at_64) rfl rfl (l' := #[.val (.int q0), .val (.int (1 : Int32)), .val (.ref b1), .val (.ref w1), .unset]) rfl ?_
      show Steps p.tables e below (T42.setTop (mkF m 65 #[.val (.int q0), .val (.int (1 : Int32)), .val (.ref b1), .val (.ref w1), .unset] [])) t
      refine XS.iloadN X42.here hx rfl (hb hby at_65) rfl ?_
      show Steps p.tables e below (T42.setTop (mkF m 66 #[.val (.int q0), .val (.int (1 : Int32)), .val (.ref b1), .val (.ref w1), .unset] [(.int (1 : Int32))])) t
      refine XS.iconst X42.here hx rfl (hb hby at_66) ?_
      show Steps p.tables e below (T42.setTop (mkF m 67 #[.val (.int q0), .val (.int (1 : Int32)), .val (.ref b1), .val (.ref w1), .unset] [(.int (5 : Int32)), (.int (1 : Int32))])) t
      refine XS.icmpNo X42.here hx rfl (hb hby at_67) rfl (tlt (by decide : (1 : Int32) < (5 : Int32))).2.1 ?_
      show Steps p.tables e below (T42.setTop (mkF m 70 #[.val (.int q0), .val (.int (1 : Int32)), .val (.ref b1), .val (.ref w1), .unset] [])) t
      refine XS.iconst X42.here hx rfl (hb hby at_70) ?_
      show Steps p.tables e below (T42.setTop (mkF m 71 #[.val (.int q0), .val (.int (1 : Int32)), .val (.ref b1), .val (.ref w1), .unset] [(.int (1 : Int32))])) t
      refine XS.goto X42.here hx rfl (pc0 := 71) (pc' := 75) rfl (hb hby at_71) (by decide) (by decide) ?_
      show Steps p.tables e below (T42.setTop (mkF m 75 #[.val (.int q0), .val (.int (1 : Int32)), .val (.ref b1), .val (.ref w1), .unset] [(.int (1 : Int32))])) t
      refine XS.istore X42.here hx rfl (hb hby at_75) rfl (l' := #[.val (.int q0), .val (.int (1 : Int32)), .val (.ref b1), .val (.ref w1), .val (.int (1 : Int32))]) rfl ?_
      show Steps p.tables e below (T42.setTop (mkF m 77 #[.val (.int q0), .val (.int (1 : Int32)), .val (.ref b1), .val (.ref w1), .val (.int (1 : Int32))] [])) t
      refine XS.aloadN X42.here hx rfl (hb hby at_77) rfl rfl ?_
      exact k
    obtain ⟨cq51, kq51, q51a, q51b, q51c⟩ := isOf hZ e42 (((((((((pE1.ext E1).wr W7).wr W12).wr W17).wr W22).wr W27).wr W32).wr W37).wr W42)
    obtain ⟨_, _, ⟨T51, L51, k51, n51⟩, -, X51, ⟨Lc51, hQ51, l51, y51, z51⟩, st51⟩ := X42.virtualBack hx (y := (⟨"com/example/logtide/logtide/mariadb/DdlStatement$Role", "changes", "()Z"⟩ : MethodName)) (z := (⟨"com/example/logtide/logtide/mariadb/DdlStatement$Role", "changes", "()Z"⟩ : MethodName)) hown (mvT hZ (hw _ (List.mem_of_getElem? (i := 20) rfl))) (mvT hZ (hw _ (List.mem_of_getElem? (i := 21) rfl))) (notFace_of_selects (args := #[]) (mvT hZ (hw _ (List.mem_of_getElem? (i := 23) rfl)))) (mvT hZ (hw _ (List.mem_of_getElem? (i := 23) rfl))) (mvT hZ (hw _ (List.mem_of_getElem? (i := 22) rfl))) (by decide) (backOf (W := 0) (rm1 l Z a0 hw [] w1 w0 w1 w2 w3 w4 h42 n0 (Nat.le_trans Z0 K42.1) (((((((((pS0.ext E1).wr W7).wr W12).wr W17).wr W22).wr W27).wr W32).wr W37).wr W42) (((((((((pS1.ext E1).wr W7).wr W12).wr W17).wr W22).wr W27).wr W32).wr W37).wr W42) (((((((((pS2.ext E1).wr W7).wr W12).wr W17).wr W22).wr W27).wr W32).wr W37).wr W42) (((((((((pS3.ext E1).wr W7).wr W12).wr W17).wr W22).wr W27).wr W32).wr W37).wr W42) (((((((((pS4.ext E1).wr W7).wr W12).wr W17).wr W22).wr W27).wr W32).wr W37).wr W42)) hZ (hw _ (List.mem_of_getElem? (i := 24) rfl)) (hw _ (List.mem_of_getElem? (i := 3) rfl)) (by decide) (by decide)) q51a q51c (g := (mkF m 78 #[.val (.int q0), .val (.int (1 : Int32)), .val (.ref b1), .val (.ref w1), .val (.int (1 : Int32))] [(.ref w1)])) rfl (by rw [hml]; rfl) (Steps.refl _) (argsL := []) (rest := []) (lenOf pd_0 rfl) rfl (by show 2 * 0 + _ ≤ _; exact Nat.le_of_eq rfl) (hb hby at_78) (fun _ _ => ⟨rfl, e42, (by decide : 1 + 0 ≤ _), (by decide : 8 + 0 ≤ _)⟩)
    dsimp only [Pt.U, Pt.locs, Pt.cells, Pt.slots] at X51 l51 y51 z51 st51 hQ51
    subst l51 y51 z51
    obtain ⟨rfl, N51q, e51⟩ := hQ51
    have N51 := Fr.app N42 N51q
    have hp51 : own_f w1 w0 w1 w2 w3 w4 = (1 : Int32) := by simp [own_f, pn1_0, pn1_2, pn1_3, pn1_4]
    rw [hp51] at st51
    have R53 : Rch p e below (s₁.setTop (entryFrame m #[(.int q0)] maxLocals)) T51 (mkF m 91 #[.val (.int q0), .val (.int (1 : Int32)), .val (.ref b1), .val (.ref w1), .val (.int (1 : Int32))] [(.int (1 : Int32))]) := fun t k => by
      refine R52 t ?_
      refine st51.trans ?_
      show Steps p.tables e below (T51.setTop (mkF m 81 #[.val (.int q0), .val (.int (1 : Int32)), .val (.ref b1), .val (.ref w1), .val (.int (1 : Int32))] [(.int (1 : Int32))])) t
      refine XS.iload X51.here hx rfl (hb hby at_81) rfl ?_
      show Steps p.tables e below (T51.setTop (mkF m 83 #[.val (.int q0), .val (.int (1 : Int32)), .val (.ref b1), .val (.ref w1), .val (.int (1 : Int32))] [(.int (1 : Int32)), (.int (1 : Int32))])) t
      refine XS.icmpNo X51.here hx rfl (hb hby at_83) rfl (teq (by decide : (1 : Int32) = (1 : Int32))).2 ?_
      show Steps p.tables e below (T51.setTop (mkF m 86 #[.val (.int q0), .val (.int (1 : Int32)), .val (.ref b1), .val (.ref w1), .val (.int (1 : Int32))] [])) t
      refine XS.iconst X51.here hx rfl (hb hby at_86) ?_
      show Steps p.tables e below (T51.setTop (mkF m 87 #[.val (.int q0), .val (.int (1 : Int32)), .val (.ref b1), .val (.ref w1), .val (.int (1 : Int32))] [(.int (1 : Int32))])) t
      refine XS.goto X51.here hx rfl (pc0 := 87) (pc' := 91) rfl (hb hby at_87) (by decide) (by decide) ?_
      exact k
    obtain ⟨fs, hr, hrun, hended, hW, hsame⟩ := X51.leave (v := some (.int (1 : Int32))) (fun h => by rw [Bd.returns] at h; cases h)
    refine ⟨_, _, R53 _ ?_, hrun, hended, _, _, rfl, ?_, ⟨_, rfl⟩, hW, hsame.mono (by decide) (by decide)⟩
    · exact retN X51 hx (t := .boolean) Bd.returns (by simp) (hb hby at_91) hr
    · show Q_rm0 Z q0 w0 w1 w2 w3 w4 w5 w6 w7 h0 n0 _ T51.heap _
      rw [e51]
      exact ⟨rfl, N51, K42⟩
  · rw [hk] at R43
    have R55 : Rch p e below (s₁.setTop (entryFrame m #[(.int q0)] maxLocals)) T42 (mkF m 63 #[.val (.int q0), .val (.int (2 : Int32)), .val (.ref b1), .unset, .unset] [(.int (2 : Int32)), (.ref b1)]) := fun t k => by
      refine R43 t ?_
      refine XS.aloadN X42.here hx rfl (hb hby at_61) rfl rfl ?_
      show Steps p.tables e below (T42.setTop (mkF m 62 #[.val (.int q0), .val (.int (2 : Int32)), .val (.ref b1), .unset, .unset] [(.ref b1)])) t
      refine XS.iloadN X42.here hx rfl (hb hby at_62) rfl ?_
      exact k
    obtain ⟨cl54, Ar54, q54, Sz54, N54_, Hs54, G54⟩ := V42
    have hin54 : ¬ ((2 : Int32) < 0 ∨ cl54.slots.size ≤ ((2 : Int32)).toNatClampNeg) := inb_of Sz54 ⟨by decide, by decide⟩
    have hat54 : cl54.slots[((2 : Int32)).toNatClampNeg]? = some (.ref w2) := Hs54.at hin54 rfl
    have R57 : Rch p e below (s₁.setTop (entryFrame m #[(.int q0)] maxLocals)) T42 (mkF m 78 #[.val (.int q0), .val (.int (2 : Int32)), .val (.ref b1), .val (.ref w2), .val (.int (1 : Int32))] [(.ref w2)]) := fun t k => by
      refine R55 t ?_
      refine X42.aaload hx (j := (2 : Int32)) (v := (.ref w2)) (by rw [e42]; exact Ar54.1) (State.isArrayOf_alike hZ.alike Ar54.2.1) rfl Ar54.2.2 hin54 hat54 (g := (mkF m 63 #[.val (.int q0), .val (.int (2 : Int32)), .val (.ref b1), .unset, .unset] [(.int (2 : Int32)), (.ref b1)])) rfl rfl (hb hby at_63) _ ?_
      show Steps p.tables e below (T42.setTop (mkF m 64 #[.val (.int q0), .val (.int (2 : Int32)), .val (.ref b1), .unset, .unset] [(.ref w2)])) t
      refine XS.astoreN X42.here hx rfl (hb hby at_64) rfl rfl (l' := #[.val (.int q0), .val (.int (2 : Int32)), .val (.ref b1), .val (.ref w2), .unset]) rfl ?_
      show Steps p.tables e below (T42.setTop (mkF m 65 #[.val (.int q0), .val (.int (2 : Int32)), .val (.ref b1), .val (.ref w2), .unset] [])) t
      refine XS.iloadN X42.here hx rfl (hb hby at_65) rfl ?_
      show Steps p.tables e below (T42.setTop (mkF m 66 #[.val (.int q0), .val (.int (2 : Int32)), .val (.ref b1), .val (.ref w2), .unset] [(.int (2 : Int32))])) t
      refine XS.iconst X42.here hx rfl (hb hby at_66) ?_
      show Steps p.tables e below (T42.setTop (mkF m 67 #[.val (.int q0), .val (.int (2 : Int32)), .val (.ref b1), .val (.ref w2), .unset] [(.int (5 : Int32)), (.int (2 : Int32))])) t
      refine XS.icmpNo X42.here hx rfl (hb hby at_67) rfl (tlt (by decide : (2 : Int32) < (5 : Int32))).2.1 ?_
      show Steps p.tables e below (T42.setTop (mkF m 70 #[.val (.int q0), .val (.int (2 : Int32)), .val (.ref b1), .val (.ref w2), .unset] [])) t
      refine XS.iconst X42.here hx rfl (hb hby at_70) ?_
      show Steps p.tables e below (T42.setTop (mkF m 71 #[.val (.int q0), .val (.int (2 : Int32)), .val (.ref b1), .val (.ref w2), .unset] [(.int (1 : Int32))])) t
      refine XS.goto X42.here hx rfl (pc0 := 71) (pc' := 75) rfl (hb hby at_71) (by decide) (by decide) ?_
      show Steps p.tables e below (T42.setTop (mkF m 75 #[.val (.int q0), .val (.int (2 : Int32)), .val (.ref b1), .val (.ref w2), .unset] [(.int (1 : Int32))])) t
      refine XS.istore X42.here hx rfl (hb hby at_75) rfl (l' := #[.val (.int q0), .val (.int (2 : Int32)), .val (.ref b1), .val (.ref w2), .val (.int (1 : Int32))]) rfl ?_
      show Steps p.tables e below (T42.setTop (mkF m 77 #[.val (.int q0), .val (.int (2 : Int32)), .val (.ref b1), .val (.ref w2), .val (.int (1 : Int32))] [])) t
      refine XS.aloadN X42.here hx rfl (hb hby at_77) rfl rfl ?_
      exact k
    obtain ⟨cq56, kq56, q56a, q56b, q56c⟩ := isOf hZ e42 (((((((((pE2.ext E1).wr W7).wr W12).wr W17).wr W22).wr W27).wr W32).wr W37).wr W42)
    obtain ⟨_, _, ⟨T56, L56, k56, n56⟩, -, X56, ⟨Lc56, hQ56, l56, y56, z56⟩, st56⟩ := X42.virtualBack hx (y := (⟨"com/example/logtide/logtide/mariadb/DdlStatement$Role", "changes", "()Z"⟩ : MethodName)) (z := (⟨"com/example/logtide/logtide/mariadb/DdlStatement$Role", "changes", "()Z"⟩ : MethodName)) hown (mvT hZ (hw _ (List.mem_of_getElem? (i := 20) rfl))) (mvT hZ (hw _ (List.mem_of_getElem? (i := 21) rfl))) (notFace_of_selects (args := #[]) (mvT hZ (hw _ (List.mem_of_getElem? (i := 23) rfl)))) (mvT hZ (hw _ (List.mem_of_getElem? (i := 23) rfl))) (mvT hZ (hw _ (List.mem_of_getElem? (i := 22) rfl))) (by decide) (backOf (W := 0) (rm1 l Z a0 hw [] w2 w0 w1 w2 w3 w4 h42 n0 (Nat.le_trans Z0 K42.1) (((((((((pS0.ext E1).wr W7).wr W12).wr W17).wr W22).wr W27).wr W32).wr W37).wr W42) (((((((((pS1.ext E1).wr W7).wr W12).wr W17).wr W22).wr W27).wr W32).wr W37).wr W42) (((((((((pS2.ext E1).wr W7).wr W12).wr W17).wr W22).wr W27).wr W32).wr W37).wr W42) (((((((((pS3.ext E1).wr W7).wr W12).wr W17).wr W22).wr W27).wr W32).wr W37).wr W42) (((((((((pS4.ext E1).wr W7).wr W12).wr W17).wr W22).wr W27).wr W32).wr W37).wr W42)) hZ (hw _ (List.mem_of_getElem? (i := 24) rfl)) (hw _ (List.mem_of_getElem? (i := 3) rfl)) (by decide) (by decide)) q56a q56c (g := (mkF m 78 #[.val (.int q0), .val (.int (2 : Int32)), .val (.ref b1), .val (.ref w2), .val (.int (1 : Int32))] [(.ref w2)])) rfl (by rw [hml]; rfl) (Steps.refl _) (argsL := []) (rest := []) (lenOf pd_0 rfl) rfl (by show 2 * 0 + _ ≤ _; exact Nat.le_of_eq rfl) (hb hby at_78) (fun _ _ => ⟨rfl, e42, (by decide : 1 + 0 ≤ _), (by decide : 8 + 0 ≤ _)⟩)
    dsimp only [Pt.U, Pt.locs, Pt.cells, Pt.slots] at X56 l56 y56 z56 st56 hQ56
    subst l56 y56 z56
    obtain ⟨rfl, N56q, e56⟩ := hQ56
    have N56 := Fr.app N42 N56q
    have hp56 : own_f w2 w0 w1 w2 w3 w4 = (1 : Int32) := by simp [own_f, pn2_0, pn2_1, pn2_3, pn2_4]
    rw [hp56] at st56
    have R58 : Rch p e below (s₁.setTop (entryFrame m #[(.int q0)] maxLocals)) T56 (mkF m 91 #[.val (.int q0), .val (.int (2 : Int32)), .val (.ref b1), .val (.ref w2), .val (.int (1 : Int32))] [(.int (1 : Int32))]) := fun t k => by
      refine R57 t ?_
      refine st56.trans ?_
      show Steps p.tables e below (T56.setTop (mkF m 81 #[.val (.int q0), .val (.int (2 : Int32)), .val (.ref b1), .val (.ref w2), .val (.int (1 : Int32))] [(.int (1 : Int32))])) t
      refine XS.iload X56.here hx rfl (hb hby at_81) rfl ?_
      show Steps p.tables e below (T56.setTop (mkF m 83 #[.val (.int q0), .val (.int (2 : Int32)), .val (.ref b1), .val (.ref w2), .val (.int (1 : Int32))] [(.int (1 : Int32)), (.int (1 : Int32))])) t
      refine XS.icmpNo X56.here hx rfl (hb hby at_83) rfl (teq (by decide : (1 : Int32) = (1 : Int32))).2 ?_
      show Steps p.tables e below (T56.setTop (mkF m 86 #[.val (.int q0), .val (.int (2 : Int32)), .val (.ref b1), .val (.ref w2), .val (.int (1 : Int32))] [])) t
      refine XS.iconst X56.here hx rfl (hb hby at_86) ?_
      show Steps p.tables e below (T56.setTop (mkF m 87 #[.val (.int q0), .val (.int (2 : Int32)), .val (.ref b1), .val (.ref w2), .val (.int (1 : Int32))] [(.int (1 : Int32))])) t
      refine XS.goto X56.here hx rfl (pc0 := 87) (pc' := 91) rfl (hb hby at_87) (by decide) (by decide) ?_
      exact k
    obtain ⟨fs, hr, hrun, hended, hW, hsame⟩ := X56.leave (v := some (.int (1 : Int32))) (fun h => by rw [Bd.returns] at h; cases h)
    refine ⟨_, _, R58 _ ?_, hrun, hended, _, _, rfl, ?_, ⟨_, rfl⟩, hW, hsame.mono (by decide) (by decide)⟩
    · exact retN X56 hx (t := .boolean) Bd.returns (by simp) (hb hby at_91) hr
    · show Q_rm0 Z q0 w0 w1 w2 w3 w4 w5 w6 w7 h0 n0 _ T56.heap _
      rw [e56]
      exact ⟨rfl, N56, K42⟩
  · rw [hk] at R43
    have R60 : Rch p e below (s₁.setTop (entryFrame m #[(.int q0)] maxLocals)) T42 (mkF m 63 #[.val (.int q0), .val (.int (3 : Int32)), .val (.ref b1), .unset, .unset] [(.int (3 : Int32)), (.ref b1)]) := fun t k => by
      refine R43 t ?_
      refine XS.aloadN X42.here hx rfl (hb hby at_61) rfl rfl ?_
      show Steps p.tables e below (T42.setTop (mkF m 62 #[.val (.int q0), .val (.int (3 : Int32)), .val (.ref b1), .unset, .unset] [(.ref b1)])) t
      refine XS.iloadN X42.here hx rfl (hb hby at_62) rfl ?_
      exact k
    obtain ⟨cl59, Ar59, q59, Sz59, N59_, Hs59, G59⟩ := V42
    have hin59 : ¬ ((3 : Int32) < 0 ∨ cl59.slots.size ≤ ((3 : Int32)).toNatClampNeg) := inb_of Sz59 ⟨by decide, by decide⟩
    have hat59 : cl59.slots[((3 : Int32)).toNatClampNeg]? = some (.ref w3) := Hs59.at hin59 rfl
    have R62 : Rch p e below (s₁.setTop (entryFrame m #[(.int q0)] maxLocals)) T42 (mkF m 78 #[.val (.int q0), .val (.int (3 : Int32)), .val (.ref b1), .val (.ref w3), .val (.int (1 : Int32))] [(.ref w3)]) := fun t k => by
      refine R60 t ?_
      refine X42.aaload hx (j := (3 : Int32)) (v := (.ref w3)) (by rw [e42]; exact Ar59.1) (State.isArrayOf_alike hZ.alike Ar59.2.1) rfl Ar59.2.2 hin59 hat59 (g := (mkF m 63 #[.val (.int q0), .val (.int (3 : Int32)), .val (.ref b1), .unset, .unset] [(.int (3 : Int32)), (.ref b1)])) rfl rfl (hb hby at_63) _ ?_
      show Steps p.tables e below (T42.setTop (mkF m 64 #[.val (.int q0), .val (.int (3 : Int32)), .val (.ref b1), .unset, .unset] [(.ref w3)])) t
      refine XS.astoreN X42.here hx rfl (hb hby at_64) rfl rfl (l' := #[.val (.int q0), .val (.int (3 : Int32)), .val (.ref b1), .val (.ref w3), .unset]) rfl ?_
      show Steps p.tables e below (T42.setTop (mkF m 65 #[.val (.int q0), .val (.int (3 : Int32)), .val (.ref b1), .val (.ref w3), .unset] [])) t
      refine XS.iloadN X42.here hx rfl (hb hby at_65) rfl ?_
      show Steps p.tables e below (T42.setTop (mkF m 66 #[.val (.int q0), .val (.int (3 : Int32)), .val (.ref b1), .val (.ref w3), .unset] [(.int (3 : Int32))])) t
      refine XS.iconst X42.here hx rfl (hb hby at_66) ?_
      show Steps p.tables e below (T42.setTop (mkF m 67 #[.val (.int q0), .val (.int (3 : Int32)), .val (.ref b1), .val (.ref w3), .unset] [(.int (5 : Int32)), (.int (3 : Int32))])) t
      refine XS.icmpNo X42.here hx rfl (hb hby at_67) rfl (tlt (by decide : (3 : Int32) < (5 : Int32))).2.1 ?_
      show Steps p.tables e below (T42.setTop (mkF m 70 #[.val (.int q0), .val (.int (3 : Int32)), .val (.ref b1), .val (.ref w3), .unset] [])) t
      refine XS.iconst X42.here hx rfl (hb hby at_70) ?_
      show Steps p.tables e below (T42.setTop (mkF m 71 #[.val (.int q0), .val (.int (3 : Int32)), .val (.ref b1), .val (.ref w3), .unset] [(.int (1 : Int32))])) t
      refine XS.goto X42.here hx rfl (pc0 := 71) (pc' := 75) rfl (hb hby at_71) (by decide) (by decide) ?_
      show Steps p.tables e below (T42.setTop (mkF m 75 #[.val (.int q0), .val (.int (3 : Int32)), .val (.ref b1), .val (.ref w3), .unset] [(.int (1 : Int32))])) t
      refine XS.istore X42.here hx rfl (hb hby at_75) rfl (l' := #[.val (.int q0), .val (.int (3 : Int32)), .val (.ref b1), .val (.ref w3), .val (.int (1 : Int32))]) rfl ?_
      show Steps p.tables e below (T42.setTop (mkF m 77 #[.val (.int q0), .val (.int (3 : Int32)), .val (.ref b1), .val (.ref w3), .val (.int (1 : Int32))] [])) t
      refine XS.aloadN X42.here hx rfl (hb hby at_77) rfl rfl ?_
      exact k
    obtain ⟨cq61, kq61, q61a, q61b, q61c⟩ := isOf hZ e42 (((((((((pE3.ext E1).wr W7).wr W12).wr W17).wr W22).wr W27).wr W32).wr W37).wr W42)
    obtain ⟨_, _, ⟨T61, L61, k61, n61⟩, -, X61, ⟨Lc61, hQ61, l61, y61, z61⟩, st61⟩ := X42.virtualBack hx (y := (⟨"com/example/logtide/logtide/mariadb/DdlStatement$Role", "changes", "()Z"⟩ : MethodName)) (z := (⟨"com/example/logtide/logtide/mariadb/DdlStatement$Role", "changes", "()Z"⟩ : MethodName)) hown (mvT hZ (hw _ (List.mem_of_getElem? (i := 20) rfl))) (mvT hZ (hw _ (List.mem_of_getElem? (i := 21) rfl))) (notFace_of_selects (args := #[]) (mvT hZ (hw _ (List.mem_of_getElem? (i := 23) rfl)))) (mvT hZ (hw _ (List.mem_of_getElem? (i := 23) rfl))) (mvT hZ (hw _ (List.mem_of_getElem? (i := 22) rfl))) (by decide) (backOf (W := 0) (rm1 l Z a0 hw [] w3 w0 w1 w2 w3 w4 h42 n0 (Nat.le_trans Z0 K42.1) (((((((((pS0.ext E1).wr W7).wr W12).wr W17).wr W22).wr W27).wr W32).wr W37).wr W42) (((((((((pS1.ext E1).wr W7).wr W12).wr W17).wr W22).wr W27).wr W32).wr W37).wr W42) (((((((((pS2.ext E1).wr W7).wr W12).wr W17).wr W22).wr W27).wr W32).wr W37).wr W42) (((((((((pS3.ext E1).wr W7).wr W12).wr W17).wr W22).wr W27).wr W32).wr W37).wr W42) (((((((((pS4.ext E1).wr W7).wr W12).wr W17).wr W22).wr W27).wr W32).wr W37).wr W42)) hZ (hw _ (List.mem_of_getElem? (i := 24) rfl)) (hw _ (List.mem_of_getElem? (i := 3) rfl)) (by decide) (by decide)) q61a q61c (g := (mkF m 78 #[.val (.int q0), .val (.int (3 : Int32)), .val (.ref b1), .val (.ref w3), .val (.int (1 : Int32))] [(.ref w3)])) rfl (by rw [hml]; rfl) (Steps.refl _) (argsL := []) (rest := []) (lenOf pd_0 rfl) rfl (by show 2 * 0 + _ ≤ _; exact Nat.le_of_eq rfl) (hb hby at_78) (fun _ _ => ⟨rfl, e42, (by decide : 1 + 0 ≤ _), (by decide : 8 + 0 ≤ _)⟩)
    dsimp only [Pt.U, Pt.locs, Pt.cells, Pt.slots] at X61 l61 y61 z61 st61 hQ61
    subst l61 y61 z61
    obtain ⟨rfl, N61q, e61⟩ := hQ61
    have N61 := Fr.app N42 N61q
    have hp61 : own_f w3 w0 w1 w2 w3 w4 = (1 : Int32) := by simp [own_f, pn3_0, pn3_1, pn3_2, pn3_4]
    rw [hp61] at st61
    have R63 : Rch p e below (s₁.setTop (entryFrame m #[(.int q0)] maxLocals)) T61 (mkF m 91 #[.val (.int q0), .val (.int (3 : Int32)), .val (.ref b1), .val (.ref w3), .val (.int (1 : Int32))] [(.int (1 : Int32))]) := fun t k => by
      refine R62 t ?_
      refine st61.trans ?_
      show Steps p.tables e below (T61.setTop (mkF m 81 #[.val (.int q0), .val (.int (3 : Int32)), .val (.ref b1), .val (.ref w3), .val (.int (1 : Int32))] [(.int (1 : Int32))])) t
      refine XS.iload X61.here hx rfl (hb hby at_81) rfl ?_
      show Steps p.tables e below (T61.setTop (mkF m 83 #[.val (.int q0), .val (.int (3 : Int32)), .val (.ref b1), .val (.ref w3), .val (.int (1 : Int32))] [(.int (1 : Int32)), (.int (1 : Int32))])) t
      refine XS.icmpNo X61.here hx rfl (hb hby at_83) rfl (teq (by decide : (1 : Int32) = (1 : Int32))).2 ?_
      show Steps p.tables e below (T61.setTop (mkF m 86 #[.val (.int q0), .val (.int (3 : Int32)), .val (.ref b1), .val (.ref w3), .val (.int (1 : Int32))] [])) t
      refine XS.iconst X61.here hx rfl (hb hby at_86) ?_
      show Steps p.tables e below (T61.setTop (mkF m 87 #[.val (.int q0), .val (.int (3 : Int32)), .val (.ref b1), .val (.ref w3), .val (.int (1 : Int32))] [(.int (1 : Int32))])) t
      refine XS.goto X61.here hx rfl (pc0 := 87) (pc' := 91) rfl (hb hby at_87) (by decide) (by decide) ?_
      exact k
    obtain ⟨fs, hr, hrun, hended, hW, hsame⟩ := X61.leave (v := some (.int (1 : Int32))) (fun h => by rw [Bd.returns] at h; cases h)
    refine ⟨_, _, R63 _ ?_, hrun, hended, _, _, rfl, ?_, ⟨_, rfl⟩, hW, hsame.mono (by decide) (by decide)⟩
    · exact retN X61 hx (t := .boolean) Bd.returns (by simp) (hb hby at_91) hr
    · show Q_rm0 Z q0 w0 w1 w2 w3 w4 w5 w6 w7 h0 n0 _ T61.heap _
      rw [e61]
      exact ⟨rfl, N61, K42⟩
  · rw [hk] at R43
    have R65 : Rch p e below (s₁.setTop (entryFrame m #[(.int q0)] maxLocals)) T42 (mkF m 63 #[.val (.int q0), .val (.int (4 : Int32)), .val (.ref b1), .unset, .unset] [(.int (4 : Int32)), (.ref b1)]) := fun t k => by
      refine R43 t ?_
      refine XS.aloadN X42.here hx rfl (hb hby at_61) rfl rfl ?_
      show Steps p.tables e below (T42.setTop (mkF m 62 #[.val (.int q0), .val (.int (4 : Int32)), .val (.ref b1), .unset, .unset] [(.ref b1)])) t
      refine XS.iloadN X42.here hx rfl (hb hby at_62) rfl ?_
      exact k
    obtain ⟨cl64, Ar64, q64, Sz64, N64_, Hs64, G64⟩ := V42
    have hin64 : ¬ ((4 : Int32) < 0 ∨ cl64.slots.size ≤ ((4 : Int32)).toNatClampNeg) := inb_of Sz64 ⟨by decide, by decide⟩
    have hat64 : cl64.slots[((4 : Int32)).toNatClampNeg]? = some (.ref w4) := Hs64.at hin64 rfl
    have R67 : Rch p e below (s₁.setTop (entryFrame m #[(.int q0)] maxLocals)) T42 (mkF m 78 #[.val (.int q0), .val (.int (4 : Int32)), .val (.ref b1), .val (.ref w4), .val (.int (1 : Int32))] [(.ref w4)]) := fun t k => by
      refine R65 t ?_
      refine X42.aaload hx (j := (4 : Int32)) (v := (.ref w4)) (by rw [e42]; exact Ar64.1) (State.isArrayOf_alike hZ.alike Ar64.2.1) rfl Ar64.2.2 hin64 hat64 (g := (mkF m 63 #[.val (.int q0), .val (.int (4 : Int32)), .val (.ref b1), .unset, .unset] [(.int (4 : Int32)), (.ref b1)])) rfl rfl (hb hby at_63) _ ?_
      show Steps p.tables e below (T42.setTop (mkF m 64 #[.val (.int q0), .val (.int (4 : Int32)), .val (.ref b1), .unset, .unset] [(.ref w4)])) t
      refine XS.astoreN X42.here hx rfl (hb hby at_64) rfl rfl (l' := #[.val (.int q0), .val (.int (4 : Int32)), .val (.ref b1), .val (.ref w4), .unset]) rfl ?_
      show Steps p.tables e below (T42.setTop (mkF m 65 #[.val (.int q0), .val (.int (4 : Int32)), .val (.ref b1), .val (.ref w4), .unset] [])) t
      refine XS.iloadN X42.here hx rfl (hb hby at_65) rfl ?_
      show Steps p.tables e below (T42.setTop (mkF m 66 #[.val (.int q0), .val (.int (4 : Int32)), .val (.ref b1), .val (.ref w4), .unset] [(.int (4 : Int32))])) t
      refine XS.iconst X42.here hx rfl (hb hby at_66) ?_
      show Steps p.tables e below (T42.setTop (mkF m 67 #[.val (.int q0), .val (.int (4 : Int32)), .val (.ref b1), .val (.ref w4), .unset] [(.int (5 : Int32)), (.int (4 : Int32))])) t
      refine XS.icmpNo X42.here hx rfl (hb hby at_67) rfl (tlt (by decide : (4 : Int32) < (5 : Int32))).2.1 ?_
      show Steps p.tables e below (T42.setTop (mkF m 70 #[.val (.int q0), .val (.int (4 : Int32)), .val (.ref b1), .val (.ref w4), .unset] [])) t
      refine XS.iconst X42.here hx rfl (hb hby at_70) ?_
      show Steps p.tables e below (T42.setTop (mkF m 71 #[.val (.int q0), .val (.int (4 : Int32)), .val (.ref b1), .val (.ref w4), .unset] [(.int (1 : Int32))])) t
      refine XS.goto X42.here hx rfl (pc0 := 71) (pc' := 75) rfl (hb hby at_71) (by decide) (by decide) ?_
      show Steps p.tables e below (T42.setTop (mkF m 75 #[.val (.int q0), .val (.int (4 : Int32)), .val (.ref b1), .val (.ref w4), .unset] [(.int (1 : Int32))])) t
      refine XS.istore X42.here hx rfl (hb hby at_75) rfl (l' := #[.val (.int q0), .val (.int (4 : Int32)), .val (.ref b1), .val (.ref w4), .val (.int (1 : Int32))]) rfl ?_
      show Steps p.tables e below (T42.setTop (mkF m 77 #[.val (.int q0), .val (.int (4 : Int32)), .val (.ref b1), .val (.ref w4), .val (.int (1 : Int32))] [])) t
      refine XS.aloadN X42.here hx rfl (hb hby at_77) rfl rfl ?_
      exact k
    obtain ⟨cq66, kq66, q66a, q66b, q66c⟩ := isOf hZ e42 (((((((((pE4.ext E1).wr W7).wr W12).wr W17).wr W22).wr W27).wr W32).wr W37).wr W42)
    obtain ⟨_, _, ⟨T66, L66, k66, n66⟩, -, X66, ⟨Lc66, hQ66, l66, y66, z66⟩, st66⟩ := X42.virtualBack hx (y := (⟨"com/example/logtide/logtide/mariadb/DdlStatement$Role", "changes", "()Z"⟩ : MethodName)) (z := (⟨"com/example/logtide/logtide/mariadb/DdlStatement$Role", "changes", "()Z"⟩ : MethodName)) hown (mvT hZ (hw _ (List.mem_of_getElem? (i := 20) rfl))) (mvT hZ (hw _ (List.mem_of_getElem? (i := 21) rfl))) (notFace_of_selects (args := #[]) (mvT hZ (hw _ (List.mem_of_getElem? (i := 23) rfl)))) (mvT hZ (hw _ (List.mem_of_getElem? (i := 23) rfl))) (mvT hZ (hw _ (List.mem_of_getElem? (i := 22) rfl))) (by decide) (backOf (W := 0) (rm1 l Z a0 hw [] w4 w0 w1 w2 w3 w4 h42 n0 (Nat.le_trans Z0 K42.1) (((((((((pS0.ext E1).wr W7).wr W12).wr W17).wr W22).wr W27).wr W32).wr W37).wr W42) (((((((((pS1.ext E1).wr W7).wr W12).wr W17).wr W22).wr W27).wr W32).wr W37).wr W42) (((((((((pS2.ext E1).wr W7).wr W12).wr W17).wr W22).wr W27).wr W32).wr W37).wr W42) (((((((((pS3.ext E1).wr W7).wr W12).wr W17).wr W22).wr W27).wr W32).wr W37).wr W42) (((((((((pS4.ext E1).wr W7).wr W12).wr W17).wr W22).wr W27).wr W32).wr W37).wr W42)) hZ (hw _ (List.mem_of_getElem? (i := 24) rfl)) (hw _ (List.mem_of_getElem? (i := 3) rfl)) (by decide) (by decide)) q66a q66c (g := (mkF m 78 #[.val (.int q0), .val (.int (4 : Int32)), .val (.ref b1), .val (.ref w4), .val (.int (1 : Int32))] [(.ref w4)])) rfl (by rw [hml]; rfl) (Steps.refl _) (argsL := []) (rest := []) (lenOf pd_0 rfl) rfl (by show 2 * 0 + _ ≤ _; exact Nat.le_of_eq rfl) (hb hby at_78) (fun _ _ => ⟨rfl, e42, (by decide : 1 + 0 ≤ _), (by decide : 8 + 0 ≤ _)⟩)
    dsimp only [Pt.U, Pt.locs, Pt.cells, Pt.slots] at X66 l66 y66 z66 st66 hQ66
    subst l66 y66 z66
    obtain ⟨rfl, N66q, e66⟩ := hQ66
    have N66 := Fr.app N42 N66q
    have hp66 : own_f w4 w0 w1 w2 w3 w4 = (1 : Int32) := by simp [own_f, pn4_0, pn4_1, pn4_2, pn4_3]
    rw [hp66] at st66
    have R68 : Rch p e below (s₁.setTop (entryFrame m #[(.int q0)] maxLocals)) T66 (mkF m 91 #[.val (.int q0), .val (.int (4 : Int32)), .val (.ref b1), .val (.ref w4), .val (.int (1 : Int32))] [(.int (1 : Int32))]) := fun t k => by
      refine R67 t ?_
      refine st66.trans ?_
      show Steps p.tables e below (T66.setTop (mkF m 81 #[.val (.int q0), .val (.int (4 : Int32)), .val (.ref b1), .val (.ref w4), .val (.int (1 : Int32))] [(.int (1 : Int32))])) t
      refine XS.iload X66.here hx rfl (hb hby at_81) rfl ?_
      show Steps p.tables e below (T66.setTop (mkF m 83 #[.val (.int q0), .val (.int (4 : Int32)), .val (.ref b1), .val (.ref w4), .val (.int (1 : Int32))] [(.int (1 : Int32)), (.int (1 : Int32))])) t
      refine XS.icmpNo X66.here hx rfl (hb hby at_83) rfl (teq (by decide : (1 : Int32) = (1 : Int32))).2 ?_
      show Steps p.tables e below (T66.setTop (mkF m 86 #[.val (.int q0), .val (.int (4 : Int32)), .val (.ref b1), .val (.ref w4), .val (.int (1 : Int32))] [])) t
      refine XS.iconst X66.here hx rfl (hb hby at_86) ?_
      show Steps p.tables e below (T66.setTop (mkF m 87 #[.val (.int q0), .val (.int (4 : Int32)), .val (.ref b1), .val (.ref w4), .val (.int (1 : Int32))] [(.int (1 : Int32))])) t
      refine XS.goto X66.here hx rfl (pc0 := 87) (pc' := 91) rfl (hb hby at_87) (by decide) (by decide) ?_
      exact k
    obtain ⟨fs, hr, hrun, hended, hW, hsame⟩ := X66.leave (v := some (.int (1 : Int32))) (fun h => by rw [Bd.returns] at h; cases h)
    refine ⟨_, _, R68 _ ?_, hrun, hended, _, _, rfl, ?_, ⟨_, rfl⟩, hW, hsame.mono (by decide) (by decide)⟩
    · exact retN X66 hx (t := .boolean) Bd.returns (by simp) (hb hby at_91) hr
    · show Q_rm0 Z q0 w0 w1 w2 w3 w4 w5 w6 w7 h0 n0 _ T66.heap _
      rw [e66]
      exact ⟨rfl, N66, K42⟩
  · rw [hk] at R43
    have R70 : Rch p e below (s₁.setTop (entryFrame m #[(.int q0)] maxLocals)) T42 (mkF m 63 #[.val (.int q0), .val (.int (5 : Int32)), .val (.ref b1), .unset, .unset] [(.int (5 : Int32)), (.ref b1)]) := fun t k => by
      refine R43 t ?_
      refine XS.aloadN X42.here hx rfl (hb hby at_61) rfl rfl ?_
      show Steps p.tables e below (T42.setTop (mkF m 62 #[.val (.int q0), .val (.int (5 : Int32)), .val (.ref b1), .unset, .unset] [(.ref b1)])) t
      refine XS.iloadN X42.here hx rfl (hb hby at_62) rfl ?_
      exact k
    obtain ⟨cl69, Ar69, q69, Sz69, N69_, Hs69, G69⟩ := V42
    have hin69 : ¬ ((5 : Int32) < 0 ∨ cl69.slots.size ≤ ((5 : Int32)).toNatClampNeg) := inb_of Sz69 ⟨by decide, by decide⟩
    have hat69 : cl69.slots[((5 : Int32)).toNatClampNeg]? = some (.ref w5) := Hs69.at hin69 rfl
    have R72 : Rch p e below (s₁.setTop (entryFrame m #[(.int q0)] maxLocals)) T42 (mkF m 78 #[.val (.int q0), .val (.int (5 : Int32)), .val (.ref b1), .val (.ref w5), .val (.int (0 : Int32))] [(.ref w5)]) := fun t k => by
      refine R70 t ?_
      refine X42.aaload hx (j := (5 : Int32)) (v := (.ref w5)) (by rw [e42]; exact Ar69.1) (State.isArrayOf_alike hZ.alike Ar69.2.1) rfl Ar69.2.2 hin69 hat69 (g := (mkF m 63 #[.val (.int q0), .val (.int (5 : Int32)), .val (.ref b1), .unset, .unset] [(.int (5 : Int32)), (.ref b1)])) rfl rfl (hb hby at_63) _ ?_
      show Steps p.tables e below (T42.setTop (mkF m 64 #[.val (.int q0), .val (.int (5 : Int32)), .val (.ref b1), .unset, .unset] [(.ref w5)])) t
      refine XS.astoreN X42.here hx rfl (hb hby at_64) rfl rfl (l' := #[.val (.int q0), .val (.int (5 : Int32)), .val (.ref b1), .val (.ref w5), .unset]) rfl ?_
      show Steps p.tables e below (T42.setTop (mkF m 65 #[.val (.int q0), .val (.int (5 : Int32)), .val (.ref b1), .val (.ref w5), .unset] [])) t
      refine XS.iloadN X42.here hx rfl (hb hby at_65) rfl ?_
      show Steps p.tables e below (T42.setTop (mkF m 66 #[.val (.int q0), .val (.int (5 : Int32)), .val (.ref b1), .val (.ref w5), .unset] [(.int (5 : Int32))])) t
      refine XS.iconst X42.here hx rfl (hb hby at_66) ?_
      show Steps p.tables e below (T42.setTop (mkF m 67 #[.val (.int q0), .val (.int (5 : Int32)), .val (.ref b1), .val (.ref w5), .unset] [(.int (5 : Int32)), (.int (5 : Int32))])) t
      refine XS.icmpYes X42.here hx rfl (pc0 := 67) (pc' := 74) rfl (hb hby at_67) rfl (flt (by decide : ¬ ((5 : Int32) < (5 : Int32)))).2.1 (by decide) (by decide) ?_
      show Steps p.tables e below (T42.setTop (mkF m 74 #[.val (.int q0), .val (.int (5 : Int32)), .val (.ref b1), .val (.ref w5), .unset] [])) t
      refine XS.iconst X42.here hx rfl (hb hby at_74) ?_
      show Steps p.tables e below (T42.setTop (mkF m 75 #[.val (.int q0), .val (.int (5 : Int32)), .val (.ref b1), .val (.ref w5), .unset] [(.int (0 : Int32))])) t
      refine XS.istore X42.here hx rfl (hb hby at_75) rfl (l' := #[.val (.int q0), .val (.int (5 : Int32)), .val (.ref b1), .val (.ref w5), .val (.int (0 : Int32))]) rfl ?_
      show Steps p.tables e below (T42.setTop (mkF m 77 #[.val (.int q0), .val (.int (5 : Int32)), .val (.ref b1), .val (.ref w5), .val (.int (0 : Int32))] [])) t
      refine XS.aloadN X42.here hx rfl (hb hby at_77) rfl rfl ?_
      exact k
    obtain ⟨cq71, kq71, q71a, q71b, q71c⟩ := isOf hZ e42 (((((((((pE5.ext E1).wr W7).wr W12).wr W17).wr W22).wr W27).wr W32).wr W37).wr W42)
    obtain ⟨_, _, ⟨T71, L71, k71, n71⟩, -, X71, ⟨Lc71, hQ71, l71, y71, z71⟩, st71⟩ := X42.virtualBack hx (y := (⟨"com/example/logtide/logtide/mariadb/DdlStatement$Role", "changes", "()Z"⟩ : MethodName)) (z := (⟨"com/example/logtide/logtide/mariadb/DdlStatement$Role", "changes", "()Z"⟩ : MethodName)) hown (mvT hZ (hw _ (List.mem_of_getElem? (i := 20) rfl))) (mvT hZ (hw _ (List.mem_of_getElem? (i := 21) rfl))) (notFace_of_selects (args := #[]) (mvT hZ (hw _ (List.mem_of_getElem? (i := 23) rfl)))) (mvT hZ (hw _ (List.mem_of_getElem? (i := 23) rfl))) (mvT hZ (hw _ (List.mem_of_getElem? (i := 22) rfl))) (by decide) (backOf (W := 0) (rm1 l Z a0 hw [] w5 w0 w1 w2 w3 w4 h42 n0 (Nat.le_trans Z0 K42.1) (((((((((pS0.ext E1).wr W7).wr W12).wr W17).wr W22).wr W27).wr W32).wr W37).wr W42) (((((((((pS1.ext E1).wr W7).wr W12).wr W17).wr W22).wr W27).wr W32).wr W37).wr W42) (((((((((pS2.ext E1).wr W7).wr W12).wr W17).wr W22).wr W27).wr W32).wr W37).wr W42) (((((((((pS3.ext E1).wr W7).wr W12).wr W17).wr W22).wr W27).wr W32).wr W37).wr W42) (((((((((pS4.ext E1).wr W7).wr W12).wr W17).wr W22).wr W27).wr W32).wr W37).wr W42)) hZ (hw _ (List.mem_of_getElem? (i := 24) rfl)) (hw _ (List.mem_of_getElem? (i := 3) rfl)) (by decide) (by decide)) q71a q71c (g := (mkF m 78 #[.val (.int q0), .val (.int (5 : Int32)), .val (.ref b1), .val (.ref w5), .val (.int (0 : Int32))] [(.ref w5)])) rfl (by rw [hml]; rfl) (Steps.refl _) (argsL := []) (rest := []) (lenOf pd_0 rfl) rfl (by show 2 * 0 + _ ≤ _; exact Nat.le_of_eq rfl) (hb hby at_78) (fun _ _ => ⟨rfl, e42, (by decide : 1 + 0 ≤ _), (by decide : 8 + 0 ≤ _)⟩)
    dsimp only [Pt.U, Pt.locs, Pt.cells, Pt.slots] at X71 l71 y71 z71 st71 hQ71
    subst l71 y71 z71
    obtain ⟨rfl, N71q, e71⟩ := hQ71
    have N71 := Fr.app N42 N71q
    have hp71 : own_f w5 w0 w1 w2 w3 w4 = (0 : Int32) := by simp [own_f, pn5_0, pn5_1, pn5_2, pn5_3, pn5_4]
    rw [hp71] at st71
    have R73 : Rch p e below (s₁.setTop (entryFrame m #[(.int q0)] maxLocals)) T71 (mkF m 91 #[.val (.int q0), .val (.int (5 : Int32)), .val (.ref b1), .val (.ref w5), .val (.int (0 : Int32))] [(.int (1 : Int32))]) := fun t k => by
      refine R72 t ?_
      refine st71.trans ?_
      show Steps p.tables e below (T71.setTop (mkF m 81 #[.val (.int q0), .val (.int (5 : Int32)), .val (.ref b1), .val (.ref w5), .val (.int (0 : Int32))] [(.int (0 : Int32))])) t
      refine XS.iload X71.here hx rfl (hb hby at_81) rfl ?_
      show Steps p.tables e below (T71.setTop (mkF m 83 #[.val (.int q0), .val (.int (5 : Int32)), .val (.ref b1), .val (.ref w5), .val (.int (0 : Int32))] [(.int (0 : Int32)), (.int (0 : Int32))])) t
      refine XS.icmpNo X71.here hx rfl (hb hby at_83) rfl (teq (by decide : (0 : Int32) = (0 : Int32))).2 ?_
      show Steps p.tables e below (T71.setTop (mkF m 86 #[.val (.int q0), .val (.int (5 : Int32)), .val (.ref b1), .val (.ref w5), .val (.int (0 : Int32))] [])) t
      refine XS.iconst X71.here hx rfl (hb hby at_86) ?_
      show Steps p.tables e below (T71.setTop (mkF m 87 #[.val (.int q0), .val (.int (5 : Int32)), .val (.ref b1), .val (.ref w5), .val (.int (0 : Int32))] [(.int (1 : Int32))])) t
      refine XS.goto X71.here hx rfl (pc0 := 87) (pc' := 91) rfl (hb hby at_87) (by decide) (by decide) ?_
      exact k
    obtain ⟨fs, hr, hrun, hended, hW, hsame⟩ := X71.leave (v := some (.int (1 : Int32))) (fun h => by rw [Bd.returns] at h; cases h)
    refine ⟨_, _, R73 _ ?_, hrun, hended, _, _, rfl, ?_, ⟨_, rfl⟩, hW, hsame.mono (by decide) (by decide)⟩
    · exact retN X71 hx (t := .boolean) Bd.returns (by simp) (hb hby at_91) hr
    · show Q_rm0 Z q0 w0 w1 w2 w3 w4 w5 w6 w7 h0 n0 _ T71.heap _
      rw [e71]
      exact ⟨rfl, N71, K42⟩
  · rw [hk] at R43
    have R75 : Rch p e below (s₁.setTop (entryFrame m #[(.int q0)] maxLocals)) T42 (mkF m 63 #[.val (.int q0), .val (.int (6 : Int32)), .val (.ref b1), .unset, .unset] [(.int (6 : Int32)), (.ref b1)]) := fun t k => by
      refine R43 t ?_
      refine XS.aloadN X42.here hx rfl (hb hby at_61) rfl rfl ?_
      show Steps p.tables e below (T42.setTop (mkF m 62 #[.val (.int q0), .val (.int (6 : Int32)), .val (.ref b1), .unset, .unset] [(.ref b1)])) t
      refine XS.iloadN X42.here hx rfl (hb hby at_62) rfl ?_
      exact k
    obtain ⟨cl74, Ar74, q74, Sz74, N74_, Hs74, G74⟩ := V42
    have hin74 : ¬ ((6 : Int32) < 0 ∨ cl74.slots.size ≤ ((6 : Int32)).toNatClampNeg) := inb_of Sz74 ⟨by decide, by decide⟩
    have hat74 : cl74.slots[((6 : Int32)).toNatClampNeg]? = some (.ref w6) := Hs74.at hin74 rfl
    have R77 : Rch p e below (s₁.setTop (entryFrame m #[(.int q0)] maxLocals)) T42 (mkF m 78 #[.val (.int q0), .val (.int (6 : Int32)), .val (.ref b1), .val (.ref w6), .val (.int (0 : Int32))] [(.ref w6)]) := fun t k => by
      refine R75 t ?_
      refine X42.aaload hx (j := (6 : Int32)) (v := (.ref w6)) (by rw [e42]; exact Ar74.1) (State.isArrayOf_alike hZ.alike Ar74.2.1) rfl Ar74.2.2 hin74 hat74 (g := (mkF m 63 #[.val (.int q0), .val (.int (6 : Int32)), .val (.ref b1), .unset, .unset] [(.int (6 : Int32)), (.ref b1)])) rfl rfl (hb hby at_63) _ ?_
      show Steps p.tables e below (T42.setTop (mkF m 64 #[.val (.int q0), .val (.int (6 : Int32)), .val (.ref b1), .unset, .unset] [(.ref w6)])) t
      refine XS.astoreN X42.here hx rfl (hb hby at_64) rfl rfl (l' := #[.val (.int q0), .val (.int (6 : Int32)), .val (.ref b1), .val (.ref w6), .unset]) rfl ?_
      show Steps p.tables e below (T42.setTop (mkF m 65 #[.val (.int q0), .val (.int (6 : Int32)), .val (.ref b1), .val (.ref w6), .unset] [])) t
      refine XS.iloadN X42.here hx rfl (hb hby at_65) rfl ?_
      show Steps p.tables e below (T42.setTop (mkF m 66 #[.val (.int q0), .val (.int (6 : Int32)), .val (.ref b1), .val (.ref w6), .unset] [(.int (6 : Int32))])) t
      refine XS.iconst X42.here hx rfl (hb hby at_66) ?_
      show Steps p.tables e below (T42.setTop (mkF m 67 #[.val (.int q0), .val (.int (6 : Int32)), .val (.ref b1), .val (.ref w6), .unset] [(.int (5 : Int32)), (.int (6 : Int32))])) t
      refine XS.icmpYes X42.here hx rfl (pc0 := 67) (pc' := 74) rfl (hb hby at_67) rfl (flt (by decide : ¬ ((6 : Int32) < (5 : Int32)))).2.1 (by decide) (by decide) ?_
      show Steps p.tables e below (T42.setTop (mkF m 74 #[.val (.int q0), .val (.int (6 : Int32)), .val (.ref b1), .val (.ref w6), .unset] [])) t
      refine XS.iconst X42.here hx rfl (hb hby at_74) ?_
      show Steps p.tables e below (T42.setTop (mkF m 75 #[.val (.int q0), .val (.int (6 : Int32)), .val (.ref b1), .val (.ref w6), .unset] [(.int (0 : Int32))])) t
      refine XS.istore X42.here hx rfl (hb hby at_75) rfl (l' := #[.val (.int q0), .val (.int (6 : Int32)), .val (.ref b1), .val (.ref w6), .val (.int (0 : Int32))]) rfl ?_
      show Steps p.tables e below (T42.setTop (mkF m 77 #[.val (.int q0), .val (.int (6 : Int32)), .val (.ref b1), .val (.ref w6), .val (.int (0 : Int32))] [])) t
      refine XS.aloadN X42.here hx rfl (hb hby at_77) rfl rfl ?_
      exact k
    obtain ⟨cq76, kq76, q76a, q76b, q76c⟩ := isOf hZ e42 (((((((((pE6.ext E1).wr W7).wr W12).wr W17).wr W22).wr W27).wr W32).wr W37).wr W42)
    obtain ⟨_, _, ⟨T76, L76, k76, n76⟩, -, X76, ⟨Lc76, hQ76, l76, y76, z76⟩, st76⟩ := X42.virtualBack hx (y := (⟨"com/example/logtide/logtide/mariadb/DdlStatement$Role", "changes", "()Z"⟩ : MethodName)) (z := (⟨"com/example/logtide/logtide/mariadb/DdlStatement$Role", "changes", "()Z"⟩ : MethodName)) hown (mvT hZ (hw _ (List.mem_of_getElem? (i := 20) rfl))) (mvT hZ (hw _ (List.mem_of_getElem? (i := 21) rfl))) (notFace_of_selects (args := #[]) (mvT hZ (hw _ (List.mem_of_getElem? (i := 23) rfl)))) (mvT hZ (hw _ (List.mem_of_getElem? (i := 23) rfl))) (mvT hZ (hw _ (List.mem_of_getElem? (i := 22) rfl))) (by decide) (backOf (W := 0) (rm1 l Z a0 hw [] w6 w0 w1 w2 w3 w4 h42 n0 (Nat.le_trans Z0 K42.1) (((((((((pS0.ext E1).wr W7).wr W12).wr W17).wr W22).wr W27).wr W32).wr W37).wr W42) (((((((((pS1.ext E1).wr W7).wr W12).wr W17).wr W22).wr W27).wr W32).wr W37).wr W42) (((((((((pS2.ext E1).wr W7).wr W12).wr W17).wr W22).wr W27).wr W32).wr W37).wr W42) (((((((((pS3.ext E1).wr W7).wr W12).wr W17).wr W22).wr W27).wr W32).wr W37).wr W42) (((((((((pS4.ext E1).wr W7).wr W12).wr W17).wr W22).wr W27).wr W32).wr W37).wr W42)) hZ (hw _ (List.mem_of_getElem? (i := 24) rfl)) (hw _ (List.mem_of_getElem? (i := 3) rfl)) (by decide) (by decide)) q76a q76c (g := (mkF m 78 #[.val (.int q0), .val (.int (6 : Int32)), .val (.ref b1), .val (.ref w6), .val (.int (0 : Int32))] [(.ref w6)])) rfl (by rw [hml]; rfl) (Steps.refl _) (argsL := []) (rest := []) (lenOf pd_0 rfl) rfl (by show 2 * 0 + _ ≤ _; exact Nat.le_of_eq rfl) (hb hby at_78) (fun _ _ => ⟨rfl, e42, (by decide : 1 + 0 ≤ _), (by decide : 8 + 0 ≤ _)⟩)
    dsimp only [Pt.U, Pt.locs, Pt.cells, Pt.slots] at X76 l76 y76 z76 st76 hQ76
    subst l76 y76 z76
    obtain ⟨rfl, N76q, e76⟩ := hQ76
    have N76 := Fr.app N42 N76q
    have hp76 : own_f w6 w0 w1 w2 w3 w4 = (0 : Int32) := by simp [own_f, pn6_0, pn6_1, pn6_2, pn6_3, pn6_4]
    rw [hp76] at st76
    have R78 : Rch p e below (s₁.setTop (entryFrame m #[(.int q0)] maxLocals)) T76 (mkF m 91 #[.val (.int q0), .val (.int (6 : Int32)), .val (.ref b1), .val (.ref w6), .val (.int (0 : Int32))] [(.int (1 : Int32))]) := fun t k => by
      refine R77 t ?_
      refine st76.trans ?_
      show Steps p.tables e below (T76.setTop (mkF m 81 #[.val (.int q0), .val (.int (6 : Int32)), .val (.ref b1), .val (.ref w6), .val (.int (0 : Int32))] [(.int (0 : Int32))])) t
      refine XS.iload X76.here hx rfl (hb hby at_81) rfl ?_
      show Steps p.tables e below (T76.setTop (mkF m 83 #[.val (.int q0), .val (.int (6 : Int32)), .val (.ref b1), .val (.ref w6), .val (.int (0 : Int32))] [(.int (0 : Int32)), (.int (0 : Int32))])) t
      refine XS.icmpNo X76.here hx rfl (hb hby at_83) rfl (teq (by decide : (0 : Int32) = (0 : Int32))).2 ?_
      show Steps p.tables e below (T76.setTop (mkF m 86 #[.val (.int q0), .val (.int (6 : Int32)), .val (.ref b1), .val (.ref w6), .val (.int (0 : Int32))] [])) t
      refine XS.iconst X76.here hx rfl (hb hby at_86) ?_
      show Steps p.tables e below (T76.setTop (mkF m 87 #[.val (.int q0), .val (.int (6 : Int32)), .val (.ref b1), .val (.ref w6), .val (.int (0 : Int32))] [(.int (1 : Int32))])) t
      refine XS.goto X76.here hx rfl (pc0 := 87) (pc' := 91) rfl (hb hby at_87) (by decide) (by decide) ?_
      exact k
    obtain ⟨fs, hr, hrun, hended, hW, hsame⟩ := X76.leave (v := some (.int (1 : Int32))) (fun h => by rw [Bd.returns] at h; cases h)
    refine ⟨_, _, R78 _ ?_, hrun, hended, _, _, rfl, ?_, ⟨_, rfl⟩, hW, hsame.mono (by decide) (by decide)⟩
    · exact retN X76 hx (t := .boolean) Bd.returns (by simp) (hb hby at_91) hr
    · show Q_rm0 Z q0 w0 w1 w2 w3 w4 w5 w6 w7 h0 n0 _ T76.heap _
      rw [e76]
      exact ⟨rfl, N76, K42⟩
  · rw [hk] at R43
    have R80 : Rch p e below (s₁.setTop (entryFrame m #[(.int q0)] maxLocals)) T42 (mkF m 63 #[.val (.int q0), .val (.int (7 : Int32)), .val (.ref b1), .unset, .unset] [(.int (7 : Int32)), (.ref b1)]) := fun t k => by
      refine R43 t ?_
      refine XS.aloadN X42.here hx rfl (hb hby at_61) rfl rfl ?_
      show Steps p.tables e below (T42.setTop (mkF m 62 #[.val (.int q0), .val (.int (7 : Int32)), .val (.ref b1), .unset, .unset] [(.ref b1)])) t
      refine XS.iloadN X42.here hx rfl (hb hby at_62) rfl ?_
      exact k
    obtain ⟨cl79, Ar79, q79, Sz79, N79_, Hs79, G79⟩ := V42
    have hin79 : ¬ ((7 : Int32) < 0 ∨ cl79.slots.size ≤ ((7 : Int32)).toNatClampNeg) := inb_of Sz79 ⟨by decide, by decide⟩
    have hat79 : cl79.slots[((7 : Int32)).toNatClampNeg]? = some (.ref w7) := Hs79.at hin79 rfl
    have R82 : Rch p e below (s₁.setTop (entryFrame m #[(.int q0)] maxLocals)) T42 (mkF m 78 #[.val (.int q0), .val (.int (7 : Int32)), .val (.ref b1), .val (.ref w7), .val (.int (0 : Int32))] [(.ref w7)]) := fun t k => by
      refine R80 t ?_
      refine X42.aaload hx (j := (7 : Int32)) (v := (.ref w7)) (by rw [e42]; exact Ar79.1) (State.isArrayOf_alike hZ.alike Ar79.2.1) rfl Ar79.2.2 hin79 hat79 (g := (mkF m 63 #[.val (.int q0), .val (.int (7 : Int32)), .val (.ref b1), .unset, .unset] [(.int (7 : Int32)), (.ref b1)])) rfl rfl (hb hby at_63) _ ?_
      show Steps p.tables e below (T42.setTop (mkF m 64 #[.val (.int q0), .val (.int (7 : Int32)), .val (.ref b1), .unset, .unset] [(.ref w7)])) t
      refine XS.astoreN X42.here hx rfl (hb hby at_64) rfl rfl (l' := #[.val (.int q0), .val (.int (7 : Int32)), .val (.ref b1), .val (.ref w7), .unset]) rfl ?_
      show Steps p.tables e below (T42.setTop (mkF m 65 #[.val (.int q0), .val (.int (7 : Int32)), .val (.ref b1), .val (.ref w7), .unset] [])) t
      refine XS.iloadN X42.here hx rfl (hb hby at_65) rfl ?_
      show Steps p.tables e below (T42.setTop (mkF m 66 #[.val (.int q0), .val (.int (7 : Int32)), .val (.ref b1), .val (.ref w7), .unset] [(.int (7 : Int32))])) t
      refine XS.iconst X42.here hx rfl (hb hby at_66) ?_
      show Steps p.tables e below (T42.setTop (mkF m 67 #[.val (.int q0), .val (.int (7 : Int32)), .val (.ref b1), .val (.ref w7), .unset] [(.int (5 : Int32)), (.int (7 : Int32))])) t
      refine XS.icmpYes X42.here hx rfl (pc0 := 67) (pc' := 74) rfl (hb hby at_67) rfl (flt (by decide : ¬ ((7 : Int32) < (5 : Int32)))).2.1 (by decide) (by decide) ?_
      show Steps p.tables e below (T42.setTop (mkF m 74 #[.val (.int q0), .val (.int (7 : Int32)), .val (.ref b1), .val (.ref w7), .unset] [])) t
      refine XS.iconst X42.here hx rfl (hb hby at_74) ?_
      show Steps p.tables e below (T42.setTop (mkF m 75 #[.val (.int q0), .val (.int (7 : Int32)), .val (.ref b1), .val (.ref w7), .unset] [(.int (0 : Int32))])) t
      refine XS.istore X42.here hx rfl (hb hby at_75) rfl (l' := #[.val (.int q0), .val (.int (7 : Int32)), .val (.ref b1), .val (.ref w7), .val (.int (0 : Int32))]) rfl ?_
      show Steps p.tables e below (T42.setTop (mkF m 77 #[.val (.int q0), .val (.int (7 : Int32)), .val (.ref b1), .val (.ref w7), .val (.int (0 : Int32))] [])) t
      refine XS.aloadN X42.here hx rfl (hb hby at_77) rfl rfl ?_
      exact k
    obtain ⟨cq81, kq81, q81a, q81b, q81c⟩ := isOf hZ e42 (((((((((pE7.ext E1).wr W7).wr W12).wr W17).wr W22).wr W27).wr W32).wr W37).wr W42)
    obtain ⟨_, _, ⟨T81, L81, k81, n81⟩, -, X81, ⟨Lc81, hQ81, l81, y81, z81⟩, st81⟩ := X42.virtualBack hx (y := (⟨"com/example/logtide/logtide/mariadb/DdlStatement$Role", "changes", "()Z"⟩ : MethodName)) (z := (⟨"com/example/logtide/logtide/mariadb/DdlStatement$Role", "changes", "()Z"⟩ : MethodName)) hown (mvT hZ (hw _ (List.mem_of_getElem? (i := 20) rfl))) (mvT hZ (hw _ (List.mem_of_getElem? (i := 21) rfl))) (notFace_of_selects (args := #[]) (mvT hZ (hw _ (List.mem_of_getElem? (i := 23) rfl)))) (mvT hZ (hw _ (List.mem_of_getElem? (i := 23) rfl))) (mvT hZ (hw _ (List.mem_of_getElem? (i := 22) rfl))) (by decide) (backOf (W := 0) (rm1 l Z a0 hw [] w7 w0 w1 w2 w3 w4 h42 n0 (Nat.le_trans Z0 K42.1) (((((((((pS0.ext E1).wr W7).wr W12).wr W17).wr W22).wr W27).wr W32).wr W37).wr W42) (((((((((pS1.ext E1).wr W7).wr W12).wr W17).wr W22).wr W27).wr W32).wr W37).wr W42) (((((((((pS2.ext E1).wr W7).wr W12).wr W17).wr W22).wr W27).wr W32).wr W37).wr W42) (((((((((pS3.ext E1).wr W7).wr W12).wr W17).wr W22).wr W27).wr W32).wr W37).wr W42) (((((((((pS4.ext E1).wr W7).wr W12).wr W17).wr W22).wr W27).wr W32).wr W37).wr W42)) hZ (hw _ (List.mem_of_getElem? (i := 24) rfl)) (hw _ (List.mem_of_getElem? (i := 3) rfl)) (by decide) (by decide)) q81a q81c (g := (mkF m 78 #[.val (.int q0), .val (.int (7 : Int32)), .val (.ref b1), .val (.ref w7), .val (.int (0 : Int32))] [(.ref w7)])) rfl (by rw [hml]; rfl) (Steps.refl _) (argsL := []) (rest := []) (lenOf pd_0 rfl) rfl (by show 2 * 0 + _ ≤ _; exact Nat.le_of_eq rfl) (hb hby at_78) (fun _ _ => ⟨rfl, e42, (by decide : 1 + 0 ≤ _), (by decide : 8 + 0 ≤ _)⟩)
    dsimp only [Pt.U, Pt.locs, Pt.cells, Pt.slots] at X81 l81 y81 z81 st81 hQ81
    subst l81 y81 z81
    obtain ⟨rfl, N81q, e81⟩ := hQ81
    have N81 := Fr.app N42 N81q
    have hp81 : own_f w7 w0 w1 w2 w3 w4 = (0 : Int32) := by simp [own_f, pn7_0, pn7_1, pn7_2, pn7_3, pn7_4]
    rw [hp81] at st81
    have R83 : Rch p e below (s₁.setTop (entryFrame m #[(.int q0)] maxLocals)) T81 (mkF m 91 #[.val (.int q0), .val (.int (7 : Int32)), .val (.ref b1), .val (.ref w7), .val (.int (0 : Int32))] [(.int (1 : Int32))]) := fun t k => by
      refine R82 t ?_
      refine st81.trans ?_
      show Steps p.tables e below (T81.setTop (mkF m 81 #[.val (.int q0), .val (.int (7 : Int32)), .val (.ref b1), .val (.ref w7), .val (.int (0 : Int32))] [(.int (0 : Int32))])) t
      refine XS.iload X81.here hx rfl (hb hby at_81) rfl ?_
      show Steps p.tables e below (T81.setTop (mkF m 83 #[.val (.int q0), .val (.int (7 : Int32)), .val (.ref b1), .val (.ref w7), .val (.int (0 : Int32))] [(.int (0 : Int32)), (.int (0 : Int32))])) t
      refine XS.icmpNo X81.here hx rfl (hb hby at_83) rfl (teq (by decide : (0 : Int32) = (0 : Int32))).2 ?_
      show Steps p.tables e below (T81.setTop (mkF m 86 #[.val (.int q0), .val (.int (7 : Int32)), .val (.ref b1), .val (.ref w7), .val (.int (0 : Int32))] [])) t
      refine XS.iconst X81.here hx rfl (hb hby at_86) ?_
      show Steps p.tables e below (T81.setTop (mkF m 87 #[.val (.int q0), .val (.int (7 : Int32)), .val (.ref b1), .val (.ref w7), .val (.int (0 : Int32))] [(.int (1 : Int32))])) t
      refine XS.goto X81.here hx rfl (pc0 := 87) (pc' := 91) rfl (hb hby at_87) (by decide) (by decide) ?_
      exact k
    obtain ⟨fs, hr, hrun, hended, hW, hsame⟩ := X81.leave (v := some (.int (1 : Int32))) (fun h => by rw [Bd.returns] at h; cases h)
    refine ⟨_, _, R83 _ ?_, hrun, hended, _, _, rfl, ?_, ⟨_, rfl⟩, hW, hsame.mono (by decide) (by decide)⟩
    · exact retN X81 hx (t := .boolean) Bd.returns (by simp) (hb hby at_91) hr
    · show Q_rm0 Z q0 w0 w1 w2 w3 w4 w5 w6 w7 h0 n0 _ T81.heap _
      rw [e81]
      exact ⟨rfl, N81, K42⟩
set_option maxRecDepth 65536 in
set_option maxHeartbeats 40000000 in
theorem comes_1 {Post : Tables → Env → Array Value → State → Outcome → State → Prop} (hpost : ∀ tb e args s v u, (limb_1_1.after args s (.returned v) u = true ∧ limb_1_2.after args s (.returned v) u = true ∧ True) → FrameEnd s (.returned v) u (Jvm.fieldLocs frame_1_writes args s ++ Jvm.arrayLocs frame_1_arrays args s ++ Jvm.staticLocs frame_1_statics s) 16 128 → Post tb e args s (.returned v) u) :
    ArmFor flags0 classFile x code maxLocals ret World_1 tables_1 room_1 Calls_1 rest_1 Pre_1 Post := by
  intro l hfl _ _ p e ha hc hk s m args below hf hA hF happ hP
  obtain ⟨hcalls, hrest, hpre⟩ := hP
  obtain ⟨-, -, -, hnamed, -, -, -, hat⟩ := (Spec.applies_iff hf).mp happ
  obtain ⟨hg, hn⟩ := and_e (Cond.before_iff.mp (show (Jvm.Cond.and given_1 narrow_1).before args s = true from hpre))
  obtain ⟨g0, g1⟩ := and_e hg
  obtain ⟨w0, rfl⟩ : ∃ w0 : Value, args = #[w0] := by
    have hs : args.size = 1 := by simpa [Cond.value, given_1] using g0
    obtain ⟨L⟩ := args
    match L, hs with
    | [w0], _ => exact ⟨w0, rfl⟩
  have hw := fun d (hd : d ∈ tables_1) => atoms_spec (ws := Jvm.Cond.code x code maxLocals ret :: tables_1) hat d (List.mem_cons_of_mem _ hd)
  have hfit : Fit s := fun {y c} hc i hi => by
    obtain ⟨ha, rfl⟩ := Array.getElem?_eq_some_iff.mp hc
    have q := List.all_eq_true.mp ((Array.all_eq_true_iff_forall_mem.mp hF) _ (Array.getElem_mem ha)) i (List.mem_range.mpr hi)
    simpa [Array.getElem?_eq_getElem hi] using q
  obtain ⟨i0, ei0⟩ := is_v g1
  obtain rfl : w0 = (.int i0) := Option.some.inj ei0
  obtain ⟨c0, hn0⟩ := and_e hn
  obtain ⟨c1, hn1⟩ := and_e hn0
  obtain ⟨c2, hn2⟩ := and_e hn1
  obtain ⟨c3, hn3⟩ := and_e hn2
  obtain ⟨c4, hn4⟩ := and_e hn3
  obtain ⟨c5, hn5⟩ := and_e hn4
  obtain ⟨c6, hn6⟩ := and_e hn5
  obtain ⟨c7, hn7⟩ := and_e hn6
  obtain ⟨c8, hn8⟩ := and_e hn7
  obtain ⟨c9, hn9⟩ := and_e hn8
  obtain ⟨c10, hn10⟩ := and_e hn9
  obtain ⟨c11, hn11⟩ := and_e hn10
  obtain ⟨c12, hn12⟩ := and_e hn11
  obtain ⟨c13, hn13⟩ := and_e hn12
  obtain ⟨c14, hn14⟩ := and_e hn13
  obtain ⟨v0, ev_v0⟩ := exa_v c0
  have E_v0 : Exa s s.heap v0 "com/example/logtide/logtide/mariadb/DdlStatement$Role" := Exa.start ev_v0 c0
  have S_v0 : Sta s s.heap "com/example/logtide/logtide/mariadb/DdlStatement$Role" "CHANGED" "Lcom/example/logtide/logtide/mariadb/DdlStatement$Role;" (.ref v0) := Sta.start ev_v0 (Or.inr ⟨(hw _ (List.mem_of_getElem? (i := 3) rfl)), (hw _ (List.mem_of_getElem? (i := 4) rfl))⟩)
  obtain ⟨v1, ev_v1⟩ := exa_v c1
  have E_v1 : Exa s s.heap v1 "com/example/logtide/logtide/mariadb/DdlStatement$Role" := Exa.start ev_v1 c1
  have S_v1 : Sta s s.heap "com/example/logtide/logtide/mariadb/DdlStatement$Role" "MADE" "Lcom/example/logtide/logtide/mariadb/DdlStatement$Role;" (.ref v1) := Sta.start ev_v1 (Or.inr ⟨(hw _ (List.mem_of_getElem? (i := 3) rfl)), (hw _ (List.mem_of_getElem? (i := 7) rfl))⟩)
  obtain ⟨v2, ev_v2⟩ := exa_v c2
  have E_v2 : Exa s s.heap v2 "com/example/logtide/logtide/mariadb/DdlStatement$Role" := Exa.start ev_v2 c2
  have S_v2 : Sta s s.heap "com/example/logtide/logtide/mariadb/DdlStatement$Role" "REPLACED" "Lcom/example/logtide/logtide/mariadb/DdlStatement$Role;" (.ref v2) := Sta.start ev_v2 (Or.inr ⟨(hw _ (List.mem_of_getElem? (i := 3) rfl)), (hw _ (List.mem_of_getElem? (i := 9) rfl))⟩)
  obtain ⟨v3, ev_v3⟩ := exa_v c3
  have E_v3 : Exa s s.heap v3 "com/example/logtide/logtide/mariadb/DdlStatement$Role" := Exa.start ev_v3 c3
  have S_v3 : Sta s s.heap "com/example/logtide/logtide/mariadb/DdlStatement$Role" "RENAMED_TO" "Lcom/example/logtide/logtide/mariadb/DdlStatement$Role;" (.ref v3) := Sta.start ev_v3 (Or.inr ⟨(hw _ (List.mem_of_getElem? (i := 3) rfl)), (hw _ (List.mem_of_getElem? (i := 11) rfl))⟩)
  obtain ⟨v4, ev_v4⟩ := exa_v c4
  have E_v4 : Exa s s.heap v4 "com/example/logtide/logtide/mariadb/DdlStatement$Role" := Exa.start ev_v4 c4
  have S_v4 : Sta s s.heap "com/example/logtide/logtide/mariadb/DdlStatement$Role" "MERGED" "Lcom/example/logtide/logtide/mariadb/DdlStatement$Role;" (.ref v4) := Sta.start ev_v4 (Or.inr ⟨(hw _ (List.mem_of_getElem? (i := 3) rfl)), (hw _ (List.mem_of_getElem? (i := 13) rfl))⟩)
  obtain ⟨v5, ev_v5⟩ := exa_v c5
  have E_v5 : Exa s s.heap v5 "com/example/logtide/logtide/mariadb/DdlStatement$Role" := Exa.start ev_v5 c5
  have S_v5 : Sta s s.heap "com/example/logtide/logtide/mariadb/DdlStatement$Role" "MODEL" "Lcom/example/logtide/logtide/mariadb/DdlStatement$Role;" (.ref v5) := Sta.start ev_v5 (Or.inr ⟨(hw _ (List.mem_of_getElem? (i := 3) rfl)), (hw _ (List.mem_of_getElem? (i := 15) rfl))⟩)
  obtain ⟨v6, ev_v6⟩ := exa_v c6
  have E_v6 : Exa s s.heap v6 "com/example/logtide/logtide/mariadb/DdlStatement$Role" := Exa.start ev_v6 c6
  have S_v6 : Sta s s.heap "com/example/logtide/logtide/mariadb/DdlStatement$Role" "REFERENCED" "Lcom/example/logtide/logtide/mariadb/DdlStatement$Role;" (.ref v6) := Sta.start ev_v6 (Or.inr ⟨(hw _ (List.mem_of_getElem? (i := 3) rfl)), (hw _ (List.mem_of_getElem? (i := 17) rfl))⟩)
  obtain ⟨v7, ev_v7⟩ := exa_v c7
  have E_v7 : Exa s s.heap v7 "com/example/logtide/logtide/mariadb/DdlStatement$Role" := Exa.start ev_v7 c7
  have S_v7 : Sta s s.heap "com/example/logtide/logtide/mariadb/DdlStatement$Role" "SEQUENCE" "Lcom/example/logtide/logtide/mariadb/DdlStatement$Role;" (.ref v7) := Sta.start ev_v7 (Or.inr ⟨(hw _ (List.mem_of_getElem? (i := 3) rfl)), (hw _ (List.mem_of_getElem? (i := 19) rfl))⟩)
  have F_v3_ordinal : Fld s s.heap v3 "java/lang/Enum" "ordinal" "I" (.int (3 : Int32)) := Fld.start ((fld_at ev_v3).symm.trans (own_eq_int c8))
  have F_v0_ordinal : Fld s s.heap v0 "java/lang/Enum" "ordinal" "I" (.int (0 : Int32)) := Fld.start ((fld_at ev_v0).symm.trans (own_eq_int c9))
  have F_v1_ordinal : Fld s s.heap v1 "java/lang/Enum" "ordinal" "I" (.int (1 : Int32)) := Fld.start ((fld_at ev_v1).symm.trans (own_eq_int c10))
  have F_v2_ordinal : Fld s s.heap v2 "java/lang/Enum" "ordinal" "I" (.int (2 : Int32)) := Fld.start ((fld_at ev_v2).symm.trans (own_eq_int c11))
  have F_v6_ordinal : Fld s s.heap v6 "java/lang/Enum" "ordinal" "I" (.int (6 : Int32)) := Fld.start ((fld_at ev_v6).symm.trans (own_eq_int c12))
  have F_v4_ordinal : Fld s s.heap v4 "java/lang/Enum" "ordinal" "I" (.int (4 : Int32)) := Fld.start ((fld_at ev_v4).symm.trans (own_eq_int c13))
  have F_v7_ordinal : Fld s s.heap v7 "java/lang/Enum" "ordinal" "I" (.int (7 : Int32)) := Fld.start ((fld_at ev_v7).symm.trans (own_eq_int c14))
  have F_v5_ordinal : Fld s s.heap v5 "java/lang/Enum" "ordinal" "I" (.int (5 : Int32)) := Fld.start ((fld_at ev_v5).symm.trans (own_eq_int hn14))
  obtain ⟨n, o, h1, h2, h3, _, L, rfl, ⟨rfl, N, -⟩, hq⟩ := rm0 l s _ hw tables_1 i0 v0 v1 v2 v3 v4 v5 v6 v7 s.heap s.heap.size (Nat.le_refl _) S_v0 S_v1 S_v2 S_v3 S_v4 S_v5 S_v6 S_v7 E_v0 E_v1 E_v2 E_v3 E_v4 E_v5 E_v6 E_v7 (F_v0_ordinal.ne F_v1_ordinal (by decide)) (F_v0_ordinal.ne F_v2_ordinal (by decide)) (F_v0_ordinal.ne F_v3_ordinal (by decide)) (F_v0_ordinal.ne F_v4_ordinal (by decide)) (F_v1_ordinal.ne F_v0_ordinal (by decide)) (F_v1_ordinal.ne F_v2_ordinal (by decide)) (F_v1_ordinal.ne F_v3_ordinal (by decide)) (F_v1_ordinal.ne F_v4_ordinal (by decide)) (F_v2_ordinal.ne F_v0_ordinal (by decide)) (F_v2_ordinal.ne F_v1_ordinal (by decide)) (F_v2_ordinal.ne F_v3_ordinal (by decide)) (F_v2_ordinal.ne F_v4_ordinal (by decide)) (F_v3_ordinal.ne F_v0_ordinal (by decide)) (F_v3_ordinal.ne F_v1_ordinal (by decide)) (F_v3_ordinal.ne F_v2_ordinal (by decide)) (F_v3_ordinal.ne F_v4_ordinal (by decide)) (F_v4_ordinal.ne F_v0_ordinal (by decide)) (F_v4_ordinal.ne F_v1_ordinal (by decide)) (F_v4_ordinal.ne F_v2_ordinal (by decide)) (F_v4_ordinal.ne F_v3_ordinal (by decide)) (F_v5_ordinal.ne F_v0_ordinal (by decide)) (F_v5_ordinal.ne F_v1_ordinal (by decide)) (F_v5_ordinal.ne F_v2_ordinal (by decide)) (F_v5_ordinal.ne F_v3_ordinal (by decide)) (F_v5_ordinal.ne F_v4_ordinal (by decide)) (F_v6_ordinal.ne F_v0_ordinal (by decide)) (F_v6_ordinal.ne F_v1_ordinal (by decide)) (F_v6_ordinal.ne F_v2_ordinal (by decide)) (F_v6_ordinal.ne F_v3_ordinal (by decide)) (F_v6_ordinal.ne F_v4_ordinal (by decide)) (F_v7_ordinal.ne F_v0_ordinal (by decide)) (F_v7_ordinal.ne F_v1_ordinal (by decide)) (F_v7_ordinal.ne F_v2_ordinal (by decide)) (F_v7_ordinal.ne F_v3_ordinal (by decide)) (F_v7_ordinal.ne F_v4_ordinal (by decide)) p e ha hc hk s m _ below hf ((Spec.applies_iff_loose hf).mp happ).1 ⟨rfl, State.Warmed39.refl s, rfl⟩ trivial
  refine ⟨n, _, h1, h2, h3, hpost _ _ _ _ _ _ ⟨Cond.after_iff.mpr rfl, Cond.after_iff.mpr (eq_i res_at (Term.int_eval (1)) rfl), trivial⟩ ⟨hq.1, hq.2.1, (hq.2.2.sift fun y hy => Or.inr (N y hy)).mono (by decide) (by decide)⟩⟩
theorem main_1_1 : Claimed_1_1 := comes_1 fun _ _ _ _ _ _ h hF => ⟨h.1, hF⟩
theorem main_1_2 : Claimed_1_2 := comes_1 fun _ _ _ _ _ _ h hF => ⟨h.2.1, hF⟩
end Jvm.Pilot.@@N@@
namespace Jvm.Pilot.@@N@@
open Jvm Jvm.ClassFile Sem Op Lib Jvm.Free Jvm.Stand Jvm.Pilot.@@N@@.Jvm.D
/-! MADE BY PROGRAM (witnessworld.py) out of the Statement's table words and the real class files: 11 classes; the members and pool entries that the words name. The judged class is class 1, her method 1. -/
namespace start1
open Jvm.ClassFile
def u (s : String) : CpInfo := .utf8 (stringToUtf16 s)
/-- a pool by its gaps: so many unusable entries, then the entry; so many at the end -/
def gap : Nat → List CpInfo → List CpInfo
  | 0, r => r
  | n + 1, r => .unusable :: gap n r
def poolList (es : List (Nat × CpInfo)) (last : Nat) : List CpInfo := es.foldr (fun e r => gap e.1 (e.2 :: r)) (gap last [])
def pool (es : List (Nat × CpInfo)) (last : Nat) : Array CpInfo := ⟨poolList es last⟩
def fileOf (pool : Array CpInfo) (this : Nat) (attrs : Array Attribute := #[]) (ms : Array MethodInfo := #[]) (fl : Nat := 33) (sup : Nat := 0) (ifs : Array Nat := #[]) (fds : Array FieldInfo := #[]) : ClassFile where
  minorVersion := 0
  majorVersion := 65
  constantPool := pool
  accessFlags := fl
  thisClass := this
  superClass := sup
  interfaces := ifs
  fields := fds
  methods := ms
  attributes := attrs
def plain (name : String) (sup : Option ClassId) : Class where
  name := name
  kind := .ordinary
  loader := none
  accessFlags := 33
  super := sup
  interfaces := #[]
  cf := none
  fields := #[]
  methods := #[]
  instanceTypes := #[]
  staticTypes := #[]
  resolved := #[]
  callSites := []
  init := .initialized
  statics := none
  mirror := none

def pool0 : Array CpInfo := pool [(5, u "<init>"), (0, u "()V"), (1, .class_ 10), (1, u "java/lang/Object")] 113

def k0m0 : Method := { name := "<init>", desc := "()V", sig := { parameters := [], returnType := none }, accessFlags := 1, code := none }
/-- java/lang/Object -/
def k0 : Class := { plain "java/lang/Object" none with
  accessFlags := 33
  interfaces := #[]
  cf := some (fileOf pool0 8 #[] #[{ accessFlags := 1, nameIndex := 5, descriptorIndex := 6, attributes := #[] }] 33 0 #[] #[])
  fields := #[]
  methods := #[k0m0]
  instanceTypes := #[]
  staticTypes := #[]
  resolved := Array.replicate 124 none
  statics := none }

def pool1 : Array CpInfo := pool [(2, .class_ 4), (1, u "java/lang/Object"), (0, u "<init>"), (0, u "()V"), (0, .class_ 8), (0, u "com/example/logtide/logtide/mariadb/DdlStatement$Role"), (0, .fieldref 7 10), (0, .nameAndType 11 12), (0, u "CHANGED"), (0, u "Lcom/example/logtide/logtide/mariadb/DdlStatement$Role;"), (0, .fieldref 7 14), (0, .nameAndType 15 12), (0, u "MADE"), (0, .fieldref 7 17), (0, .nameAndType 18 12), (0, u "REPLACED"), (0, .fieldref 7 20), (0, .nameAndType 21 12), (0, u "RENAMED_TO"), (0, .fieldref 7 23), (0, .nameAndType 24 12), (0, u "MERGED"), (0, .fieldref 7 26), (0, .nameAndType 27 12), (0, u "MODEL"), (0, .fieldref 7 29), (0, .nameAndType 30 12), (0, u "REFERENCED"), (0, .fieldref 7 32), (0, .nameAndType 33 12), (0, u "SEQUENCE"), (0, .methodref 7 35), (0, .nameAndType 36 37), (0, u "changes"), (0, u "()Z"), (0, .class_ 39), (0, u "com/example/logtide/logtide/mariadb/RoleChangesPinLaw"), (2, u "law"), (0, u "(I)Z")] 9

def k1m0 : Method := { name := "<init>", desc := "()V", sig := { parameters := [], returnType := none }, accessFlags := 2, code := none }
def k1c1 : Code := { maxStack := 4, maxLocals := 5, code := code, exceptionTable := #[], attributes := #[] }
def k1m1 : Method := { name := "law", desc := "(I)Z", sig := { parameters := [.int], returnType := some .boolean }, accessFlags := 9, code := some k1c1 }
/-- com/example/logtide/logtide/mariadb/RoleChangesPinLaw -/
def k1 : Class := { plain "com/example/logtide/logtide/mariadb/RoleChangesPinLaw" (some 0) with
  accessFlags := 49
  interfaces := #[]
  cf := some (fileOf pool1 38 #[] #[{ accessFlags := 2, nameIndex := 5, descriptorIndex := 6, attributes := #[] }, { accessFlags := 9, nameIndex := 42, descriptorIndex := 43, attributes := #[] }] 49 2 #[] #[])
  fields := #[]
  methods := #[k1m0, k1m1]
  instanceTypes := #[]
  staticTypes := #[]
  resolved := Array.replicate 53 none
  statics := none }

def pool2 : Array CpInfo := pool [(1, .class_ 2), (0, u "java/lang/constant/Constable"), (0, .class_ 4), (0, u "java/lang/Object")] 6

/-- java/lang/constant/Constable -/
def k2 : Class := { plain "java/lang/constant/Constable" (some 0) with
  accessFlags := 1537
  interfaces := #[]
  cf := some (fileOf pool2 1 #[] #[] 1537 3 #[] #[])
  fields := #[]
  methods := #[]
  instanceTypes := #[]
  staticTypes := #[]
  resolved := Array.replicate 11 none
  statics := none }

def pool3 : Array CpInfo := pool [(1, .class_ 2), (0, u "java/lang/Comparable"), (0, .class_ 4), (0, u "java/lang/Object")] 7

/-- java/lang/Comparable -/
def k3 : Class := { plain "java/lang/Comparable" (some 0) with
  accessFlags := 1537
  interfaces := #[]
  cf := some (fileOf pool3 1 #[] #[] 1537 3 #[] #[])
  fields := #[]
  methods := #[]
  instanceTypes := #[]
  staticTypes := #[]
  resolved := Array.replicate 12 none
  statics := none }

def pool4 : Array CpInfo := pool [(1, .class_ 2), (0, u "java/io/Serializable"), (0, .class_ 4), (0, u "java/lang/Object")] 2

/-- java/io/Serializable -/
def k4 : Class := { plain "java/io/Serializable" (some 0) with
  accessFlags := 1537
  interfaces := #[]
  cf := some (fileOf pool4 1 #[] #[] 1537 3 #[] #[])
  fields := #[]
  methods := #[]
  instanceTypes := #[]
  staticTypes := #[]
  resolved := Array.replicate 7 none
  statics := none }

def pool5 : Array CpInfo := pool [(2, .class_ 4), (1, u "java/lang/Enum"), (0, u "name"), (0, u "Ljava/lang/String;"), (2, u "ordinal"), (0, u "I"), (1, .class_ 14), (1, u "java/lang/Object"), (4, u "hash"), (86, .class_ 108), (1, u "java/lang/Enum$EnumDesc"), (2, .class_ 112), (0, u "java/lang/constant/Constable"), (0, .class_ 114), (0, u "java/lang/Comparable"), (0, .class_ 116), (0, u "java/io/Serializable")] 87

/-- java/lang/Enum -/
def k5 : Class := { plain "java/lang/Enum" (some 0) with
  accessFlags := 1057
  interfaces := #[2, 3, 4]
  cf := some (fileOf pool5 2 #[.nestMembers #[106]] #[] 1057 12 #[111, 113, 115] #[{ accessFlags := 18, nameIndex := 5, descriptorIndex := 6, attributes := #[] }, { accessFlags := 18, nameIndex := 9, descriptorIndex := 10, attributes := #[] }, { accessFlags := 2, nameIndex := 19, descriptorIndex := 10, attributes := #[] }])
  fields := #[{ name := "name", type := (.object "java/lang/String"), accessFlags := 18, slot := 0, constantValue := 0 }, { name := "ordinal", type := .int, accessFlags := 18, slot := 1, constantValue := 0 }, { name := "hash", type := .int, accessFlags := 2, slot := 2, constantValue := 0 }]
  methods := #[]
  instanceTypes := #[(.object "java/lang/String"), .int, .int]
  staticTypes := #[]
  resolved := Array.replicate 204 none
  statics := none }

def pool6 : Array CpInfo := pool [(1, .class_ 2), (0, u "com/example/logtide/logtide/mariadb/DdlStatement$Role"), (0, .fieldref 1 4), (0, .nameAndType 5 6), (0, u "CHANGED"), (0, u "Lcom/example/logtide/logtide/mariadb/DdlStatement$Role;"), (0, .fieldref 1 8), (0, .nameAndType 9 6), (0, u "MADE"), (0, .fieldref 1 11), (0, .nameAndType 12 6), (0, u "REPLACED"), (0, .fieldref 1 14), (0, .nameAndType 15 6), (0, u "RENAMED_TO"), (0, .fieldref 1 17), (0, .nameAndType 18 6), (0, u "MERGED"), (2, u "MODEL"), (2, u "REFERENCED"), (2, u "SEQUENCE"), (2, u "$VALUES"), (0, u "[Lcom/example/logtide/logtide/mariadb/DdlStatement$Role;"), (6, .class_ 40), (1, u "java/lang/Enum"), (26, u "changes"), (0, u "()Z"), (6, .class_ 76), (0, u "com/example/logtide/logtide/mariadb/DdlStatement")] 2

def k6c0 : Code := { maxStack := 2, maxLocals := 1, code := prog_77_method_4_code, exceptionTable := #[], attributes := #[] }
def k6m0 : Method := { name := "changes", desc := "()Z", sig := { parameters := [], returnType := some .boolean }, accessFlags := 0, code := some k6c0 }
/-- com/example/logtide/logtide/mariadb/DdlStatement$Role -/
def k6 : Class := { plain "com/example/logtide/logtide/mariadb/DdlStatement$Role" (some 5) with
  accessFlags := 16432
  interfaces := #[]
  cf := some (fileOf pool6 1 #[.nestHost 75] #[{ accessFlags := 0, nameIndex := 67, descriptorIndex := 68, attributes := #[] }] 16432 38 #[] #[{ accessFlags := 16409, nameIndex := 5, descriptorIndex := 6, attributes := #[] }, { accessFlags := 16409, nameIndex := 9, descriptorIndex := 6, attributes := #[] }, { accessFlags := 16409, nameIndex := 12, descriptorIndex := 6, attributes := #[] }, { accessFlags := 16409, nameIndex := 15, descriptorIndex := 6, attributes := #[] }, { accessFlags := 16409, nameIndex := 18, descriptorIndex := 6, attributes := #[] }, { accessFlags := 16409, nameIndex := 21, descriptorIndex := 6, attributes := #[] }, { accessFlags := 16409, nameIndex := 24, descriptorIndex := 6, attributes := #[] }, { accessFlags := 16409, nameIndex := 27, descriptorIndex := 6, attributes := #[] }, { accessFlags := 4122, nameIndex := 30, descriptorIndex := 31, attributes := #[] }])
  fields := #[{ name := "CHANGED", type := (.object "com/example/logtide/logtide/mariadb/DdlStatement$Role"), accessFlags := 16409, slot := 0, constantValue := 0 }, { name := "MADE", type := (.object "com/example/logtide/logtide/mariadb/DdlStatement$Role"), accessFlags := 16409, slot := 1, constantValue := 0 }, { name := "REPLACED", type := (.object "com/example/logtide/logtide/mariadb/DdlStatement$Role"), accessFlags := 16409, slot := 2, constantValue := 0 }, { name := "RENAMED_TO", type := (.object "com/example/logtide/logtide/mariadb/DdlStatement$Role"), accessFlags := 16409, slot := 3, constantValue := 0 }, { name := "MERGED", type := (.object "com/example/logtide/logtide/mariadb/DdlStatement$Role"), accessFlags := 16409, slot := 4, constantValue := 0 }, { name := "MODEL", type := (.object "com/example/logtide/logtide/mariadb/DdlStatement$Role"), accessFlags := 16409, slot := 5, constantValue := 0 }, { name := "REFERENCED", type := (.object "com/example/logtide/logtide/mariadb/DdlStatement$Role"), accessFlags := 16409, slot := 6, constantValue := 0 }, { name := "SEQUENCE", type := (.object "com/example/logtide/logtide/mariadb/DdlStatement$Role"), accessFlags := 16409, slot := 7, constantValue := 0 }, { name := "$VALUES", type := (.array (.object "com/example/logtide/logtide/mariadb/DdlStatement$Role")), accessFlags := 4122, slot := 8, constantValue := 0 }]
  methods := #[k6m0]
  instanceTypes := #[(.object "java/lang/String"), .int, .int]
  staticTypes := #[(.object "com/example/logtide/logtide/mariadb/DdlStatement$Role"), (.object "com/example/logtide/logtide/mariadb/DdlStatement$Role"), (.object "com/example/logtide/logtide/mariadb/DdlStatement$Role"), (.object "com/example/logtide/logtide/mariadb/DdlStatement$Role"), (.object "com/example/logtide/logtide/mariadb/DdlStatement$Role"), (.object "com/example/logtide/logtide/mariadb/DdlStatement$Role"), (.object "com/example/logtide/logtide/mariadb/DdlStatement$Role"), (.object "com/example/logtide/logtide/mariadb/DdlStatement$Role"), (.array (.object "com/example/logtide/logtide/mariadb/DdlStatement$Role"))]
  resolved := Array.replicate 79 none
  statics := some 0 }

def pool7 : Array CpInfo := pool [(1, u "java/lang/Cloneable"), (0, .class_ 1), (0, u "java/lang/Object"), (0, .class_ 3)] 3

/-- java/lang/Cloneable -/
def k7 : Class := { plain "java/lang/Cloneable" (some 0) with
  accessFlags := 1537
  interfaces := #[]
  cf := some (fileOf pool7 2 #[] #[] 1537 4 #[] #[])
  fields := #[]
  methods := #[]
  instanceTypes := #[]
  staticTypes := #[]
  resolved := Array.replicate 8 none
  statics := none }

/-- the primitive byte -/
def k8 : Class := { plain "byte" none with kind := .primitive 'B', accessFlags := 0x411 }
/-- [B -/
def k9 : Class := { plain "[B" (some 0) with kind := .array 8 .byte, interfaces := #[7, 4], accessFlags := 1041 }

/-- [Lcom/example/logtide/logtide/mariadb/DdlStatement$Role; -/
def k10 : Class := { plain "[Lcom/example/logtide/logtide/mariadb/DdlStatement$Role;" (some 0) with kind := .array 6 (.object "com/example/logtide/logtide/mariadb/DdlStatement$Role"), interfaces := #[7, 4], accessFlags := 1041 }

def heap : Heap := #[{ cls := 6, slots := #[.ref 1, .ref 2, .ref 3, .ref 4, .ref 5, .ref 6, .ref 7, .ref 8, .null], vm := .statics 6 },
  { cls := 6, slots := #[.null, .int 0, .int 0], vm := .none },
  { cls := 6, slots := #[.null, .int 1, .int 0], vm := .none },
  { cls := 6, slots := #[.null, .int 2, .int 0], vm := .none },
  { cls := 6, slots := #[.null, .int 3, .int 0], vm := .none },
  { cls := 6, slots := #[.null, .int 4, .int 0], vm := .none },
  { cls := 6, slots := #[.null, .int 5, .int 0], vm := .none },
  { cls := 6, slots := #[.null, .int 6, .int 0], vm := .none },
  { cls := 6, slots := #[.null, .int 7, .int 0], vm := .none }]
def classes : Array Class := #[k0, k1, k2, k3, k4, k5, k6, k7, k8, k9, k10]
def interned : List (Array UInt16 × Addr) := []
def slotsUsed : Nat := 33
def theMethod : MethodId := ⟨1, 1⟩
def args0 : Array Value := #[.int 5]
def aboutOver (below : List Frame) : State where
  vm := { classes := classes, interned := interned.toArray }
  heap := heap
  slotsUsed := slotsUsed
  threads := #[{ frames := .invoking theMethod args0 :: below }]
def below0 : List Frame := [.native { method := ⟨0, 0⟩, args := #[] }]
def about1 : State := aboutOver below0
def p0 : Program := .bare "" "" ""
def e0 : Env := launch0.env 0 0 0
theorem w_frames : about1.frames = Frame.invoking theMethod args0 :: below0 := rfl
set_option maxRecDepth 65536 in
theorem w_args : argsFit about1.vm theMethod args0 = true := by decide +kernel
set_option maxRecDepth 65536 in
theorem w_heap : heapFits about1 = true := by decide +kernel
set_option maxRecDepth 65536 in
theorem w_runnable : about1.curStatus? = some .runnable := by decide +kernel
set_option maxRecDepth 65536 in
theorem w_alone : about1.alone = true := by decide +kernel
set_option maxRecDepth 65536 in
theorem w_named : about1.methodNamed? x = some theMethod := by decide +kernel
set_option maxRecDepth 65536 in
theorem w_hears : about1.hears theMethod below0 = true := by decide +kernel
set_option maxRecDepth 65536 in
theorem w_ripe : about1.ripe theMethod args0 below0 = true := by decide +kernel
theorem w_running : about1.status = .running := rfl
set_option maxRecDepth 65536 in
theorem w_room : about1.hasRoom e0.platform room_1 = true :=
  launch0.hasRoom_least _ room_1 (by decide +kernel) (by decide +kernel) (by decide +kernel) (by decide +kernel) (by decide +kernel) (by decide +kernel)
theorem allAtoms_all (ts : List Jvm.Cond) (a : Array Jvm.Value) (st : Jvm.State) : (allAtoms ts).before a st = ts.all (fun c => c.before a st) := by
  induction ts with
  | nil => rfl
  | cons c t ih =>
    show (Jvm.Cond.and c (allAtoms t)).before a st = _
    rw [Jvm.Cond.before_and, ih, List.all_cons]
def words1 : List Jvm.Cond := Jvm.Cond.code x code maxLocals ret :: tables_1
/-- a 'code' word, met by the world's own term for the bytes: nothing is compared byte by byte -/
theorem code_word {y : MethodName} {bytes : ByteArray} {mx : Nat} {rt : Option FieldType} {a : Array Value} {s : State} {m : MethodId} {meth : Method} {c : Code} (h1 : s.methodNamed? y = some m) (h2 : s.vm.method? m = some meth) (h3 : meth.code = some c) (h4 : c.code = bytes)
    (h5 : (c.maxLocals == mx && c.exceptionTable.isEmpty && decide (c.maxStack ≤ mostOperands) && decide (meth.sig.returnType = rt) && !meth.locks && decide (parseMethodDescriptor y.desc = some meth.sig)) = true) : (Jvm.Cond.code y bytes mx rt).before a s = true := by
  simp only [Bool.and_eq_true, beq_iff_eq, Bool.not_eq_true', decide_eq_true_eq] at h5
  obtain ⟨⟨⟨⟨⟨g1, g2⟩, g3⟩, g4⟩, g5⟩, g6⟩ := h5
  simp [Cond.before, Cond.holds, Cond.value, h1, h2, h3, h4, g1, g2, g3, g4, g5, g6]
def isCode : Jvm.Cond → Bool
  | .code _ _ _ _ => true
  | _ => false
theorem all_split {L : List Jvm.Cond} {P : Jvm.Cond → Bool} (h1 : L.all (fun c => isCode c || P c) = true) (h2 : ∀ c ∈ L.filter isCode, P c = true) : L.all P = true := by
  refine List.all_eq_true.mpr fun c hc => ?_
  have h := List.all_eq_true.mp h1 c hc
  rcases Bool.eq_false_or_eq_true (isCode c) with hi | hi
  · exact h2 c (List.mem_filter.mpr ⟨hc, hi⟩)
  · simpa [hi] using h
set_option maxRecDepth 65536 in
theorem w_c0 : (Jvm.Cond.code x code maxLocals ret).before args0 about1 = true := code_word (m := ⟨1, 1⟩) (meth := k1m1) (c := k1c1) (by decide +kernel) rfl rfl rfl (by decide +kernel)
set_option maxRecDepth 65536 in
theorem w_c1 : (Jvm.Cond.code ({ cls := "com/example/logtide/logtide/mariadb/DdlStatement$Role", name := "changes", desc := "()Z" } : Jvm.MethodName) prog_77_method_4_code (1 : Nat) (Option.some Jvm.ClassFile.FieldType.boolean)).before args0 about1 = true := code_word (m := ⟨6, 0⟩) (meth := k6m0) (c := k6c0) (by decide +kernel) rfl rfl rfl (by decide +kernel)
def codes1 : List Jvm.Cond := [Jvm.Cond.code x code maxLocals ret, Jvm.Cond.code ({ cls := "com/example/logtide/logtide/mariadb/DdlStatement$Role", name := "changes", desc := "()Z" } : Jvm.MethodName) prog_77_method_4_code (1 : Nat) (Option.some Jvm.ClassFile.FieldType.boolean)]
set_option maxRecDepth 65536 in
theorem codes_eq : words1.filter isCode = codes1 := rfl
theorem w_codes : ∀ c ∈ words1.filter isCode, c.before args0 about1 = true := by
  rw [codes_eq]
  intro c hc
  simp only [codes1, List.mem_cons, List.not_mem_nil, or_false] at hc
  rcases hc with rfl | rfl
  · exact w_c0
  · exact w_c1
set_option maxRecDepth 65536 in
theorem w_t1 : (words1.take 24).all (fun c => isCode c || c.before args0 about1) = true := by decide +kernel
set_option maxRecDepth 65536 in
theorem w_t2 : (words1.drop 24).all (fun c => isCode c || c.before args0 about1) = true := by decide +kernel
theorem w_tables : (allAtoms (Jvm.Cond.code x code maxLocals ret :: tables_1)).before args0 about1 = true := by
  rw [allAtoms_all]
  show words1.all (fun c => c.before args0 about1) = true
  refine all_split ?_ w_codes
  rw [← List.take_append_drop 24 words1, List.all_append, w_t1, w_t2]
  rfl
set_option maxRecDepth 65536 in
theorem w_case : (Jvm.Cond.and given_1 narrow_1).before args0 about1 = true := by decide +kernel
theorem w_applies : (headSpec (Jvm.Cond.code x code maxLocals ret :: tables_1) room_1).applies x e0.platform about1 = true :=
  (Spec.applies_iff w_frames).mpr ⟨w_running, w_runnable, w_alone, w_named, w_hears, w_ripe, w_room, w_tables⟩
theorem atStart : AtStart classFile x code maxLocals ret World_1 tables_1 room_1 Calls_1 rest_1 Pre_1 launch0 p0 e0 about1 theMethod args0 below0 :=
  ⟨lists_1, trivial, launch0.admits_env _ _ _, launch0.least_env, fairChoices_fair.cas, fairChoices_fair.clock, w_frames, w_args, w_heap, w_applies, trivial, trivial, w_case⟩
end start1
theorem witness_1 : WitnessClaimed_1 := ⟨start1.p0, start1.e0, start1.about1, start1.theMethod, start1.args0, start1.below0, start1.atStart⟩
end Jvm.Pilot.@@N@@
