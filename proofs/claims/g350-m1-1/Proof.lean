import JvmDerived
import JvmDerived.Pilot.@@N@@Statement
import JvmDerived.Pilot.@@N@@Code
set_option linter.unusedVariables false
set_option linter.unusedSimpArgs false
namespace Jvm.RoadKit
open Sem ClassFile Op Lib Jvm.Stand Jvm.Free Jvm.LawKit
section New
variable {p : Program} {l : Launch} {e : Env} {R : Room} {s : State} {m : MethodId} {args : Array Value} {below : List Frame} {meth : Method} {c : Code} {T : State} {locs : List Loc} {cells slots : Nat}
theorem retI (X : Stand p l e R s m args below meth c T locs cells slots) (hx : p.tables.exec = Jvm.exec) {pc : Nat} {Ls : Array Slot} {z : Int32} {rest : List Value} (hret : meth.sig.returnType = some .int) (hd : decode c.code pc = .ok (.ireturn, 1)) {fs : List Frame}
    (hl : ∀ (f : JFrame) (acts : List Action), f.method = m → f.locked = none → f.entered = [] → (doReturn e (T.setTop f) acts (some (.int z))).1 = T.setFrames fs) : Steps p.tables e below (T.setTop (mkF m pc Ls (.int z :: rest))) (T.setFrames fs) := by
  have hm' : T.vm.method? m = some meth := X.method'
  have hn : narrow .int (.int z) = .int z := rfl
  show Steps p.tables e below (T.setTop { method := m, pc := pc, locals := Ls, stack := _ :: rest, locked := none }) _
  jvm_step X.here [X.here.top, hx, hd, hm', hret, hn]
  first | (intro acts; rw [hl _ acts rfl rfl rfl]) | rw [hl _ _ rfl rfl rfl]
  exact Steps.refl _
end New
end Jvm.RoadKit
namespace Jvm.Pilot.@@N@@
open Jvm Jvm.ClassFile Sem Op Lib Jvm.Free Jvm.Stand Jvm.LawKit Jvm.RoadKit Bundle Jvm.Pilot.@@N@@.Jvm.D
/-- the road so far: whoever comes from T with the frame g comes from S -/
def Rch (p : Program) (e : Env) (below : List Frame) (S T : State) (g : JFrame) : Prop := ∀ t, Steps p.tables e below (T.setTop g) t → Steps p.tables e below S t
theorem own_sta_keep {Z : State} {h h' : Heap} {C n d : String} {v : Value} {ws : List Addr} (F : Sta Z h C n d v) (K : Keep h h' ws) (q : ∀ x ∈ ws, ∀ cell : Cell, h[x]? = some cell → cell.vm.isStatics = false) : Sta Z h' C n d v := by
  obtain ⟨cf, i, k, f, st, cell, h1, h2, h3, h4, h5, h6, h7⟩ := F
  exact ⟨cf, i, k, f, st, cell, h1, h2, h3, h4, K.2.1 _ _ h5 (fun hm => by rw [q st hm cell h5] at h6; cases h6), h6, h7⟩
theorem own_selp {Z s : State} {a0 args : Array Value} {y : MethodName} {n : Nat} (hZ : Z.Warmed39 s.vm) (wi : (Jvm.Cond.instantiable y.cls n).before a0 Z = true) (wp : (Jvm.Cond.privateMethod y).before a0 Z = true) (wm : (Jvm.Cond.instanceMethod y).before a0 Z = true) (hy : y.cls ≠ "java/lang/invoke/MethodHandle" ∧ y.cls ≠ "java/lang/invoke/VarHandle") : (Jvm.Cond.selects y.cls y y).before args s = true := by
  have wi' : (Jvm.Cond.instantiable y.cls n).before args s = true := mvT hZ wi
  obtain ⟨c, k, h1, h2, h3, h4, -⟩ := Cond.instantiable_spec wi'
  exact selects_self_of_private h1 h2 (Bool.or_eq_false_iff.mp h4).1 (Cond.privateMethod_at (mvP hZ wp (args := #[]))) (mvT hZ wm) hy
theorem own_eq_int {args : Array Value} {s : State} {a : Term} {k : Int32} (h : (Jvm.Cond.eq a (Term.int k)).value args s none s [] = some true) : a.eval args s none [] s = some (.int k) := by
  simp only [Cond.value, Term.eval] at h
  cases ha : a.eval args s none [] s with
  | none => simp [ha] at h
  | some x => cases x <;> simp [ha] at h ⊢; exact h
theorem own_eq_ref {args : Array Value} {s : State} {a b : Term} {y : Addr} (h : (Jvm.Cond.eq a b).value args s none s [] = some true) (hb : b.eval args s none [] s = some (.ref y)) : a.eval args s none [] s = some (.ref y) := by
  simp only [Cond.value] at h
  cases ha : a.eval args s none [] s with
  | none => simp [ha] at h
  | some x => cases x <;> simp [ha, hb] at h ⊢; exact h
def own_pick (p : Int32) (w0 w1 w2 w3 : Addr) : Addr := if p = 0 then w0 else if p = 1 then w1 else if p = 2 then w2 else w3
def own_in (a b c : Addr) : Int32 := if a = b then 1 else if a = c then 1 else 0
theorem own_v {a b : Addr} (h : a = b) : some (Value.ref a) = some (Value.ref b) := by rw [h]
theorem own_i {a b : Int32} (h : a = b) : some (Value.int a) = some (Value.int b) := by rw [h]
theorem d1_0 : decode method_2_code 0 = .ok (.iload_n 0, 1) := by decide +kernel
theorem d1_1 : decode method_2_code 1 = .ok (.ifCond .ne 7, 3) := by decide +kernel
theorem d1_4 : decode method_2_code 4 = .ok (.getstatic 7, 3) := by decide +kernel
theorem d1_7 : decode method_2_code 7 = .ok (.areturn, 1) := by decide +kernel
theorem d1_8 : decode method_2_code 8 = .ok (.iload_n 0, 1) := by decide +kernel
theorem d1_9 : decode method_2_code 9 = .ok (.iconst 1, 1) := by decide +kernel
theorem d1_10 : decode method_2_code 10 = .ok (.if_icmp .ne 7, 3) := by decide +kernel
theorem d1_13 : decode method_2_code 13 = .ok (.getstatic 13, 3) := by decide +kernel
theorem d1_16 : decode method_2_code 16 = .ok (.areturn, 1) := by decide +kernel
theorem d1_17 : decode method_2_code 17 = .ok (.iload_n 0, 1) := by decide +kernel
theorem d1_18 : decode method_2_code 18 = .ok (.iconst 2, 1) := by decide +kernel
theorem d1_19 : decode method_2_code 19 = .ok (.if_icmp .ne 7, 3) := by decide +kernel
theorem d1_22 : decode method_2_code 22 = .ok (.getstatic 16, 3) := by decide +kernel
theorem d1_25 : decode method_2_code 25 = .ok (.areturn, 1) := by decide +kernel
theorem d1_26 : decode method_2_code 26 = .ok (.getstatic 19, 3) := by decide +kernel
theorem d1_29 : decode method_2_code 29 = .ok (.areturn, 1) := by decide +kernel
theorem ef_rm1 (m : MethodId) (x0 : Int32) : entryFrame m #[(.int x0)] 1 = mkF m 0 #[.val (.int x0)] [] := by first | (simp [entryFrame, mkF, argsToLocals, Value.category]; done) | rfl
theorem pn_0 : plainName "com/example/hissa/hissa/vdm/KindIsInputPinLaw" = true := by first | (simp [plainName, overriddenIn]; done) | decide +kernel
def Q_rm1 (Z : State) (q0 : Int32) (w0 : Addr) (w1 : Addr) (w2 : Addr) (w3 : Addr) (h0 : Heap) (n0 : Nat) (v : Option Value) (h : Heap) (L : List Loc) : Prop := (v = some (.ref (own_pick q0 w0 w1 w2 w3))) ∧ (Fr n0 L) ∧ (h = h0)
set_option maxRecDepth 65536 in
set_option maxHeartbeats 40000000 in
theorem rm1 (l : Launch) (Z : State) (a0 : Array Value) (hw : ∀ d ∈ tables_1, d.before a0 Z = true) (ws : List Jvm.Cond) (q0 : Int32) (w0 : Addr) (w1 : Addr) (w2 : Addr) (w3 : Addr) (h0 : Heap) (n0 : Nat) (Z0 : n0 ≤ h0.size) (pS0 : Sta Z h0 "com/example/hissa/hissa/vdm/Unknown$Kind" "PARAMETER" "Lcom/example/hissa/hissa/vdm/Unknown$Kind;" (.ref w0)) (pS1 : Sta Z h0 "com/example/hissa/hissa/vdm/Unknown$Kind" "RESULT" "Lcom/example/hissa/hissa/vdm/Unknown$Kind;" (.ref w1)) (pS2 : Sta Z h0 "com/example/hissa/hissa/vdm/Unknown$Kind" "STARTING_STATE" "Lcom/example/hissa/hissa/vdm/Unknown$Kind;" (.ref w2)) (pS3 : Sta Z h0 "com/example/hissa/hissa/vdm/Unknown$Kind" "FINAL_STATE" "Lcom/example/hissa/hissa/vdm/Unknown$Kind;" (.ref w3)) :
    MetFree l (⟨"com/example/hissa/hissa/vdm/KindIsInputPinLaw", "pick", "(I)Lcom/example/hissa/hissa/vdm/Unknown$Kind;"⟩ : MethodName) (head1 (Jvm.Cond.code (⟨"com/example/hissa/hissa/vdm/KindIsInputPinLaw", "pick", "(I)Lcom/example/hissa/hissa/vdm/Unknown$Kind;"⟩ : MethodName) method_2_code 1 (some (.object "com/example/hissa/hissa/vdm/Unknown$Kind")) :: ws) ({ frames := 0, cells := 0, slots := 0, locals := 0 } : Room)) (fun a U => a = #[(.int q0)] ∧ Z.Warmed39 U.vm ∧ U.heap = h0) (fun _ _ _ _ _ => True) (fun _ U o U' => ∃ v L, o = .returned v ∧ Q_rm1 Z q0 w0 w1 w2 w3 h0 n0 v U'.heap L ∧ FrameEnd U o U' L ({ frames := 0, cells := 0, slots := 0, locals := 0 } : Room).cells ({ frames := 0, cells := 0, slots := 0, locals := 0 } : Room).slots) := by
  refine MetFree.of_bodySF (plainFor_of_name pn_0) hisR ?_
  intro p e s m args below meth c s₁ Bd hml0 hP hK
  obtain ⟨rfl, hZ, hh⟩ := hP
  have hx := Bd.exec
  have hby := Bd.bytes
  have hml : c.maxLocals = 1 := hml0
  have hown : s.vm.findClass "com/example/hissa/hissa/vdm/KindIsInputPinLaw" = some m.cls := findClass_of_methodNamed Bd.named
  have hnm := (name_of_methodNamed Bd.named Bd.method).1
  have X0 : Stand p l e ({ frames := 0, cells := 0, slots := 0, locals := 0 } : Room) s m #[(.int q0)] below meth c s₁ [] 0 0 := Stand.of_body Bd
  have e0 : s₁.heap = h0 := by rw [← hh, Bd.state]; rfl
  have N0 := Fr.nil n0
  have K0 : Keep h0 h0 [] := Keep.refl _ _
  have R0 : Rch p e below (s₁.setTop (entryFrame m #[(.int q0)] 1)) s₁ (mkF m 0 #[.val (.int q0)] []) := fun t k => castTop (ef_rm1 m q0) k
  have R2 : Rch p e below (s₁.setTop (entryFrame m #[(.int q0)] 1)) s₁ (mkF m 1 #[.val (.int q0)] [(.int q0)]) := fun t k => by
    refine R0 t ?_
    refine XS.iloadN X0.here hx rfl (hb hby d1_0) rfl ?_
    exact k
  by_cases hc1_1 : q0 = (0 : Int32)
  · have R4 : Rch p e below (s₁.setTop (entryFrame m #[(.int q0)] 1)) s₁ (mkF m 4 #[.val (.int q0)] []) := fun t k => by
      refine R2 t ?_
      refine XS.ifNo X0.here hx rfl (hb hby d1_1) rfl ((if0 _ _).trans (teq hc1_1).2) ?_
      exact k
    obtain ⟨T3, X3, e3, st3⟩ := getS2 X0 hx hZ hown (host := "") (Or.inl (hw _ (List.mem_of_getElem? (i := 4) rfl))) Via.refl e0 pS0 (g := (mkF m 4 #[.val (.int q0)] [])) rfl (hb hby d1_4)
    have R5 : Rch p e below (s₁.setTop (entryFrame m #[(.int q0)] 1)) T3 (mkF m 7 #[.val (.int q0)] [(.ref w0)]) := fun t k => by
      refine R4 t ?_
      refine st3 _ ?_
      exact k
    obtain ⟨fs, hr, hrun, hended, hW, hsame⟩ := X3.leave (v := some (.ref w0)) (fun h => by rw [Bd.returns] at h; cases h)
    refine ⟨_, _, R5 _ ?_, hrun, hended, _, _, rfl, ?_, ⟨_, rfl⟩, hW, hsame.mono (by decide) (by decide)⟩
    · jvm_step X3.here [X3.here.top, hx, (hb hby d1_7), X3.method', Bd.returns, Value.isRef, FieldType.isReference]
      first | (intro acts; rw [hr _ acts rfl rfl rfl]) | rw [hr _ _ rfl rfl rfl]
      exact Steps.refl _
    · show Q_rm1 Z q0 w0 w1 w2 w3 h0 n0 _ T3.heap _
      rw [e3]
      exact ⟨own_v (by simp [own_pick, hc1_1]), N0, rfl⟩
  · have R7 : Rch p e below (s₁.setTop (entryFrame m #[(.int q0)] 1)) s₁ (mkF m 10 #[.val (.int q0)] [(.int (1 : Int32)), (.int q0)]) := fun t k => by
      refine R2 t ?_
      refine XS.ifYes X0.here hx rfl (pc0 := 1) (pc' := 8) rfl (hb hby d1_1) rfl ((if0 _ _).trans (feq hc1_1).2) (by decide) (by decide) ?_
      show Steps p.tables e below (s₁.setTop (mkF m 8 #[.val (.int q0)] [])) t
      refine XS.iloadN X0.here hx rfl (hb hby d1_8) rfl ?_
      show Steps p.tables e below (s₁.setTop (mkF m 9 #[.val (.int q0)] [(.int q0)])) t
      refine XS.iconst X0.here hx rfl (hb hby d1_9) ?_
      exact k
    by_cases hc10_6 : q0 = (1 : Int32)
    · have R9 : Rch p e below (s₁.setTop (entryFrame m #[(.int q0)] 1)) s₁ (mkF m 13 #[.val (.int q0)] []) := fun t k => by
        refine R7 t ?_
        refine XS.icmpNo X0.here hx rfl (hb hby d1_10) rfl (teq hc10_6).2 ?_
        exact k
      obtain ⟨T8, X8, e8, st8⟩ := getS2 X0 hx hZ hown (host := "") (Or.inl (hw _ (List.mem_of_getElem? (i := 18) rfl))) Via.refl e0 pS1 (g := (mkF m 13 #[.val (.int q0)] [])) rfl (hb hby d1_13)
      have R10 : Rch p e below (s₁.setTop (entryFrame m #[(.int q0)] 1)) T8 (mkF m 16 #[.val (.int q0)] [(.ref w1)]) := fun t k => by
        refine R9 t ?_
        refine st8 _ ?_
        exact k
      obtain ⟨fs, hr, hrun, hended, hW, hsame⟩ := X8.leave (v := some (.ref w1)) (fun h => by rw [Bd.returns] at h; cases h)
      refine ⟨_, _, R10 _ ?_, hrun, hended, _, _, rfl, ?_, ⟨_, rfl⟩, hW, hsame.mono (by decide) (by decide)⟩
      · jvm_step X8.here [X8.here.top, hx, (hb hby d1_16), X8.method', Bd.returns, Value.isRef, FieldType.isReference]
        first | (intro acts; rw [hr _ acts rfl rfl rfl]) | rw [hr _ _ rfl rfl rfl]
        exact Steps.refl _
      · show Q_rm1 Z q0 w0 w1 w2 w3 h0 n0 _ T8.heap _
        rw [e8]
        exact ⟨own_v (by simp [own_pick, hc1_1, hc10_6]), N0, rfl⟩
    · have R12 : Rch p e below (s₁.setTop (entryFrame m #[(.int q0)] 1)) s₁ (mkF m 19 #[.val (.int q0)] [(.int (2 : Int32)), (.int q0)]) := fun t k => by
        refine R7 t ?_
        refine XS.icmpYes X0.here hx rfl (pc0 := 10) (pc' := 17) rfl (hb hby d1_10) rfl (feq hc10_6).2 (by decide) (by decide) ?_
        show Steps p.tables e below (s₁.setTop (mkF m 17 #[.val (.int q0)] [])) t
        refine XS.iloadN X0.here hx rfl (hb hby d1_17) rfl ?_
        show Steps p.tables e below (s₁.setTop (mkF m 18 #[.val (.int q0)] [(.int q0)])) t
        refine XS.iconst X0.here hx rfl (hb hby d1_18) ?_
        exact k
      by_cases hc19_11 : q0 = (2 : Int32)
      · have R14 : Rch p e below (s₁.setTop (entryFrame m #[(.int q0)] 1)) s₁ (mkF m 22 #[.val (.int q0)] []) := fun t k => by
          refine R12 t ?_
          refine XS.icmpNo X0.here hx rfl (hb hby d1_19) rfl (teq hc19_11).2 ?_
          exact k
        obtain ⟨T13, X13, e13, st13⟩ := getS2 X0 hx hZ hown (host := "") (Or.inl (hw _ (List.mem_of_getElem? (i := 17) rfl))) Via.refl e0 pS2 (g := (mkF m 22 #[.val (.int q0)] [])) rfl (hb hby d1_22)
        have R15 : Rch p e below (s₁.setTop (entryFrame m #[(.int q0)] 1)) T13 (mkF m 25 #[.val (.int q0)] [(.ref w2)]) := fun t k => by
          refine R14 t ?_
          refine st13 _ ?_
          exact k
        obtain ⟨fs, hr, hrun, hended, hW, hsame⟩ := X13.leave (v := some (.ref w2)) (fun h => by rw [Bd.returns] at h; cases h)
        refine ⟨_, _, R15 _ ?_, hrun, hended, _, _, rfl, ?_, ⟨_, rfl⟩, hW, hsame.mono (by decide) (by decide)⟩
        · jvm_step X13.here [X13.here.top, hx, (hb hby d1_25), X13.method', Bd.returns, Value.isRef, FieldType.isReference]
          first | (intro acts; rw [hr _ acts rfl rfl rfl]) | rw [hr _ _ rfl rfl rfl]
          exact Steps.refl _
        · show Q_rm1 Z q0 w0 w1 w2 w3 h0 n0 _ T13.heap _
          rw [e13]
          exact ⟨own_v (by simp [own_pick, hc1_1, hc10_6, hc19_11]), N0, rfl⟩
      · have R17 : Rch p e below (s₁.setTop (entryFrame m #[(.int q0)] 1)) s₁ (mkF m 26 #[.val (.int q0)] []) := fun t k => by
          refine R12 t ?_
          refine XS.icmpYes X0.here hx rfl (pc0 := 19) (pc' := 26) rfl (hb hby d1_19) rfl (feq hc19_11).2 (by decide) (by decide) ?_
          exact k
        obtain ⟨T16, X16, e16, st16⟩ := getS2 X0 hx hZ hown (host := "") (Or.inl (hw _ (List.mem_of_getElem? (i := 13) rfl))) Via.refl e0 pS3 (g := (mkF m 26 #[.val (.int q0)] [])) rfl (hb hby d1_26)
        have R18 : Rch p e below (s₁.setTop (entryFrame m #[(.int q0)] 1)) T16 (mkF m 29 #[.val (.int q0)] [(.ref w3)]) := fun t k => by
          refine R17 t ?_
          refine st16 _ ?_
          exact k
        obtain ⟨fs, hr, hrun, hended, hW, hsame⟩ := X16.leave (v := some (.ref w3)) (fun h => by rw [Bd.returns] at h; cases h)
        refine ⟨_, _, R18 _ ?_, hrun, hended, _, _, rfl, ?_, ⟨_, rfl⟩, hW, hsame.mono (by decide) (by decide)⟩
        · jvm_step X16.here [X16.here.top, hx, (hb hby d1_29), X16.method', Bd.returns, Value.isRef, FieldType.isReference]
          first | (intro acts; rw [hr _ acts rfl rfl rfl]) | rw [hr _ _ rfl rfl rfl]
          exact Steps.refl _
        · show Q_rm1 Z q0 w0 w1 w2 w3 h0 n0 _ T16.heap _
          rw [e16]
          exact ⟨own_v (by simp [own_pick, hc1_1, hc10_6, hc19_11]), N0, rfl⟩
theorem d2_0 : decode prog_18_method_4_code 0 = .ok (.aload_n 0, 1) := by decide +kernel
theorem d2_1 : decode prog_18_method_4_code 1 = .ok (.getstatic 3, 3) := by decide +kernel
theorem d2_4 : decode prog_18_method_4_code 4 = .ok (.if_acmp .eq 10, 3) := by decide +kernel
theorem d2_14 : decode prog_18_method_4_code 14 = .ok (.iconst 1, 1) := by decide +kernel
theorem d2_15 : decode prog_18_method_4_code 15 = .ok (.goto 4, 3) := by decide +kernel
theorem d2_19 : decode prog_18_method_4_code 19 = .ok (.ireturn, 1) := by decide +kernel
theorem d2_7 : decode prog_18_method_4_code 7 = .ok (.aload_n 0, 1) := by decide +kernel
theorem d2_8 : decode prog_18_method_4_code 8 = .ok (.getstatic 10, 3) := by decide +kernel
theorem d2_11 : decode prog_18_method_4_code 11 = .ok (.if_acmp .ne 7, 3) := by decide +kernel
theorem d2_18 : decode prog_18_method_4_code 18 = .ok (.iconst 0, 1) := by decide +kernel
theorem ef_rm2 (m : MethodId) (x0 : Addr) : entryFrame m #[(.ref x0)] 1 = mkF m 0 #[.val (.ref x0)] [] := by first | (simp [entryFrame, mkF, argsToLocals, Value.category]; done) | rfl
theorem pn_1 : plainName "com/example/hissa/hissa/vdm/Unknown$Kind" = true := by first | (simp [plainName, overriddenIn]; done) | decide +kernel
def Q_rm2 (Z : State) (o0 : Addr) (w0 : Addr) (w2 : Addr) (h0 : Heap) (n0 : Nat) (v : Option Value) (h : Heap) (L : List Loc) : Prop := (v = some (.int (own_in o0 w0 w2))) ∧ (Fr n0 L) ∧ (h = h0)
set_option maxRecDepth 65536 in
set_option maxHeartbeats 40000000 in
theorem rm2 (l : Launch) (Z : State) (a0 : Array Value) (hw : ∀ d ∈ tables_1, d.before a0 Z = true) (ws : List Jvm.Cond) (o0 : Addr) (w0 : Addr) (w2 : Addr) (h0 : Heap) (n0 : Nat) (Z0 : n0 ≤ h0.size) (pS0 : Sta Z h0 "com/example/hissa/hissa/vdm/Unknown$Kind" "PARAMETER" "Lcom/example/hissa/hissa/vdm/Unknown$Kind;" (.ref w0)) (pS2 : Sta Z h0 "com/example/hissa/hissa/vdm/Unknown$Kind" "STARTING_STATE" "Lcom/example/hissa/hissa/vdm/Unknown$Kind;" (.ref w2)) :
    MetFree l (⟨"com/example/hissa/hissa/vdm/Unknown$Kind", "isInput", "()Z"⟩ : MethodName) (head1 (Jvm.Cond.code (⟨"com/example/hissa/hissa/vdm/Unknown$Kind", "isInput", "()Z"⟩ : MethodName) prog_18_method_4_code 1 (some .boolean) :: ws) ({ frames := 0, cells := 0, slots := 0, locals := 0 } : Room)) (fun a U => a = #[(.ref o0)] ∧ Z.Warmed39 U.vm ∧ U.heap = h0) (fun _ _ _ _ _ => True) (fun _ U o U' => ∃ v L, o = .returned v ∧ Q_rm2 Z o0 w0 w2 h0 n0 v U'.heap L ∧ FrameEnd U o U' L ({ frames := 0, cells := 0, slots := 0, locals := 0 } : Room).cells ({ frames := 0, cells := 0, slots := 0, locals := 0 } : Room).slots) := by
  refine MetFree.of_bodySF (plainFor_of_name pn_1) hisR ?_
  intro p e s m args below meth c s₁ Bd hml0 hP hK
  obtain ⟨rfl, hZ, hh⟩ := hP
  have hx := Bd.exec
  have hby := Bd.bytes
  have hml : c.maxLocals = 1 := hml0
  have hown : s.vm.findClass "com/example/hissa/hissa/vdm/Unknown$Kind" = some m.cls := findClass_of_methodNamed Bd.named
  have hnm := (name_of_methodNamed Bd.named Bd.method).1
  have X0 : Stand p l e ({ frames := 0, cells := 0, slots := 0, locals := 0 } : Room) s m #[(.ref o0)] below meth c s₁ [] 0 0 := Stand.of_body Bd
  have e0 : s₁.heap = h0 := by rw [← hh, Bd.state]; rfl
  have N0 := Fr.nil n0
  have K0 : Keep h0 h0 [] := Keep.refl _ _
  have R0 : Rch p e below (s₁.setTop (entryFrame m #[(.ref o0)] 1)) s₁ (mkF m 0 #[.val (.ref o0)] []) := fun t k => castTop (ef_rm2 m o0) k
  have R2 : Rch p e below (s₁.setTop (entryFrame m #[(.ref o0)] 1)) s₁ (mkF m 1 #[.val (.ref o0)] [(.ref o0)]) := fun t k => by
    refine R0 t ?_
    refine XS.aloadN X0.here hx rfl (hb hby d2_0) rfl rfl ?_
    exact k
  obtain ⟨T1, X1, e1, st1⟩ := getS2 X0 hx hZ hown (host := "") (Or.inl (hw _ (List.mem_of_getElem? (i := 12) rfl))) Via.refl e0 pS0 (g := (mkF m 1 #[.val (.ref o0)] [(.ref o0)])) rfl (hb hby d2_1)
  have R4 : Rch p e below (s₁.setTop (entryFrame m #[(.ref o0)] 1)) T1 (mkF m 4 #[.val (.ref o0)] [(.ref w0), (.ref o0)]) := fun t k => by
    refine R2 t ?_
    refine st1 _ ?_
    exact k
  by_cases ha4_3 : o0 = w0
  · have R5 : Rch p e below (s₁.setTop (entryFrame m #[(.ref o0)] 1)) T1 (mkF m 19 #[.val (.ref o0)] [(.int (1 : Int32))]) := fun t k => by
      refine R4 t ?_
      refine Jvm.RoadKit.acmp (g := (mkF m 4 #[.val (.ref o0)] [(.ref w0), (.ref o0)])) X1 hx rfl rfl rfl (pc0 := 4) (pc' := 14) (same := true) rfl (hb hby d2_4) rfl (decide_eq_true (congrArg Value.ref ha4_3)) (by decide) (by decide) ?_
      show Steps p.tables e below (T1.setTop (mkF m 14 #[.val (.ref o0)] [])) t
      refine XS.iconst X1.here hx rfl (hb hby d2_14) ?_
      show Steps p.tables e below (T1.setTop (mkF m 15 #[.val (.ref o0)] [(.int (1 : Int32))])) t
      refine XS.goto X1.here hx rfl (pc0 := 15) (pc' := 19) rfl (hb hby d2_15) (by decide) (by decide) ?_
      exact k
    obtain ⟨fs, hr, hrun, hended, hW, hsame⟩ := X1.leave (v := some (.int (1 : Int32))) (fun h => by rw [Bd.returns] at h; cases h)
    refine ⟨_, _, R5 _ ?_, hrun, hended, _, _, rfl, ?_, ⟨_, rfl⟩, hW, hsame.mono (by decide) (by decide)⟩
    · exact retN X1 hx (t := .boolean) Bd.returns (by simp) (hb hby d2_19) hr
    · show Q_rm2 Z o0 w0 w2 h0 n0 _ T1.heap _
      rw [e1]
      exact ⟨own_i (by simp [own_in, ha4_3]), N0, rfl⟩
  · have R7 : Rch p e below (s₁.setTop (entryFrame m #[(.ref o0)] 1)) T1 (mkF m 8 #[.val (.ref o0)] [(.ref o0)]) := fun t k => by
      refine R4 t ?_
      refine Jvm.RoadKit.acmp (g := (mkF m 4 #[.val (.ref o0)] [(.ref w0), (.ref o0)])) X1 hx rfl rfl rfl (pc0 := 4) (pc' := 7) (same := false) rfl (hb hby d2_4) rfl (decide_eq_false (fun q => ha4_3 (Value.ref.inj q))) (by decide) (by decide) ?_
      show Steps p.tables e below (T1.setTop (mkF m 7 #[.val (.ref o0)] [])) t
      refine XS.aloadN X1.here hx rfl (hb hby d2_7) rfl rfl ?_
      exact k
    obtain ⟨T6, X6, e6, st6⟩ := getS2 X1 hx hZ hown (host := "") (Or.inl (hw _ (List.mem_of_getElem? (i := 15) rfl))) Via.refl e1 pS2 (g := (mkF m 8 #[.val (.ref o0)] [(.ref o0)])) rfl (hb hby d2_8)
    have R9 : Rch p e below (s₁.setTop (entryFrame m #[(.ref o0)] 1)) T6 (mkF m 11 #[.val (.ref o0)] [(.ref w2), (.ref o0)]) := fun t k => by
      refine R7 t ?_
      refine st6 _ ?_
      exact k
    by_cases ha11_8 : o0 = w2
    · have R10 : Rch p e below (s₁.setTop (entryFrame m #[(.ref o0)] 1)) T6 (mkF m 19 #[.val (.ref o0)] [(.int (1 : Int32))]) := fun t k => by
        refine R9 t ?_
        refine Jvm.RoadKit.acmp (g := (mkF m 11 #[.val (.ref o0)] [(.ref w2), (.ref o0)])) X6 hx rfl rfl rfl (pc0 := 11) (pc' := 14) (same := true) rfl (hb hby d2_11) rfl (decide_eq_true (congrArg Value.ref ha11_8)) (by decide) (by decide) ?_
        show Steps p.tables e below (T6.setTop (mkF m 14 #[.val (.ref o0)] [])) t
        refine XS.iconst X6.here hx rfl (hb hby d2_14) ?_
        show Steps p.tables e below (T6.setTop (mkF m 15 #[.val (.ref o0)] [(.int (1 : Int32))])) t
        refine XS.goto X6.here hx rfl (pc0 := 15) (pc' := 19) rfl (hb hby d2_15) (by decide) (by decide) ?_
        exact k
      obtain ⟨fs, hr, hrun, hended, hW, hsame⟩ := X6.leave (v := some (.int (1 : Int32))) (fun h => by rw [Bd.returns] at h; cases h)
      refine ⟨_, _, R10 _ ?_, hrun, hended, _, _, rfl, ?_, ⟨_, rfl⟩, hW, hsame.mono (by decide) (by decide)⟩
      · exact retN X6 hx (t := .boolean) Bd.returns (by simp) (hb hby d2_19) hr
      · show Q_rm2 Z o0 w0 w2 h0 n0 _ T6.heap _
        rw [e6]
        exact ⟨own_i (by simp [own_in, ha4_3, ha11_8]), N0, rfl⟩
    · have R11 : Rch p e below (s₁.setTop (entryFrame m #[(.ref o0)] 1)) T6 (mkF m 19 #[.val (.ref o0)] [(.int (0 : Int32))]) := fun t k => by
        refine R9 t ?_
        refine Jvm.RoadKit.acmp (g := (mkF m 11 #[.val (.ref o0)] [(.ref w2), (.ref o0)])) X6 hx rfl rfl rfl (pc0 := 11) (pc' := 18) (same := false) rfl (hb hby d2_11) rfl (decide_eq_false (fun q => ha11_8 (Value.ref.inj q))) (by decide) (by decide) ?_
        show Steps p.tables e below (T6.setTop (mkF m 18 #[.val (.ref o0)] [])) t
        refine XS.iconst X6.here hx rfl (hb hby d2_18) ?_
        exact k
      obtain ⟨fs, hr, hrun, hended, hW, hsame⟩ := X6.leave (v := some (.int (0 : Int32))) (fun h => by rw [Bd.returns] at h; cases h)
      refine ⟨_, _, R11 _ ?_, hrun, hended, _, _, rfl, ?_, ⟨_, rfl⟩, hW, hsame.mono (by decide) (by decide)⟩
      · exact retN X6 hx (t := .boolean) Bd.returns (by simp) (hb hby d2_19) hr
      · show Q_rm2 Z o0 w0 w2 h0 n0 _ T6.heap _
        rw [e6]
        exact ⟨own_i (by simp [own_in, ha4_3, ha11_8]), N0, rfl⟩
theorem pd_0 : parseMethodDescriptor "(I)Lcom/example/hissa/hissa/vdm/Unknown$Kind;" = some ⟨[.int], some (.object "com/example/hissa/hissa/vdm/Unknown$Kind")⟩ := by decide +kernel
theorem pd_1 : parseMethodDescriptor "()Z" = some ⟨[], some .boolean⟩ := by decide +kernel
theorem ef_rm0 (m : MethodId) (x0 : Int32) : entryFrame m #[(.int x0)] maxLocals = mkF m 0 #[.val (.int x0), .unset, .unset, .unset] [] := by first | (simp [entryFrame, mkF, argsToLocals, Value.category, maxLocals]; done) | rfl
def Q_rm0 (Z : State) (q0 : Int32) (w0 : Addr) (w1 : Addr) (w2 : Addr) (w3 : Addr) (h0 : Heap) (n0 : Nat) (v : Option Value) (h : Heap) (L : List Loc) : Prop := (v = some (.int (1 : Int32))) ∧ (Fr n0 L) ∧ (h = h0)
set_option maxRecDepth 65536 in
set_option maxHeartbeats 40000000 in
theorem rm0 (l : Launch) (Z : State) (a0 : Array Value) (hw : ∀ d ∈ tables_1, d.before a0 Z = true) (ws : List Jvm.Cond) (q0 : Int32) (w0 : Addr) (w1 : Addr) (w2 : Addr) (w3 : Addr) (h0 : Heap) (n0 : Nat) (Z0 : n0 ≤ h0.size) (pS0 : Sta Z h0 "com/example/hissa/hissa/vdm/Unknown$Kind" "PARAMETER" "Lcom/example/hissa/hissa/vdm/Unknown$Kind;" (.ref w0)) (pS1 : Sta Z h0 "com/example/hissa/hissa/vdm/Unknown$Kind" "RESULT" "Lcom/example/hissa/hissa/vdm/Unknown$Kind;" (.ref w1)) (pS2 : Sta Z h0 "com/example/hissa/hissa/vdm/Unknown$Kind" "STARTING_STATE" "Lcom/example/hissa/hissa/vdm/Unknown$Kind;" (.ref w2)) (pS3 : Sta Z h0 "com/example/hissa/hissa/vdm/Unknown$Kind" "FINAL_STATE" "Lcom/example/hissa/hissa/vdm/Unknown$Kind;" (.ref w3)) (pE0 : Exa Z h0 w0 "com/example/hissa/hissa/vdm/Unknown$Kind") (pE1 : Exa Z h0 w1 "com/example/hissa/hissa/vdm/Unknown$Kind") (pE2 : Exa Z h0 w2 "com/example/hissa/hissa/vdm/Unknown$Kind") (pE3 : Exa Z h0 w3 "com/example/hissa/hissa/vdm/Unknown$Kind") (pn10 : w1 ≠ w0) (pn12 : w1 ≠ w2) (pn20 : w2 ≠ w0) (pn30 : w3 ≠ w0) (pn32 : w3 ≠ w2) :
    MetFree l x (head1 (Jvm.Cond.code x code maxLocals ret :: ws) room_1) (fun a U => a = #[(.int q0)] ∧ Z.Warmed39 U.vm ∧ U.heap = h0) (fun _ _ _ _ _ => True) (fun _ U o U' => ∃ v L, o = .returned v ∧ Q_rm0 Z q0 w0 w1 w2 w3 h0 n0 v U'.heap L ∧ FrameEnd U o U' L room_1.cells room_1.slots) := by
  refine MetFree.of_bodySF (plainFor_of_name pn_0) hisR ?_
  intro p e s m args below meth c s₁ Bd hml0 hP hK
  obtain ⟨rfl, hZ, hh⟩ := hP
  have hx := Bd.exec
  have hby := Bd.bytes
  have hml : c.maxLocals = 4 := hml0
  have hown : s.vm.findClass "com/example/hissa/hissa/vdm/KindIsInputPinLaw" = some m.cls := findClass_of_methodNamed Bd.named
  have hnm := (name_of_methodNamed Bd.named Bd.method).1
  have X0 : Stand p l e room_1 s m #[(.int q0)] below meth c s₁ [] 0 0 := Stand.of_body Bd
  have e0 : s₁.heap = h0 := by rw [← hh, Bd.state]; rfl
  have N0 := Fr.nil n0
  have K0 : Keep h0 h0 [] := Keep.refl _ _
  have R0 : Rch p e below (s₁.setTop (entryFrame m #[(.int q0)] maxLocals)) s₁ (mkF m 0 #[.val (.int q0), .unset, .unset, .unset] []) := fun t k => castTop (ef_rm0 m q0) k
  have R1 : Rch p e below (s₁.setTop (entryFrame m #[(.int q0)] maxLocals)) s₁ (mkF m 5 #[.val (.int q0), .val (.int (q0 &&& (3 : Int32))), .unset, .unset] [(.int (q0 &&& (3 : Int32)))]) := fun t k => by
    refine R0 t ?_
    refine XS.iloadN X0.here hx rfl (hb hby at_0) rfl ?_
    show Steps p.tables e below (s₁.setTop (mkF m 1 #[.val (.int q0), .unset, .unset, .unset] [(.int q0)])) t
    refine XS.iconst X0.here hx rfl (hb hby at_1) ?_
    show Steps p.tables e below (s₁.setTop (mkF m 2 #[.val (.int q0), .unset, .unset, .unset] [(.int (3 : Int32)), (.int q0)])) t
    refine XS.iand X0.here hx rfl (hb hby at_2) rfl ?_
    show Steps p.tables e below (s₁.setTop (mkF m 3 #[.val (.int q0), .unset, .unset, .unset] [(.int (q0 &&& (3 : Int32)))])) t
    refine XS.istoreN X0.here hx rfl (hb hby at_3) rfl (l' := #[.val (.int q0), .val (.int (q0 &&& (3 : Int32))), .unset, .unset]) rfl ?_
    show Steps p.tables e below (s₁.setTop (mkF m 4 #[.val (.int q0), .val (.int (q0 &&& (3 : Int32))), .unset, .unset] [])) t
    refine XS.iloadN X0.here hx rfl (hb hby at_4) rfl ?_
    exact k
  by_cases hs0 : (q0 &&& (3 : Int32)) = (0 : Int32)
  · obtain ⟨_, _, ⟨T2, L2, k2, n2⟩, -, X2, ⟨Lc2, hQ2, l2, y2, z2⟩, st2⟩ := Jvm.LawKit.callS X0 hx (y := (⟨"com/example/hissa/hissa/vdm/KindIsInputPinLaw", "pick", "(I)Lcom/example/hissa/hissa/vdm/Unknown$Kind;"⟩ : MethodName)) hown (mvT hZ (hw _ (List.mem_of_getElem? (i := 0) rfl))) (mvT hZ (hw _ (List.mem_of_getElem? (i := 1) rfl))) (mvT hZ (hw _ (List.mem_of_getElem? (i := 2) rfl))) (mvT hZ (hw _ (List.mem_of_getElem? (i := 3) rfl))) (by decide) (backOf (W := 0) (rm1 l Z a0 hw [] (q0 &&& (3 : Int32)) w0 w1 w2 w3 h0 n0 (Nat.le_trans Z0 K0.1) pS0 pS1 pS2 pS3) hZ (hw _ (List.mem_of_getElem? (i := 3) rfl)) (hw _ (List.mem_of_getElem? (i := 2) rfl)) (by decide) (by decide)) (g := (mkF m 5 #[.val (.int q0), .val (.int (q0 &&& (3 : Int32))), .unset, .unset] [(.int (q0 &&& (3 : Int32)))])) rfl (by rw [hml]; rfl) (argsL := [(.int (q0 &&& (3 : Int32)))]) (rest := []) (lenOf pd_0 rfl) rfl (by show 2 * 0 + _ ≤ _; exact Nat.le_of_eq rfl) (hb hby at_5) (fun _ _ => ⟨rfl, e0, (by decide : 0 + 0 ≤ _), (by decide : 0 + 0 ≤ _)⟩)
    dsimp only [Pt.U, Pt.locs, Pt.cells, Pt.slots] at X2 l2 y2 z2 st2 hQ2
    subst l2 y2 z2
    obtain ⟨rfl, N2q, e2⟩ := hQ2
    have N2 := Fr.app N0 N2q
    have hp2 : own_pick (q0 &&& (3 : Int32)) w0 w1 w2 w3 = w0 := by simp [own_pick, hs0]
    rw [hp2] at st2
    have R4 : Rch p e below (s₁.setTop (entryFrame m #[(.int q0)] maxLocals)) T2 (mkF m 41 #[.val (.int q0), .val (.int (q0 &&& (3 : Int32))), .val (.ref w0), .val (.int (1 : Int32))] [(.ref w0)]) := fun t k => by
      refine R1 t ?_
      refine st2 _ ?_
      show Steps p.tables e below (T2.setTop (mkF m 8 #[.val (.int q0), .val (.int (q0 &&& (3 : Int32))), .unset, .unset] [(.ref w0)])) t
      refine XS.astoreN X2.here hx rfl (hb hby at_8) rfl rfl (l' := #[.val (.int q0), .val (.int (q0 &&& (3 : Int32))), .val (.ref w0), .unset]) rfl ?_
      show Steps p.tables e below (T2.setTop (mkF m 9 #[.val (.int q0), .val (.int (q0 &&& (3 : Int32))), .val (.ref w0), .unset] [])) t
      refine XS.iloadN X2.here hx rfl (hb hby at_9) rfl ?_
      show Steps p.tables e below (T2.setTop (mkF m 10 #[.val (.int q0), .val (.int (q0 &&& (3 : Int32))), .val (.ref w0), .unset] [(.int (q0 &&& (3 : Int32)))])) t
      refine XS.ifNo X2.here hx rfl (hb hby at_10) rfl ((if0 _ _).trans (teq hs0).2) ?_
      show Steps p.tables e below (T2.setTop (mkF m 13 #[.val (.int q0), .val (.int (q0 &&& (3 : Int32))), .val (.ref w0), .unset] [])) t
      refine XS.iconst X2.here hx rfl (hb hby at_13) ?_
      show Steps p.tables e below (T2.setTop (mkF m 14 #[.val (.int q0), .val (.int (q0 &&& (3 : Int32))), .val (.ref w0), .unset] [(.int (1 : Int32))])) t
      refine XS.istoreN X2.here hx rfl (hb hby at_14) rfl (l' := #[.val (.int q0), .val (.int (q0 &&& (3 : Int32))), .val (.ref w0), .val (.int (1 : Int32))]) rfl ?_
      show Steps p.tables e below (T2.setTop (mkF m 15 #[.val (.int q0), .val (.int (q0 &&& (3 : Int32))), .val (.ref w0), .val (.int (1 : Int32))] [])) t
      refine XS.goto X2.here hx rfl (pc0 := 15) (pc' := 40) rfl (hb hby at_15) (by decide) (by decide) ?_
      show Steps p.tables e below (T2.setTop (mkF m 40 #[.val (.int q0), .val (.int (q0 &&& (3 : Int32))), .val (.ref w0), .val (.int (1 : Int32))] [])) t
      refine XS.aloadN X2.here hx rfl (hb hby at_40) rfl rfl ?_
      exact k
    obtain ⟨cq3, kq3, q3a, q3b, q3c⟩ := isOf hZ e2 pE0
    obtain ⟨_, _, ⟨T3, L3, k3, n3⟩, -, X3, ⟨Lc3, hQ3, l3, y3, z3⟩, st3⟩ := X2.virtualBack hx (y := (⟨"com/example/hissa/hissa/vdm/Unknown$Kind", "isInput", "()Z"⟩ : MethodName)) (z := (⟨"com/example/hissa/hissa/vdm/Unknown$Kind", "isInput", "()Z"⟩ : MethodName)) hown (mvT hZ (hw _ (List.mem_of_getElem? (i := 7) rfl))) (mvT hZ (hw _ (List.mem_of_getElem? (i := 8) rfl))) (notFace_of_selects (args := #[]) (mvT hZ (hw _ (List.mem_of_getElem? (i := 10) rfl)))) (mvT hZ (hw _ (List.mem_of_getElem? (i := 10) rfl))) (mvT hZ (hw _ (List.mem_of_getElem? (i := 9) rfl))) (by decide) (backOf (W := 0) (rm2 l Z a0 hw [] w0 w0 w2 h0 n0 (Nat.le_trans Z0 K0.1) pS0 pS2) hZ (hw _ (List.mem_of_getElem? (i := 11) rfl)) (hw _ (List.mem_of_getElem? (i := 5) rfl)) (by decide) (by decide)) q3a q3c (g := (mkF m 41 #[.val (.int q0), .val (.int (q0 &&& (3 : Int32))), .val (.ref w0), .val (.int (1 : Int32))] [(.ref w0)])) rfl (by rw [hml]; rfl) (Steps.refl _) (argsL := []) (rest := []) (lenOf pd_1 rfl) rfl (by show 2 * 0 + _ ≤ _; exact Nat.le_of_eq rfl) (hb hby at_41) (fun _ _ => ⟨rfl, e2, (by decide : 0 + 0 ≤ _), (by decide : 0 + 0 ≤ _)⟩)
    dsimp only [Pt.U, Pt.locs, Pt.cells, Pt.slots] at X3 l3 y3 z3 st3 hQ3
    subst l3 y3 z3
    obtain ⟨rfl, N3q, e3⟩ := hQ3
    have N3 := Fr.app N2 N3q
    have hp3 : own_in w0 w0 w2 = (1 : Int32) := by simp [own_in]
    rw [hp3] at st3
    have R5 : Rch p e below (s₁.setTop (entryFrame m #[(.int q0)] maxLocals)) T3 (mkF m 53 #[.val (.int q0), .val (.int (q0 &&& (3 : Int32))), .val (.ref w0), .val (.int (1 : Int32))] [(.int (1 : Int32))]) := fun t k => by
      refine R4 t ?_
      refine st3.trans ?_
      show Steps p.tables e below (T3.setTop (mkF m 44 #[.val (.int q0), .val (.int (q0 &&& (3 : Int32))), .val (.ref w0), .val (.int (1 : Int32))] [(.int (1 : Int32))])) t
      refine XS.iloadN X3.here hx rfl (hb hby at_44) rfl ?_
      show Steps p.tables e below (T3.setTop (mkF m 45 #[.val (.int q0), .val (.int (q0 &&& (3 : Int32))), .val (.ref w0), .val (.int (1 : Int32))] [(.int (1 : Int32)), (.int (1 : Int32))])) t
      refine XS.icmpNo X3.here hx rfl (hb hby at_45) rfl (teq (by decide : (1 : Int32) = (1 : Int32))).2 ?_
      show Steps p.tables e below (T3.setTop (mkF m 48 #[.val (.int q0), .val (.int (q0 &&& (3 : Int32))), .val (.ref w0), .val (.int (1 : Int32))] [])) t
      refine XS.iconst X3.here hx rfl (hb hby at_48) ?_
      show Steps p.tables e below (T3.setTop (mkF m 49 #[.val (.int q0), .val (.int (q0 &&& (3 : Int32))), .val (.ref w0), .val (.int (1 : Int32))] [(.int (1 : Int32))])) t
      refine XS.goto X3.here hx rfl (pc0 := 49) (pc' := 53) rfl (hb hby at_49) (by decide) (by decide) ?_
      exact k
    obtain ⟨fs, hr, hrun, hended, hW, hsame⟩ := X3.leave (v := some (.int (1 : Int32))) (fun h => by rw [Bd.returns] at h; cases h)
    refine ⟨_, _, R5 _ ?_, hrun, hended, _, _, rfl, ?_, ⟨_, rfl⟩, hW, hsame.mono (by decide) (by decide)⟩
    · exact retN X3 hx (t := .boolean) Bd.returns (by simp) (hb hby at_53) hr
    · show Q_rm0 Z q0 w0 w1 w2 w3 h0 n0 _ T3.heap _
      rw [e3]
      exact ⟨rfl, N3, rfl⟩
  · by_cases hs1 : (q0 &&& (3 : Int32)) = (1 : Int32)
    · obtain ⟨_, _, ⟨T6, L6, k6, n6⟩, -, X6, ⟨Lc6, hQ6, l6, y6, z6⟩, st6⟩ := Jvm.LawKit.callS X0 hx (y := (⟨"com/example/hissa/hissa/vdm/KindIsInputPinLaw", "pick", "(I)Lcom/example/hissa/hissa/vdm/Unknown$Kind;"⟩ : MethodName)) hown (mvT hZ (hw _ (List.mem_of_getElem? (i := 0) rfl))) (mvT hZ (hw _ (List.mem_of_getElem? (i := 1) rfl))) (mvT hZ (hw _ (List.mem_of_getElem? (i := 2) rfl))) (mvT hZ (hw _ (List.mem_of_getElem? (i := 3) rfl))) (by decide) (backOf (W := 0) (rm1 l Z a0 hw [] (q0 &&& (3 : Int32)) w0 w1 w2 w3 h0 n0 (Nat.le_trans Z0 K0.1) pS0 pS1 pS2 pS3) hZ (hw _ (List.mem_of_getElem? (i := 3) rfl)) (hw _ (List.mem_of_getElem? (i := 2) rfl)) (by decide) (by decide)) (g := (mkF m 5 #[.val (.int q0), .val (.int (q0 &&& (3 : Int32))), .unset, .unset] [(.int (q0 &&& (3 : Int32)))])) rfl (by rw [hml]; rfl) (argsL := [(.int (q0 &&& (3 : Int32)))]) (rest := []) (lenOf pd_0 rfl) rfl (by show 2 * 0 + _ ≤ _; exact Nat.le_of_eq rfl) (hb hby at_5) (fun _ _ => ⟨rfl, e0, (by decide : 0 + 0 ≤ _), (by decide : 0 + 0 ≤ _)⟩)
      dsimp only [Pt.U, Pt.locs, Pt.cells, Pt.slots] at X6 l6 y6 z6 st6 hQ6
      subst l6 y6 z6
      obtain ⟨rfl, N6q, e6⟩ := hQ6
      have N6 := Fr.app N0 N6q
      have hp6 : own_pick (q0 &&& (3 : Int32)) w0 w1 w2 w3 = w1 := by simp [own_pick, hs0, hs1]
      rw [hp6] at st6
      have R8 : Rch p e below (s₁.setTop (entryFrame m #[(.int q0)] maxLocals)) T6 (mkF m 41 #[.val (.int q0), .val (.int (q0 &&& (3 : Int32))), .val (.ref w1), .val (.int (0 : Int32))] [(.ref w1)]) := fun t k => by
        refine R1 t ?_
        refine st6 _ ?_
        show Steps p.tables e below (T6.setTop (mkF m 8 #[.val (.int q0), .val (.int (q0 &&& (3 : Int32))), .unset, .unset] [(.ref w1)])) t
        refine XS.astoreN X6.here hx rfl (hb hby at_8) rfl rfl (l' := #[.val (.int q0), .val (.int (q0 &&& (3 : Int32))), .val (.ref w1), .unset]) rfl ?_
        show Steps p.tables e below (T6.setTop (mkF m 9 #[.val (.int q0), .val (.int (q0 &&& (3 : Int32))), .val (.ref w1), .unset] [])) t
        refine XS.iloadN X6.here hx rfl (hb hby at_9) rfl ?_
        show Steps p.tables e below (T6.setTop (mkF m 10 #[.val (.int q0), .val (.int (q0 &&& (3 : Int32))), .val (.ref w1), .unset] [(.int (q0 &&& (3 : Int32)))])) t
        refine XS.ifYes X6.here hx rfl (pc0 := 10) (pc' := 18) rfl (hb hby at_10) rfl ((if0 _ _).trans (feq hs0).2) (by decide) (by decide) ?_
        show Steps p.tables e below (T6.setTop (mkF m 18 #[.val (.int q0), .val (.int (q0 &&& (3 : Int32))), .val (.ref w1), .unset] [])) t
        refine XS.iloadN X6.here hx rfl (hb hby at_18) rfl ?_
        show Steps p.tables e below (T6.setTop (mkF m 19 #[.val (.int q0), .val (.int (q0 &&& (3 : Int32))), .val (.ref w1), .unset] [(.int (q0 &&& (3 : Int32)))])) t
        refine XS.iconst X6.here hx rfl (hb hby at_19) ?_
        show Steps p.tables e below (T6.setTop (mkF m 20 #[.val (.int q0), .val (.int (q0 &&& (3 : Int32))), .val (.ref w1), .unset] [(.int (1 : Int32)), (.int (q0 &&& (3 : Int32)))])) t
        refine XS.icmpNo X6.here hx rfl (hb hby at_20) rfl (teq hs1).2 ?_
        show Steps p.tables e below (T6.setTop (mkF m 23 #[.val (.int q0), .val (.int (q0 &&& (3 : Int32))), .val (.ref w1), .unset] [])) t
        refine XS.iconst X6.here hx rfl (hb hby at_23) ?_
        show Steps p.tables e below (T6.setTop (mkF m 24 #[.val (.int q0), .val (.int (q0 &&& (3 : Int32))), .val (.ref w1), .unset] [(.int (0 : Int32))])) t
        refine XS.istoreN X6.here hx rfl (hb hby at_24) rfl (l' := #[.val (.int q0), .val (.int (q0 &&& (3 : Int32))), .val (.ref w1), .val (.int (0 : Int32))]) rfl ?_
        show Steps p.tables e below (T6.setTop (mkF m 25 #[.val (.int q0), .val (.int (q0 &&& (3 : Int32))), .val (.ref w1), .val (.int (0 : Int32))] [])) t
        refine XS.goto X6.here hx rfl (pc0 := 25) (pc' := 40) rfl (hb hby at_25) (by decide) (by decide) ?_
        show Steps p.tables e below (T6.setTop (mkF m 40 #[.val (.int q0), .val (.int (q0 &&& (3 : Int32))), .val (.ref w1), .val (.int (0 : Int32))] [])) t
        refine XS.aloadN X6.here hx rfl (hb hby at_40) rfl rfl ?_
        exact k
      obtain ⟨cq7, kq7, q7a, q7b, q7c⟩ := isOf hZ e6 pE1
      obtain ⟨_, _, ⟨T7, L7, k7, n7⟩, -, X7, ⟨Lc7, hQ7, l7, y7, z7⟩, st7⟩ := X6.virtualBack hx (y := (⟨"com/example/hissa/hissa/vdm/Unknown$Kind", "isInput", "()Z"⟩ : MethodName)) (z := (⟨"com/example/hissa/hissa/vdm/Unknown$Kind", "isInput", "()Z"⟩ : MethodName)) hown (mvT hZ (hw _ (List.mem_of_getElem? (i := 7) rfl))) (mvT hZ (hw _ (List.mem_of_getElem? (i := 8) rfl))) (notFace_of_selects (args := #[]) (mvT hZ (hw _ (List.mem_of_getElem? (i := 10) rfl)))) (mvT hZ (hw _ (List.mem_of_getElem? (i := 10) rfl))) (mvT hZ (hw _ (List.mem_of_getElem? (i := 9) rfl))) (by decide) (backOf (W := 0) (rm2 l Z a0 hw [] w1 w0 w2 h0 n0 (Nat.le_trans Z0 K0.1) pS0 pS2) hZ (hw _ (List.mem_of_getElem? (i := 11) rfl)) (hw _ (List.mem_of_getElem? (i := 5) rfl)) (by decide) (by decide)) q7a q7c (g := (mkF m 41 #[.val (.int q0), .val (.int (q0 &&& (3 : Int32))), .val (.ref w1), .val (.int (0 : Int32))] [(.ref w1)])) rfl (by rw [hml]; rfl) (Steps.refl _) (argsL := []) (rest := []) (lenOf pd_1 rfl) rfl (by show 2 * 0 + _ ≤ _; exact Nat.le_of_eq rfl) (hb hby at_41) (fun _ _ => ⟨rfl, e6, (by decide : 0 + 0 ≤ _), (by decide : 0 + 0 ≤ _)⟩)
      dsimp only [Pt.U, Pt.locs, Pt.cells, Pt.slots] at X7 l7 y7 z7 st7 hQ7
      subst l7 y7 z7
      obtain ⟨rfl, N7q, e7⟩ := hQ7
      have N7 := Fr.app N6 N7q
      have hp7 : own_in w1 w0 w2 = (0 : Int32) := by simp [own_in, pn10, pn12]
      rw [hp7] at st7
      have R9 : Rch p e below (s₁.setTop (entryFrame m #[(.int q0)] maxLocals)) T7 (mkF m 53 #[.val (.int q0), .val (.int (q0 &&& (3 : Int32))), .val (.ref w1), .val (.int (0 : Int32))] [(.int (1 : Int32))]) := fun t k => by
        refine R8 t ?_
        refine st7.trans ?_
        show Steps p.tables e below (T7.setTop (mkF m 44 #[.val (.int q0), .val (.int (q0 &&& (3 : Int32))), .val (.ref w1), .val (.int (0 : Int32))] [(.int (0 : Int32))])) t
        refine XS.iloadN X7.here hx rfl (hb hby at_44) rfl ?_
        show Steps p.tables e below (T7.setTop (mkF m 45 #[.val (.int q0), .val (.int (q0 &&& (3 : Int32))), .val (.ref w1), .val (.int (0 : Int32))] [(.int (0 : Int32)), (.int (0 : Int32))])) t
        refine XS.icmpNo X7.here hx rfl (hb hby at_45) rfl (teq (by decide : (0 : Int32) = (0 : Int32))).2 ?_
        show Steps p.tables e below (T7.setTop (mkF m 48 #[.val (.int q0), .val (.int (q0 &&& (3 : Int32))), .val (.ref w1), .val (.int (0 : Int32))] [])) t
        refine XS.iconst X7.here hx rfl (hb hby at_48) ?_
        show Steps p.tables e below (T7.setTop (mkF m 49 #[.val (.int q0), .val (.int (q0 &&& (3 : Int32))), .val (.ref w1), .val (.int (0 : Int32))] [(.int (1 : Int32))])) t
        refine XS.goto X7.here hx rfl (pc0 := 49) (pc' := 53) rfl (hb hby at_49) (by decide) (by decide) ?_
        exact k
      obtain ⟨fs, hr, hrun, hended, hW, hsame⟩ := X7.leave (v := some (.int (1 : Int32))) (fun h => by rw [Bd.returns] at h; cases h)
      refine ⟨_, _, R9 _ ?_, hrun, hended, _, _, rfl, ?_, ⟨_, rfl⟩, hW, hsame.mono (by decide) (by decide)⟩
      · exact retN X7 hx (t := .boolean) Bd.returns (by simp) (hb hby at_53) hr
      · show Q_rm0 Z q0 w0 w1 w2 w3 h0 n0 _ T7.heap _
        rw [e7]
        exact ⟨rfl, N7, rfl⟩
    · by_cases hs2 : (q0 &&& (3 : Int32)) = (2 : Int32)
      · obtain ⟨_, _, ⟨T10, L10, k10, n10⟩, -, X10, ⟨Lc10, hQ10, l10, y10, z10⟩, st10⟩ := Jvm.LawKit.callS X0 hx (y := (⟨"com/example/hissa/hissa/vdm/KindIsInputPinLaw", "pick", "(I)Lcom/example/hissa/hissa/vdm/Unknown$Kind;"⟩ : MethodName)) hown (mvT hZ (hw _ (List.mem_of_getElem? (i := 0) rfl))) (mvT hZ (hw _ (List.mem_of_getElem? (i := 1) rfl))) (mvT hZ (hw _ (List.mem_of_getElem? (i := 2) rfl))) (mvT hZ (hw _ (List.mem_of_getElem? (i := 3) rfl))) (by decide) (backOf (W := 0) (rm1 l Z a0 hw [] (q0 &&& (3 : Int32)) w0 w1 w2 w3 h0 n0 (Nat.le_trans Z0 K0.1) pS0 pS1 pS2 pS3) hZ (hw _ (List.mem_of_getElem? (i := 3) rfl)) (hw _ (List.mem_of_getElem? (i := 2) rfl)) (by decide) (by decide)) (g := (mkF m 5 #[.val (.int q0), .val (.int (q0 &&& (3 : Int32))), .unset, .unset] [(.int (q0 &&& (3 : Int32)))])) rfl (by rw [hml]; rfl) (argsL := [(.int (q0 &&& (3 : Int32)))]) (rest := []) (lenOf pd_0 rfl) rfl (by show 2 * 0 + _ ≤ _; exact Nat.le_of_eq rfl) (hb hby at_5) (fun _ _ => ⟨rfl, e0, (by decide : 0 + 0 ≤ _), (by decide : 0 + 0 ≤ _)⟩)
        dsimp only [Pt.U, Pt.locs, Pt.cells, Pt.slots] at X10 l10 y10 z10 st10 hQ10
        subst l10 y10 z10
        obtain ⟨rfl, N10q, e10⟩ := hQ10
        have N10 := Fr.app N0 N10q
        have hp10 : own_pick (q0 &&& (3 : Int32)) w0 w1 w2 w3 = w2 := by simp [own_pick, hs0, hs1, hs2]
        rw [hp10] at st10
        have R12 : Rch p e below (s₁.setTop (entryFrame m #[(.int q0)] maxLocals)) T10 (mkF m 41 #[.val (.int q0), .val (.int (q0 &&& (3 : Int32))), .val (.ref w2), .val (.int (1 : Int32))] [(.ref w2)]) := fun t k => by
          refine R1 t ?_
          refine st10 _ ?_
          show Steps p.tables e below (T10.setTop (mkF m 8 #[.val (.int q0), .val (.int (q0 &&& (3 : Int32))), .unset, .unset] [(.ref w2)])) t
          refine XS.astoreN X10.here hx rfl (hb hby at_8) rfl rfl (l' := #[.val (.int q0), .val (.int (q0 &&& (3 : Int32))), .val (.ref w2), .unset]) rfl ?_
          show Steps p.tables e below (T10.setTop (mkF m 9 #[.val (.int q0), .val (.int (q0 &&& (3 : Int32))), .val (.ref w2), .unset] [])) t
          refine XS.iloadN X10.here hx rfl (hb hby at_9) rfl ?_
          show Steps p.tables e below (T10.setTop (mkF m 10 #[.val (.int q0), .val (.int (q0 &&& (3 : Int32))), .val (.ref w2), .unset] [(.int (q0 &&& (3 : Int32)))])) t
          refine XS.ifYes X10.here hx rfl (pc0 := 10) (pc' := 18) rfl (hb hby at_10) rfl ((if0 _ _).trans (feq hs0).2) (by decide) (by decide) ?_
          show Steps p.tables e below (T10.setTop (mkF m 18 #[.val (.int q0), .val (.int (q0 &&& (3 : Int32))), .val (.ref w2), .unset] [])) t
          refine XS.iloadN X10.here hx rfl (hb hby at_18) rfl ?_
          show Steps p.tables e below (T10.setTop (mkF m 19 #[.val (.int q0), .val (.int (q0 &&& (3 : Int32))), .val (.ref w2), .unset] [(.int (q0 &&& (3 : Int32)))])) t
          refine XS.iconst X10.here hx rfl (hb hby at_19) ?_
          show Steps p.tables e below (T10.setTop (mkF m 20 #[.val (.int q0), .val (.int (q0 &&& (3 : Int32))), .val (.ref w2), .unset] [(.int (1 : Int32)), (.int (q0 &&& (3 : Int32)))])) t
          refine XS.icmpYes X10.here hx rfl (pc0 := 20) (pc' := 28) rfl (hb hby at_20) rfl (feq hs1).2 (by decide) (by decide) ?_
          show Steps p.tables e below (T10.setTop (mkF m 28 #[.val (.int q0), .val (.int (q0 &&& (3 : Int32))), .val (.ref w2), .unset] [])) t
          refine XS.iloadN X10.here hx rfl (hb hby at_28) rfl ?_
          show Steps p.tables e below (T10.setTop (mkF m 29 #[.val (.int q0), .val (.int (q0 &&& (3 : Int32))), .val (.ref w2), .unset] [(.int (q0 &&& (3 : Int32)))])) t
          refine XS.iconst X10.here hx rfl (hb hby at_29) ?_
          show Steps p.tables e below (T10.setTop (mkF m 30 #[.val (.int q0), .val (.int (q0 &&& (3 : Int32))), .val (.ref w2), .unset] [(.int (2 : Int32)), (.int (q0 &&& (3 : Int32)))])) t
          refine XS.icmpNo X10.here hx rfl (hb hby at_30) rfl (teq hs2).2 ?_
          show Steps p.tables e below (T10.setTop (mkF m 33 #[.val (.int q0), .val (.int (q0 &&& (3 : Int32))), .val (.ref w2), .unset] [])) t
          refine XS.iconst X10.here hx rfl (hb hby at_33) ?_
          show Steps p.tables e below (T10.setTop (mkF m 34 #[.val (.int q0), .val (.int (q0 &&& (3 : Int32))), .val (.ref w2), .unset] [(.int (1 : Int32))])) t
          refine XS.istoreN X10.here hx rfl (hb hby at_34) rfl (l' := #[.val (.int q0), .val (.int (q0 &&& (3 : Int32))), .val (.ref w2), .val (.int (1 : Int32))]) rfl ?_
          show Steps p.tables e below (T10.setTop (mkF m 35 #[.val (.int q0), .val (.int (q0 &&& (3 : Int32))), .val (.ref w2), .val (.int (1 : Int32))] [])) t
          refine XS.goto X10.here hx rfl (pc0 := 35) (pc' := 40) rfl (hb hby at_35) (by decide) (by decide) ?_
          show Steps p.tables e below (T10.setTop (mkF m 40 #[.val (.int q0), .val (.int (q0 &&& (3 : Int32))), .val (.ref w2), .val (.int (1 : Int32))] [])) t
          refine XS.aloadN X10.here hx rfl (hb hby at_40) rfl rfl ?_
          exact k
        obtain ⟨cq11, kq11, q11a, q11b, q11c⟩ := isOf hZ e10 pE2
        obtain ⟨_, _, ⟨T11, L11, k11, n11⟩, -, X11, ⟨Lc11, hQ11, l11, y11, z11⟩, st11⟩ := X10.virtualBack hx (y := (⟨"com/example/hissa/hissa/vdm/Unknown$Kind", "isInput", "()Z"⟩ : MethodName)) (z := (⟨"com/example/hissa/hissa/vdm/Unknown$Kind", "isInput", "()Z"⟩ : MethodName)) hown (mvT hZ (hw _ (List.mem_of_getElem? (i := 7) rfl))) (mvT hZ (hw _ (List.mem_of_getElem? (i := 8) rfl))) (notFace_of_selects (args := #[]) (mvT hZ (hw _ (List.mem_of_getElem? (i := 10) rfl)))) (mvT hZ (hw _ (List.mem_of_getElem? (i := 10) rfl))) (mvT hZ (hw _ (List.mem_of_getElem? (i := 9) rfl))) (by decide) (backOf (W := 0) (rm2 l Z a0 hw [] w2 w0 w2 h0 n0 (Nat.le_trans Z0 K0.1) pS0 pS2) hZ (hw _ (List.mem_of_getElem? (i := 11) rfl)) (hw _ (List.mem_of_getElem? (i := 5) rfl)) (by decide) (by decide)) q11a q11c (g := (mkF m 41 #[.val (.int q0), .val (.int (q0 &&& (3 : Int32))), .val (.ref w2), .val (.int (1 : Int32))] [(.ref w2)])) rfl (by rw [hml]; rfl) (Steps.refl _) (argsL := []) (rest := []) (lenOf pd_1 rfl) rfl (by show 2 * 0 + _ ≤ _; exact Nat.le_of_eq rfl) (hb hby at_41) (fun _ _ => ⟨rfl, e10, (by decide : 0 + 0 ≤ _), (by decide : 0 + 0 ≤ _)⟩)
        dsimp only [Pt.U, Pt.locs, Pt.cells, Pt.slots] at X11 l11 y11 z11 st11 hQ11
        subst l11 y11 z11
        obtain ⟨rfl, N11q, e11⟩ := hQ11
        have N11 := Fr.app N10 N11q
        have hp11 : own_in w2 w0 w2 = (1 : Int32) := by simp [own_in]
        rw [hp11] at st11
        have R13 : Rch p e below (s₁.setTop (entryFrame m #[(.int q0)] maxLocals)) T11 (mkF m 53 #[.val (.int q0), .val (.int (q0 &&& (3 : Int32))), .val (.ref w2), .val (.int (1 : Int32))] [(.int (1 : Int32))]) := fun t k => by
          refine R12 t ?_
          refine st11.trans ?_
          show Steps p.tables e below (T11.setTop (mkF m 44 #[.val (.int q0), .val (.int (q0 &&& (3 : Int32))), .val (.ref w2), .val (.int (1 : Int32))] [(.int (1 : Int32))])) t
          refine XS.iloadN X11.here hx rfl (hb hby at_44) rfl ?_
          show Steps p.tables e below (T11.setTop (mkF m 45 #[.val (.int q0), .val (.int (q0 &&& (3 : Int32))), .val (.ref w2), .val (.int (1 : Int32))] [(.int (1 : Int32)), (.int (1 : Int32))])) t
          refine XS.icmpNo X11.here hx rfl (hb hby at_45) rfl (teq (by decide : (1 : Int32) = (1 : Int32))).2 ?_
          show Steps p.tables e below (T11.setTop (mkF m 48 #[.val (.int q0), .val (.int (q0 &&& (3 : Int32))), .val (.ref w2), .val (.int (1 : Int32))] [])) t
          refine XS.iconst X11.here hx rfl (hb hby at_48) ?_
          show Steps p.tables e below (T11.setTop (mkF m 49 #[.val (.int q0), .val (.int (q0 &&& (3 : Int32))), .val (.ref w2), .val (.int (1 : Int32))] [(.int (1 : Int32))])) t
          refine XS.goto X11.here hx rfl (pc0 := 49) (pc' := 53) rfl (hb hby at_49) (by decide) (by decide) ?_
          exact k
        obtain ⟨fs, hr, hrun, hended, hW, hsame⟩ := X11.leave (v := some (.int (1 : Int32))) (fun h => by rw [Bd.returns] at h; cases h)
        refine ⟨_, _, R13 _ ?_, hrun, hended, _, _, rfl, ?_, ⟨_, rfl⟩, hW, hsame.mono (by decide) (by decide)⟩
        · exact retN X11 hx (t := .boolean) Bd.returns (by simp) (hb hby at_53) hr
        · show Q_rm0 Z q0 w0 w1 w2 w3 h0 n0 _ T11.heap _
          rw [e11]
          exact ⟨rfl, N11, rfl⟩
      · obtain ⟨_, _, ⟨T14, L14, k14, n14⟩, -, X14, ⟨Lc14, hQ14, l14, y14, z14⟩, st14⟩ := Jvm.LawKit.callS X0 hx (y := (⟨"com/example/hissa/hissa/vdm/KindIsInputPinLaw", "pick", "(I)Lcom/example/hissa/hissa/vdm/Unknown$Kind;"⟩ : MethodName)) hown (mvT hZ (hw _ (List.mem_of_getElem? (i := 0) rfl))) (mvT hZ (hw _ (List.mem_of_getElem? (i := 1) rfl))) (mvT hZ (hw _ (List.mem_of_getElem? (i := 2) rfl))) (mvT hZ (hw _ (List.mem_of_getElem? (i := 3) rfl))) (by decide) (backOf (W := 0) (rm1 l Z a0 hw [] (q0 &&& (3 : Int32)) w0 w1 w2 w3 h0 n0 (Nat.le_trans Z0 K0.1) pS0 pS1 pS2 pS3) hZ (hw _ (List.mem_of_getElem? (i := 3) rfl)) (hw _ (List.mem_of_getElem? (i := 2) rfl)) (by decide) (by decide)) (g := (mkF m 5 #[.val (.int q0), .val (.int (q0 &&& (3 : Int32))), .unset, .unset] [(.int (q0 &&& (3 : Int32)))])) rfl (by rw [hml]; rfl) (argsL := [(.int (q0 &&& (3 : Int32)))]) (rest := []) (lenOf pd_0 rfl) rfl (by show 2 * 0 + _ ≤ _; exact Nat.le_of_eq rfl) (hb hby at_5) (fun _ _ => ⟨rfl, e0, (by decide : 0 + 0 ≤ _), (by decide : 0 + 0 ≤ _)⟩)
        dsimp only [Pt.U, Pt.locs, Pt.cells, Pt.slots] at X14 l14 y14 z14 st14 hQ14
        subst l14 y14 z14
        obtain ⟨rfl, N14q, e14⟩ := hQ14
        have N14 := Fr.app N0 N14q
        have hp14 : own_pick (q0 &&& (3 : Int32)) w0 w1 w2 w3 = w3 := by simp [own_pick, hs0, hs1, hs2]
        rw [hp14] at st14
        have R16 : Rch p e below (s₁.setTop (entryFrame m #[(.int q0)] maxLocals)) T14 (mkF m 41 #[.val (.int q0), .val (.int (q0 &&& (3 : Int32))), .val (.ref w3), .val (.int (0 : Int32))] [(.ref w3)]) := fun t k => by
          refine R1 t ?_
          refine st14 _ ?_
          show Steps p.tables e below (T14.setTop (mkF m 8 #[.val (.int q0), .val (.int (q0 &&& (3 : Int32))), .unset, .unset] [(.ref w3)])) t
          refine XS.astoreN X14.here hx rfl (hb hby at_8) rfl rfl (l' := #[.val (.int q0), .val (.int (q0 &&& (3 : Int32))), .val (.ref w3), .unset]) rfl ?_
          show Steps p.tables e below (T14.setTop (mkF m 9 #[.val (.int q0), .val (.int (q0 &&& (3 : Int32))), .val (.ref w3), .unset] [])) t
          refine XS.iloadN X14.here hx rfl (hb hby at_9) rfl ?_
          show Steps p.tables e below (T14.setTop (mkF m 10 #[.val (.int q0), .val (.int (q0 &&& (3 : Int32))), .val (.ref w3), .unset] [(.int (q0 &&& (3 : Int32)))])) t
          refine XS.ifYes X14.here hx rfl (pc0 := 10) (pc' := 18) rfl (hb hby at_10) rfl ((if0 _ _).trans (feq hs0).2) (by decide) (by decide) ?_
          show Steps p.tables e below (T14.setTop (mkF m 18 #[.val (.int q0), .val (.int (q0 &&& (3 : Int32))), .val (.ref w3), .unset] [])) t
          refine XS.iloadN X14.here hx rfl (hb hby at_18) rfl ?_
          show Steps p.tables e below (T14.setTop (mkF m 19 #[.val (.int q0), .val (.int (q0 &&& (3 : Int32))), .val (.ref w3), .unset] [(.int (q0 &&& (3 : Int32)))])) t
          refine XS.iconst X14.here hx rfl (hb hby at_19) ?_
          show Steps p.tables e below (T14.setTop (mkF m 20 #[.val (.int q0), .val (.int (q0 &&& (3 : Int32))), .val (.ref w3), .unset] [(.int (1 : Int32)), (.int (q0 &&& (3 : Int32)))])) t
          refine XS.icmpYes X14.here hx rfl (pc0 := 20) (pc' := 28) rfl (hb hby at_20) rfl (feq hs1).2 (by decide) (by decide) ?_
          show Steps p.tables e below (T14.setTop (mkF m 28 #[.val (.int q0), .val (.int (q0 &&& (3 : Int32))), .val (.ref w3), .unset] [])) t
          refine XS.iloadN X14.here hx rfl (hb hby at_28) rfl ?_
          show Steps p.tables e below (T14.setTop (mkF m 29 #[.val (.int q0), .val (.int (q0 &&& (3 : Int32))), .val (.ref w3), .unset] [(.int (q0 &&& (3 : Int32)))])) t
          refine XS.iconst X14.here hx rfl (hb hby at_29) ?_
          show Steps p.tables e below (T14.setTop (mkF m 30 #[.val (.int q0), .val (.int (q0 &&& (3 : Int32))), .val (.ref w3), .unset] [(.int (2 : Int32)), (.int (q0 &&& (3 : Int32)))])) t
          refine XS.icmpYes X14.here hx rfl (pc0 := 30) (pc' := 38) rfl (hb hby at_30) rfl (feq hs2).2 (by decide) (by decide) ?_
          show Steps p.tables e below (T14.setTop (mkF m 38 #[.val (.int q0), .val (.int (q0 &&& (3 : Int32))), .val (.ref w3), .unset] [])) t
          refine XS.iconst X14.here hx rfl (hb hby at_38) ?_
          show Steps p.tables e below (T14.setTop (mkF m 39 #[.val (.int q0), .val (.int (q0 &&& (3 : Int32))), .val (.ref w3), .unset] [(.int (0 : Int32))])) t
          refine XS.istoreN X14.here hx rfl (hb hby at_39) rfl (l' := #[.val (.int q0), .val (.int (q0 &&& (3 : Int32))), .val (.ref w3), .val (.int (0 : Int32))]) rfl ?_
          show Steps p.tables e below (T14.setTop (mkF m 40 #[.val (.int q0), .val (.int (q0 &&& (3 : Int32))), .val (.ref w3), .val (.int (0 : Int32))] [])) t
          refine XS.aloadN X14.here hx rfl (hb hby at_40) rfl rfl ?_
          exact k
        obtain ⟨cq15, kq15, q15a, q15b, q15c⟩ := isOf hZ e14 pE3
        obtain ⟨_, _, ⟨T15, L15, k15, n15⟩, -, X15, ⟨Lc15, hQ15, l15, y15, z15⟩, st15⟩ := X14.virtualBack hx (y := (⟨"com/example/hissa/hissa/vdm/Unknown$Kind", "isInput", "()Z"⟩ : MethodName)) (z := (⟨"com/example/hissa/hissa/vdm/Unknown$Kind", "isInput", "()Z"⟩ : MethodName)) hown (mvT hZ (hw _ (List.mem_of_getElem? (i := 7) rfl))) (mvT hZ (hw _ (List.mem_of_getElem? (i := 8) rfl))) (notFace_of_selects (args := #[]) (mvT hZ (hw _ (List.mem_of_getElem? (i := 10) rfl)))) (mvT hZ (hw _ (List.mem_of_getElem? (i := 10) rfl))) (mvT hZ (hw _ (List.mem_of_getElem? (i := 9) rfl))) (by decide) (backOf (W := 0) (rm2 l Z a0 hw [] w3 w0 w2 h0 n0 (Nat.le_trans Z0 K0.1) pS0 pS2) hZ (hw _ (List.mem_of_getElem? (i := 11) rfl)) (hw _ (List.mem_of_getElem? (i := 5) rfl)) (by decide) (by decide)) q15a q15c (g := (mkF m 41 #[.val (.int q0), .val (.int (q0 &&& (3 : Int32))), .val (.ref w3), .val (.int (0 : Int32))] [(.ref w3)])) rfl (by rw [hml]; rfl) (Steps.refl _) (argsL := []) (rest := []) (lenOf pd_1 rfl) rfl (by show 2 * 0 + _ ≤ _; exact Nat.le_of_eq rfl) (hb hby at_41) (fun _ _ => ⟨rfl, e14, (by decide : 0 + 0 ≤ _), (by decide : 0 + 0 ≤ _)⟩)
        dsimp only [Pt.U, Pt.locs, Pt.cells, Pt.slots] at X15 l15 y15 z15 st15 hQ15
        subst l15 y15 z15
        obtain ⟨rfl, N15q, e15⟩ := hQ15
        have N15 := Fr.app N14 N15q
        have hp15 : own_in w3 w0 w2 = (0 : Int32) := by simp [own_in, pn30, pn32]
        rw [hp15] at st15
        have R17 : Rch p e below (s₁.setTop (entryFrame m #[(.int q0)] maxLocals)) T15 (mkF m 53 #[.val (.int q0), .val (.int (q0 &&& (3 : Int32))), .val (.ref w3), .val (.int (0 : Int32))] [(.int (1 : Int32))]) := fun t k => by
          refine R16 t ?_
          refine st15.trans ?_
          show Steps p.tables e below (T15.setTop (mkF m 44 #[.val (.int q0), .val (.int (q0 &&& (3 : Int32))), .val (.ref w3), .val (.int (0 : Int32))] [(.int (0 : Int32))])) t
          refine XS.iloadN X15.here hx rfl (hb hby at_44) rfl ?_
          show Steps p.tables e below (T15.setTop (mkF m 45 #[.val (.int q0), .val (.int (q0 &&& (3 : Int32))), .val (.ref w3), .val (.int (0 : Int32))] [(.int (0 : Int32)), (.int (0 : Int32))])) t
          refine XS.icmpNo X15.here hx rfl (hb hby at_45) rfl (teq (by decide : (0 : Int32) = (0 : Int32))).2 ?_
          show Steps p.tables e below (T15.setTop (mkF m 48 #[.val (.int q0), .val (.int (q0 &&& (3 : Int32))), .val (.ref w3), .val (.int (0 : Int32))] [])) t
          refine XS.iconst X15.here hx rfl (hb hby at_48) ?_
          show Steps p.tables e below (T15.setTop (mkF m 49 #[.val (.int q0), .val (.int (q0 &&& (3 : Int32))), .val (.ref w3), .val (.int (0 : Int32))] [(.int (1 : Int32))])) t
          refine XS.goto X15.here hx rfl (pc0 := 49) (pc' := 53) rfl (hb hby at_49) (by decide) (by decide) ?_
          exact k
        obtain ⟨fs, hr, hrun, hended, hW, hsame⟩ := X15.leave (v := some (.int (1 : Int32))) (fun h => by rw [Bd.returns] at h; cases h)
        refine ⟨_, _, R17 _ ?_, hrun, hended, _, _, rfl, ?_, ⟨_, rfl⟩, hW, hsame.mono (by decide) (by decide)⟩
        · exact retN X15 hx (t := .boolean) Bd.returns (by simp) (hb hby at_53) hr
        · show Q_rm0 Z q0 w0 w1 w2 w3 h0 n0 _ T15.heap _
          rw [e15]
          exact ⟨rfl, N15, rfl⟩
set_option maxRecDepth 65536 in
set_option maxHeartbeats 40000000 in
theorem comes_1 {Post : Tables → Env → Array Value → State → Outcome → State → Prop} (hpost : ∀ tb e args s v u, (limb_1_1.after args s (.returned v) u = true ∧ limb_1_2.after args s (.returned v) u = true ∧ True) → FrameEnd s (.returned v) u (Jvm.fieldLocs frame_1_writes args s ++ Jvm.arrayLocs frame_1_arrays args s ++ Jvm.staticLocs frame_1_statics s) 0 0 → Post tb e args s (.returned v) u) :
    ArmFor flags0 classFile x code maxLocals ret World_1 tables_1 room_1 Calls_1 rest_1 Pre_1 Post := by
  intro l hfl _ _ p e ha hc hk s m args below hf hA hF happ hP
  obtain ⟨hcalls, hrest, hpre⟩ := hP
  obtain ⟨-, -, -, hnamed, -, -, -, hat⟩ := (Spec.applies_iff hf).mp happ
  obtain ⟨hg, hn⟩ := and_e (Cond.before_iff.mp (show (Jvm.Cond.and given_1 narrow_1).before args s = true from hpre))
  obtain ⟨g0, g1⟩ := and_e hg
  obtain ⟨w0, rfl⟩ : ∃ w0 : Value, args = #[w0] := by
    have hs : args.size = 1 := by simpa [Cond.value, given_1] using g0
    obtain ⟨L⟩ := args
    match L, hs with
    | [w0], _ => exact ⟨w0, rfl⟩
  have hw := fun d (hd : d ∈ tables_1) => atoms_spec (ws := Jvm.Cond.code x code maxLocals ret :: tables_1) hat d (List.mem_cons_of_mem _ hd)
  have hfit : Fit s := fun {y c} hc i hi => by
    obtain ⟨ha, rfl⟩ := Array.getElem?_eq_some_iff.mp hc
    have q := List.all_eq_true.mp ((Array.all_eq_true_iff_forall_mem.mp hF) _ (Array.getElem_mem ha)) i (List.mem_range.mpr hi)
    simpa [Array.getElem?_eq_getElem hi] using q
  obtain ⟨i0, ei0⟩ := is_v g1
  obtain rfl : w0 = (.int i0) := Option.some.inj ei0
  obtain ⟨c0, hn0⟩ := and_e hn
  obtain ⟨c1, hn1⟩ := and_e hn0
  obtain ⟨c2, hn2⟩ := and_e hn1
  obtain ⟨c3, hn3⟩ := and_e hn2
  obtain ⟨c4, hn4⟩ := and_e hn3
  obtain ⟨c5, hn5⟩ := and_e hn4
  obtain ⟨c6, hn6⟩ := and_e hn5
  obtain ⟨v0, ev_v0⟩ := exa_v c0
  have E_v0 : Exa s s.heap v0 "com/example/hissa/hissa/vdm/Unknown$Kind" := Exa.start ev_v0 c0
  have S_v0 : Sta s s.heap "com/example/hissa/hissa/vdm/Unknown$Kind" "PARAMETER" "Lcom/example/hissa/hissa/vdm/Unknown$Kind;" (.ref v0) := Sta.start ev_v0 (Or.inr ⟨(hw _ (List.mem_of_getElem? (i := 5) rfl)), (hw _ (List.mem_of_getElem? (i := 6) rfl))⟩)
  obtain ⟨v3, ev_v3⟩ := exa_v c1
  have E_v3 : Exa s s.heap v3 "com/example/hissa/hissa/vdm/Unknown$Kind" := Exa.start ev_v3 c1
  have S_v3 : Sta s s.heap "com/example/hissa/hissa/vdm/Unknown$Kind" "FINAL_STATE" "Lcom/example/hissa/hissa/vdm/Unknown$Kind;" (.ref v3) := Sta.start ev_v3 (Or.inr ⟨(hw _ (List.mem_of_getElem? (i := 5) rfl)), (hw _ (List.mem_of_getElem? (i := 14) rfl))⟩)
  obtain ⟨v2, ev_v2⟩ := exa_v c4
  have E_v2 : Exa s s.heap v2 "com/example/hissa/hissa/vdm/Unknown$Kind" := Exa.start ev_v2 c4
  have S_v2 : Sta s s.heap "com/example/hissa/hissa/vdm/Unknown$Kind" "STARTING_STATE" "Lcom/example/hissa/hissa/vdm/Unknown$Kind;" (.ref v2) := Sta.start ev_v2 (Or.inr ⟨(hw _ (List.mem_of_getElem? (i := 5) rfl)), (hw _ (List.mem_of_getElem? (i := 16) rfl))⟩)
  obtain ⟨v1, ev_v1⟩ := exa_v c6
  have E_v1 : Exa s s.heap v1 "com/example/hissa/hissa/vdm/Unknown$Kind" := Exa.start ev_v1 c6
  have S_v1 : Sta s s.heap "com/example/hissa/hissa/vdm/Unknown$Kind" "RESULT" "Lcom/example/hissa/hissa/vdm/Unknown$Kind;" (.ref v1) := Sta.start ev_v1 (Or.inr ⟨(hw _ (List.mem_of_getElem? (i := 5) rfl)), (hw _ (List.mem_of_getElem? (i := 19) rfl))⟩)
  have F_v3_ordinal : Fld s s.heap v3 "java/lang/Enum" "ordinal" "I" (.int (3 : Int32)) := Fld.start ((fld_at ev_v3).symm.trans (own_eq_int c2))
  have F_v0_ordinal : Fld s s.heap v0 "java/lang/Enum" "ordinal" "I" (.int (0 : Int32)) := Fld.start ((fld_at ev_v0).symm.trans (own_eq_int c3))
  have F_v2_ordinal : Fld s s.heap v2 "java/lang/Enum" "ordinal" "I" (.int (2 : Int32)) := Fld.start ((fld_at ev_v2).symm.trans (own_eq_int c5))
  have F_v1_ordinal : Fld s s.heap v1 "java/lang/Enum" "ordinal" "I" (.int (1 : Int32)) := Fld.start ((fld_at ev_v1).symm.trans (own_eq_int hn6))
  obtain ⟨n, o, h1, h2, h3, _, L, rfl, ⟨rfl, N, -⟩, hq⟩ := rm0 l s _ hw tables_1 i0 v0 v1 v2 v3 s.heap s.heap.size (Nat.le_refl _) S_v0 S_v1 S_v2 S_v3 E_v0 E_v1 E_v2 E_v3 (F_v1_ordinal.ne F_v0_ordinal (by decide)) (F_v1_ordinal.ne F_v2_ordinal (by decide)) (F_v2_ordinal.ne F_v0_ordinal (by decide)) (F_v3_ordinal.ne F_v0_ordinal (by decide)) (F_v3_ordinal.ne F_v2_ordinal (by decide)) p e ha hc hk s m _ below hf ((Spec.applies_iff_loose hf).mp happ).1 ⟨rfl, State.Warmed39.refl s, rfl⟩ trivial
  refine ⟨n, _, h1, h2, h3, hpost _ _ _ _ _ _ ⟨Cond.after_iff.mpr rfl, Cond.after_iff.mpr (eq_i res_at (Term.int_eval (1)) rfl), trivial⟩ ⟨hq.1, hq.2.1, (hq.2.2.sift fun y hy => Or.inr (N y hy)).mono (by decide) (by decide)⟩⟩
theorem main_1_1 : Claimed_1_1 := comes_1 fun _ _ _ _ _ _ h hF => ⟨h.1, hF⟩
theorem main_1_2 : Claimed_1_2 := comes_1 fun _ _ _ _ _ _ h hF => ⟨h.2.1, hF⟩
end Jvm.Pilot.@@N@@
namespace Jvm.Pilot.@@N@@
open Jvm Jvm.ClassFile Sem Op Lib Jvm.Free Jvm.Stand Jvm.Pilot.@@N@@.Jvm.D
/-! MADE BY PROGRAM (witnessworld.py) out of the Statement's table words and the real class files: 10 classes; the members and pool entries that the words name. The judged class is class 1, her method 2. -/
namespace start1
open Jvm.ClassFile
def u (s : String) : CpInfo := .utf8 (stringToUtf16 s)
/-- a pool by its gaps: so many unusable entries, then the entry; so many at the end -/
def gap : Nat → List CpInfo → List CpInfo
  | 0, r => r
  | n + 1, r => .unusable :: gap n r
def poolList (es : List (Nat × CpInfo)) (last : Nat) : List CpInfo := es.foldr (fun e r => gap e.1 (e.2 :: r)) (gap last [])
def pool (es : List (Nat × CpInfo)) (last : Nat) : Array CpInfo := ⟨poolList es last⟩
def fileOf (pool : Array CpInfo) (this : Nat) (attrs : Array Attribute := #[]) (ms : Array MethodInfo := #[]) (fl : Nat := 33) (sup : Nat := 0) (ifs : Array Nat := #[]) (fds : Array FieldInfo := #[]) : ClassFile where
  minorVersion := 0
  majorVersion := 65
  constantPool := pool
  accessFlags := fl
  thisClass := this
  superClass := sup
  interfaces := ifs
  fields := fds
  methods := ms
  attributes := attrs
def plain (name : String) (sup : Option ClassId) : Class where
  name := name
  kind := .ordinary
  loader := none
  accessFlags := 33
  super := sup
  interfaces := #[]
  cf := none
  fields := #[]
  methods := #[]
  instanceTypes := #[]
  staticTypes := #[]
  resolved := #[]
  callSites := []
  init := .initialized
  statics := none
  mirror := none

def pool0 : Array CpInfo := pool [(5, u "<init>"), (0, u "()V"), (1, .class_ 10), (1, u "java/lang/Object")] 113

def k0m0 : Method := { name := "<init>", desc := "()V", sig := { parameters := [], returnType := none }, accessFlags := 1, code := none }
/-- java/lang/Object -/
def k0 : Class := { plain "java/lang/Object" none with
  accessFlags := 33
  interfaces := #[]
  cf := some (fileOf pool0 8 #[] #[{ accessFlags := 1, nameIndex := 5, descriptorIndex := 6, attributes := #[] }] 33 0 #[] #[])
  fields := #[]
  methods := #[k0m0]
  instanceTypes := #[]
  staticTypes := #[]
  resolved := Array.replicate 124 none
  statics := none }

def pool1 : Array CpInfo := pool [(2, .class_ 4), (1, u "java/lang/Object"), (0, u "<init>"), (0, u "()V"), (0, .fieldref 8 9), (0, .class_ 10), (0, .nameAndType 11 12), (0, u "com/example/hissa/hissa/vdm/Unknown$Kind"), (0, u "PARAMETER"), (0, u "Lcom/example/hissa/hissa/vdm/Unknown$Kind;"), (0, .fieldref 8 14), (0, .nameAndType 15 12), (0, u "RESULT"), (0, .fieldref 8 17), (0, .nameAndType 18 12), (0, u "STARTING_STATE"), (0, .fieldref 8 20), (0, .nameAndType 21 12), (0, u "FINAL_STATE"), (0, .methodref 23 24), (0, .class_ 25), (0, .nameAndType 26 27), (0, u "com/example/hissa/hissa/vdm/KindIsInputPinLaw"), (0, u "pick"), (0, u "(I)Lcom/example/hissa/hissa/vdm/Unknown$Kind;"), (0, .methodref 8 29), (0, .nameAndType 30 31), (0, u "isInput"), (0, u "()Z"), (3, u "law"), (0, u "(I)Z")] 6

def k1m0 : Method := { name := "<init>", desc := "()V", sig := { parameters := [], returnType := none }, accessFlags := 2, code := none }
def k1c1 : Code := { maxStack := 2, maxLocals := 1, code := method_2_code, exceptionTable := #[], attributes := #[] }
def k1m1 : Method := { name := "pick", desc := "(I)Lcom/example/hissa/hissa/vdm/Unknown$Kind;", sig := { parameters := [.int], returnType := some (.object "com/example/hissa/hissa/vdm/Unknown$Kind") }, accessFlags := 10, code := some k1c1 }
def k1c2 : Code := { maxStack := 2, maxLocals := 4, code := code, exceptionTable := #[], attributes := #[] }
def k1m2 : Method := { name := "law", desc := "(I)Z", sig := { parameters := [.int], returnType := some .boolean }, accessFlags := 9, code := some k1c2 }
/-- com/example/hissa/hissa/vdm/KindIsInputPinLaw -/
def k1 : Class := { plain "com/example/hissa/hissa/vdm/KindIsInputPinLaw" (some 0) with
  accessFlags := 49
  interfaces := #[]
  cf := some (fileOf pool1 23 #[] #[{ accessFlags := 2, nameIndex := 5, descriptorIndex := 6, attributes := #[] }, { accessFlags := 10, nameIndex := 26, descriptorIndex := 27, attributes := #[] }, { accessFlags := 9, nameIndex := 35, descriptorIndex := 36, attributes := #[] }] 49 2 #[] #[])
  fields := #[]
  methods := #[k1m0, k1m1, k1m2]
  instanceTypes := #[]
  staticTypes := #[]
  resolved := Array.replicate 43 none
  statics := none }

def pool2 : Array CpInfo := pool [(1, .class_ 2), (0, u "java/lang/constant/Constable"), (0, .class_ 4), (0, u "java/lang/Object")] 6

/-- java/lang/constant/Constable -/
def k2 : Class := { plain "java/lang/constant/Constable" (some 0) with
  accessFlags := 1537
  interfaces := #[]
  cf := some (fileOf pool2 1 #[] #[] 1537 3 #[] #[])
  fields := #[]
  methods := #[]
  instanceTypes := #[]
  staticTypes := #[]
  resolved := Array.replicate 11 none
  statics := none }

def pool3 : Array CpInfo := pool [(1, .class_ 2), (0, u "java/lang/Comparable"), (0, .class_ 4), (0, u "java/lang/Object")] 7

/-- java/lang/Comparable -/
def k3 : Class := { plain "java/lang/Comparable" (some 0) with
  accessFlags := 1537
  interfaces := #[]
  cf := some (fileOf pool3 1 #[] #[] 1537 3 #[] #[])
  fields := #[]
  methods := #[]
  instanceTypes := #[]
  staticTypes := #[]
  resolved := Array.replicate 12 none
  statics := none }

def pool4 : Array CpInfo := pool [(1, .class_ 2), (0, u "java/io/Serializable"), (0, .class_ 4), (0, u "java/lang/Object")] 2

/-- java/io/Serializable -/
def k4 : Class := { plain "java/io/Serializable" (some 0) with
  accessFlags := 1537
  interfaces := #[]
  cf := some (fileOf pool4 1 #[] #[] 1537 3 #[] #[])
  fields := #[]
  methods := #[]
  instanceTypes := #[]
  staticTypes := #[]
  resolved := Array.replicate 7 none
  statics := none }

def pool5 : Array CpInfo := pool [(2, .class_ 4), (1, u "java/lang/Enum"), (0, u "name"), (0, u "Ljava/lang/String;"), (2, u "ordinal"), (0, u "I"), (1, .class_ 14), (1, u "java/lang/Object"), (4, u "hash"), (86, .class_ 108), (1, u "java/lang/Enum$EnumDesc"), (2, .class_ 112), (0, u "java/lang/constant/Constable"), (0, .class_ 114), (0, u "java/lang/Comparable"), (0, .class_ 116), (0, u "java/io/Serializable")] 87

/-- java/lang/Enum -/
def k5 : Class := { plain "java/lang/Enum" (some 0) with
  accessFlags := 1057
  interfaces := #[2, 3, 4]
  cf := some (fileOf pool5 2 #[.nestMembers #[106]] #[] 1057 12 #[111, 113, 115] #[{ accessFlags := 18, nameIndex := 5, descriptorIndex := 6, attributes := #[] }, { accessFlags := 18, nameIndex := 9, descriptorIndex := 10, attributes := #[] }, { accessFlags := 2, nameIndex := 19, descriptorIndex := 10, attributes := #[] }])
  fields := #[{ name := "name", type := (.object "java/lang/String"), accessFlags := 18, slot := 0, constantValue := 0 }, { name := "ordinal", type := .int, accessFlags := 18, slot := 1, constantValue := 0 }, { name := "hash", type := .int, accessFlags := 2, slot := 2, constantValue := 0 }]
  methods := #[]
  instanceTypes := #[(.object "java/lang/String"), .int, .int]
  staticTypes := #[]
  resolved := Array.replicate 204 none
  statics := none }

def pool6 : Array CpInfo := pool [(1, .class_ 2), (0, u "com/example/hissa/hissa/vdm/Unknown$Kind"), (0, .fieldref 1 4), (0, .nameAndType 5 6), (0, u "PARAMETER"), (0, u "Lcom/example/hissa/hissa/vdm/Unknown$Kind;"), (2, u "RESULT"), (0, .fieldref 1 11), (0, .nameAndType 12 6), (0, u "STARTING_STATE"), (2, u "FINAL_STATE"), (2, u "$VALUES"), (0, u "[Lcom/example/hissa/hissa/vdm/Unknown$Kind;"), (6, .class_ 28), (1, u "java/lang/Enum"), (22, u "isInput"), (0, u "()Z"), (6, .class_ 60), (0, u "com/example/hissa/hissa/vdm/Unknown")] 2

def k6c0 : Code := { maxStack := 2, maxLocals := 1, code := prog_18_method_4_code, exceptionTable := #[], attributes := #[] }
def k6m0 : Method := { name := "isInput", desc := "()Z", sig := { parameters := [], returnType := some .boolean }, accessFlags := 1, code := some k6c0 }
/-- com/example/hissa/hissa/vdm/Unknown$Kind -/
def k6 : Class := { plain "com/example/hissa/hissa/vdm/Unknown$Kind" (some 5) with
  accessFlags := 16433
  interfaces := #[]
  cf := some (fileOf pool6 1 #[.nestHost 59] #[{ accessFlags := 1, nameIndex := 51, descriptorIndex := 52, attributes := #[] }] 16433 26 #[] #[{ accessFlags := 16409, nameIndex := 5, descriptorIndex := 6, attributes := #[] }, { accessFlags := 16409, nameIndex := 9, descriptorIndex := 6, attributes := #[] }, { accessFlags := 16409, nameIndex := 12, descriptorIndex := 6, attributes := #[] }, { accessFlags := 16409, nameIndex := 15, descriptorIndex := 6, attributes := #[] }, { accessFlags := 4122, nameIndex := 18, descriptorIndex := 19, attributes := #[] }])
  fields := #[{ name := "PARAMETER", type := (.object "com/example/hissa/hissa/vdm/Unknown$Kind"), accessFlags := 16409, slot := 0, constantValue := 0 }, { name := "RESULT", type := (.object "com/example/hissa/hissa/vdm/Unknown$Kind"), accessFlags := 16409, slot := 1, constantValue := 0 }, { name := "STARTING_STATE", type := (.object "com/example/hissa/hissa/vdm/Unknown$Kind"), accessFlags := 16409, slot := 2, constantValue := 0 }, { name := "FINAL_STATE", type := (.object "com/example/hissa/hissa/vdm/Unknown$Kind"), accessFlags := 16409, slot := 3, constantValue := 0 }, { name := "$VALUES", type := (.array (.object "com/example/hissa/hissa/vdm/Unknown$Kind")), accessFlags := 4122, slot := 4, constantValue := 0 }]
  methods := #[k6m0]
  instanceTypes := #[(.object "java/lang/String"), .int, .int]
  staticTypes := #[(.object "com/example/hissa/hissa/vdm/Unknown$Kind"), (.object "com/example/hissa/hissa/vdm/Unknown$Kind"), (.object "com/example/hissa/hissa/vdm/Unknown$Kind"), (.object "com/example/hissa/hissa/vdm/Unknown$Kind"), (.array (.object "com/example/hissa/hissa/vdm/Unknown$Kind"))]
  resolved := Array.replicate 63 none
  statics := some 0 }

def pool7 : Array CpInfo := pool [(1, u "java/lang/Cloneable"), (0, .class_ 1), (0, u "java/lang/Object"), (0, .class_ 3)] 3

/-- java/lang/Cloneable -/
def k7 : Class := { plain "java/lang/Cloneable" (some 0) with
  accessFlags := 1537
  interfaces := #[]
  cf := some (fileOf pool7 2 #[] #[] 1537 4 #[] #[])
  fields := #[]
  methods := #[]
  instanceTypes := #[]
  staticTypes := #[]
  resolved := Array.replicate 8 none
  statics := none }

/-- the primitive byte -/
def k8 : Class := { plain "byte" none with kind := .primitive 'B', accessFlags := 0x411 }
/-- [B -/
def k9 : Class := { plain "[B" (some 0) with kind := .array 8 .byte, interfaces := #[7, 4], accessFlags := 1041 }

def heap : Heap := #[{ cls := 6, slots := #[.ref 1, .ref 2, .ref 3, .ref 4, .null], vm := .statics 6 },
  { cls := 6, slots := #[.null, .int 0, .int 0], vm := .none },
  { cls := 6, slots := #[.null, .int 1, .int 0], vm := .none },
  { cls := 6, slots := #[.null, .int 2, .int 0], vm := .none },
  { cls := 6, slots := #[.null, .int 3, .int 0], vm := .none }]
def classes : Array Class := #[k0, k1, k2, k3, k4, k5, k6, k7, k8, k9]
def interned : List (Array UInt16 × Addr) := []
def slotsUsed : Nat := 17
def theMethod : MethodId := ⟨1, 2⟩
def args0 : Array Value := #[.int 5]
def aboutOver (below : List Frame) : State where
  vm := { classes := classes, interned := interned.toArray }
  heap := heap
  slotsUsed := slotsUsed
  threads := #[{ frames := .invoking theMethod args0 :: below }]
def below0 : List Frame := [.native { method := ⟨0, 0⟩, args := #[] }]
def about1 : State := aboutOver below0
def p0 : Program := .bare "" "" ""
def e0 : Env := launch0.env 0 0 0
theorem w_frames : about1.frames = Frame.invoking theMethod args0 :: below0 := rfl
set_option maxRecDepth 65536 in
theorem w_args : argsFit about1.vm theMethod args0 = true := by decide +kernel
set_option maxRecDepth 65536 in
theorem w_heap : heapFits about1 = true := by decide +kernel
set_option maxRecDepth 65536 in
theorem w_runnable : about1.curStatus? = some .runnable := by decide +kernel
set_option maxRecDepth 65536 in
theorem w_alone : about1.alone = true := by decide +kernel
set_option maxRecDepth 65536 in
theorem w_named : about1.methodNamed? x = some theMethod := by decide +kernel
set_option maxRecDepth 65536 in
theorem w_hears : about1.hears theMethod below0 = true := by decide +kernel
set_option maxRecDepth 65536 in
theorem w_ripe : about1.ripe theMethod args0 below0 = true := by decide +kernel
theorem w_running : about1.status = .running := rfl
set_option maxRecDepth 65536 in
theorem w_room : about1.hasRoom e0.platform room_1 = true :=
  launch0.hasRoom_least _ room_1 (by decide +kernel) (by decide +kernel) (by decide +kernel) (by decide +kernel) (by decide +kernel) (by decide +kernel)
theorem allAtoms_all (ts : List Jvm.Cond) (a : Array Jvm.Value) (st : Jvm.State) : (allAtoms ts).before a st = ts.all (fun c => c.before a st) := by
  induction ts with
  | nil => rfl
  | cons c t ih =>
    show (Jvm.Cond.and c (allAtoms t)).before a st = _
    rw [Jvm.Cond.before_and, ih, List.all_cons]
def words1 : List Jvm.Cond := Jvm.Cond.code x code maxLocals ret :: tables_1
/-- a 'code' word, met by the world's own term for the bytes: nothing is compared byte by byte -/
theorem code_word {y : MethodName} {bytes : ByteArray} {mx : Nat} {rt : Option FieldType} {a : Array Value} {s : State} {m : MethodId} {meth : Method} {c : Code} (h1 : s.methodNamed? y = some m) (h2 : s.vm.method? m = some meth) (h3 : meth.code = some c) (h4 : c.code = bytes)
    (h5 : (c.maxLocals == mx && c.exceptionTable.isEmpty && decide (c.maxStack ≤ mostOperands) && decide (meth.sig.returnType = rt) && !meth.locks && decide (parseMethodDescriptor y.desc = some meth.sig)) = true) : (Jvm.Cond.code y bytes mx rt).before a s = true := by
  simp only [Bool.and_eq_true, beq_iff_eq, Bool.not_eq_true', decide_eq_true_eq] at h5
  obtain ⟨⟨⟨⟨⟨g1, g2⟩, g3⟩, g4⟩, g5⟩, g6⟩ := h5
  simp [Cond.before, Cond.holds, Cond.value, h1, h2, h3, h4, g1, g2, g3, g4, g5, g6]
def isCode : Jvm.Cond → Bool
  | .code _ _ _ _ => true
  | _ => false
theorem all_split {L : List Jvm.Cond} {P : Jvm.Cond → Bool} (h1 : L.all (fun c => isCode c || P c) = true) (h2 : ∀ c ∈ L.filter isCode, P c = true) : L.all P = true := by
  refine List.all_eq_true.mpr fun c hc => ?_
  have h := List.all_eq_true.mp h1 c hc
  rcases Bool.eq_false_or_eq_true (isCode c) with hi | hi
  · exact h2 c (List.mem_filter.mpr ⟨hc, hi⟩)
  · simpa [hi] using h
set_option maxRecDepth 65536 in
theorem w_c0 : (Jvm.Cond.code x code maxLocals ret).before args0 about1 = true := code_word (m := ⟨1, 2⟩) (meth := k1m2) (c := k1c2) (by decide +kernel) rfl rfl rfl (by decide +kernel)
set_option maxRecDepth 65536 in
theorem w_c1 : (Jvm.Cond.code ({ cls := "com/example/hissa/hissa/vdm/KindIsInputPinLaw", name := "pick", desc := "(I)Lcom/example/hissa/hissa/vdm/Unknown$Kind;" } : Jvm.MethodName) method_2_code (1 : Nat) (Option.some (Jvm.ClassFile.FieldType.object "com/example/hissa/hissa/vdm/Unknown$Kind"))).before args0 about1 = true := code_word (m := ⟨1, 1⟩) (meth := k1m1) (c := k1c1) (by decide +kernel) rfl rfl rfl (by decide +kernel)
set_option maxRecDepth 65536 in
theorem w_c2 : (Jvm.Cond.code ({ cls := "com/example/hissa/hissa/vdm/Unknown$Kind", name := "isInput", desc := "()Z" } : Jvm.MethodName) prog_18_method_4_code (1 : Nat) (Option.some Jvm.ClassFile.FieldType.boolean)).before args0 about1 = true := code_word (m := ⟨6, 0⟩) (meth := k6m0) (c := k6c0) (by decide +kernel) rfl rfl rfl (by decide +kernel)
def codes1 : List Jvm.Cond := [Jvm.Cond.code x code maxLocals ret, Jvm.Cond.code ({ cls := "com/example/hissa/hissa/vdm/KindIsInputPinLaw", name := "pick", desc := "(I)Lcom/example/hissa/hissa/vdm/Unknown$Kind;" } : Jvm.MethodName) method_2_code (1 : Nat) (Option.some (Jvm.ClassFile.FieldType.object "com/example/hissa/hissa/vdm/Unknown$Kind")), Jvm.Cond.code ({ cls := "com/example/hissa/hissa/vdm/Unknown$Kind", name := "isInput", desc := "()Z" } : Jvm.MethodName) prog_18_method_4_code (1 : Nat) (Option.some Jvm.ClassFile.FieldType.boolean)]
set_option maxRecDepth 65536 in
theorem codes_eq : words1.filter isCode = codes1 := rfl
theorem w_codes : ∀ c ∈ words1.filter isCode, c.before args0 about1 = true := by
  rw [codes_eq]
  intro c hc
  simp only [codes1, List.mem_cons, List.not_mem_nil, or_false] at hc
  rcases hc with rfl | rfl | rfl
  · exact w_c0
  · exact w_c1
  · exact w_c2
set_option maxRecDepth 65536 in
theorem w_t1 : words1.all (fun c => isCode c || c.before args0 about1) = true := by decide +kernel
theorem w_tables : (allAtoms (Jvm.Cond.code x code maxLocals ret :: tables_1)).before args0 about1 = true := by
  rw [allAtoms_all]
  show words1.all (fun c => c.before args0 about1) = true
  refine all_split ?_ w_codes
  rw [w_t1]
set_option maxRecDepth 65536 in
theorem w_case : (Jvm.Cond.and given_1 narrow_1).before args0 about1 = true := by decide +kernel
theorem w_applies : (headSpec (Jvm.Cond.code x code maxLocals ret :: tables_1) room_1).applies x e0.platform about1 = true :=
  (Spec.applies_iff w_frames).mpr ⟨w_running, w_runnable, w_alone, w_named, w_hears, w_ripe, w_room, w_tables⟩
theorem atStart : AtStart classFile x code maxLocals ret World_1 tables_1 room_1 Calls_1 rest_1 Pre_1 launch0 p0 e0 about1 theMethod args0 below0 :=
  ⟨lists_1, trivial, launch0.admits_env _ _ _, launch0.least_env, fairChoices_fair.cas, fairChoices_fair.clock, w_frames, w_args, w_heap, w_applies, trivial, trivial, w_case⟩
end start1
theorem witness_1 : WitnessClaimed_1 := ⟨start1.p0, start1.e0, start1.about1, start1.theMethod, start1.args0, start1.below0, start1.atStart⟩
end Jvm.Pilot.@@N@@
