import JvmDerived
import JvmDerived.Pilot.@@N@@Statement
import JvmDerived.Pilot.@@N@@Code
set_option linter.unusedVariables false
set_option linter.unusedSimpArgs false
namespace Jvm.RoadKit
open Sem ClassFile Op Lib Jvm.Stand Jvm.Free Jvm.LawKit
section New
variable {p : Program} {l : Launch} {e : Env} {R : Room} {s : State} {m : MethodId} {args : Array Value} {below : List Frame} {meth : Method} {c : Code} {T : State} {locs : List Loc} {cells slots : Nat}
theorem retI (X : Stand p l e R s m args below meth c T locs cells slots) (hx : p.tables.exec = Jvm.exec) {pc : Nat} {Ls : Array Slot} {z : Int32} {rest : List Value} (hret : meth.sig.returnType = some .int) (hd : decode c.code pc = .ok (.ireturn, 1)) {fs : List Frame}
    (hl : ∀ (f : JFrame) (acts : List Action), f.method = m → f.locked = none → f.entered = [] → (doReturn e (T.setTop f) acts (some (.int z))).1 = T.setFrames fs) : Steps p.tables e below (T.setTop (mkF m pc Ls (.int z :: rest))) (T.setFrames fs) := by
  have hm' : T.vm.method? m = some meth := X.method'
  have hn : narrow .int (.int z) = .int z := rfl
  show Steps p.tables e below (T.setTop { method := m, pc := pc, locals := Ls, stack := _ :: rest, locked := none }) _
  jvm_step X.here [X.here.top, hx, hd, hm', hret, hn]
  first | (intro acts; rw [hl _ acts rfl rfl rfl]) | rw [hl _ _ rfl rfl rfl]
  exact Steps.refl _
end New
end Jvm.RoadKit
namespace Jvm.Pilot.@@N@@
open Jvm Jvm.ClassFile Sem Op Lib Jvm.Free Jvm.Stand Jvm.LawKit Jvm.RoadKit Bundle Jvm.Pilot.@@N@@.Jvm.D
/-- the road so far: whoever comes from T with the frame g comes from S -/
def Rch (p : Program) (e : Env) (below : List Frame) (S T : State) (g : JFrame) : Prop := ∀ t, Steps p.tables e below (T.setTop g) t → Steps p.tables e below S t
theorem own_sta_keep {Z : State} {h h' : Heap} {C n d : String} {v : Value} {ws : List Addr} (F : Sta Z h C n d v) (K : Keep h h' ws) (q : ∀ x ∈ ws, ∀ cell : Cell, h[x]? = some cell → cell.vm.isStatics = false) : Sta Z h' C n d v := by
  obtain ⟨cf, i, k, f, st, cell, h1, h2, h3, h4, h5, h6, h7⟩ := F
  exact ⟨cf, i, k, f, st, cell, h1, h2, h3, h4, K.2.1 _ _ h5 (fun hm => by rw [q st hm cell h5] at h6; cases h6), h6, h7⟩
theorem own_selp {Z s : State} {a0 args : Array Value} {y : MethodName} {n : Nat} (hZ : Z.Warmed39 s.vm) (wi : (Jvm.Cond.instantiable y.cls n).before a0 Z = true) (wp : (Jvm.Cond.privateMethod y).before a0 Z = true) (wm : (Jvm.Cond.instanceMethod y).before a0 Z = true) (hy : y.cls ≠ "java/lang/invoke/MethodHandle" ∧ y.cls ≠ "java/lang/invoke/VarHandle") : (Jvm.Cond.selects y.cls y y).before args s = true := by
  have wi' : (Jvm.Cond.instantiable y.cls n).before args s = true := mvT hZ wi
  obtain ⟨c, k, h1, h2, h3, h4, -⟩ := Cond.instantiable_spec wi'
  exact selects_self_of_private h1 h2 (Bool.or_eq_false_iff.mp h4).1 (Cond.privateMethod_at (mvP hZ wp (args := #[]))) (mvT hZ wm) hy
theorem own_eq_int {args : Array Value} {s : State} {a : Term} {k : Int32} (h : (Jvm.Cond.eq a (Term.int k)).value args s none s [] = some true) : a.eval args s none [] s = some (.int k) := by
  simp only [Cond.value, Term.eval] at h
  cases ha : a.eval args s none [] s with
  | none => simp [ha] at h
  | some x => cases x <;> simp [ha] at h ⊢; exact h
theorem own_eq_ref {args : Array Value} {s : State} {a b : Term} {y : Addr} (h : (Jvm.Cond.eq a b).value args s none s [] = some true) (hb : b.eval args s none [] s = some (.ref y)) : a.eval args s none [] s = some (.ref y) := by
  simp only [Cond.value] at h
  cases ha : a.eval args s none [] s with
  | none => simp [ha] at h
  | some x => cases x <;> simp [ha, hb] at h ⊢; exact h
theorem own_i {a b : Int32} (h : a = b) : some (Value.int a) = some (Value.int b) := by rw [h]
theorem own_v {a b : Addr} (h : a = b) : some (Value.ref a) = some (Value.ref b) := by rw [h]
def own_step (f : Int32) (a b : Addr) : Addr := if f = 0 then b else a
theorem d1_0 : decode prog_34_method_4_code 0 = .ok (.iload_n 1, 1) := by decide +kernel
theorem d1_1 : decode prog_34_method_4_code 1 = .ok (.ifCond .eq 10, 3) := by decide +kernel
theorem d1_11 : decode prog_34_method_4_code 11 = .ok (.aload_n 0, 1) := by decide +kernel
theorem d1_12 : decode prog_34_method_4_code 12 = .ok (.getfield 48, 3) := by decide +kernel
theorem d1_15 : decode prog_34_method_4_code 15 = .ok (.areturn, 1) := by decide +kernel
theorem d1_4 : decode prog_34_method_4_code 4 = .ok (.aload_n 0, 1) := by decide +kernel
theorem d1_5 : decode prog_34_method_4_code 5 = .ok (.getfield 44, 3) := by decide +kernel
theorem d1_8 : decode prog_34_method_4_code 8 = .ok (.goto 7, 3) := by decide +kernel
theorem ef_rm1 (m : MethodId) (x0 : Addr) (x1 : Int32) : entryFrame m #[(.ref x0), (.int x1)] 2 = mkF m 0 #[.val (.ref x0), .val (.int x1)] [] := by first | (simp [entryFrame, mkF, argsToLocals, Value.category]; done) | rfl
theorem pn_0 : plainName "com/example/lean_tx/leantx/Propagation" = true := by first | (simp [plainName, overriddenIn]; done) | decide +kernel
def Q_rm1 (Z : State) (o0 : Addr) (q0 : Int32) (y0 : Addr) (y1 : Addr) (h0 : Heap) (n0 : Nat) (v : Option Value) (h : Heap) (L : List Loc) : Prop := (v = some (.ref (own_step q0 y0 y1))) ∧ (Fr n0 L) ∧ (h = h0)
set_option maxRecDepth 65536 in
set_option maxHeartbeats 40000000 in
theorem rm1 (l : Launch) (Z : State) (a0 : Array Value) (hw : ∀ d ∈ tables_1, d.before a0 Z = true) (ws : List Jvm.Cond) (o0 : Addr) (q0 : Int32) (y0 : Addr) (y1 : Addr) (h0 : Heap) (n0 : Nat) (Z0 : n0 ≤ h0.size) (pF0 : Fld Z h0 o0 "com/example/lean_tx/leantx/Propagation" "withTransaction" "Lcom/example/lean_tx/leantx/Propagation$Step;" (.ref y0)) (pF1 : Fld Z h0 o0 "com/example/lean_tx/leantx/Propagation" "withoutTransaction" "Lcom/example/lean_tx/leantx/Propagation$Step;" (.ref y1)) :
    MetFree l (⟨"com/example/lean_tx/leantx/Propagation", "step", "(Z)Lcom/example/lean_tx/leantx/Propagation$Step;"⟩ : MethodName) (head1 (Jvm.Cond.code (⟨"com/example/lean_tx/leantx/Propagation", "step", "(Z)Lcom/example/lean_tx/leantx/Propagation$Step;"⟩ : MethodName) prog_34_method_4_code 2 (some (.object "com/example/lean_tx/leantx/Propagation$Step")) :: ws) ({ frames := 0, cells := 0, slots := 0, locals := 0 } : Room)) (fun a U => a = #[(.ref o0), (.int q0)] ∧ Z.Warmed39 U.vm ∧ U.heap = h0) (fun _ _ _ _ _ => True) (fun _ U o U' => ∃ v L, o = .returned v ∧ Q_rm1 Z o0 q0 y0 y1 h0 n0 v U'.heap L ∧ FrameEnd U o U' L ({ frames := 0, cells := 0, slots := 0, locals := 0 } : Room).cells ({ frames := 0, cells := 0, slots := 0, locals := 0 } : Room).slots) := by
  refine MetFree.of_bodySF (plainFor_of_name pn_0) hisR ?_
  intro p e s m args below meth c s₁ Bd hml0 hP hK
  obtain ⟨rfl, hZ, hh⟩ := hP
  have hx := Bd.exec
  have hby := Bd.bytes
  have hml : c.maxLocals = 2 := hml0
  have hown : s.vm.findClass "com/example/lean_tx/leantx/Propagation" = some m.cls := findClass_of_methodNamed Bd.named
  have hnm := (name_of_methodNamed Bd.named Bd.method).1
  have X0 : Stand p l e ({ frames := 0, cells := 0, slots := 0, locals := 0 } : Room) s m #[(.ref o0), (.int q0)] below meth c s₁ [] 0 0 := Stand.of_body Bd
  have e0 : s₁.heap = h0 := by rw [← hh, Bd.state]; rfl
  have N0 := Fr.nil n0
  have K0 : Keep h0 h0 [] := Keep.refl _ _
  have R0 : Rch p e below (s₁.setTop (entryFrame m #[(.ref o0), (.int q0)] 2)) s₁ (mkF m 0 #[.val (.ref o0), .val (.int q0)] []) := fun t k => castTop (ef_rm1 m o0 q0) k
  have R2 : Rch p e below (s₁.setTop (entryFrame m #[(.ref o0), (.int q0)] 2)) s₁ (mkF m 1 #[.val (.ref o0), .val (.int q0)] [(.int q0)]) := fun t k => by
    refine R0 t ?_
    refine XS.iloadN X0.here hx rfl (hb hby d1_0) rfl ?_
    exact k
  by_cases hc1_1 : q0 = (0 : Int32)
  · have R4 : Rch p e below (s₁.setTop (entryFrame m #[(.ref o0), (.int q0)] 2)) s₁ (mkF m 12 #[.val (.ref o0), .val (.int q0)] [(.ref o0)]) := fun t k => by
      refine R2 t ?_
      refine XS.ifYes X0.here hx rfl (pc0 := 1) (pc' := 11) rfl (hb hby d1_1) rfl ((if0 _ _).trans (teq hc1_1).1) (by decide) (by decide) ?_
      show Steps p.tables e below (s₁.setTop (mkF m 11 #[.val (.ref o0), .val (.int q0)] [])) t
      refine XS.aloadN X0.here hx rfl (hb hby d1_11) rfl rfl ?_
      exact k
    obtain ⟨T3, X3, e3, st3⟩ := getF X0 hx hZ hown (host := "") (Or.inl (hw _ (List.mem_of_getElem? (i := 22) rfl))) Via.refl e0 pF1 (g := (mkF m 12 #[.val (.ref o0), .val (.int q0)] [(.ref o0)])) rfl rfl (hb hby d1_12)
    have R5 : Rch p e below (s₁.setTop (entryFrame m #[(.ref o0), (.int q0)] 2)) T3 (mkF m 15 #[.val (.ref o0), .val (.int q0)] [(.ref y1)]) := fun t k => by
      refine R4 t ?_
      refine st3 _ ?_
      exact k
    obtain ⟨fs, hr, hrun, hended, hW, hsame⟩ := X3.leave (v := some (.ref y1)) (fun h => by rw [Bd.returns] at h; cases h)
    refine ⟨_, _, R5 _ ?_, hrun, hended, _, _, rfl, ?_, ⟨_, rfl⟩, hW, hsame.mono (by decide) (by decide)⟩
    · jvm_step X3.here [X3.here.top, hx, (hb hby d1_15), X3.method', Bd.returns, Value.isRef, FieldType.isReference]
      first | (intro acts; rw [hr _ acts rfl rfl rfl]) | rw [hr _ _ rfl rfl rfl]
      exact Steps.refl _
    · show Q_rm1 Z o0 q0 y0 y1 h0 n0 _ T3.heap _
      rw [e3]
      exact ⟨own_v (by simp [own_step, hc1_1]), N0, rfl⟩
  · have R7 : Rch p e below (s₁.setTop (entryFrame m #[(.ref o0), (.int q0)] 2)) s₁ (mkF m 5 #[.val (.ref o0), .val (.int q0)] [(.ref o0)]) := fun t k => by
      refine R2 t ?_
      refine XS.ifNo X0.here hx rfl (hb hby d1_1) rfl ((if0 _ _).trans (feq hc1_1).1) ?_
      show Steps p.tables e below (s₁.setTop (mkF m 4 #[.val (.ref o0), .val (.int q0)] [])) t
      refine XS.aloadN X0.here hx rfl (hb hby d1_4) rfl rfl ?_
      exact k
    obtain ⟨T6, X6, e6, st6⟩ := getF X0 hx hZ hown (host := "") (Or.inl (hw _ (List.mem_of_getElem? (i := 12) rfl))) Via.refl e0 pF0 (g := (mkF m 5 #[.val (.ref o0), .val (.int q0)] [(.ref o0)])) rfl rfl (hb hby d1_5)
    have R8 : Rch p e below (s₁.setTop (entryFrame m #[(.ref o0), (.int q0)] 2)) T6 (mkF m 15 #[.val (.ref o0), .val (.int q0)] [(.ref y0)]) := fun t k => by
      refine R7 t ?_
      refine st6 _ ?_
      show Steps p.tables e below (T6.setTop (mkF m 8 #[.val (.ref o0), .val (.int q0)] [(.ref y0)])) t
      refine XS.goto X6.here hx rfl (pc0 := 8) (pc' := 15) rfl (hb hby d1_8) (by decide) (by decide) ?_
      exact k
    obtain ⟨fs, hr, hrun, hended, hW, hsame⟩ := X6.leave (v := some (.ref y0)) (fun h => by rw [Bd.returns] at h; cases h)
    refine ⟨_, _, R8 _ ?_, hrun, hended, _, _, rfl, ?_, ⟨_, rfl⟩, hW, hsame.mono (by decide) (by decide)⟩
    · jvm_step X6.here [X6.here.top, hx, (hb hby d1_15), X6.method', Bd.returns, Value.isRef, FieldType.isReference]
      first | (intro acts; rw [hr _ acts rfl rfl rfl]) | rw [hr _ _ rfl rfl rfl]
      exact Steps.refl _
    · show Q_rm1 Z o0 q0 y0 y1 h0 n0 _ T6.heap _
      rw [e6]
      exact ⟨own_v (by simp [own_step, hc1_1]), N0, rfl⟩
theorem pd_0 : parseMethodDescriptor "(Z)Lcom/example/lean_tx/leantx/Propagation$Step;" = some ⟨[.boolean], some (.object "com/example/lean_tx/leantx/Propagation$Step")⟩ := by decide +kernel
theorem ef_rm0 (m : MethodId) (x0 : Int32) (x1 : Int32) : entryFrame m #[(.int x0), (.int x1)] maxLocals = mkF m 0 #[.val (.int x0), .val (.int x1), .unset, .unset, .unset, .unset] [] := by first | (simp [entryFrame, mkF, argsToLocals, Value.category, maxLocals]; done) | rfl
theorem pn_1 : plainName "com/example/lean_tx/leantx/PropagationStepPinLaw" = true := by first | (simp [plainName, overriddenIn]; done) | decide +kernel
def Q_rm0 (Z : State) (q0 : Int32) (q1 : Int32) (u0 : Addr) (u1 : Addr) (u2 : Addr) (u3 : Addr) (u4 : Addr) (u5 : Addr) (u6 : Addr) (s0 : Addr) (s1 : Addr) (s2 : Addr) (s3 : Addr) (s4 : Addr) (h0 : Heap) (n0 : Nat) (v : Option Value) (h : Heap) (L : List Loc) : Prop := (v = some (.int (1 : Int32))) ∧ (Fr n0 L) ∧ (h = h0)
set_option maxRecDepth 65536 in
set_option maxHeartbeats 40000000 in
theorem rm0 (l : Launch) (Z : State) (a0 : Array Value) (hw : ∀ d ∈ tables_1, d.before a0 Z = true) (ws : List Jvm.Cond) (q0 : Int32) (q1 : Int32) (u0 : Addr) (u1 : Addr) (u2 : Addr) (u3 : Addr) (u4 : Addr) (u5 : Addr) (u6 : Addr) (s0 : Addr) (s1 : Addr) (s2 : Addr) (s3 : Addr) (s4 : Addr) (h0 : Heap) (n0 : Nat) (Z0 : n0 ≤ h0.size) (pS_u0 : Sta Z h0 "com/example/lean_tx/leantx/Propagation" "REQUIRED" "Lcom/example/lean_tx/leantx/Propagation;" (.ref u0)) (pS_u1 : Sta Z h0 "com/example/lean_tx/leantx/Propagation" "SUPPORTS" "Lcom/example/lean_tx/leantx/Propagation;" (.ref u1)) (pS_u2 : Sta Z h0 "com/example/lean_tx/leantx/Propagation" "MANDATORY" "Lcom/example/lean_tx/leantx/Propagation;" (.ref u2)) (pS_u3 : Sta Z h0 "com/example/lean_tx/leantx/Propagation" "REQUIRES_NEW" "Lcom/example/lean_tx/leantx/Propagation;" (.ref u3)) (pS_u4 : Sta Z h0 "com/example/lean_tx/leantx/Propagation" "NOT_SUPPORTED" "Lcom/example/lean_tx/leantx/Propagation;" (.ref u4)) (pS_u5 : Sta Z h0 "com/example/lean_tx/leantx/Propagation" "NEVER" "Lcom/example/lean_tx/leantx/Propagation;" (.ref u5)) (pS_u6 : Sta Z h0 "com/example/lean_tx/leantx/Propagation" "NESTED" "Lcom/example/lean_tx/leantx/Propagation;" (.ref u6)) (pS_s0 : Sta Z h0 "com/example/lean_tx/leantx/Propagation$Step" "JOIN" "Lcom/example/lean_tx/leantx/Propagation$Step;" (.ref s0)) (pS_s1 : Sta Z h0 "com/example/lean_tx/leantx/Propagation$Step" "BEGIN" "Lcom/example/lean_tx/leantx/Propagation$Step;" (.ref s1)) (pS_s2 : Sta Z h0 "com/example/lean_tx/leantx/Propagation$Step" "WITHOUT" "Lcom/example/lean_tx/leantx/Propagation$Step;" (.ref s2)) (pS_s3 : Sta Z h0 "com/example/lean_tx/leantx/Propagation$Step" "REFUSE" "Lcom/example/lean_tx/leantx/Propagation$Step;" (.ref s3)) (pS_s4 : Sta Z h0 "com/example/lean_tx/leantx/Propagation$Step" "SAVEPOINT" "Lcom/example/lean_tx/leantx/Propagation$Step;" (.ref s4)) (pE_u0 : Exa Z h0 u0 "com/example/lean_tx/leantx/Propagation") (pE_u1 : Exa Z h0 u1 "com/example/lean_tx/leantx/Propagation") (pE_u2 : Exa Z h0 u2 "com/example/lean_tx/leantx/Propagation") (pE_u3 : Exa Z h0 u3 "com/example/lean_tx/leantx/Propagation") (pE_u4 : Exa Z h0 u4 "com/example/lean_tx/leantx/Propagation") (pE_u5 : Exa Z h0 u5 "com/example/lean_tx/leantx/Propagation") (pE_u6 : Exa Z h0 u6 "com/example/lean_tx/leantx/Propagation") (pW_u0 : Fld Z h0 u0 "com/example/lean_tx/leantx/Propagation" "withTransaction" "Lcom/example/lean_tx/leantx/Propagation$Step;" (.ref s0)) (pW_u1 : Fld Z h0 u1 "com/example/lean_tx/leantx/Propagation" "withTransaction" "Lcom/example/lean_tx/leantx/Propagation$Step;" (.ref s0)) (pW_u2 : Fld Z h0 u2 "com/example/lean_tx/leantx/Propagation" "withTransaction" "Lcom/example/lean_tx/leantx/Propagation$Step;" (.ref s0)) (pW_u3 : Fld Z h0 u3 "com/example/lean_tx/leantx/Propagation" "withTransaction" "Lcom/example/lean_tx/leantx/Propagation$Step;" (.ref s1)) (pW_u4 : Fld Z h0 u4 "com/example/lean_tx/leantx/Propagation" "withTransaction" "Lcom/example/lean_tx/leantx/Propagation$Step;" (.ref s2)) (pW_u5 : Fld Z h0 u5 "com/example/lean_tx/leantx/Propagation" "withTransaction" "Lcom/example/lean_tx/leantx/Propagation$Step;" (.ref s3)) (pW_u6 : Fld Z h0 u6 "com/example/lean_tx/leantx/Propagation" "withTransaction" "Lcom/example/lean_tx/leantx/Propagation$Step;" (.ref s4)) (pO_u0 : Fld Z h0 u0 "com/example/lean_tx/leantx/Propagation" "withoutTransaction" "Lcom/example/lean_tx/leantx/Propagation$Step;" (.ref s1)) (pO_u1 : Fld Z h0 u1 "com/example/lean_tx/leantx/Propagation" "withoutTransaction" "Lcom/example/lean_tx/leantx/Propagation$Step;" (.ref s2)) (pO_u2 : Fld Z h0 u2 "com/example/lean_tx/leantx/Propagation" "withoutTransaction" "Lcom/example/lean_tx/leantx/Propagation$Step;" (.ref s3)) (pO_u3 : Fld Z h0 u3 "com/example/lean_tx/leantx/Propagation" "withoutTransaction" "Lcom/example/lean_tx/leantx/Propagation$Step;" (.ref s1)) (pO_u4 : Fld Z h0 u4 "com/example/lean_tx/leantx/Propagation" "withoutTransaction" "Lcom/example/lean_tx/leantx/Propagation$Step;" (.ref s2)) (pO_u5 : Fld Z h0 u5 "com/example/lean_tx/leantx/Propagation" "withoutTransaction" "Lcom/example/lean_tx/leantx/Propagation$Step;" (.ref s2)) (pO_u6 : Fld Z h0 u6 "com/example/lean_tx/leantx/Propagation" "withoutTransaction" "Lcom/example/lean_tx/leantx/Propagation$Step;" (.ref s1)) :
    MetFree l x (head1 (Jvm.Cond.code x code maxLocals ret :: ws) room_1) (fun a U => a = #[(.int q0), (.int q1)] ∧ Z.Warmed39 U.vm ∧ U.heap = h0) (fun _ _ _ _ _ => True) (fun _ U o U' => ∃ v L, o = .returned v ∧ Q_rm0 Z q0 q1 u0 u1 u2 u3 u4 u5 u6 s0 s1 s2 s3 s4 h0 n0 v U'.heap L ∧ FrameEnd U o U' L room_1.cells room_1.slots) := by
  refine MetFree.of_bodySF (plainFor_of_name pn_1) hisR ?_
  intro p e s m args below meth c s₁ Bd hml0 hP hK
  obtain ⟨rfl, hZ, hh⟩ := hP
  have hx := Bd.exec
  have hby := Bd.bytes
  have hml : c.maxLocals = 6 := hml0
  have hown : s.vm.findClass "com/example/lean_tx/leantx/PropagationStepPinLaw" = some m.cls := findClass_of_methodNamed Bd.named
  have hnm := (name_of_methodNamed Bd.named Bd.method).1
  have X0 : Stand p l e room_1 s m #[(.int q0), (.int q1)] below meth c s₁ [] 0 0 := Stand.of_body Bd
  have e0 : s₁.heap = h0 := by rw [← hh, Bd.state]; rfl
  have N0 := Fr.nil n0
  have K0 : Keep h0 h0 [] := Keep.refl _ _
  have R0 : Rch p e below (s₁.setTop (entryFrame m #[(.int q0), (.int q1)] maxLocals)) s₁ (mkF m 0 #[.val (.int q0), .val (.int q1), .unset, .unset, .unset, .unset] []) := fun t k => castTop (ef_rm0 m q0 q1) k
  have R2 : Rch p e below (s₁.setTop (entryFrame m #[(.int q0), (.int q1)] maxLocals)) s₁ (mkF m 11 #[.val (.int q0), .val (.int q1), .val (.int ((q0 &&& (2147483647 : Int32)) % (7 : Int32))), .unset, .unset, .unset] [(.int (q1 &&& (1 : Int32)))]) := fun t k => by
    refine R0 t ?_
    refine XS.iloadN X0.here hx rfl (hb hby at_0) rfl ?_
    show Steps p.tables e below (s₁.setTop (mkF m 1 #[.val (.int q0), .val (.int q1), .unset, .unset, .unset, .unset] [(.int q0)])) t
    refine X0.ldcInt hx hown (mvT hZ (hw _ (List.mem_of_getElem? (i := 0) rfl))) (g := (mkF m 1 #[.val (.int q0), .val (.int q1), .unset, .unset, .unset, .unset] [(.int q0)])) rfl (hb hby at_1) _ ?_
    show Steps p.tables e below (s₁.setTop (mkF m 3 #[.val (.int q0), .val (.int q1), .unset, .unset, .unset, .unset] [(.int (2147483647 : Int32)), (.int q0)])) t
    refine XS.iand X0.here hx rfl (hb hby at_3) rfl ?_
    show Steps p.tables e below (s₁.setTop (mkF m 4 #[.val (.int q0), .val (.int q1), .unset, .unset, .unset, .unset] [(.int (q0 &&& (2147483647 : Int32)))])) t
    refine XS.bipush X0.here hx rfl (hb hby at_4) ?_
    show Steps p.tables e below (s₁.setTop (mkF m 6 #[.val (.int q0), .val (.int q1), .unset, .unset, .unset, .unset] [(.int (7 : Int32)), (.int (q0 &&& (2147483647 : Int32)))])) t
    refine iremM X0 hx rfl (hb hby at_6) rfl (by decide) ?_
    show Steps p.tables e below (s₁.setTop (mkF m 7 #[.val (.int q0), .val (.int q1), .unset, .unset, .unset, .unset] [(.int ((q0 &&& (2147483647 : Int32)) % (7 : Int32)))])) t
    refine XS.istoreN X0.here hx rfl (hb hby at_7) rfl (l' := #[.val (.int q0), .val (.int q1), .val (.int ((q0 &&& (2147483647 : Int32)) % (7 : Int32))), .unset, .unset, .unset]) rfl ?_
    show Steps p.tables e below (s₁.setTop (mkF m 8 #[.val (.int q0), .val (.int q1), .val (.int ((q0 &&& (2147483647 : Int32)) % (7 : Int32))), .unset, .unset, .unset] [])) t
    refine XS.iloadN X0.here hx rfl (hb hby at_8) rfl ?_
    show Steps p.tables e below (s₁.setTop (mkF m 9 #[.val (.int q0), .val (.int q1), .val (.int ((q0 &&& (2147483647 : Int32)) % (7 : Int32))), .unset, .unset, .unset] [(.int q1)])) t
    refine XS.iconst X0.here hx rfl (hb hby at_9) ?_
    show Steps p.tables e below (s₁.setTop (mkF m 10 #[.val (.int q0), .val (.int q1), .val (.int ((q0 &&& (2147483647 : Int32)) % (7 : Int32))), .unset, .unset, .unset] [(.int (1 : Int32)), (.int q1)])) t
    refine XS.iand X0.here hx rfl (hb hby at_10) rfl ?_
    exact k
  by_cases hc11_1 : (q1 &&& (1 : Int32)) = (0 : Int32)
  · have R4 : Rch p e below (s₁.setTop (entryFrame m #[(.int q0), (.int q1)] maxLocals)) s₁ (mkF m 21 #[.val (.int q0), .val (.int q1), .val (.int ((q0 &&& (2147483647 : Int32)) % (7 : Int32))), .val (.int (0 : Int32)), .unset, .unset] [(.int ((q0 &&& (2147483647 : Int32)) % (7 : Int32)))]) := fun t k => by
      refine R2 t ?_
      refine XS.ifYes X0.here hx rfl (pc0 := 11) (pc' := 18) rfl (hb hby at_11) rfl ((if0 _ _).trans (teq hc11_1).1) (by decide) (by decide) ?_
      show Steps p.tables e below (s₁.setTop (mkF m 18 #[.val (.int q0), .val (.int q1), .val (.int ((q0 &&& (2147483647 : Int32)) % (7 : Int32))), .unset, .unset, .unset] [])) t
      refine XS.iconst X0.here hx rfl (hb hby at_18) ?_
      show Steps p.tables e below (s₁.setTop (mkF m 19 #[.val (.int q0), .val (.int q1), .val (.int ((q0 &&& (2147483647 : Int32)) % (7 : Int32))), .unset, .unset, .unset] [(.int (0 : Int32))])) t
      refine XS.istoreN X0.here hx rfl (hb hby at_19) rfl (l' := #[.val (.int q0), .val (.int q1), .val (.int ((q0 &&& (2147483647 : Int32)) % (7 : Int32))), .val (.int (0 : Int32)), .unset, .unset]) rfl ?_
      show Steps p.tables e below (s₁.setTop (mkF m 20 #[.val (.int q0), .val (.int q1), .val (.int ((q0 &&& (2147483647 : Int32)) % (7 : Int32))), .val (.int (0 : Int32)), .unset, .unset] [])) t
      refine XS.iloadN X0.here hx rfl (hb hby at_20) rfl ?_
      exact k
    by_cases hc21_3 : ((q0 &&& (2147483647 : Int32)) % (7 : Int32)) = (0 : Int32)
    · have R6 : Rch p e below (s₁.setTop (entryFrame m #[(.int q0), (.int q1)] maxLocals)) s₁ (mkF m 24 #[.val (.int q0), .val (.int q1), .val (.int ((q0 &&& (2147483647 : Int32)) % (7 : Int32))), .val (.int (0 : Int32)), .unset, .unset] []) := fun t k => by
        refine R4 t ?_
        refine XS.ifNo X0.here hx rfl (hb hby at_21) rfl ((if0 _ _).trans (teq hc21_3).2) ?_
        exact k
      obtain ⟨T5, X5, e5, st5⟩ := getS2 X0 hx hZ hown (host := "") (Or.inl (hw _ (List.mem_of_getElem? (i := 1) rfl))) Via.refl e0 pS_u0 (g := (mkF m 24 #[.val (.int q0), .val (.int q1), .val (.int ((q0 &&& (2147483647 : Int32)) % (7 : Int32))), .val (.int (0 : Int32)), .unset, .unset] [])) rfl (hb hby at_24)
      have R8 : Rch p e below (s₁.setTop (entryFrame m #[(.int q0), (.int q1)] maxLocals)) T5 (mkF m 39 #[.val (.int q0), .val (.int q1), .val (.int ((q0 &&& (2147483647 : Int32)) % (7 : Int32))), .val (.int (0 : Int32)), .val (.ref u0), .unset] []) := fun t k => by
        refine R6 t ?_
        refine st5 _ ?_
        show Steps p.tables e below (T5.setTop (mkF m 27 #[.val (.int q0), .val (.int q1), .val (.int ((q0 &&& (2147483647 : Int32)) % (7 : Int32))), .val (.int (0 : Int32)), .unset, .unset] [(.ref u0)])) t
        refine XS.astore X5.here hx rfl (hb hby at_27) rfl rfl (l' := #[.val (.int q0), .val (.int q1), .val (.int ((q0 &&& (2147483647 : Int32)) % (7 : Int32))), .val (.int (0 : Int32)), .val (.ref u0), .unset]) rfl ?_
        show Steps p.tables e below (T5.setTop (mkF m 29 #[.val (.int q0), .val (.int q1), .val (.int ((q0 &&& (2147483647 : Int32)) % (7 : Int32))), .val (.int (0 : Int32)), .val (.ref u0), .unset] [])) t
        refine XS.iloadN X5.here hx rfl (hb hby at_29) rfl ?_
        show Steps p.tables e below (T5.setTop (mkF m 30 #[.val (.int q0), .val (.int q1), .val (.int ((q0 &&& (2147483647 : Int32)) % (7 : Int32))), .val (.int (0 : Int32)), .val (.ref u0), .unset] [(.int (0 : Int32))])) t
        refine XS.ifYes X5.here hx rfl (pc0 := 30) (pc' := 39) rfl (hb hby at_30) rfl ((if0 _ _).trans (teq (by decide : (0 : Int32) = (0 : Int32))).1) (by decide) (by decide) ?_
        exact k
      obtain ⟨T7, X7, e7, st7⟩ := getS2 X5 hx hZ hown (host := "") (Or.inl (hw _ (List.mem_of_getElem? (i := 16) rfl))) Via.refl e5 pS_s1 (g := (mkF m 39 #[.val (.int q0), .val (.int q1), .val (.int ((q0 &&& (2147483647 : Int32)) % (7 : Int32))), .val (.int (0 : Int32)), .val (.ref u0), .unset] [])) rfl (hb hby at_39)
      have R10 : Rch p e below (s₁.setTop (entryFrame m #[(.int q0), (.int q1)] maxLocals)) T7 (mkF m 190 #[.val (.int q0), .val (.int q1), .val (.int ((q0 &&& (2147483647 : Int32)) % (7 : Int32))), .val (.int (0 : Int32)), .val (.ref u0), .val (.ref s1)] [(.int (0 : Int32)), (.ref u0)]) := fun t k => by
        refine R8 t ?_
        refine st7 _ ?_
        show Steps p.tables e below (T7.setTop (mkF m 42 #[.val (.int q0), .val (.int q1), .val (.int ((q0 &&& (2147483647 : Int32)) % (7 : Int32))), .val (.int (0 : Int32)), .val (.ref u0), .unset] [(.ref s1)])) t
        refine XS.astore X7.here hx rfl (hb hby at_42) rfl rfl (l' := #[.val (.int q0), .val (.int q1), .val (.int ((q0 &&& (2147483647 : Int32)) % (7 : Int32))), .val (.int (0 : Int32)), .val (.ref u0), .val (.ref s1)]) rfl ?_
        show Steps p.tables e below (T7.setTop (mkF m 44 #[.val (.int q0), .val (.int q1), .val (.int ((q0 &&& (2147483647 : Int32)) % (7 : Int32))), .val (.int (0 : Int32)), .val (.ref u0), .val (.ref s1)] [])) t
        refine XS.goto X7.here hx rfl (pc0 := 44) (pc' := 187) rfl (hb hby at_44) (by decide) (by decide) ?_
        show Steps p.tables e below (T7.setTop (mkF m 187 #[.val (.int q0), .val (.int q1), .val (.int ((q0 &&& (2147483647 : Int32)) % (7 : Int32))), .val (.int (0 : Int32)), .val (.ref u0), .val (.ref s1)] [])) t
        refine XS.aload X7.here hx rfl (hb hby at_187) rfl rfl ?_
        show Steps p.tables e below (T7.setTop (mkF m 189 #[.val (.int q0), .val (.int q1), .val (.int ((q0 &&& (2147483647 : Int32)) % (7 : Int32))), .val (.int (0 : Int32)), .val (.ref u0), .val (.ref s1)] [(.ref u0)])) t
        refine XS.iloadN X7.here hx rfl (hb hby at_189) rfl ?_
        exact k
      obtain ⟨cq9, kq9, q9a, q9b, q9c⟩ := isOf hZ e7 pE_u0
      obtain ⟨_, _, ⟨T9, L9, k9, n9⟩, -, X9, ⟨Lc9, hQ9, l9, y9, z9⟩, st9⟩ := X7.virtualBack hx (y := (⟨"com/example/lean_tx/leantx/Propagation", "step", "(Z)Lcom/example/lean_tx/leantx/Propagation$Step;"⟩ : MethodName)) (z := (⟨"com/example/lean_tx/leantx/Propagation", "step", "(Z)Lcom/example/lean_tx/leantx/Propagation$Step;"⟩ : MethodName)) hown (mvT hZ (hw _ (List.mem_of_getElem? (i := 7) rfl))) (mvT hZ (hw _ (List.mem_of_getElem? (i := 8) rfl))) (notFace_of_selects (args := #[]) (mvT hZ (hw _ (List.mem_of_getElem? (i := 10) rfl)))) (mvT hZ (hw _ (List.mem_of_getElem? (i := 10) rfl))) (mvT hZ (hw _ (List.mem_of_getElem? (i := 9) rfl))) (by decide) (backOf (W := 0) (rm1 l Z a0 hw [] u0 (0 : Int32) s0 s1 h0 n0 (Nat.le_trans Z0 K0.1) pW_u0 pO_u0) hZ (hw _ (List.mem_of_getElem? (i := 11) rfl)) (hw _ (List.mem_of_getElem? (i := 2) rfl)) (by decide) (by decide)) q9a q9c (g := (mkF m 190 #[.val (.int q0), .val (.int q1), .val (.int ((q0 &&& (2147483647 : Int32)) % (7 : Int32))), .val (.int (0 : Int32)), .val (.ref u0), .val (.ref s1)] [(.int (0 : Int32)), (.ref u0)])) rfl (by rw [hml]; rfl) (Steps.refl _) (argsL := [(.int (0 : Int32))]) (rest := []) (lenOf pd_0 rfl) rfl (by show 2 * 0 + _ ≤ _; exact Nat.le_of_eq rfl) (hb hby at_190) (fun _ _ => ⟨rfl, e7, (by decide : 0 + 0 ≤ _), (by decide : 0 + 0 ≤ _)⟩)
      dsimp only [Pt.U, Pt.locs, Pt.cells, Pt.slots] at X9 l9 y9 z9 st9 hQ9
      subst l9 y9 z9
      obtain ⟨rfl, N9q, e9⟩ := hQ9
      have N9 := Fr.app N0 N9q
      have hp9 : own_step (0 : Int32) s0 s1 = s1 := by simp [own_step]
      rw [hp9] at st9
      have R11 : Rch p e below (s₁.setTop (entryFrame m #[(.int q0), (.int q1)] maxLocals)) T9 (mkF m 203 #[.val (.int q0), .val (.int q1), .val (.int ((q0 &&& (2147483647 : Int32)) % (7 : Int32))), .val (.int (0 : Int32)), .val (.ref u0), .val (.ref s1)] [(.int (1 : Int32))]) := fun t k => by
        refine R10 t ?_
        refine st9.trans ?_
        show Steps p.tables e below (T9.setTop (mkF m 193 #[.val (.int q0), .val (.int q1), .val (.int ((q0 &&& (2147483647 : Int32)) % (7 : Int32))), .val (.int (0 : Int32)), .val (.ref u0), .val (.ref s1)] [(.ref s1)])) t
        refine XS.aload X9.here hx rfl (hb hby at_193) rfl rfl ?_
        show Steps p.tables e below (T9.setTop (mkF m 195 #[.val (.int q0), .val (.int q1), .val (.int ((q0 &&& (2147483647 : Int32)) % (7 : Int32))), .val (.int (0 : Int32)), .val (.ref u0), .val (.ref s1)] [(.ref s1), (.ref s1)])) t
        refine Jvm.RoadKit.acmp (g := (mkF m 195 #[.val (.int q0), .val (.int q1), .val (.int ((q0 &&& (2147483647 : Int32)) % (7 : Int32))), .val (.int (0 : Int32)), .val (.ref u0), .val (.ref s1)] [(.ref s1), (.ref s1)])) X9 hx rfl rfl rfl (pc0 := 195) (pc' := 198) (same := true) rfl (hb hby at_195) rfl (decide_eq_true rfl) (by decide) (by decide) ?_
        show Steps p.tables e below (T9.setTop (mkF m 198 #[.val (.int q0), .val (.int q1), .val (.int ((q0 &&& (2147483647 : Int32)) % (7 : Int32))), .val (.int (0 : Int32)), .val (.ref u0), .val (.ref s1)] [])) t
        refine XS.iconst X9.here hx rfl (hb hby at_198) ?_
        show Steps p.tables e below (T9.setTop (mkF m 199 #[.val (.int q0), .val (.int q1), .val (.int ((q0 &&& (2147483647 : Int32)) % (7 : Int32))), .val (.int (0 : Int32)), .val (.ref u0), .val (.ref s1)] [(.int (1 : Int32))])) t
        refine XS.goto X9.here hx rfl (pc0 := 199) (pc' := 203) rfl (hb hby at_199) (by decide) (by decide) ?_
        exact k
      obtain ⟨fs, hr, hrun, hended, hW, hsame⟩ := X9.leave (v := some (.int (1 : Int32))) (fun h => by rw [Bd.returns] at h; cases h)
      refine ⟨_, _, R11 _ ?_, hrun, hended, _, _, rfl, ?_, ⟨_, rfl⟩, hW, hsame.mono (by decide) (by decide)⟩
      · exact retN X9 hx (t := .boolean) Bd.returns (by simp) (hb hby at_203) hr
      · show Q_rm0 Z q0 q1 u0 u1 u2 u3 u4 u5 u6 s0 s1 s2 s3 s4 h0 n0 _ T9.heap _
        rw [e9]
        exact ⟨rfl, N9, rfl⟩
    · have R13 : Rch p e below (s₁.setTop (entryFrame m #[(.int q0), (.int q1)] maxLocals)) s₁ (mkF m 49 #[.val (.int q0), .val (.int q1), .val (.int ((q0 &&& (2147483647 : Int32)) % (7 : Int32))), .val (.int (0 : Int32)), .unset, .unset] [(.int (1 : Int32)), (.int ((q0 &&& (2147483647 : Int32)) % (7 : Int32)))]) := fun t k => by
        refine R4 t ?_
        refine XS.ifYes X0.here hx rfl (pc0 := 21) (pc' := 47) rfl (hb hby at_21) rfl ((if0 _ _).trans (feq hc21_3).2) (by decide) (by decide) ?_
        show Steps p.tables e below (s₁.setTop (mkF m 47 #[.val (.int q0), .val (.int q1), .val (.int ((q0 &&& (2147483647 : Int32)) % (7 : Int32))), .val (.int (0 : Int32)), .unset, .unset] [])) t
        refine XS.iloadN X0.here hx rfl (hb hby at_47) rfl ?_
        show Steps p.tables e below (s₁.setTop (mkF m 48 #[.val (.int q0), .val (.int q1), .val (.int ((q0 &&& (2147483647 : Int32)) % (7 : Int32))), .val (.int (0 : Int32)), .unset, .unset] [(.int ((q0 &&& (2147483647 : Int32)) % (7 : Int32)))])) t
        refine XS.iconst X0.here hx rfl (hb hby at_48) ?_
        exact k
      by_cases hc49_12 : ((q0 &&& (2147483647 : Int32)) % (7 : Int32)) = (1 : Int32)
      · have R15 : Rch p e below (s₁.setTop (entryFrame m #[(.int q0), (.int q1)] maxLocals)) s₁ (mkF m 52 #[.val (.int q0), .val (.int q1), .val (.int ((q0 &&& (2147483647 : Int32)) % (7 : Int32))), .val (.int (0 : Int32)), .unset, .unset] []) := fun t k => by
          refine R13 t ?_
          refine XS.icmpNo X0.here hx rfl (hb hby at_49) rfl (teq hc49_12).2 ?_
          exact k
        obtain ⟨T14, X14, e14, st14⟩ := getS2 X0 hx hZ hown (host := "") (Or.inl (hw _ (List.mem_of_getElem? (i := 18) rfl))) Via.refl e0 pS_u1 (g := (mkF m 52 #[.val (.int q0), .val (.int q1), .val (.int ((q0 &&& (2147483647 : Int32)) % (7 : Int32))), .val (.int (0 : Int32)), .unset, .unset] [])) rfl (hb hby at_52)
        have R17 : Rch p e below (s₁.setTop (entryFrame m #[(.int q0), (.int q1)] maxLocals)) T14 (mkF m 67 #[.val (.int q0), .val (.int q1), .val (.int ((q0 &&& (2147483647 : Int32)) % (7 : Int32))), .val (.int (0 : Int32)), .val (.ref u1), .unset] []) := fun t k => by
          refine R15 t ?_
          refine st14 _ ?_
          show Steps p.tables e below (T14.setTop (mkF m 55 #[.val (.int q0), .val (.int q1), .val (.int ((q0 &&& (2147483647 : Int32)) % (7 : Int32))), .val (.int (0 : Int32)), .unset, .unset] [(.ref u1)])) t
          refine XS.astore X14.here hx rfl (hb hby at_55) rfl rfl (l' := #[.val (.int q0), .val (.int q1), .val (.int ((q0 &&& (2147483647 : Int32)) % (7 : Int32))), .val (.int (0 : Int32)), .val (.ref u1), .unset]) rfl ?_
          show Steps p.tables e below (T14.setTop (mkF m 57 #[.val (.int q0), .val (.int q1), .val (.int ((q0 &&& (2147483647 : Int32)) % (7 : Int32))), .val (.int (0 : Int32)), .val (.ref u1), .unset] [])) t
          refine XS.iloadN X14.here hx rfl (hb hby at_57) rfl ?_
          show Steps p.tables e below (T14.setTop (mkF m 58 #[.val (.int q0), .val (.int q1), .val (.int ((q0 &&& (2147483647 : Int32)) % (7 : Int32))), .val (.int (0 : Int32)), .val (.ref u1), .unset] [(.int (0 : Int32))])) t
          refine XS.ifYes X14.here hx rfl (pc0 := 58) (pc' := 67) rfl (hb hby at_58) rfl ((if0 _ _).trans (teq (by decide : (0 : Int32) = (0 : Int32))).1) (by decide) (by decide) ?_
          exact k
        obtain ⟨T16, X16, e16, st16⟩ := getS2 X14 hx hZ hown (host := "") (Or.inl (hw _ (List.mem_of_getElem? (i := 20) rfl))) Via.refl e14 pS_s2 (g := (mkF m 67 #[.val (.int q0), .val (.int q1), .val (.int ((q0 &&& (2147483647 : Int32)) % (7 : Int32))), .val (.int (0 : Int32)), .val (.ref u1), .unset] [])) rfl (hb hby at_67)
        have R19 : Rch p e below (s₁.setTop (entryFrame m #[(.int q0), (.int q1)] maxLocals)) T16 (mkF m 190 #[.val (.int q0), .val (.int q1), .val (.int ((q0 &&& (2147483647 : Int32)) % (7 : Int32))), .val (.int (0 : Int32)), .val (.ref u1), .val (.ref s2)] [(.int (0 : Int32)), (.ref u1)]) := fun t k => by
          refine R17 t ?_
          refine st16 _ ?_
          show Steps p.tables e below (T16.setTop (mkF m 70 #[.val (.int q0), .val (.int q1), .val (.int ((q0 &&& (2147483647 : Int32)) % (7 : Int32))), .val (.int (0 : Int32)), .val (.ref u1), .unset] [(.ref s2)])) t
          refine XS.astore X16.here hx rfl (hb hby at_70) rfl rfl (l' := #[.val (.int q0), .val (.int q1), .val (.int ((q0 &&& (2147483647 : Int32)) % (7 : Int32))), .val (.int (0 : Int32)), .val (.ref u1), .val (.ref s2)]) rfl ?_
          show Steps p.tables e below (T16.setTop (mkF m 72 #[.val (.int q0), .val (.int q1), .val (.int ((q0 &&& (2147483647 : Int32)) % (7 : Int32))), .val (.int (0 : Int32)), .val (.ref u1), .val (.ref s2)] [])) t
          refine XS.goto X16.here hx rfl (pc0 := 72) (pc' := 187) rfl (hb hby at_72) (by decide) (by decide) ?_
          show Steps p.tables e below (T16.setTop (mkF m 187 #[.val (.int q0), .val (.int q1), .val (.int ((q0 &&& (2147483647 : Int32)) % (7 : Int32))), .val (.int (0 : Int32)), .val (.ref u1), .val (.ref s2)] [])) t
          refine XS.aload X16.here hx rfl (hb hby at_187) rfl rfl ?_
          show Steps p.tables e below (T16.setTop (mkF m 189 #[.val (.int q0), .val (.int q1), .val (.int ((q0 &&& (2147483647 : Int32)) % (7 : Int32))), .val (.int (0 : Int32)), .val (.ref u1), .val (.ref s2)] [(.ref u1)])) t
          refine XS.iloadN X16.here hx rfl (hb hby at_189) rfl ?_
          exact k
        obtain ⟨cq18, kq18, q18a, q18b, q18c⟩ := isOf hZ e16 pE_u1
        obtain ⟨_, _, ⟨T18, L18, k18, n18⟩, -, X18, ⟨Lc18, hQ18, l18, y18, z18⟩, st18⟩ := X16.virtualBack hx (y := (⟨"com/example/lean_tx/leantx/Propagation", "step", "(Z)Lcom/example/lean_tx/leantx/Propagation$Step;"⟩ : MethodName)) (z := (⟨"com/example/lean_tx/leantx/Propagation", "step", "(Z)Lcom/example/lean_tx/leantx/Propagation$Step;"⟩ : MethodName)) hown (mvT hZ (hw _ (List.mem_of_getElem? (i := 7) rfl))) (mvT hZ (hw _ (List.mem_of_getElem? (i := 8) rfl))) (notFace_of_selects (args := #[]) (mvT hZ (hw _ (List.mem_of_getElem? (i := 10) rfl)))) (mvT hZ (hw _ (List.mem_of_getElem? (i := 10) rfl))) (mvT hZ (hw _ (List.mem_of_getElem? (i := 9) rfl))) (by decide) (backOf (W := 0) (rm1 l Z a0 hw [] u1 (0 : Int32) s0 s2 h0 n0 (Nat.le_trans Z0 K0.1) pW_u1 pO_u1) hZ (hw _ (List.mem_of_getElem? (i := 11) rfl)) (hw _ (List.mem_of_getElem? (i := 2) rfl)) (by decide) (by decide)) q18a q18c (g := (mkF m 190 #[.val (.int q0), .val (.int q1), .val (.int ((q0 &&& (2147483647 : Int32)) % (7 : Int32))), .val (.int (0 : Int32)), .val (.ref u1), .val (.ref s2)] [(.int (0 : Int32)), (.ref u1)])) rfl (by rw [hml]; rfl) (Steps.refl _) (argsL := [(.int (0 : Int32))]) (rest := []) (lenOf pd_0 rfl) rfl (by show 2 * 0 + _ ≤ _; exact Nat.le_of_eq rfl) (hb hby at_190) (fun _ _ => ⟨rfl, e16, (by decide : 0 + 0 ≤ _), (by decide : 0 + 0 ≤ _)⟩)
        dsimp only [Pt.U, Pt.locs, Pt.cells, Pt.slots] at X18 l18 y18 z18 st18 hQ18
        subst l18 y18 z18
        obtain ⟨rfl, N18q, e18⟩ := hQ18
        have N18 := Fr.app N0 N18q
        have hp18 : own_step (0 : Int32) s0 s2 = s2 := by simp [own_step]
        rw [hp18] at st18
        have R20 : Rch p e below (s₁.setTop (entryFrame m #[(.int q0), (.int q1)] maxLocals)) T18 (mkF m 203 #[.val (.int q0), .val (.int q1), .val (.int ((q0 &&& (2147483647 : Int32)) % (7 : Int32))), .val (.int (0 : Int32)), .val (.ref u1), .val (.ref s2)] [(.int (1 : Int32))]) := fun t k => by
          refine R19 t ?_
          refine st18.trans ?_
          show Steps p.tables e below (T18.setTop (mkF m 193 #[.val (.int q0), .val (.int q1), .val (.int ((q0 &&& (2147483647 : Int32)) % (7 : Int32))), .val (.int (0 : Int32)), .val (.ref u1), .val (.ref s2)] [(.ref s2)])) t
          refine XS.aload X18.here hx rfl (hb hby at_193) rfl rfl ?_
          show Steps p.tables e below (T18.setTop (mkF m 195 #[.val (.int q0), .val (.int q1), .val (.int ((q0 &&& (2147483647 : Int32)) % (7 : Int32))), .val (.int (0 : Int32)), .val (.ref u1), .val (.ref s2)] [(.ref s2), (.ref s2)])) t
          refine Jvm.RoadKit.acmp (g := (mkF m 195 #[.val (.int q0), .val (.int q1), .val (.int ((q0 &&& (2147483647 : Int32)) % (7 : Int32))), .val (.int (0 : Int32)), .val (.ref u1), .val (.ref s2)] [(.ref s2), (.ref s2)])) X18 hx rfl rfl rfl (pc0 := 195) (pc' := 198) (same := true) rfl (hb hby at_195) rfl (decide_eq_true rfl) (by decide) (by decide) ?_
          show Steps p.tables e below (T18.setTop (mkF m 198 #[.val (.int q0), .val (.int q1), .val (.int ((q0 &&& (2147483647 : Int32)) % (7 : Int32))), .val (.int (0 : Int32)), .val (.ref u1), .val (.ref s2)] [])) t
          refine XS.iconst X18.here hx rfl (hb hby at_198) ?_
          show Steps p.tables e below (T18.setTop (mkF m 199 #[.val (.int q0), .val (.int q1), .val (.int ((q0 &&& (2147483647 : Int32)) % (7 : Int32))), .val (.int (0 : Int32)), .val (.ref u1), .val (.ref s2)] [(.int (1 : Int32))])) t
          refine XS.goto X18.here hx rfl (pc0 := 199) (pc' := 203) rfl (hb hby at_199) (by decide) (by decide) ?_
          exact k
        obtain ⟨fs, hr, hrun, hended, hW, hsame⟩ := X18.leave (v := some (.int (1 : Int32))) (fun h => by rw [Bd.returns] at h; cases h)
        refine ⟨_, _, R20 _ ?_, hrun, hended, _, _, rfl, ?_, ⟨_, rfl⟩, hW, hsame.mono (by decide) (by decide)⟩
        · exact retN X18 hx (t := .boolean) Bd.returns (by simp) (hb hby at_203) hr
        · show Q_rm0 Z q0 q1 u0 u1 u2 u3 u4 u5 u6 s0 s1 s2 s3 s4 h0 n0 _ T18.heap _
          rw [e18]
          exact ⟨rfl, N18, rfl⟩
      · have R22 : Rch p e below (s₁.setTop (entryFrame m #[(.int q0), (.int q1)] maxLocals)) s₁ (mkF m 77 #[.val (.int q0), .val (.int q1), .val (.int ((q0 &&& (2147483647 : Int32)) % (7 : Int32))), .val (.int (0 : Int32)), .unset, .unset] [(.int (2 : Int32)), (.int ((q0 &&& (2147483647 : Int32)) % (7 : Int32)))]) := fun t k => by
          refine R13 t ?_
          refine XS.icmpYes X0.here hx rfl (pc0 := 49) (pc' := 75) rfl (hb hby at_49) rfl (feq hc49_12).2 (by decide) (by decide) ?_
          show Steps p.tables e below (s₁.setTop (mkF m 75 #[.val (.int q0), .val (.int q1), .val (.int ((q0 &&& (2147483647 : Int32)) % (7 : Int32))), .val (.int (0 : Int32)), .unset, .unset] [])) t
          refine XS.iloadN X0.here hx rfl (hb hby at_75) rfl ?_
          show Steps p.tables e below (s₁.setTop (mkF m 76 #[.val (.int q0), .val (.int q1), .val (.int ((q0 &&& (2147483647 : Int32)) % (7 : Int32))), .val (.int (0 : Int32)), .unset, .unset] [(.int ((q0 &&& (2147483647 : Int32)) % (7 : Int32)))])) t
          refine XS.iconst X0.here hx rfl (hb hby at_76) ?_
          exact k
        by_cases hc77_21 : ((q0 &&& (2147483647 : Int32)) % (7 : Int32)) = (2 : Int32)
        · have R24 : Rch p e below (s₁.setTop (entryFrame m #[(.int q0), (.int q1)] maxLocals)) s₁ (mkF m 80 #[.val (.int q0), .val (.int q1), .val (.int ((q0 &&& (2147483647 : Int32)) % (7 : Int32))), .val (.int (0 : Int32)), .unset, .unset] []) := fun t k => by
            refine R22 t ?_
            refine XS.icmpNo X0.here hx rfl (hb hby at_77) rfl (teq hc77_21).2 ?_
            exact k
          obtain ⟨T23, X23, e23, st23⟩ := getS2 X0 hx hZ hown (host := "") (Or.inl (hw _ (List.mem_of_getElem? (i := 32) rfl))) Via.refl e0 pS_u2 (g := (mkF m 80 #[.val (.int q0), .val (.int q1), .val (.int ((q0 &&& (2147483647 : Int32)) % (7 : Int32))), .val (.int (0 : Int32)), .unset, .unset] [])) rfl (hb hby at_80)
          have R26 : Rch p e below (s₁.setTop (entryFrame m #[(.int q0), (.int q1)] maxLocals)) T23 (mkF m 95 #[.val (.int q0), .val (.int q1), .val (.int ((q0 &&& (2147483647 : Int32)) % (7 : Int32))), .val (.int (0 : Int32)), .val (.ref u2), .unset] []) := fun t k => by
            refine R24 t ?_
            refine st23 _ ?_
            show Steps p.tables e below (T23.setTop (mkF m 83 #[.val (.int q0), .val (.int q1), .val (.int ((q0 &&& (2147483647 : Int32)) % (7 : Int32))), .val (.int (0 : Int32)), .unset, .unset] [(.ref u2)])) t
            refine XS.astore X23.here hx rfl (hb hby at_83) rfl rfl (l' := #[.val (.int q0), .val (.int q1), .val (.int ((q0 &&& (2147483647 : Int32)) % (7 : Int32))), .val (.int (0 : Int32)), .val (.ref u2), .unset]) rfl ?_
            show Steps p.tables e below (T23.setTop (mkF m 85 #[.val (.int q0), .val (.int q1), .val (.int ((q0 &&& (2147483647 : Int32)) % (7 : Int32))), .val (.int (0 : Int32)), .val (.ref u2), .unset] [])) t
            refine XS.iloadN X23.here hx rfl (hb hby at_85) rfl ?_
            show Steps p.tables e below (T23.setTop (mkF m 86 #[.val (.int q0), .val (.int q1), .val (.int ((q0 &&& (2147483647 : Int32)) % (7 : Int32))), .val (.int (0 : Int32)), .val (.ref u2), .unset] [(.int (0 : Int32))])) t
            refine XS.ifYes X23.here hx rfl (pc0 := 86) (pc' := 95) rfl (hb hby at_86) rfl ((if0 _ _).trans (teq (by decide : (0 : Int32) = (0 : Int32))).1) (by decide) (by decide) ?_
            exact k
          obtain ⟨T25, X25, e25, st25⟩ := getS2 X23 hx hZ hown (host := "") (Or.inl (hw _ (List.mem_of_getElem? (i := 30) rfl))) Via.refl e23 pS_s3 (g := (mkF m 95 #[.val (.int q0), .val (.int q1), .val (.int ((q0 &&& (2147483647 : Int32)) % (7 : Int32))), .val (.int (0 : Int32)), .val (.ref u2), .unset] [])) rfl (hb hby at_95)
          have R28 : Rch p e below (s₁.setTop (entryFrame m #[(.int q0), (.int q1)] maxLocals)) T25 (mkF m 190 #[.val (.int q0), .val (.int q1), .val (.int ((q0 &&& (2147483647 : Int32)) % (7 : Int32))), .val (.int (0 : Int32)), .val (.ref u2), .val (.ref s3)] [(.int (0 : Int32)), (.ref u2)]) := fun t k => by
            refine R26 t ?_
            refine st25 _ ?_
            show Steps p.tables e below (T25.setTop (mkF m 98 #[.val (.int q0), .val (.int q1), .val (.int ((q0 &&& (2147483647 : Int32)) % (7 : Int32))), .val (.int (0 : Int32)), .val (.ref u2), .unset] [(.ref s3)])) t
            refine XS.astore X25.here hx rfl (hb hby at_98) rfl rfl (l' := #[.val (.int q0), .val (.int q1), .val (.int ((q0 &&& (2147483647 : Int32)) % (7 : Int32))), .val (.int (0 : Int32)), .val (.ref u2), .val (.ref s3)]) rfl ?_
            show Steps p.tables e below (T25.setTop (mkF m 100 #[.val (.int q0), .val (.int q1), .val (.int ((q0 &&& (2147483647 : Int32)) % (7 : Int32))), .val (.int (0 : Int32)), .val (.ref u2), .val (.ref s3)] [])) t
            refine XS.goto X25.here hx rfl (pc0 := 100) (pc' := 187) rfl (hb hby at_100) (by decide) (by decide) ?_
            show Steps p.tables e below (T25.setTop (mkF m 187 #[.val (.int q0), .val (.int q1), .val (.int ((q0 &&& (2147483647 : Int32)) % (7 : Int32))), .val (.int (0 : Int32)), .val (.ref u2), .val (.ref s3)] [])) t
            refine XS.aload X25.here hx rfl (hb hby at_187) rfl rfl ?_
            show Steps p.tables e below (T25.setTop (mkF m 189 #[.val (.int q0), .val (.int q1), .val (.int ((q0 &&& (2147483647 : Int32)) % (7 : Int32))), .val (.int (0 : Int32)), .val (.ref u2), .val (.ref s3)] [(.ref u2)])) t
            refine XS.iloadN X25.here hx rfl (hb hby at_189) rfl ?_
            exact k
          obtain ⟨cq27, kq27, q27a, q27b, q27c⟩ := isOf hZ e25 pE_u2
          obtain ⟨_, _, ⟨T27, L27, k27, n27⟩, -, X27, ⟨Lc27, hQ27, l27, y27, z27⟩, st27⟩ := X25.virtualBack hx (y := (⟨"com/example/lean_tx/leantx/Propagation", "step", "(Z)Lcom/example/lean_tx/leantx/Propagation$Step;"⟩ : MethodName)) (z := (⟨"com/example/lean_tx/leantx/Propagation", "step", "(Z)Lcom/example/lean_tx/leantx/Propagation$Step;"⟩ : MethodName)) hown (mvT hZ (hw _ (List.mem_of_getElem? (i := 7) rfl))) (mvT hZ (hw _ (List.mem_of_getElem? (i := 8) rfl))) (notFace_of_selects (args := #[]) (mvT hZ (hw _ (List.mem_of_getElem? (i := 10) rfl)))) (mvT hZ (hw _ (List.mem_of_getElem? (i := 10) rfl))) (mvT hZ (hw _ (List.mem_of_getElem? (i := 9) rfl))) (by decide) (backOf (W := 0) (rm1 l Z a0 hw [] u2 (0 : Int32) s0 s3 h0 n0 (Nat.le_trans Z0 K0.1) pW_u2 pO_u2) hZ (hw _ (List.mem_of_getElem? (i := 11) rfl)) (hw _ (List.mem_of_getElem? (i := 2) rfl)) (by decide) (by decide)) q27a q27c (g := (mkF m 190 #[.val (.int q0), .val (.int q1), .val (.int ((q0 &&& (2147483647 : Int32)) % (7 : Int32))), .val (.int (0 : Int32)), .val (.ref u2), .val (.ref s3)] [(.int (0 : Int32)), (.ref u2)])) rfl (by rw [hml]; rfl) (Steps.refl _) (argsL := [(.int (0 : Int32))]) (rest := []) (lenOf pd_0 rfl) rfl (by show 2 * 0 + _ ≤ _; exact Nat.le_of_eq rfl) (hb hby at_190) (fun _ _ => ⟨rfl, e25, (by decide : 0 + 0 ≤ _), (by decide : 0 + 0 ≤ _)⟩)
          dsimp only [Pt.U, Pt.locs, Pt.cells, Pt.slots] at X27 l27 y27 z27 st27 hQ27
          subst l27 y27 z27
          obtain ⟨rfl, N27q, e27⟩ := hQ27
          have N27 := Fr.app N0 N27q
          have hp27 : own_step (0 : Int32) s0 s3 = s3 := by simp [own_step]
          rw [hp27] at st27
          have R29 : Rch p e below (s₁.setTop (entryFrame m #[(.int q0), (.int q1)] maxLocals)) T27 (mkF m 203 #[.val (.int q0), .val (.int q1), .val (.int ((q0 &&& (2147483647 : Int32)) % (7 : Int32))), .val (.int (0 : Int32)), .val (.ref u2), .val (.ref s3)] [(.int (1 : Int32))]) := fun t k => by
            refine R28 t ?_
            refine st27.trans ?_
            show Steps p.tables e below (T27.setTop (mkF m 193 #[.val (.int q0), .val (.int q1), .val (.int ((q0 &&& (2147483647 : Int32)) % (7 : Int32))), .val (.int (0 : Int32)), .val (.ref u2), .val (.ref s3)] [(.ref s3)])) t
            refine XS.aload X27.here hx rfl (hb hby at_193) rfl rfl ?_
            show Steps p.tables e below (T27.setTop (mkF m 195 #[.val (.int q0), .val (.int q1), .val (.int ((q0 &&& (2147483647 : Int32)) % (7 : Int32))), .val (.int (0 : Int32)), .val (.ref u2), .val (.ref s3)] [(.ref s3), (.ref s3)])) t
            refine Jvm.RoadKit.acmp (g := (mkF m 195 #[.val (.int q0), .val (.int q1), .val (.int ((q0 &&& (2147483647 : Int32)) % (7 : Int32))), .val (.int (0 : Int32)), .val (.ref u2), .val (.ref s3)] [(.ref s3), (.ref s3)])) X27 hx rfl rfl rfl (pc0 := 195) (pc' := 198) (same := true) rfl (hb hby at_195) rfl (decide_eq_true rfl) (by decide) (by decide) ?_
            show Steps p.tables e below (T27.setTop (mkF m 198 #[.val (.int q0), .val (.int q1), .val (.int ((q0 &&& (2147483647 : Int32)) % (7 : Int32))), .val (.int (0 : Int32)), .val (.ref u2), .val (.ref s3)] [])) t
            refine XS.iconst X27.here hx rfl (hb hby at_198) ?_
            show Steps p.tables e below (T27.setTop (mkF m 199 #[.val (.int q0), .val (.int q1), .val (.int ((q0 &&& (2147483647 : Int32)) % (7 : Int32))), .val (.int (0 : Int32)), .val (.ref u2), .val (.ref s3)] [(.int (1 : Int32))])) t
            refine XS.goto X27.here hx rfl (pc0 := 199) (pc' := 203) rfl (hb hby at_199) (by decide) (by decide) ?_
            exact k
          obtain ⟨fs, hr, hrun, hended, hW, hsame⟩ := X27.leave (v := some (.int (1 : Int32))) (fun h => by rw [Bd.returns] at h; cases h)
          refine ⟨_, _, R29 _ ?_, hrun, hended, _, _, rfl, ?_, ⟨_, rfl⟩, hW, hsame.mono (by decide) (by decide)⟩
          · exact retN X27 hx (t := .boolean) Bd.returns (by simp) (hb hby at_203) hr
          · show Q_rm0 Z q0 q1 u0 u1 u2 u3 u4 u5 u6 s0 s1 s2 s3 s4 h0 n0 _ T27.heap _
            rw [e27]
            exact ⟨rfl, N27, rfl⟩
        · have R31 : Rch p e below (s₁.setTop (entryFrame m #[(.int q0), (.int q1)] maxLocals)) s₁ (mkF m 105 #[.val (.int q0), .val (.int q1), .val (.int ((q0 &&& (2147483647 : Int32)) % (7 : Int32))), .val (.int (0 : Int32)), .unset, .unset] [(.int (3 : Int32)), (.int ((q0 &&& (2147483647 : Int32)) % (7 : Int32)))]) := fun t k => by
            refine R22 t ?_
            refine XS.icmpYes X0.here hx rfl (pc0 := 77) (pc' := 103) rfl (hb hby at_77) rfl (feq hc77_21).2 (by decide) (by decide) ?_
            show Steps p.tables e below (s₁.setTop (mkF m 103 #[.val (.int q0), .val (.int q1), .val (.int ((q0 &&& (2147483647 : Int32)) % (7 : Int32))), .val (.int (0 : Int32)), .unset, .unset] [])) t
            refine XS.iloadN X0.here hx rfl (hb hby at_103) rfl ?_
            show Steps p.tables e below (s₁.setTop (mkF m 104 #[.val (.int q0), .val (.int q1), .val (.int ((q0 &&& (2147483647 : Int32)) % (7 : Int32))), .val (.int (0 : Int32)), .unset, .unset] [(.int ((q0 &&& (2147483647 : Int32)) % (7 : Int32)))])) t
            refine XS.iconst X0.here hx rfl (hb hby at_104) ?_
            exact k
          by_cases hc105_30 : ((q0 &&& (2147483647 : Int32)) % (7 : Int32)) = (3 : Int32)
          · have R33 : Rch p e below (s₁.setTop (entryFrame m #[(.int q0), (.int q1)] maxLocals)) s₁ (mkF m 108 #[.val (.int q0), .val (.int q1), .val (.int ((q0 &&& (2147483647 : Int32)) % (7 : Int32))), .val (.int (0 : Int32)), .unset, .unset] []) := fun t k => by
              refine R31 t ?_
              refine XS.icmpNo X0.here hx rfl (hb hby at_105) rfl (teq hc105_30).2 ?_
              exact k
            obtain ⟨T32, X32, e32, st32⟩ := getS2 X0 hx hZ hown (host := "") (Or.inl (hw _ (List.mem_of_getElem? (i := 14) rfl))) Via.refl e0 pS_u3 (g := (mkF m 108 #[.val (.int q0), .val (.int q1), .val (.int ((q0 &&& (2147483647 : Int32)) % (7 : Int32))), .val (.int (0 : Int32)), .unset, .unset] [])) rfl (hb hby at_108)
            have R35 : Rch p e below (s₁.setTop (entryFrame m #[(.int q0), (.int q1)] maxLocals)) T32 (mkF m 113 #[.val (.int q0), .val (.int q1), .val (.int ((q0 &&& (2147483647 : Int32)) % (7 : Int32))), .val (.int (0 : Int32)), .val (.ref u3), .unset] []) := fun t k => by
              refine R33 t ?_
              refine st32 _ ?_
              show Steps p.tables e below (T32.setTop (mkF m 111 #[.val (.int q0), .val (.int q1), .val (.int ((q0 &&& (2147483647 : Int32)) % (7 : Int32))), .val (.int (0 : Int32)), .unset, .unset] [(.ref u3)])) t
              refine XS.astore X32.here hx rfl (hb hby at_111) rfl rfl (l' := #[.val (.int q0), .val (.int q1), .val (.int ((q0 &&& (2147483647 : Int32)) % (7 : Int32))), .val (.int (0 : Int32)), .val (.ref u3), .unset]) rfl ?_
              exact k
            obtain ⟨T34, X34, e34, st34⟩ := getS2 X32 hx hZ hown (host := "") (Or.inl (hw _ (List.mem_of_getElem? (i := 16) rfl))) Via.refl e32 pS_s1 (g := (mkF m 113 #[.val (.int q0), .val (.int q1), .val (.int ((q0 &&& (2147483647 : Int32)) % (7 : Int32))), .val (.int (0 : Int32)), .val (.ref u3), .unset] [])) rfl (hb hby at_113)
            have R37 : Rch p e below (s₁.setTop (entryFrame m #[(.int q0), (.int q1)] maxLocals)) T34 (mkF m 190 #[.val (.int q0), .val (.int q1), .val (.int ((q0 &&& (2147483647 : Int32)) % (7 : Int32))), .val (.int (0 : Int32)), .val (.ref u3), .val (.ref s1)] [(.int (0 : Int32)), (.ref u3)]) := fun t k => by
              refine R35 t ?_
              refine st34 _ ?_
              show Steps p.tables e below (T34.setTop (mkF m 116 #[.val (.int q0), .val (.int q1), .val (.int ((q0 &&& (2147483647 : Int32)) % (7 : Int32))), .val (.int (0 : Int32)), .val (.ref u3), .unset] [(.ref s1)])) t
              refine XS.astore X34.here hx rfl (hb hby at_116) rfl rfl (l' := #[.val (.int q0), .val (.int q1), .val (.int ((q0 &&& (2147483647 : Int32)) % (7 : Int32))), .val (.int (0 : Int32)), .val (.ref u3), .val (.ref s1)]) rfl ?_
              show Steps p.tables e below (T34.setTop (mkF m 118 #[.val (.int q0), .val (.int q1), .val (.int ((q0 &&& (2147483647 : Int32)) % (7 : Int32))), .val (.int (0 : Int32)), .val (.ref u3), .val (.ref s1)] [])) t
              refine XS.goto X34.here hx rfl (pc0 := 118) (pc' := 187) rfl (hb hby at_118) (by decide) (by decide) ?_
              show Steps p.tables e below (T34.setTop (mkF m 187 #[.val (.int q0), .val (.int q1), .val (.int ((q0 &&& (2147483647 : Int32)) % (7 : Int32))), .val (.int (0 : Int32)), .val (.ref u3), .val (.ref s1)] [])) t
              refine XS.aload X34.here hx rfl (hb hby at_187) rfl rfl ?_
              show Steps p.tables e below (T34.setTop (mkF m 189 #[.val (.int q0), .val (.int q1), .val (.int ((q0 &&& (2147483647 : Int32)) % (7 : Int32))), .val (.int (0 : Int32)), .val (.ref u3), .val (.ref s1)] [(.ref u3)])) t
              refine XS.iloadN X34.here hx rfl (hb hby at_189) rfl ?_
              exact k
            obtain ⟨cq36, kq36, q36a, q36b, q36c⟩ := isOf hZ e34 pE_u3
            obtain ⟨_, _, ⟨T36, L36, k36, n36⟩, -, X36, ⟨Lc36, hQ36, l36, y36, z36⟩, st36⟩ := X34.virtualBack hx (y := (⟨"com/example/lean_tx/leantx/Propagation", "step", "(Z)Lcom/example/lean_tx/leantx/Propagation$Step;"⟩ : MethodName)) (z := (⟨"com/example/lean_tx/leantx/Propagation", "step", "(Z)Lcom/example/lean_tx/leantx/Propagation$Step;"⟩ : MethodName)) hown (mvT hZ (hw _ (List.mem_of_getElem? (i := 7) rfl))) (mvT hZ (hw _ (List.mem_of_getElem? (i := 8) rfl))) (notFace_of_selects (args := #[]) (mvT hZ (hw _ (List.mem_of_getElem? (i := 10) rfl)))) (mvT hZ (hw _ (List.mem_of_getElem? (i := 10) rfl))) (mvT hZ (hw _ (List.mem_of_getElem? (i := 9) rfl))) (by decide) (backOf (W := 0) (rm1 l Z a0 hw [] u3 (0 : Int32) s1 s1 h0 n0 (Nat.le_trans Z0 K0.1) pW_u3 pO_u3) hZ (hw _ (List.mem_of_getElem? (i := 11) rfl)) (hw _ (List.mem_of_getElem? (i := 2) rfl)) (by decide) (by decide)) q36a q36c (g := (mkF m 190 #[.val (.int q0), .val (.int q1), .val (.int ((q0 &&& (2147483647 : Int32)) % (7 : Int32))), .val (.int (0 : Int32)), .val (.ref u3), .val (.ref s1)] [(.int (0 : Int32)), (.ref u3)])) rfl (by rw [hml]; rfl) (Steps.refl _) (argsL := [(.int (0 : Int32))]) (rest := []) (lenOf pd_0 rfl) rfl (by show 2 * 0 + _ ≤ _; exact Nat.le_of_eq rfl) (hb hby at_190) (fun _ _ => ⟨rfl, e34, (by decide : 0 + 0 ≤ _), (by decide : 0 + 0 ≤ _)⟩)
            dsimp only [Pt.U, Pt.locs, Pt.cells, Pt.slots] at X36 l36 y36 z36 st36 hQ36
            subst l36 y36 z36
            obtain ⟨rfl, N36q, e36⟩ := hQ36
            have N36 := Fr.app N0 N36q
            have hp36 : own_step (0 : Int32) s1 s1 = s1 := by simp [own_step]
            rw [hp36] at st36
            have R38 : Rch p e below (s₁.setTop (entryFrame m #[(.int q0), (.int q1)] maxLocals)) T36 (mkF m 203 #[.val (.int q0), .val (.int q1), .val (.int ((q0 &&& (2147483647 : Int32)) % (7 : Int32))), .val (.int (0 : Int32)), .val (.ref u3), .val (.ref s1)] [(.int (1 : Int32))]) := fun t k => by
              refine R37 t ?_
              refine st36.trans ?_
              show Steps p.tables e below (T36.setTop (mkF m 193 #[.val (.int q0), .val (.int q1), .val (.int ((q0 &&& (2147483647 : Int32)) % (7 : Int32))), .val (.int (0 : Int32)), .val (.ref u3), .val (.ref s1)] [(.ref s1)])) t
              refine XS.aload X36.here hx rfl (hb hby at_193) rfl rfl ?_
              show Steps p.tables e below (T36.setTop (mkF m 195 #[.val (.int q0), .val (.int q1), .val (.int ((q0 &&& (2147483647 : Int32)) % (7 : Int32))), .val (.int (0 : Int32)), .val (.ref u3), .val (.ref s1)] [(.ref s1), (.ref s1)])) t
              refine Jvm.RoadKit.acmp (g := (mkF m 195 #[.val (.int q0), .val (.int q1), .val (.int ((q0 &&& (2147483647 : Int32)) % (7 : Int32))), .val (.int (0 : Int32)), .val (.ref u3), .val (.ref s1)] [(.ref s1), (.ref s1)])) X36 hx rfl rfl rfl (pc0 := 195) (pc' := 198) (same := true) rfl (hb hby at_195) rfl (decide_eq_true rfl) (by decide) (by decide) ?_
              show Steps p.tables e below (T36.setTop (mkF m 198 #[.val (.int q0), .val (.int q1), .val (.int ((q0 &&& (2147483647 : Int32)) % (7 : Int32))), .val (.int (0 : Int32)), .val (.ref u3), .val (.ref s1)] [])) t
              refine XS.iconst X36.here hx rfl (hb hby at_198) ?_
              show Steps p.tables e below (T36.setTop (mkF m 199 #[.val (.int q0), .val (.int q1), .val (.int ((q0 &&& (2147483647 : Int32)) % (7 : Int32))), .val (.int (0 : Int32)), .val (.ref u3), .val (.ref s1)] [(.int (1 : Int32))])) t
              refine XS.goto X36.here hx rfl (pc0 := 199) (pc' := 203) rfl (hb hby at_199) (by decide) (by decide) ?_
              exact k
            obtain ⟨fs, hr, hrun, hended, hW, hsame⟩ := X36.leave (v := some (.int (1 : Int32))) (fun h => by rw [Bd.returns] at h; cases h)
            refine ⟨_, _, R38 _ ?_, hrun, hended, _, _, rfl, ?_, ⟨_, rfl⟩, hW, hsame.mono (by decide) (by decide)⟩
            · exact retN X36 hx (t := .boolean) Bd.returns (by simp) (hb hby at_203) hr
            · show Q_rm0 Z q0 q1 u0 u1 u2 u3 u4 u5 u6 s0 s1 s2 s3 s4 h0 n0 _ T36.heap _
              rw [e36]
              exact ⟨rfl, N36, rfl⟩
          · have R40 : Rch p e below (s₁.setTop (entryFrame m #[(.int q0), (.int q1)] maxLocals)) s₁ (mkF m 123 #[.val (.int q0), .val (.int q1), .val (.int ((q0 &&& (2147483647 : Int32)) % (7 : Int32))), .val (.int (0 : Int32)), .unset, .unset] [(.int (4 : Int32)), (.int ((q0 &&& (2147483647 : Int32)) % (7 : Int32)))]) := fun t k => by
              refine R31 t ?_
              refine XS.icmpYes X0.here hx rfl (pc0 := 105) (pc' := 121) rfl (hb hby at_105) rfl (feq hc105_30).2 (by decide) (by decide) ?_
              show Steps p.tables e below (s₁.setTop (mkF m 121 #[.val (.int q0), .val (.int q1), .val (.int ((q0 &&& (2147483647 : Int32)) % (7 : Int32))), .val (.int (0 : Int32)), .unset, .unset] [])) t
              refine XS.iloadN X0.here hx rfl (hb hby at_121) rfl ?_
              show Steps p.tables e below (s₁.setTop (mkF m 122 #[.val (.int q0), .val (.int q1), .val (.int ((q0 &&& (2147483647 : Int32)) % (7 : Int32))), .val (.int (0 : Int32)), .unset, .unset] [(.int ((q0 &&& (2147483647 : Int32)) % (7 : Int32)))])) t
              refine XS.iconst X0.here hx rfl (hb hby at_122) ?_
              exact k
            by_cases hc123_39 : ((q0 &&& (2147483647 : Int32)) % (7 : Int32)) = (4 : Int32)
            · have R42 : Rch p e below (s₁.setTop (entryFrame m #[(.int q0), (.int q1)] maxLocals)) s₁ (mkF m 126 #[.val (.int q0), .val (.int q1), .val (.int ((q0 &&& (2147483647 : Int32)) % (7 : Int32))), .val (.int (0 : Int32)), .unset, .unset] []) := fun t k => by
                refine R40 t ?_
                refine XS.icmpNo X0.here hx rfl (hb hby at_123) rfl (teq hc123_39).2 ?_
                exact k
              obtain ⟨T41, X41, e41, st41⟩ := getS2 X0 hx hZ hown (host := "") (Or.inl (hw _ (List.mem_of_getElem? (i := 24) rfl))) Via.refl e0 pS_u4 (g := (mkF m 126 #[.val (.int q0), .val (.int q1), .val (.int ((q0 &&& (2147483647 : Int32)) % (7 : Int32))), .val (.int (0 : Int32)), .unset, .unset] [])) rfl (hb hby at_126)
              have R44 : Rch p e below (s₁.setTop (entryFrame m #[(.int q0), (.int q1)] maxLocals)) T41 (mkF m 131 #[.val (.int q0), .val (.int q1), .val (.int ((q0 &&& (2147483647 : Int32)) % (7 : Int32))), .val (.int (0 : Int32)), .val (.ref u4), .unset] []) := fun t k => by
                refine R42 t ?_
                refine st41 _ ?_
                show Steps p.tables e below (T41.setTop (mkF m 129 #[.val (.int q0), .val (.int q1), .val (.int ((q0 &&& (2147483647 : Int32)) % (7 : Int32))), .val (.int (0 : Int32)), .unset, .unset] [(.ref u4)])) t
                refine XS.astore X41.here hx rfl (hb hby at_129) rfl rfl (l' := #[.val (.int q0), .val (.int q1), .val (.int ((q0 &&& (2147483647 : Int32)) % (7 : Int32))), .val (.int (0 : Int32)), .val (.ref u4), .unset]) rfl ?_
                exact k
              obtain ⟨T43, X43, e43, st43⟩ := getS2 X41 hx hZ hown (host := "") (Or.inl (hw _ (List.mem_of_getElem? (i := 20) rfl))) Via.refl e41 pS_s2 (g := (mkF m 131 #[.val (.int q0), .val (.int q1), .val (.int ((q0 &&& (2147483647 : Int32)) % (7 : Int32))), .val (.int (0 : Int32)), .val (.ref u4), .unset] [])) rfl (hb hby at_131)
              have R46 : Rch p e below (s₁.setTop (entryFrame m #[(.int q0), (.int q1)] maxLocals)) T43 (mkF m 190 #[.val (.int q0), .val (.int q1), .val (.int ((q0 &&& (2147483647 : Int32)) % (7 : Int32))), .val (.int (0 : Int32)), .val (.ref u4), .val (.ref s2)] [(.int (0 : Int32)), (.ref u4)]) := fun t k => by
                refine R44 t ?_
                refine st43 _ ?_
                show Steps p.tables e below (T43.setTop (mkF m 134 #[.val (.int q0), .val (.int q1), .val (.int ((q0 &&& (2147483647 : Int32)) % (7 : Int32))), .val (.int (0 : Int32)), .val (.ref u4), .unset] [(.ref s2)])) t
                refine XS.astore X43.here hx rfl (hb hby at_134) rfl rfl (l' := #[.val (.int q0), .val (.int q1), .val (.int ((q0 &&& (2147483647 : Int32)) % (7 : Int32))), .val (.int (0 : Int32)), .val (.ref u4), .val (.ref s2)]) rfl ?_
                show Steps p.tables e below (T43.setTop (mkF m 136 #[.val (.int q0), .val (.int q1), .val (.int ((q0 &&& (2147483647 : Int32)) % (7 : Int32))), .val (.int (0 : Int32)), .val (.ref u4), .val (.ref s2)] [])) t
                refine XS.goto X43.here hx rfl (pc0 := 136) (pc' := 187) rfl (hb hby at_136) (by decide) (by decide) ?_
                show Steps p.tables e below (T43.setTop (mkF m 187 #[.val (.int q0), .val (.int q1), .val (.int ((q0 &&& (2147483647 : Int32)) % (7 : Int32))), .val (.int (0 : Int32)), .val (.ref u4), .val (.ref s2)] [])) t
                refine XS.aload X43.here hx rfl (hb hby at_187) rfl rfl ?_
                show Steps p.tables e below (T43.setTop (mkF m 189 #[.val (.int q0), .val (.int q1), .val (.int ((q0 &&& (2147483647 : Int32)) % (7 : Int32))), .val (.int (0 : Int32)), .val (.ref u4), .val (.ref s2)] [(.ref u4)])) t
                refine XS.iloadN X43.here hx rfl (hb hby at_189) rfl ?_
                exact k
              obtain ⟨cq45, kq45, q45a, q45b, q45c⟩ := isOf hZ e43 pE_u4
              obtain ⟨_, _, ⟨T45, L45, k45, n45⟩, -, X45, ⟨Lc45, hQ45, l45, y45, z45⟩, st45⟩ := X43.virtualBack hx (y := (⟨"com/example/lean_tx/leantx/Propagation", "step", "(Z)Lcom/example/lean_tx/leantx/Propagation$Step;"⟩ : MethodName)) (z := (⟨"com/example/lean_tx/leantx/Propagation", "step", "(Z)Lcom/example/lean_tx/leantx/Propagation$Step;"⟩ : MethodName)) hown (mvT hZ (hw _ (List.mem_of_getElem? (i := 7) rfl))) (mvT hZ (hw _ (List.mem_of_getElem? (i := 8) rfl))) (notFace_of_selects (args := #[]) (mvT hZ (hw _ (List.mem_of_getElem? (i := 10) rfl)))) (mvT hZ (hw _ (List.mem_of_getElem? (i := 10) rfl))) (mvT hZ (hw _ (List.mem_of_getElem? (i := 9) rfl))) (by decide) (backOf (W := 0) (rm1 l Z a0 hw [] u4 (0 : Int32) s2 s2 h0 n0 (Nat.le_trans Z0 K0.1) pW_u4 pO_u4) hZ (hw _ (List.mem_of_getElem? (i := 11) rfl)) (hw _ (List.mem_of_getElem? (i := 2) rfl)) (by decide) (by decide)) q45a q45c (g := (mkF m 190 #[.val (.int q0), .val (.int q1), .val (.int ((q0 &&& (2147483647 : Int32)) % (7 : Int32))), .val (.int (0 : Int32)), .val (.ref u4), .val (.ref s2)] [(.int (0 : Int32)), (.ref u4)])) rfl (by rw [hml]; rfl) (Steps.refl _) (argsL := [(.int (0 : Int32))]) (rest := []) (lenOf pd_0 rfl) rfl (by show 2 * 0 + _ ≤ _; exact Nat.le_of_eq rfl) (hb hby at_190) (fun _ _ => ⟨rfl, e43, (by decide : 0 + 0 ≤ _), (by decide : 0 + 0 ≤ _)⟩)
              dsimp only [Pt.U, Pt.locs, Pt.cells, Pt.slots] at X45 l45 y45 z45 st45 hQ45
              subst l45 y45 z45
              obtain ⟨rfl, N45q, e45⟩ := hQ45
              have N45 := Fr.app N0 N45q
              have hp45 : own_step (0 : Int32) s2 s2 = s2 := by simp [own_step]
              rw [hp45] at st45
              have R47 : Rch p e below (s₁.setTop (entryFrame m #[(.int q0), (.int q1)] maxLocals)) T45 (mkF m 203 #[.val (.int q0), .val (.int q1), .val (.int ((q0 &&& (2147483647 : Int32)) % (7 : Int32))), .val (.int (0 : Int32)), .val (.ref u4), .val (.ref s2)] [(.int (1 : Int32))]) := fun t k => by
                refine R46 t ?_
                refine st45.trans ?_
                show Steps p.tables e below (T45.setTop (mkF m 193 #[.val (.int q0), .val (.int q1), .val (.int ((q0 &&& (2147483647 : Int32)) % (7 : Int32))), .val (.int (0 : Int32)), .val (.ref u4), .val (.ref s2)] [(.ref s2)])) t
                refine XS.aload X45.here hx rfl (hb hby at_193) rfl rfl ?_
                show Steps p.tables e below (T45.setTop (mkF m 195 #[.val (.int q0), .val (.int q1), .val (.int ((q0 &&& (2147483647 : Int32)) % (7 : Int32))), .val (.int (0 : Int32)), .val (.ref u4), .val (.ref s2)] [(.ref s2), (.ref s2)])) t
                refine Jvm.RoadKit.acmp (g := (mkF m 195 #[.val (.int q0), .val (.int q1), .val (.int ((q0 &&& (2147483647 : Int32)) % (7 : Int32))), .val (.int (0 : Int32)), .val (.ref u4), .val (.ref s2)] [(.ref s2), (.ref s2)])) X45 hx rfl rfl rfl (pc0 := 195) (pc' := 198) (same := true) rfl (hb hby at_195) rfl (decide_eq_true rfl) (by decide) (by decide) ?_
                show Steps p.tables e below (T45.setTop (mkF m 198 #[.val (.int q0), .val (.int q1), .val (.int ((q0 &&& (2147483647 : Int32)) % (7 : Int32))), .val (.int (0 : Int32)), .val (.ref u4), .val (.ref s2)] [])) t
                refine XS.iconst X45.here hx rfl (hb hby at_198) ?_
                show Steps p.tables e below (T45.setTop (mkF m 199 #[.val (.int q0), .val (.int q1), .val (.int ((q0 &&& (2147483647 : Int32)) % (7 : Int32))), .val (.int (0 : Int32)), .val (.ref u4), .val (.ref s2)] [(.int (1 : Int32))])) t
                refine XS.goto X45.here hx rfl (pc0 := 199) (pc' := 203) rfl (hb hby at_199) (by decide) (by decide) ?_
                exact k
              obtain ⟨fs, hr, hrun, hended, hW, hsame⟩ := X45.leave (v := some (.int (1 : Int32))) (fun h => by rw [Bd.returns] at h; cases h)
              refine ⟨_, _, R47 _ ?_, hrun, hended, _, _, rfl, ?_, ⟨_, rfl⟩, hW, hsame.mono (by decide) (by decide)⟩
              · exact retN X45 hx (t := .boolean) Bd.returns (by simp) (hb hby at_203) hr
              · show Q_rm0 Z q0 q1 u0 u1 u2 u3 u4 u5 u6 s0 s1 s2 s3 s4 h0 n0 _ T45.heap _
                rw [e45]
                exact ⟨rfl, N45, rfl⟩
            · have R49 : Rch p e below (s₁.setTop (entryFrame m #[(.int q0), (.int q1)] maxLocals)) s₁ (mkF m 141 #[.val (.int q0), .val (.int q1), .val (.int ((q0 &&& (2147483647 : Int32)) % (7 : Int32))), .val (.int (0 : Int32)), .unset, .unset] [(.int (5 : Int32)), (.int ((q0 &&& (2147483647 : Int32)) % (7 : Int32)))]) := fun t k => by
                refine R40 t ?_
                refine XS.icmpYes X0.here hx rfl (pc0 := 123) (pc' := 139) rfl (hb hby at_123) rfl (feq hc123_39).2 (by decide) (by decide) ?_
                show Steps p.tables e below (s₁.setTop (mkF m 139 #[.val (.int q0), .val (.int q1), .val (.int ((q0 &&& (2147483647 : Int32)) % (7 : Int32))), .val (.int (0 : Int32)), .unset, .unset] [])) t
                refine XS.iloadN X0.here hx rfl (hb hby at_139) rfl ?_
                show Steps p.tables e below (s₁.setTop (mkF m 140 #[.val (.int q0), .val (.int q1), .val (.int ((q0 &&& (2147483647 : Int32)) % (7 : Int32))), .val (.int (0 : Int32)), .unset, .unset] [(.int ((q0 &&& (2147483647 : Int32)) % (7 : Int32)))])) t
                refine XS.iconst X0.here hx rfl (hb hby at_140) ?_
                exact k
              by_cases hc141_48 : ((q0 &&& (2147483647 : Int32)) % (7 : Int32)) = (5 : Int32)
              · have R51 : Rch p e below (s₁.setTop (entryFrame m #[(.int q0), (.int q1)] maxLocals)) s₁ (mkF m 144 #[.val (.int q0), .val (.int q1), .val (.int ((q0 &&& (2147483647 : Int32)) % (7 : Int32))), .val (.int (0 : Int32)), .unset, .unset] []) := fun t k => by
                  refine R49 t ?_
                  refine XS.icmpNo X0.here hx rfl (hb hby at_141) rfl (teq hc141_48).2 ?_
                  exact k
                obtain ⟨T50, X50, e50, st50⟩ := getS2 X0 hx hZ hown (host := "") (Or.inl (hw _ (List.mem_of_getElem? (i := 28) rfl))) Via.refl e0 pS_u5 (g := (mkF m 144 #[.val (.int q0), .val (.int q1), .val (.int ((q0 &&& (2147483647 : Int32)) % (7 : Int32))), .val (.int (0 : Int32)), .unset, .unset] [])) rfl (hb hby at_144)
                have R53 : Rch p e below (s₁.setTop (entryFrame m #[(.int q0), (.int q1)] maxLocals)) T50 (mkF m 159 #[.val (.int q0), .val (.int q1), .val (.int ((q0 &&& (2147483647 : Int32)) % (7 : Int32))), .val (.int (0 : Int32)), .val (.ref u5), .unset] []) := fun t k => by
                  refine R51 t ?_
                  refine st50 _ ?_
                  show Steps p.tables e below (T50.setTop (mkF m 147 #[.val (.int q0), .val (.int q1), .val (.int ((q0 &&& (2147483647 : Int32)) % (7 : Int32))), .val (.int (0 : Int32)), .unset, .unset] [(.ref u5)])) t
                  refine XS.astore X50.here hx rfl (hb hby at_147) rfl rfl (l' := #[.val (.int q0), .val (.int q1), .val (.int ((q0 &&& (2147483647 : Int32)) % (7 : Int32))), .val (.int (0 : Int32)), .val (.ref u5), .unset]) rfl ?_
                  show Steps p.tables e below (T50.setTop (mkF m 149 #[.val (.int q0), .val (.int q1), .val (.int ((q0 &&& (2147483647 : Int32)) % (7 : Int32))), .val (.int (0 : Int32)), .val (.ref u5), .unset] [])) t
                  refine XS.iloadN X50.here hx rfl (hb hby at_149) rfl ?_
                  show Steps p.tables e below (T50.setTop (mkF m 150 #[.val (.int q0), .val (.int q1), .val (.int ((q0 &&& (2147483647 : Int32)) % (7 : Int32))), .val (.int (0 : Int32)), .val (.ref u5), .unset] [(.int (0 : Int32))])) t
                  refine XS.ifYes X50.here hx rfl (pc0 := 150) (pc' := 159) rfl (hb hby at_150) rfl ((if0 _ _).trans (teq (by decide : (0 : Int32) = (0 : Int32))).1) (by decide) (by decide) ?_
                  exact k
                obtain ⟨T52, X52, e52, st52⟩ := getS2 X50 hx hZ hown (host := "") (Or.inl (hw _ (List.mem_of_getElem? (i := 20) rfl))) Via.refl e50 pS_s2 (g := (mkF m 159 #[.val (.int q0), .val (.int q1), .val (.int ((q0 &&& (2147483647 : Int32)) % (7 : Int32))), .val (.int (0 : Int32)), .val (.ref u5), .unset] [])) rfl (hb hby at_159)
                have R55 : Rch p e below (s₁.setTop (entryFrame m #[(.int q0), (.int q1)] maxLocals)) T52 (mkF m 190 #[.val (.int q0), .val (.int q1), .val (.int ((q0 &&& (2147483647 : Int32)) % (7 : Int32))), .val (.int (0 : Int32)), .val (.ref u5), .val (.ref s2)] [(.int (0 : Int32)), (.ref u5)]) := fun t k => by
                  refine R53 t ?_
                  refine st52 _ ?_
                  show Steps p.tables e below (T52.setTop (mkF m 162 #[.val (.int q0), .val (.int q1), .val (.int ((q0 &&& (2147483647 : Int32)) % (7 : Int32))), .val (.int (0 : Int32)), .val (.ref u5), .unset] [(.ref s2)])) t
                  refine XS.astore X52.here hx rfl (hb hby at_162) rfl rfl (l' := #[.val (.int q0), .val (.int q1), .val (.int ((q0 &&& (2147483647 : Int32)) % (7 : Int32))), .val (.int (0 : Int32)), .val (.ref u5), .val (.ref s2)]) rfl ?_
                  show Steps p.tables e below (T52.setTop (mkF m 164 #[.val (.int q0), .val (.int q1), .val (.int ((q0 &&& (2147483647 : Int32)) % (7 : Int32))), .val (.int (0 : Int32)), .val (.ref u5), .val (.ref s2)] [])) t
                  refine XS.goto X52.here hx rfl (pc0 := 164) (pc' := 187) rfl (hb hby at_164) (by decide) (by decide) ?_
                  show Steps p.tables e below (T52.setTop (mkF m 187 #[.val (.int q0), .val (.int q1), .val (.int ((q0 &&& (2147483647 : Int32)) % (7 : Int32))), .val (.int (0 : Int32)), .val (.ref u5), .val (.ref s2)] [])) t
                  refine XS.aload X52.here hx rfl (hb hby at_187) rfl rfl ?_
                  show Steps p.tables e below (T52.setTop (mkF m 189 #[.val (.int q0), .val (.int q1), .val (.int ((q0 &&& (2147483647 : Int32)) % (7 : Int32))), .val (.int (0 : Int32)), .val (.ref u5), .val (.ref s2)] [(.ref u5)])) t
                  refine XS.iloadN X52.here hx rfl (hb hby at_189) rfl ?_
                  exact k
                obtain ⟨cq54, kq54, q54a, q54b, q54c⟩ := isOf hZ e52 pE_u5
                obtain ⟨_, _, ⟨T54, L54, k54, n54⟩, -, X54, ⟨Lc54, hQ54, l54, y54, z54⟩, st54⟩ := X52.virtualBack hx (y := (⟨"com/example/lean_tx/leantx/Propagation", "step", "(Z)Lcom/example/lean_tx/leantx/Propagation$Step;"⟩ : MethodName)) (z := (⟨"com/example/lean_tx/leantx/Propagation", "step", "(Z)Lcom/example/lean_tx/leantx/Propagation$Step;"⟩ : MethodName)) hown (mvT hZ (hw _ (List.mem_of_getElem? (i := 7) rfl))) (mvT hZ (hw _ (List.mem_of_getElem? (i := 8) rfl))) (notFace_of_selects (args := #[]) (mvT hZ (hw _ (List.mem_of_getElem? (i := 10) rfl)))) (mvT hZ (hw _ (List.mem_of_getElem? (i := 10) rfl))) (mvT hZ (hw _ (List.mem_of_getElem? (i := 9) rfl))) (by decide) (backOf (W := 0) (rm1 l Z a0 hw [] u5 (0 : Int32) s3 s2 h0 n0 (Nat.le_trans Z0 K0.1) pW_u5 pO_u5) hZ (hw _ (List.mem_of_getElem? (i := 11) rfl)) (hw _ (List.mem_of_getElem? (i := 2) rfl)) (by decide) (by decide)) q54a q54c (g := (mkF m 190 #[.val (.int q0), .val (.int q1), .val (.int ((q0 &&& (2147483647 : Int32)) % (7 : Int32))), .val (.int (0 : Int32)), .val (.ref u5), .val (.ref s2)] [(.int (0 : Int32)), (.ref u5)])) rfl (by rw [hml]; rfl) (Steps.refl _) (argsL := [(.int (0 : Int32))]) (rest := []) (lenOf pd_0 rfl) rfl (by show 2 * 0 + _ ≤ _; exact Nat.le_of_eq rfl) (hb hby at_190) (fun _ _ => ⟨rfl, e52, (by decide : 0 + 0 ≤ _), (by decide : 0 + 0 ≤ _)⟩)
                dsimp only [Pt.U, Pt.locs, Pt.cells, Pt.slots] at X54 l54 y54 z54 st54 hQ54
                subst l54 y54 z54
                obtain ⟨rfl, N54q, e54⟩ := hQ54
                have N54 := Fr.app N0 N54q
                have hp54 : own_step (0 : Int32) s3 s2 = s2 := by simp [own_step]
                rw [hp54] at st54
                have R56 : Rch p e below (s₁.setTop (entryFrame m #[(.int q0), (.int q1)] maxLocals)) T54 (mkF m 203 #[.val (.int q0), .val (.int q1), .val (.int ((q0 &&& (2147483647 : Int32)) % (7 : Int32))), .val (.int (0 : Int32)), .val (.ref u5), .val (.ref s2)] [(.int (1 : Int32))]) := fun t k => by
                  refine R55 t ?_
                  refine st54.trans ?_
                  show Steps p.tables e below (T54.setTop (mkF m 193 #[.val (.int q0), .val (.int q1), .val (.int ((q0 &&& (2147483647 : Int32)) % (7 : Int32))), .val (.int (0 : Int32)), .val (.ref u5), .val (.ref s2)] [(.ref s2)])) t
                  refine XS.aload X54.here hx rfl (hb hby at_193) rfl rfl ?_
                  show Steps p.tables e below (T54.setTop (mkF m 195 #[.val (.int q0), .val (.int q1), .val (.int ((q0 &&& (2147483647 : Int32)) % (7 : Int32))), .val (.int (0 : Int32)), .val (.ref u5), .val (.ref s2)] [(.ref s2), (.ref s2)])) t
                  refine Jvm.RoadKit.acmp (g := (mkF m 195 #[.val (.int q0), .val (.int q1), .val (.int ((q0 &&& (2147483647 : Int32)) % (7 : Int32))), .val (.int (0 : Int32)), .val (.ref u5), .val (.ref s2)] [(.ref s2), (.ref s2)])) X54 hx rfl rfl rfl (pc0 := 195) (pc' := 198) (same := true) rfl (hb hby at_195) rfl (decide_eq_true rfl) (by decide) (by decide) ?_
                  show Steps p.tables e below (T54.setTop (mkF m 198 #[.val (.int q0), .val (.int q1), .val (.int ((q0 &&& (2147483647 : Int32)) % (7 : Int32))), .val (.int (0 : Int32)), .val (.ref u5), .val (.ref s2)] [])) t
                  refine XS.iconst X54.here hx rfl (hb hby at_198) ?_
                  show Steps p.tables e below (T54.setTop (mkF m 199 #[.val (.int q0), .val (.int q1), .val (.int ((q0 &&& (2147483647 : Int32)) % (7 : Int32))), .val (.int (0 : Int32)), .val (.ref u5), .val (.ref s2)] [(.int (1 : Int32))])) t
                  refine XS.goto X54.here hx rfl (pc0 := 199) (pc' := 203) rfl (hb hby at_199) (by decide) (by decide) ?_
                  exact k
                obtain ⟨fs, hr, hrun, hended, hW, hsame⟩ := X54.leave (v := some (.int (1 : Int32))) (fun h => by rw [Bd.returns] at h; cases h)
                refine ⟨_, _, R56 _ ?_, hrun, hended, _, _, rfl, ?_, ⟨_, rfl⟩, hW, hsame.mono (by decide) (by decide)⟩
                · exact retN X54 hx (t := .boolean) Bd.returns (by simp) (hb hby at_203) hr
                · show Q_rm0 Z q0 q1 u0 u1 u2 u3 u4 u5 u6 s0 s1 s2 s3 s4 h0 n0 _ T54.heap _
                  rw [e54]
                  exact ⟨rfl, N54, rfl⟩
              · have R58 : Rch p e below (s₁.setTop (entryFrame m #[(.int q0), (.int q1)] maxLocals)) s₁ (mkF m 167 #[.val (.int q0), .val (.int q1), .val (.int ((q0 &&& (2147483647 : Int32)) % (7 : Int32))), .val (.int (0 : Int32)), .unset, .unset] []) := fun t k => by
                  refine R49 t ?_
                  refine XS.icmpYes X0.here hx rfl (pc0 := 141) (pc' := 167) rfl (hb hby at_141) rfl (feq hc141_48).2 (by decide) (by decide) ?_
                  exact k
                obtain ⟨T57, X57, e57, st57⟩ := getS2 X0 hx hZ hown (host := "") (Or.inl (hw _ (List.mem_of_getElem? (i := 26) rfl))) Via.refl e0 pS_u6 (g := (mkF m 167 #[.val (.int q0), .val (.int q1), .val (.int ((q0 &&& (2147483647 : Int32)) % (7 : Int32))), .val (.int (0 : Int32)), .unset, .unset] [])) rfl (hb hby at_167)
                have R60 : Rch p e below (s₁.setTop (entryFrame m #[(.int q0), (.int q1)] maxLocals)) T57 (mkF m 182 #[.val (.int q0), .val (.int q1), .val (.int ((q0 &&& (2147483647 : Int32)) % (7 : Int32))), .val (.int (0 : Int32)), .val (.ref u6), .unset] []) := fun t k => by
                  refine R58 t ?_
                  refine st57 _ ?_
                  show Steps p.tables e below (T57.setTop (mkF m 170 #[.val (.int q0), .val (.int q1), .val (.int ((q0 &&& (2147483647 : Int32)) % (7 : Int32))), .val (.int (0 : Int32)), .unset, .unset] [(.ref u6)])) t
                  refine XS.astore X57.here hx rfl (hb hby at_170) rfl rfl (l' := #[.val (.int q0), .val (.int q1), .val (.int ((q0 &&& (2147483647 : Int32)) % (7 : Int32))), .val (.int (0 : Int32)), .val (.ref u6), .unset]) rfl ?_
                  show Steps p.tables e below (T57.setTop (mkF m 172 #[.val (.int q0), .val (.int q1), .val (.int ((q0 &&& (2147483647 : Int32)) % (7 : Int32))), .val (.int (0 : Int32)), .val (.ref u6), .unset] [])) t
                  refine XS.iloadN X57.here hx rfl (hb hby at_172) rfl ?_
                  show Steps p.tables e below (T57.setTop (mkF m 173 #[.val (.int q0), .val (.int q1), .val (.int ((q0 &&& (2147483647 : Int32)) % (7 : Int32))), .val (.int (0 : Int32)), .val (.ref u6), .unset] [(.int (0 : Int32))])) t
                  refine XS.ifYes X57.here hx rfl (pc0 := 173) (pc' := 182) rfl (hb hby at_173) rfl ((if0 _ _).trans (teq (by decide : (0 : Int32) = (0 : Int32))).1) (by decide) (by decide) ?_
                  exact k
                obtain ⟨T59, X59, e59, st59⟩ := getS2 X57 hx hZ hown (host := "") (Or.inl (hw _ (List.mem_of_getElem? (i := 16) rfl))) Via.refl e57 pS_s1 (g := (mkF m 182 #[.val (.int q0), .val (.int q1), .val (.int ((q0 &&& (2147483647 : Int32)) % (7 : Int32))), .val (.int (0 : Int32)), .val (.ref u6), .unset] [])) rfl (hb hby at_182)
                have R62 : Rch p e below (s₁.setTop (entryFrame m #[(.int q0), (.int q1)] maxLocals)) T59 (mkF m 190 #[.val (.int q0), .val (.int q1), .val (.int ((q0 &&& (2147483647 : Int32)) % (7 : Int32))), .val (.int (0 : Int32)), .val (.ref u6), .val (.ref s1)] [(.int (0 : Int32)), (.ref u6)]) := fun t k => by
                  refine R60 t ?_
                  refine st59 _ ?_
                  show Steps p.tables e below (T59.setTop (mkF m 185 #[.val (.int q0), .val (.int q1), .val (.int ((q0 &&& (2147483647 : Int32)) % (7 : Int32))), .val (.int (0 : Int32)), .val (.ref u6), .unset] [(.ref s1)])) t
                  refine XS.astore X59.here hx rfl (hb hby at_185) rfl rfl (l' := #[.val (.int q0), .val (.int q1), .val (.int ((q0 &&& (2147483647 : Int32)) % (7 : Int32))), .val (.int (0 : Int32)), .val (.ref u6), .val (.ref s1)]) rfl ?_
                  show Steps p.tables e below (T59.setTop (mkF m 187 #[.val (.int q0), .val (.int q1), .val (.int ((q0 &&& (2147483647 : Int32)) % (7 : Int32))), .val (.int (0 : Int32)), .val (.ref u6), .val (.ref s1)] [])) t
                  refine XS.aload X59.here hx rfl (hb hby at_187) rfl rfl ?_
                  show Steps p.tables e below (T59.setTop (mkF m 189 #[.val (.int q0), .val (.int q1), .val (.int ((q0 &&& (2147483647 : Int32)) % (7 : Int32))), .val (.int (0 : Int32)), .val (.ref u6), .val (.ref s1)] [(.ref u6)])) t
                  refine XS.iloadN X59.here hx rfl (hb hby at_189) rfl ?_
                  exact k
                obtain ⟨cq61, kq61, q61a, q61b, q61c⟩ := isOf hZ e59 pE_u6
                obtain ⟨_, _, ⟨T61, L61, k61, n61⟩, -, X61, ⟨Lc61, hQ61, l61, y61, z61⟩, st61⟩ := X59.virtualBack hx (y := (⟨"com/example/lean_tx/leantx/Propagation", "step", "(Z)Lcom/example/lean_tx/leantx/Propagation$Step;"⟩ : MethodName)) (z := (⟨"com/example/lean_tx/leantx/Propagation", "step", "(Z)Lcom/example/lean_tx/leantx/Propagation$Step;"⟩ : MethodName)) hown (mvT hZ (hw _ (List.mem_of_getElem? (i := 7) rfl))) (mvT hZ (hw _ (List.mem_of_getElem? (i := 8) rfl))) (notFace_of_selects (args := #[]) (mvT hZ (hw _ (List.mem_of_getElem? (i := 10) rfl)))) (mvT hZ (hw _ (List.mem_of_getElem? (i := 10) rfl))) (mvT hZ (hw _ (List.mem_of_getElem? (i := 9) rfl))) (by decide) (backOf (W := 0) (rm1 l Z a0 hw [] u6 (0 : Int32) s4 s1 h0 n0 (Nat.le_trans Z0 K0.1) pW_u6 pO_u6) hZ (hw _ (List.mem_of_getElem? (i := 11) rfl)) (hw _ (List.mem_of_getElem? (i := 2) rfl)) (by decide) (by decide)) q61a q61c (g := (mkF m 190 #[.val (.int q0), .val (.int q1), .val (.int ((q0 &&& (2147483647 : Int32)) % (7 : Int32))), .val (.int (0 : Int32)), .val (.ref u6), .val (.ref s1)] [(.int (0 : Int32)), (.ref u6)])) rfl (by rw [hml]; rfl) (Steps.refl _) (argsL := [(.int (0 : Int32))]) (rest := []) (lenOf pd_0 rfl) rfl (by show 2 * 0 + _ ≤ _; exact Nat.le_of_eq rfl) (hb hby at_190) (fun _ _ => ⟨rfl, e59, (by decide : 0 + 0 ≤ _), (by decide : 0 + 0 ≤ _)⟩)
                dsimp only [Pt.U, Pt.locs, Pt.cells, Pt.slots] at X61 l61 y61 z61 st61 hQ61
                subst l61 y61 z61
                obtain ⟨rfl, N61q, e61⟩ := hQ61
                have N61 := Fr.app N0 N61q
                have hp61 : own_step (0 : Int32) s4 s1 = s1 := by simp [own_step]
                rw [hp61] at st61
                have R63 : Rch p e below (s₁.setTop (entryFrame m #[(.int q0), (.int q1)] maxLocals)) T61 (mkF m 203 #[.val (.int q0), .val (.int q1), .val (.int ((q0 &&& (2147483647 : Int32)) % (7 : Int32))), .val (.int (0 : Int32)), .val (.ref u6), .val (.ref s1)] [(.int (1 : Int32))]) := fun t k => by
                  refine R62 t ?_
                  refine st61.trans ?_
                  show Steps p.tables e below (T61.setTop (mkF m 193 #[.val (.int q0), .val (.int q1), .val (.int ((q0 &&& (2147483647 : Int32)) % (7 : Int32))), .val (.int (0 : Int32)), .val (.ref u6), .val (.ref s1)] [(.ref s1)])) t
                  refine XS.aload X61.here hx rfl (hb hby at_193) rfl rfl ?_
                  show Steps p.tables e below (T61.setTop (mkF m 195 #[.val (.int q0), .val (.int q1), .val (.int ((q0 &&& (2147483647 : Int32)) % (7 : Int32))), .val (.int (0 : Int32)), .val (.ref u6), .val (.ref s1)] [(.ref s1), (.ref s1)])) t
                  refine Jvm.RoadKit.acmp (g := (mkF m 195 #[.val (.int q0), .val (.int q1), .val (.int ((q0 &&& (2147483647 : Int32)) % (7 : Int32))), .val (.int (0 : Int32)), .val (.ref u6), .val (.ref s1)] [(.ref s1), (.ref s1)])) X61 hx rfl rfl rfl (pc0 := 195) (pc' := 198) (same := true) rfl (hb hby at_195) rfl (decide_eq_true rfl) (by decide) (by decide) ?_
                  show Steps p.tables e below (T61.setTop (mkF m 198 #[.val (.int q0), .val (.int q1), .val (.int ((q0 &&& (2147483647 : Int32)) % (7 : Int32))), .val (.int (0 : Int32)), .val (.ref u6), .val (.ref s1)] [])) t
                  refine XS.iconst X61.here hx rfl (hb hby at_198) ?_
                  show Steps p.tables e below (T61.setTop (mkF m 199 #[.val (.int q0), .val (.int q1), .val (.int ((q0 &&& (2147483647 : Int32)) % (7 : Int32))), .val (.int (0 : Int32)), .val (.ref u6), .val (.ref s1)] [(.int (1 : Int32))])) t
                  refine XS.goto X61.here hx rfl (pc0 := 199) (pc' := 203) rfl (hb hby at_199) (by decide) (by decide) ?_
                  exact k
                obtain ⟨fs, hr, hrun, hended, hW, hsame⟩ := X61.leave (v := some (.int (1 : Int32))) (fun h => by rw [Bd.returns] at h; cases h)
                refine ⟨_, _, R63 _ ?_, hrun, hended, _, _, rfl, ?_, ⟨_, rfl⟩, hW, hsame.mono (by decide) (by decide)⟩
                · exact retN X61 hx (t := .boolean) Bd.returns (by simp) (hb hby at_203) hr
                · show Q_rm0 Z q0 q1 u0 u1 u2 u3 u4 u5 u6 s0 s1 s2 s3 s4 h0 n0 _ T61.heap _
                  rw [e61]
                  exact ⟨rfl, N61, rfl⟩
  · have R65 : Rch p e below (s₁.setTop (entryFrame m #[(.int q0), (.int q1)] maxLocals)) s₁ (mkF m 21 #[.val (.int q0), .val (.int q1), .val (.int ((q0 &&& (2147483647 : Int32)) % (7 : Int32))), .val (.int (1 : Int32)), .unset, .unset] [(.int ((q0 &&& (2147483647 : Int32)) % (7 : Int32)))]) := fun t k => by
      refine R2 t ?_
      refine XS.ifNo X0.here hx rfl (hb hby at_11) rfl ((if0 _ _).trans (feq hc11_1).1) ?_
      show Steps p.tables e below (s₁.setTop (mkF m 14 #[.val (.int q0), .val (.int q1), .val (.int ((q0 &&& (2147483647 : Int32)) % (7 : Int32))), .unset, .unset, .unset] [])) t
      refine XS.iconst X0.here hx rfl (hb hby at_14) ?_
      show Steps p.tables e below (s₁.setTop (mkF m 15 #[.val (.int q0), .val (.int q1), .val (.int ((q0 &&& (2147483647 : Int32)) % (7 : Int32))), .unset, .unset, .unset] [(.int (1 : Int32))])) t
      refine XS.goto X0.here hx rfl (pc0 := 15) (pc' := 19) rfl (hb hby at_15) (by decide) (by decide) ?_
      show Steps p.tables e below (s₁.setTop (mkF m 19 #[.val (.int q0), .val (.int q1), .val (.int ((q0 &&& (2147483647 : Int32)) % (7 : Int32))), .unset, .unset, .unset] [(.int (1 : Int32))])) t
      refine XS.istoreN X0.here hx rfl (hb hby at_19) rfl (l' := #[.val (.int q0), .val (.int q1), .val (.int ((q0 &&& (2147483647 : Int32)) % (7 : Int32))), .val (.int (1 : Int32)), .unset, .unset]) rfl ?_
      show Steps p.tables e below (s₁.setTop (mkF m 20 #[.val (.int q0), .val (.int q1), .val (.int ((q0 &&& (2147483647 : Int32)) % (7 : Int32))), .val (.int (1 : Int32)), .unset, .unset] [])) t
      refine XS.iloadN X0.here hx rfl (hb hby at_20) rfl ?_
      exact k
    by_cases hc21_64 : ((q0 &&& (2147483647 : Int32)) % (7 : Int32)) = (0 : Int32)
    · have R67 : Rch p e below (s₁.setTop (entryFrame m #[(.int q0), (.int q1)] maxLocals)) s₁ (mkF m 24 #[.val (.int q0), .val (.int q1), .val (.int ((q0 &&& (2147483647 : Int32)) % (7 : Int32))), .val (.int (1 : Int32)), .unset, .unset] []) := fun t k => by
        refine R65 t ?_
        refine XS.ifNo X0.here hx rfl (hb hby at_21) rfl ((if0 _ _).trans (teq hc21_64).2) ?_
        exact k
      obtain ⟨T66, X66, e66, st66⟩ := getS2 X0 hx hZ hown (host := "") (Or.inl (hw _ (List.mem_of_getElem? (i := 1) rfl))) Via.refl e0 pS_u0 (g := (mkF m 24 #[.val (.int q0), .val (.int q1), .val (.int ((q0 &&& (2147483647 : Int32)) % (7 : Int32))), .val (.int (1 : Int32)), .unset, .unset] [])) rfl (hb hby at_24)
      have R69 : Rch p e below (s₁.setTop (entryFrame m #[(.int q0), (.int q1)] maxLocals)) T66 (mkF m 33 #[.val (.int q0), .val (.int q1), .val (.int ((q0 &&& (2147483647 : Int32)) % (7 : Int32))), .val (.int (1 : Int32)), .val (.ref u0), .unset] []) := fun t k => by
        refine R67 t ?_
        refine st66 _ ?_
        show Steps p.tables e below (T66.setTop (mkF m 27 #[.val (.int q0), .val (.int q1), .val (.int ((q0 &&& (2147483647 : Int32)) % (7 : Int32))), .val (.int (1 : Int32)), .unset, .unset] [(.ref u0)])) t
        refine XS.astore X66.here hx rfl (hb hby at_27) rfl rfl (l' := #[.val (.int q0), .val (.int q1), .val (.int ((q0 &&& (2147483647 : Int32)) % (7 : Int32))), .val (.int (1 : Int32)), .val (.ref u0), .unset]) rfl ?_
        show Steps p.tables e below (T66.setTop (mkF m 29 #[.val (.int q0), .val (.int q1), .val (.int ((q0 &&& (2147483647 : Int32)) % (7 : Int32))), .val (.int (1 : Int32)), .val (.ref u0), .unset] [])) t
        refine XS.iloadN X66.here hx rfl (hb hby at_29) rfl ?_
        show Steps p.tables e below (T66.setTop (mkF m 30 #[.val (.int q0), .val (.int q1), .val (.int ((q0 &&& (2147483647 : Int32)) % (7 : Int32))), .val (.int (1 : Int32)), .val (.ref u0), .unset] [(.int (1 : Int32))])) t
        refine XS.ifNo X66.here hx rfl (hb hby at_30) rfl ((if0 _ _).trans (feq (by decide : ¬ ((1 : Int32) = (0 : Int32)))).1) ?_
        exact k
      obtain ⟨T68, X68, e68, st68⟩ := getS2 X66 hx hZ hown (host := "") (Or.inl (hw _ (List.mem_of_getElem? (i := 4) rfl))) Via.refl e66 pS_s0 (g := (mkF m 33 #[.val (.int q0), .val (.int q1), .val (.int ((q0 &&& (2147483647 : Int32)) % (7 : Int32))), .val (.int (1 : Int32)), .val (.ref u0), .unset] [])) rfl (hb hby at_33)
      have R71 : Rch p e below (s₁.setTop (entryFrame m #[(.int q0), (.int q1)] maxLocals)) T68 (mkF m 190 #[.val (.int q0), .val (.int q1), .val (.int ((q0 &&& (2147483647 : Int32)) % (7 : Int32))), .val (.int (1 : Int32)), .val (.ref u0), .val (.ref s0)] [(.int (1 : Int32)), (.ref u0)]) := fun t k => by
        refine R69 t ?_
        refine st68 _ ?_
        show Steps p.tables e below (T68.setTop (mkF m 36 #[.val (.int q0), .val (.int q1), .val (.int ((q0 &&& (2147483647 : Int32)) % (7 : Int32))), .val (.int (1 : Int32)), .val (.ref u0), .unset] [(.ref s0)])) t
        refine XS.goto X68.here hx rfl (pc0 := 36) (pc' := 42) rfl (hb hby at_36) (by decide) (by decide) ?_
        show Steps p.tables e below (T68.setTop (mkF m 42 #[.val (.int q0), .val (.int q1), .val (.int ((q0 &&& (2147483647 : Int32)) % (7 : Int32))), .val (.int (1 : Int32)), .val (.ref u0), .unset] [(.ref s0)])) t
        refine XS.astore X68.here hx rfl (hb hby at_42) rfl rfl (l' := #[.val (.int q0), .val (.int q1), .val (.int ((q0 &&& (2147483647 : Int32)) % (7 : Int32))), .val (.int (1 : Int32)), .val (.ref u0), .val (.ref s0)]) rfl ?_
        show Steps p.tables e below (T68.setTop (mkF m 44 #[.val (.int q0), .val (.int q1), .val (.int ((q0 &&& (2147483647 : Int32)) % (7 : Int32))), .val (.int (1 : Int32)), .val (.ref u0), .val (.ref s0)] [])) t
        refine XS.goto X68.here hx rfl (pc0 := 44) (pc' := 187) rfl (hb hby at_44) (by decide) (by decide) ?_
        show Steps p.tables e below (T68.setTop (mkF m 187 #[.val (.int q0), .val (.int q1), .val (.int ((q0 &&& (2147483647 : Int32)) % (7 : Int32))), .val (.int (1 : Int32)), .val (.ref u0), .val (.ref s0)] [])) t
        refine XS.aload X68.here hx rfl (hb hby at_187) rfl rfl ?_
        show Steps p.tables e below (T68.setTop (mkF m 189 #[.val (.int q0), .val (.int q1), .val (.int ((q0 &&& (2147483647 : Int32)) % (7 : Int32))), .val (.int (1 : Int32)), .val (.ref u0), .val (.ref s0)] [(.ref u0)])) t
        refine XS.iloadN X68.here hx rfl (hb hby at_189) rfl ?_
        exact k
      obtain ⟨cq70, kq70, q70a, q70b, q70c⟩ := isOf hZ e68 pE_u0
      obtain ⟨_, _, ⟨T70, L70, k70, n70⟩, -, X70, ⟨Lc70, hQ70, l70, y70, z70⟩, st70⟩ := X68.virtualBack hx (y := (⟨"com/example/lean_tx/leantx/Propagation", "step", "(Z)Lcom/example/lean_tx/leantx/Propagation$Step;"⟩ : MethodName)) (z := (⟨"com/example/lean_tx/leantx/Propagation", "step", "(Z)Lcom/example/lean_tx/leantx/Propagation$Step;"⟩ : MethodName)) hown (mvT hZ (hw _ (List.mem_of_getElem? (i := 7) rfl))) (mvT hZ (hw _ (List.mem_of_getElem? (i := 8) rfl))) (notFace_of_selects (args := #[]) (mvT hZ (hw _ (List.mem_of_getElem? (i := 10) rfl)))) (mvT hZ (hw _ (List.mem_of_getElem? (i := 10) rfl))) (mvT hZ (hw _ (List.mem_of_getElem? (i := 9) rfl))) (by decide) (backOf (W := 0) (rm1 l Z a0 hw [] u0 (1 : Int32) s0 s1 h0 n0 (Nat.le_trans Z0 K0.1) pW_u0 pO_u0) hZ (hw _ (List.mem_of_getElem? (i := 11) rfl)) (hw _ (List.mem_of_getElem? (i := 2) rfl)) (by decide) (by decide)) q70a q70c (g := (mkF m 190 #[.val (.int q0), .val (.int q1), .val (.int ((q0 &&& (2147483647 : Int32)) % (7 : Int32))), .val (.int (1 : Int32)), .val (.ref u0), .val (.ref s0)] [(.int (1 : Int32)), (.ref u0)])) rfl (by rw [hml]; rfl) (Steps.refl _) (argsL := [(.int (1 : Int32))]) (rest := []) (lenOf pd_0 rfl) rfl (by show 2 * 0 + _ ≤ _; exact Nat.le_of_eq rfl) (hb hby at_190) (fun _ _ => ⟨rfl, e68, (by decide : 0 + 0 ≤ _), (by decide : 0 + 0 ≤ _)⟩)
      dsimp only [Pt.U, Pt.locs, Pt.cells, Pt.slots] at X70 l70 y70 z70 st70 hQ70
      subst l70 y70 z70
      obtain ⟨rfl, N70q, e70⟩ := hQ70
      have N70 := Fr.app N0 N70q
      have hp70 : own_step (1 : Int32) s0 s1 = s0 := by simp [own_step]
      rw [hp70] at st70
      have R72 : Rch p e below (s₁.setTop (entryFrame m #[(.int q0), (.int q1)] maxLocals)) T70 (mkF m 203 #[.val (.int q0), .val (.int q1), .val (.int ((q0 &&& (2147483647 : Int32)) % (7 : Int32))), .val (.int (1 : Int32)), .val (.ref u0), .val (.ref s0)] [(.int (1 : Int32))]) := fun t k => by
        refine R71 t ?_
        refine st70.trans ?_
        show Steps p.tables e below (T70.setTop (mkF m 193 #[.val (.int q0), .val (.int q1), .val (.int ((q0 &&& (2147483647 : Int32)) % (7 : Int32))), .val (.int (1 : Int32)), .val (.ref u0), .val (.ref s0)] [(.ref s0)])) t
        refine XS.aload X70.here hx rfl (hb hby at_193) rfl rfl ?_
        show Steps p.tables e below (T70.setTop (mkF m 195 #[.val (.int q0), .val (.int q1), .val (.int ((q0 &&& (2147483647 : Int32)) % (7 : Int32))), .val (.int (1 : Int32)), .val (.ref u0), .val (.ref s0)] [(.ref s0), (.ref s0)])) t
        refine Jvm.RoadKit.acmp (g := (mkF m 195 #[.val (.int q0), .val (.int q1), .val (.int ((q0 &&& (2147483647 : Int32)) % (7 : Int32))), .val (.int (1 : Int32)), .val (.ref u0), .val (.ref s0)] [(.ref s0), (.ref s0)])) X70 hx rfl rfl rfl (pc0 := 195) (pc' := 198) (same := true) rfl (hb hby at_195) rfl (decide_eq_true rfl) (by decide) (by decide) ?_
        show Steps p.tables e below (T70.setTop (mkF m 198 #[.val (.int q0), .val (.int q1), .val (.int ((q0 &&& (2147483647 : Int32)) % (7 : Int32))), .val (.int (1 : Int32)), .val (.ref u0), .val (.ref s0)] [])) t
        refine XS.iconst X70.here hx rfl (hb hby at_198) ?_
        show Steps p.tables e below (T70.setTop (mkF m 199 #[.val (.int q0), .val (.int q1), .val (.int ((q0 &&& (2147483647 : Int32)) % (7 : Int32))), .val (.int (1 : Int32)), .val (.ref u0), .val (.ref s0)] [(.int (1 : Int32))])) t
        refine XS.goto X70.here hx rfl (pc0 := 199) (pc' := 203) rfl (hb hby at_199) (by decide) (by decide) ?_
        exact k
      obtain ⟨fs, hr, hrun, hended, hW, hsame⟩ := X70.leave (v := some (.int (1 : Int32))) (fun h => by rw [Bd.returns] at h; cases h)
      refine ⟨_, _, R72 _ ?_, hrun, hended, _, _, rfl, ?_, ⟨_, rfl⟩, hW, hsame.mono (by decide) (by decide)⟩
      · exact retN X70 hx (t := .boolean) Bd.returns (by simp) (hb hby at_203) hr
      · show Q_rm0 Z q0 q1 u0 u1 u2 u3 u4 u5 u6 s0 s1 s2 s3 s4 h0 n0 _ T70.heap _
        rw [e70]
        exact ⟨rfl, N70, rfl⟩
    · have R74 : Rch p e below (s₁.setTop (entryFrame m #[(.int q0), (.int q1)] maxLocals)) s₁ (mkF m 49 #[.val (.int q0), .val (.int q1), .val (.int ((q0 &&& (2147483647 : Int32)) % (7 : Int32))), .val (.int (1 : Int32)), .unset, .unset] [(.int (1 : Int32)), (.int ((q0 &&& (2147483647 : Int32)) % (7 : Int32)))]) := fun t k => by
        refine R65 t ?_
        refine XS.ifYes X0.here hx rfl (pc0 := 21) (pc' := 47) rfl (hb hby at_21) rfl ((if0 _ _).trans (feq hc21_64).2) (by decide) (by decide) ?_
        show Steps p.tables e below (s₁.setTop (mkF m 47 #[.val (.int q0), .val (.int q1), .val (.int ((q0 &&& (2147483647 : Int32)) % (7 : Int32))), .val (.int (1 : Int32)), .unset, .unset] [])) t
        refine XS.iloadN X0.here hx rfl (hb hby at_47) rfl ?_
        show Steps p.tables e below (s₁.setTop (mkF m 48 #[.val (.int q0), .val (.int q1), .val (.int ((q0 &&& (2147483647 : Int32)) % (7 : Int32))), .val (.int (1 : Int32)), .unset, .unset] [(.int ((q0 &&& (2147483647 : Int32)) % (7 : Int32)))])) t
        refine XS.iconst X0.here hx rfl (hb hby at_48) ?_
        exact k
      by_cases hc49_73 : ((q0 &&& (2147483647 : Int32)) % (7 : Int32)) = (1 : Int32)
      · have R76 : Rch p e below (s₁.setTop (entryFrame m #[(.int q0), (.int q1)] maxLocals)) s₁ (mkF m 52 #[.val (.int q0), .val (.int q1), .val (.int ((q0 &&& (2147483647 : Int32)) % (7 : Int32))), .val (.int (1 : Int32)), .unset, .unset] []) := fun t k => by
          refine R74 t ?_
          refine XS.icmpNo X0.here hx rfl (hb hby at_49) rfl (teq hc49_73).2 ?_
          exact k
        obtain ⟨T75, X75, e75, st75⟩ := getS2 X0 hx hZ hown (host := "") (Or.inl (hw _ (List.mem_of_getElem? (i := 18) rfl))) Via.refl e0 pS_u1 (g := (mkF m 52 #[.val (.int q0), .val (.int q1), .val (.int ((q0 &&& (2147483647 : Int32)) % (7 : Int32))), .val (.int (1 : Int32)), .unset, .unset] [])) rfl (hb hby at_52)
        have R78 : Rch p e below (s₁.setTop (entryFrame m #[(.int q0), (.int q1)] maxLocals)) T75 (mkF m 61 #[.val (.int q0), .val (.int q1), .val (.int ((q0 &&& (2147483647 : Int32)) % (7 : Int32))), .val (.int (1 : Int32)), .val (.ref u1), .unset] []) := fun t k => by
          refine R76 t ?_
          refine st75 _ ?_
          show Steps p.tables e below (T75.setTop (mkF m 55 #[.val (.int q0), .val (.int q1), .val (.int ((q0 &&& (2147483647 : Int32)) % (7 : Int32))), .val (.int (1 : Int32)), .unset, .unset] [(.ref u1)])) t
          refine XS.astore X75.here hx rfl (hb hby at_55) rfl rfl (l' := #[.val (.int q0), .val (.int q1), .val (.int ((q0 &&& (2147483647 : Int32)) % (7 : Int32))), .val (.int (1 : Int32)), .val (.ref u1), .unset]) rfl ?_
          show Steps p.tables e below (T75.setTop (mkF m 57 #[.val (.int q0), .val (.int q1), .val (.int ((q0 &&& (2147483647 : Int32)) % (7 : Int32))), .val (.int (1 : Int32)), .val (.ref u1), .unset] [])) t
          refine XS.iloadN X75.here hx rfl (hb hby at_57) rfl ?_
          show Steps p.tables e below (T75.setTop (mkF m 58 #[.val (.int q0), .val (.int q1), .val (.int ((q0 &&& (2147483647 : Int32)) % (7 : Int32))), .val (.int (1 : Int32)), .val (.ref u1), .unset] [(.int (1 : Int32))])) t
          refine XS.ifNo X75.here hx rfl (hb hby at_58) rfl ((if0 _ _).trans (feq (by decide : ¬ ((1 : Int32) = (0 : Int32)))).1) ?_
          exact k
        obtain ⟨T77, X77, e77, st77⟩ := getS2 X75 hx hZ hown (host := "") (Or.inl (hw _ (List.mem_of_getElem? (i := 4) rfl))) Via.refl e75 pS_s0 (g := (mkF m 61 #[.val (.int q0), .val (.int q1), .val (.int ((q0 &&& (2147483647 : Int32)) % (7 : Int32))), .val (.int (1 : Int32)), .val (.ref u1), .unset] [])) rfl (hb hby at_61)
        have R80 : Rch p e below (s₁.setTop (entryFrame m #[(.int q0), (.int q1)] maxLocals)) T77 (mkF m 190 #[.val (.int q0), .val (.int q1), .val (.int ((q0 &&& (2147483647 : Int32)) % (7 : Int32))), .val (.int (1 : Int32)), .val (.ref u1), .val (.ref s0)] [(.int (1 : Int32)), (.ref u1)]) := fun t k => by
          refine R78 t ?_
          refine st77 _ ?_
          show Steps p.tables e below (T77.setTop (mkF m 64 #[.val (.int q0), .val (.int q1), .val (.int ((q0 &&& (2147483647 : Int32)) % (7 : Int32))), .val (.int (1 : Int32)), .val (.ref u1), .unset] [(.ref s0)])) t
          refine XS.goto X77.here hx rfl (pc0 := 64) (pc' := 70) rfl (hb hby at_64) (by decide) (by decide) ?_
          show Steps p.tables e below (T77.setTop (mkF m 70 #[.val (.int q0), .val (.int q1), .val (.int ((q0 &&& (2147483647 : Int32)) % (7 : Int32))), .val (.int (1 : Int32)), .val (.ref u1), .unset] [(.ref s0)])) t
          refine XS.astore X77.here hx rfl (hb hby at_70) rfl rfl (l' := #[.val (.int q0), .val (.int q1), .val (.int ((q0 &&& (2147483647 : Int32)) % (7 : Int32))), .val (.int (1 : Int32)), .val (.ref u1), .val (.ref s0)]) rfl ?_
          show Steps p.tables e below (T77.setTop (mkF m 72 #[.val (.int q0), .val (.int q1), .val (.int ((q0 &&& (2147483647 : Int32)) % (7 : Int32))), .val (.int (1 : Int32)), .val (.ref u1), .val (.ref s0)] [])) t
          refine XS.goto X77.here hx rfl (pc0 := 72) (pc' := 187) rfl (hb hby at_72) (by decide) (by decide) ?_
          show Steps p.tables e below (T77.setTop (mkF m 187 #[.val (.int q0), .val (.int q1), .val (.int ((q0 &&& (2147483647 : Int32)) % (7 : Int32))), .val (.int (1 : Int32)), .val (.ref u1), .val (.ref s0)] [])) t
          refine XS.aload X77.here hx rfl (hb hby at_187) rfl rfl ?_
          show Steps p.tables e below (T77.setTop (mkF m 189 #[.val (.int q0), .val (.int q1), .val (.int ((q0 &&& (2147483647 : Int32)) % (7 : Int32))), .val (.int (1 : Int32)), .val (.ref u1), .val (.ref s0)] [(.ref u1)])) t
          refine XS.iloadN X77.here hx rfl (hb hby at_189) rfl ?_
          exact k
        obtain ⟨cq79, kq79, q79a, q79b, q79c⟩ := isOf hZ e77 pE_u1
        obtain ⟨_, _, ⟨T79, L79, k79, n79⟩, -, X79, ⟨Lc79, hQ79, l79, y79, z79⟩, st79⟩ := X77.virtualBack hx (y := (⟨"com/example/lean_tx/leantx/Propagation", "step", "(Z)Lcom/example/lean_tx/leantx/Propagation$Step;"⟩ : MethodName)) (z := (⟨"com/example/lean_tx/leantx/Propagation", "step", "(Z)Lcom/example/lean_tx/leantx/Propagation$Step;"⟩ : MethodName)) hown (mvT hZ (hw _ (List.mem_of_getElem? (i := 7) rfl))) (mvT hZ (hw _ (List.mem_of_getElem? (i := 8) rfl))) (notFace_of_selects (args := #[]) (mvT hZ (hw _ (List.mem_of_getElem? (i := 10) rfl)))) (mvT hZ (hw _ (List.mem_of_getElem? (i := 10) rfl))) (mvT hZ (hw _ (List.mem_of_getElem? (i := 9) rfl))) (by decide) (backOf (W := 0) (rm1 l Z a0 hw [] u1 (1 : Int32) s0 s2 h0 n0 (Nat.le_trans Z0 K0.1) pW_u1 pO_u1) hZ (hw _ (List.mem_of_getElem? (i := 11) rfl)) (hw _ (List.mem_of_getElem? (i := 2) rfl)) (by decide) (by decide)) q79a q79c (g := (mkF m 190 #[.val (.int q0), .val (.int q1), .val (.int ((q0 &&& (2147483647 : Int32)) % (7 : Int32))), .val (.int (1 : Int32)), .val (.ref u1), .val (.ref s0)] [(.int (1 : Int32)), (.ref u1)])) rfl (by rw [hml]; rfl) (Steps.refl _) (argsL := [(.int (1 : Int32))]) (rest := []) (lenOf pd_0 rfl) rfl (by show 2 * 0 + _ ≤ _; exact Nat.le_of_eq rfl) (hb hby at_190) (fun _ _ => ⟨rfl, e77, (by decide : 0 + 0 ≤ _), (by decide : 0 + 0 ≤ _)⟩)
        dsimp only [Pt.U, Pt.locs, Pt.cells, Pt.slots] at X79 l79 y79 z79 st79 hQ79
        subst l79 y79 z79
        obtain ⟨rfl, N79q, e79⟩ := hQ79
        have N79 := Fr.app N0 N79q
        have hp79 : own_step (1 : Int32) s0 s2 = s0 := by simp [own_step]
        rw [hp79] at st79
        have R81 : Rch p e below (s₁.setTop (entryFrame m #[(.int q0), (.int q1)] maxLocals)) T79 (mkF m 203 #[.val (.int q0), .val (.int q1), .val (.int ((q0 &&& (2147483647 : Int32)) % (7 : Int32))), .val (.int (1 : Int32)), .val (.ref u1), .val (.ref s0)] [(.int (1 : Int32))]) := fun t k => by
          refine R80 t ?_
          refine st79.trans ?_
          show Steps p.tables e below (T79.setTop (mkF m 193 #[.val (.int q0), .val (.int q1), .val (.int ((q0 &&& (2147483647 : Int32)) % (7 : Int32))), .val (.int (1 : Int32)), .val (.ref u1), .val (.ref s0)] [(.ref s0)])) t
          refine XS.aload X79.here hx rfl (hb hby at_193) rfl rfl ?_
          show Steps p.tables e below (T79.setTop (mkF m 195 #[.val (.int q0), .val (.int q1), .val (.int ((q0 &&& (2147483647 : Int32)) % (7 : Int32))), .val (.int (1 : Int32)), .val (.ref u1), .val (.ref s0)] [(.ref s0), (.ref s0)])) t
          refine Jvm.RoadKit.acmp (g := (mkF m 195 #[.val (.int q0), .val (.int q1), .val (.int ((q0 &&& (2147483647 : Int32)) % (7 : Int32))), .val (.int (1 : Int32)), .val (.ref u1), .val (.ref s0)] [(.ref s0), (.ref s0)])) X79 hx rfl rfl rfl (pc0 := 195) (pc' := 198) (same := true) rfl (hb hby at_195) rfl (decide_eq_true rfl) (by decide) (by decide) ?_
          show Steps p.tables e below (T79.setTop (mkF m 198 #[.val (.int q0), .val (.int q1), .val (.int ((q0 &&& (2147483647 : Int32)) % (7 : Int32))), .val (.int (1 : Int32)), .val (.ref u1), .val (.ref s0)] [])) t
          refine XS.iconst X79.here hx rfl (hb hby at_198) ?_
          show Steps p.tables e below (T79.setTop (mkF m 199 #[.val (.int q0), .val (.int q1), .val (.int ((q0 &&& (2147483647 : Int32)) % (7 : Int32))), .val (.int (1 : Int32)), .val (.ref u1), .val (.ref s0)] [(.int (1 : Int32))])) t
          refine XS.goto X79.here hx rfl (pc0 := 199) (pc' := 203) rfl (hb hby at_199) (by decide) (by decide) ?_
          exact k
        obtain ⟨fs, hr, hrun, hended, hW, hsame⟩ := X79.leave (v := some (.int (1 : Int32))) (fun h => by rw [Bd.returns] at h; cases h)
        refine ⟨_, _, R81 _ ?_, hrun, hended, _, _, rfl, ?_, ⟨_, rfl⟩, hW, hsame.mono (by decide) (by decide)⟩
        · exact retN X79 hx (t := .boolean) Bd.returns (by simp) (hb hby at_203) hr
        · show Q_rm0 Z q0 q1 u0 u1 u2 u3 u4 u5 u6 s0 s1 s2 s3 s4 h0 n0 _ T79.heap _
          rw [e79]
          exact ⟨rfl, N79, rfl⟩
      · have R83 : Rch p e below (s₁.setTop (entryFrame m #[(.int q0), (.int q1)] maxLocals)) s₁ (mkF m 77 #[.val (.int q0), .val (.int q1), .val (.int ((q0 &&& (2147483647 : Int32)) % (7 : Int32))), .val (.int (1 : Int32)), .unset, .unset] [(.int (2 : Int32)), (.int ((q0 &&& (2147483647 : Int32)) % (7 : Int32)))]) := fun t k => by
          refine R74 t ?_
          refine XS.icmpYes X0.here hx rfl (pc0 := 49) (pc' := 75) rfl (hb hby at_49) rfl (feq hc49_73).2 (by decide) (by decide) ?_
          show Steps p.tables e below (s₁.setTop (mkF m 75 #[.val (.int q0), .val (.int q1), .val (.int ((q0 &&& (2147483647 : Int32)) % (7 : Int32))), .val (.int (1 : Int32)), .unset, .unset] [])) t
          refine XS.iloadN X0.here hx rfl (hb hby at_75) rfl ?_
          show Steps p.tables e below (s₁.setTop (mkF m 76 #[.val (.int q0), .val (.int q1), .val (.int ((q0 &&& (2147483647 : Int32)) % (7 : Int32))), .val (.int (1 : Int32)), .unset, .unset] [(.int ((q0 &&& (2147483647 : Int32)) % (7 : Int32)))])) t
          refine XS.iconst X0.here hx rfl (hb hby at_76) ?_
          exact k
        by_cases hc77_82 : ((q0 &&& (2147483647 : Int32)) % (7 : Int32)) = (2 : Int32)
        · have R85 : Rch p e below (s₁.setTop (entryFrame m #[(.int q0), (.int q1)] maxLocals)) s₁ (mkF m 80 #[.val (.int q0), .val (.int q1), .val (.int ((q0 &&& (2147483647 : Int32)) % (7 : Int32))), .val (.int (1 : Int32)), .unset, .unset] []) := fun t k => by
            refine R83 t ?_
            refine XS.icmpNo X0.here hx rfl (hb hby at_77) rfl (teq hc77_82).2 ?_
            exact k
          obtain ⟨T84, X84, e84, st84⟩ := getS2 X0 hx hZ hown (host := "") (Or.inl (hw _ (List.mem_of_getElem? (i := 32) rfl))) Via.refl e0 pS_u2 (g := (mkF m 80 #[.val (.int q0), .val (.int q1), .val (.int ((q0 &&& (2147483647 : Int32)) % (7 : Int32))), .val (.int (1 : Int32)), .unset, .unset] [])) rfl (hb hby at_80)
          have R87 : Rch p e below (s₁.setTop (entryFrame m #[(.int q0), (.int q1)] maxLocals)) T84 (mkF m 89 #[.val (.int q0), .val (.int q1), .val (.int ((q0 &&& (2147483647 : Int32)) % (7 : Int32))), .val (.int (1 : Int32)), .val (.ref u2), .unset] []) := fun t k => by
            refine R85 t ?_
            refine st84 _ ?_
            show Steps p.tables e below (T84.setTop (mkF m 83 #[.val (.int q0), .val (.int q1), .val (.int ((q0 &&& (2147483647 : Int32)) % (7 : Int32))), .val (.int (1 : Int32)), .unset, .unset] [(.ref u2)])) t
            refine XS.astore X84.here hx rfl (hb hby at_83) rfl rfl (l' := #[.val (.int q0), .val (.int q1), .val (.int ((q0 &&& (2147483647 : Int32)) % (7 : Int32))), .val (.int (1 : Int32)), .val (.ref u2), .unset]) rfl ?_
            show Steps p.tables e below (T84.setTop (mkF m 85 #[.val (.int q0), .val (.int q1), .val (.int ((q0 &&& (2147483647 : Int32)) % (7 : Int32))), .val (.int (1 : Int32)), .val (.ref u2), .unset] [])) t
            refine XS.iloadN X84.here hx rfl (hb hby at_85) rfl ?_
            show Steps p.tables e below (T84.setTop (mkF m 86 #[.val (.int q0), .val (.int q1), .val (.int ((q0 &&& (2147483647 : Int32)) % (7 : Int32))), .val (.int (1 : Int32)), .val (.ref u2), .unset] [(.int (1 : Int32))])) t
            refine XS.ifNo X84.here hx rfl (hb hby at_86) rfl ((if0 _ _).trans (feq (by decide : ¬ ((1 : Int32) = (0 : Int32)))).1) ?_
            exact k
          obtain ⟨T86, X86, e86, st86⟩ := getS2 X84 hx hZ hown (host := "") (Or.inl (hw _ (List.mem_of_getElem? (i := 4) rfl))) Via.refl e84 pS_s0 (g := (mkF m 89 #[.val (.int q0), .val (.int q1), .val (.int ((q0 &&& (2147483647 : Int32)) % (7 : Int32))), .val (.int (1 : Int32)), .val (.ref u2), .unset] [])) rfl (hb hby at_89)
          have R89 : Rch p e below (s₁.setTop (entryFrame m #[(.int q0), (.int q1)] maxLocals)) T86 (mkF m 190 #[.val (.int q0), .val (.int q1), .val (.int ((q0 &&& (2147483647 : Int32)) % (7 : Int32))), .val (.int (1 : Int32)), .val (.ref u2), .val (.ref s0)] [(.int (1 : Int32)), (.ref u2)]) := fun t k => by
            refine R87 t ?_
            refine st86 _ ?_
            show Steps p.tables e below (T86.setTop (mkF m 92 #[.val (.int q0), .val (.int q1), .val (.int ((q0 &&& (2147483647 : Int32)) % (7 : Int32))), .val (.int (1 : Int32)), .val (.ref u2), .unset] [(.ref s0)])) t
            refine XS.goto X86.here hx rfl (pc0 := 92) (pc' := 98) rfl (hb hby at_92) (by decide) (by decide) ?_
            show Steps p.tables e below (T86.setTop (mkF m 98 #[.val (.int q0), .val (.int q1), .val (.int ((q0 &&& (2147483647 : Int32)) % (7 : Int32))), .val (.int (1 : Int32)), .val (.ref u2), .unset] [(.ref s0)])) t
            refine XS.astore X86.here hx rfl (hb hby at_98) rfl rfl (l' := #[.val (.int q0), .val (.int q1), .val (.int ((q0 &&& (2147483647 : Int32)) % (7 : Int32))), .val (.int (1 : Int32)), .val (.ref u2), .val (.ref s0)]) rfl ?_
            show Steps p.tables e below (T86.setTop (mkF m 100 #[.val (.int q0), .val (.int q1), .val (.int ((q0 &&& (2147483647 : Int32)) % (7 : Int32))), .val (.int (1 : Int32)), .val (.ref u2), .val (.ref s0)] [])) t
            refine XS.goto X86.here hx rfl (pc0 := 100) (pc' := 187) rfl (hb hby at_100) (by decide) (by decide) ?_
            show Steps p.tables e below (T86.setTop (mkF m 187 #[.val (.int q0), .val (.int q1), .val (.int ((q0 &&& (2147483647 : Int32)) % (7 : Int32))), .val (.int (1 : Int32)), .val (.ref u2), .val (.ref s0)] [])) t
            refine XS.aload X86.here hx rfl (hb hby at_187) rfl rfl ?_
            show Steps p.tables e below (T86.setTop (mkF m 189 #[.val (.int q0), .val (.int q1), .val (.int ((q0 &&& (2147483647 : Int32)) % (7 : Int32))), .val (.int (1 : Int32)), .val (.ref u2), .val (.ref s0)] [(.ref u2)])) t
            refine XS.iloadN X86.here hx rfl (hb hby at_189) rfl ?_
            exact k
          obtain ⟨cq88, kq88, q88a, q88b, q88c⟩ := isOf hZ e86 pE_u2
          obtain ⟨_, _, ⟨T88, L88, k88, n88⟩, -, X88, ⟨Lc88, hQ88, l88, y88, z88⟩, st88⟩ := X86.virtualBack hx (y := (⟨"com/example/lean_tx/leantx/Propagation", "step", "(Z)Lcom/example/lean_tx/leantx/Propagation$Step;"⟩ : MethodName)) (z := (⟨"com/example/lean_tx/leantx/Propagation", "step", "(Z)Lcom/example/lean_tx/leantx/Propagation$Step;"⟩ : MethodName)) hown (mvT hZ (hw _ (List.mem_of_getElem? (i := 7) rfl))) (mvT hZ (hw _ (List.mem_of_getElem? (i := 8) rfl))) (notFace_of_selects (args := #[]) (mvT hZ (hw _ (List.mem_of_getElem? (i := 10) rfl)))) (mvT hZ (hw _ (List.mem_of_getElem? (i := 10) rfl))) (mvT hZ (hw _ (List.mem_of_getElem? (i := 9) rfl))) (by decide) (backOf (W := 0) (rm1 l Z a0 hw [] u2 (1 : Int32) s0 s3 h0 n0 (Nat.le_trans Z0 K0.1) pW_u2 pO_u2) hZ (hw _ (List.mem_of_getElem? (i := 11) rfl)) (hw _ (List.mem_of_getElem? (i := 2) rfl)) (by decide) (by decide)) q88a q88c (g := (mkF m 190 #[.val (.int q0), .val (.int q1), .val (.int ((q0 &&& (2147483647 : Int32)) % (7 : Int32))), .val (.int (1 : Int32)), .val (.ref u2), .val (.ref s0)] [(.int (1 : Int32)), (.ref u2)])) rfl (by rw [hml]; rfl) (Steps.refl _) (argsL := [(.int (1 : Int32))]) (rest := []) (lenOf pd_0 rfl) rfl (by show 2 * 0 + _ ≤ _; exact Nat.le_of_eq rfl) (hb hby at_190) (fun _ _ => ⟨rfl, e86, (by decide : 0 + 0 ≤ _), (by decide : 0 + 0 ≤ _)⟩)
          dsimp only [Pt.U, Pt.locs, Pt.cells, Pt.slots] at X88 l88 y88 z88 st88 hQ88
          subst l88 y88 z88
          obtain ⟨rfl, N88q, e88⟩ := hQ88
          have N88 := Fr.app N0 N88q
          have hp88 : own_step (1 : Int32) s0 s3 = s0 := by simp [own_step]
          rw [hp88] at st88
          have R90 : Rch p e below (s₁.setTop (entryFrame m #[(.int q0), (.int q1)] maxLocals)) T88 (mkF m 203 #[.val (.int q0), .val (.int q1), .val (.int ((q0 &&& (2147483647 : Int32)) % (7 : Int32))), .val (.int (1 : Int32)), .val (.ref u2), .val (.ref s0)] [(.int (1 : Int32))]) := fun t k => by
            refine R89 t ?_
            refine st88.trans ?_
            show Steps p.tables e below (T88.setTop (mkF m 193 #[.val (.int q0), .val (.int q1), .val (.int ((q0 &&& (2147483647 : Int32)) % (7 : Int32))), .val (.int (1 : Int32)), .val (.ref u2), .val (.ref s0)] [(.ref s0)])) t
            refine XS.aload X88.here hx rfl (hb hby at_193) rfl rfl ?_
            show Steps p.tables e below (T88.setTop (mkF m 195 #[.val (.int q0), .val (.int q1), .val (.int ((q0 &&& (2147483647 : Int32)) % (7 : Int32))), .val (.int (1 : Int32)), .val (.ref u2), .val (.ref s0)] [(.ref s0), (.ref s0)])) t
            refine Jvm.RoadKit.acmp (g := (mkF m 195 #[.val (.int q0), .val (.int q1), .val (.int ((q0 &&& (2147483647 : Int32)) % (7 : Int32))), .val (.int (1 : Int32)), .val (.ref u2), .val (.ref s0)] [(.ref s0), (.ref s0)])) X88 hx rfl rfl rfl (pc0 := 195) (pc' := 198) (same := true) rfl (hb hby at_195) rfl (decide_eq_true rfl) (by decide) (by decide) ?_
            show Steps p.tables e below (T88.setTop (mkF m 198 #[.val (.int q0), .val (.int q1), .val (.int ((q0 &&& (2147483647 : Int32)) % (7 : Int32))), .val (.int (1 : Int32)), .val (.ref u2), .val (.ref s0)] [])) t
            refine XS.iconst X88.here hx rfl (hb hby at_198) ?_
            show Steps p.tables e below (T88.setTop (mkF m 199 #[.val (.int q0), .val (.int q1), .val (.int ((q0 &&& (2147483647 : Int32)) % (7 : Int32))), .val (.int (1 : Int32)), .val (.ref u2), .val (.ref s0)] [(.int (1 : Int32))])) t
            refine XS.goto X88.here hx rfl (pc0 := 199) (pc' := 203) rfl (hb hby at_199) (by decide) (by decide) ?_
            exact k
          obtain ⟨fs, hr, hrun, hended, hW, hsame⟩ := X88.leave (v := some (.int (1 : Int32))) (fun h => by rw [Bd.returns] at h; cases h)
          refine ⟨_, _, R90 _ ?_, hrun, hended, _, _, rfl, ?_, ⟨_, rfl⟩, hW, hsame.mono (by decide) (by decide)⟩
          · exact retN X88 hx (t := .boolean) Bd.returns (by simp) (hb hby at_203) hr
          · show Q_rm0 Z q0 q1 u0 u1 u2 u3 u4 u5 u6 s0 s1 s2 s3 s4 h0 n0 _ T88.heap _
            rw [e88]
            exact ⟨rfl, N88, rfl⟩
        · have R92 : Rch p e below (s₁.setTop (entryFrame m #[(.int q0), (.int q1)] maxLocals)) s₁ (mkF m 105 #[.val (.int q0), .val (.int q1), .val (.int ((q0 &&& (2147483647 : Int32)) % (7 : Int32))), .val (.int (1 : Int32)), .unset, .unset] [(.int (3 : Int32)), (.int ((q0 &&& (2147483647 : Int32)) % (7 : Int32)))]) := fun t k => by
            refine R83 t ?_
            refine XS.icmpYes X0.here hx rfl (pc0 := 77) (pc' := 103) rfl (hb hby at_77) rfl (feq hc77_82).2 (by decide) (by decide) ?_
            show Steps p.tables e below (s₁.setTop (mkF m 103 #[.val (.int q0), .val (.int q1), .val (.int ((q0 &&& (2147483647 : Int32)) % (7 : Int32))), .val (.int (1 : Int32)), .unset, .unset] [])) t
            refine XS.iloadN X0.here hx rfl (hb hby at_103) rfl ?_
            show Steps p.tables e below (s₁.setTop (mkF m 104 #[.val (.int q0), .val (.int q1), .val (.int ((q0 &&& (2147483647 : Int32)) % (7 : Int32))), .val (.int (1 : Int32)), .unset, .unset] [(.int ((q0 &&& (2147483647 : Int32)) % (7 : Int32)))])) t
            refine XS.iconst X0.here hx rfl (hb hby at_104) ?_
            exact k
          by_cases hc105_91 : ((q0 &&& (2147483647 : Int32)) % (7 : Int32)) = (3 : Int32)
          · have R94 : Rch p e below (s₁.setTop (entryFrame m #[(.int q0), (.int q1)] maxLocals)) s₁ (mkF m 108 #[.val (.int q0), .val (.int q1), .val (.int ((q0 &&& (2147483647 : Int32)) % (7 : Int32))), .val (.int (1 : Int32)), .unset, .unset] []) := fun t k => by
              refine R92 t ?_
              refine XS.icmpNo X0.here hx rfl (hb hby at_105) rfl (teq hc105_91).2 ?_
              exact k
            obtain ⟨T93, X93, e93, st93⟩ := getS2 X0 hx hZ hown (host := "") (Or.inl (hw _ (List.mem_of_getElem? (i := 14) rfl))) Via.refl e0 pS_u3 (g := (mkF m 108 #[.val (.int q0), .val (.int q1), .val (.int ((q0 &&& (2147483647 : Int32)) % (7 : Int32))), .val (.int (1 : Int32)), .unset, .unset] [])) rfl (hb hby at_108)
            have R96 : Rch p e below (s₁.setTop (entryFrame m #[(.int q0), (.int q1)] maxLocals)) T93 (mkF m 113 #[.val (.int q0), .val (.int q1), .val (.int ((q0 &&& (2147483647 : Int32)) % (7 : Int32))), .val (.int (1 : Int32)), .val (.ref u3), .unset] []) := fun t k => by
              refine R94 t ?_
              refine st93 _ ?_
              show Steps p.tables e below (T93.setTop (mkF m 111 #[.val (.int q0), .val (.int q1), .val (.int ((q0 &&& (2147483647 : Int32)) % (7 : Int32))), .val (.int (1 : Int32)), .unset, .unset] [(.ref u3)])) t
              refine XS.astore X93.here hx rfl (hb hby at_111) rfl rfl (l' := #[.val (.int q0), .val (.int q1), .val (.int ((q0 &&& (2147483647 : Int32)) % (7 : Int32))), .val (.int (1 : Int32)), .val (.ref u3), .unset]) rfl ?_
              exact k
            obtain ⟨T95, X95, e95, st95⟩ := getS2 X93 hx hZ hown (host := "") (Or.inl (hw _ (List.mem_of_getElem? (i := 16) rfl))) Via.refl e93 pS_s1 (g := (mkF m 113 #[.val (.int q0), .val (.int q1), .val (.int ((q0 &&& (2147483647 : Int32)) % (7 : Int32))), .val (.int (1 : Int32)), .val (.ref u3), .unset] [])) rfl (hb hby at_113)
            have R98 : Rch p e below (s₁.setTop (entryFrame m #[(.int q0), (.int q1)] maxLocals)) T95 (mkF m 190 #[.val (.int q0), .val (.int q1), .val (.int ((q0 &&& (2147483647 : Int32)) % (7 : Int32))), .val (.int (1 : Int32)), .val (.ref u3), .val (.ref s1)] [(.int (1 : Int32)), (.ref u3)]) := fun t k => by
              refine R96 t ?_
              refine st95 _ ?_
              show Steps p.tables e below (T95.setTop (mkF m 116 #[.val (.int q0), .val (.int q1), .val (.int ((q0 &&& (2147483647 : Int32)) % (7 : Int32))), .val (.int (1 : Int32)), .val (.ref u3), .unset] [(.ref s1)])) t
              refine XS.astore X95.here hx rfl (hb hby at_116) rfl rfl (l' := #[.val (.int q0), .val (.int q1), .val (.int ((q0 &&& (2147483647 : Int32)) % (7 : Int32))), .val (.int (1 : Int32)), .val (.ref u3), .val (.ref s1)]) rfl ?_
              show Steps p.tables e below (T95.setTop (mkF m 118 #[.val (.int q0), .val (.int q1), .val (.int ((q0 &&& (2147483647 : Int32)) % (7 : Int32))), .val (.int (1 : Int32)), .val (.ref u3), .val (.ref s1)] [])) t
              refine XS.goto X95.here hx rfl (pc0 := 118) (pc' := 187) rfl (hb hby at_118) (by decide) (by decide) ?_
              show Steps p.tables e below (T95.setTop (mkF m 187 #[.val (.int q0), .val (.int q1), .val (.int ((q0 &&& (2147483647 : Int32)) % (7 : Int32))), .val (.int (1 : Int32)), .val (.ref u3), .val (.ref s1)] [])) t
              refine XS.aload X95.here hx rfl (hb hby at_187) rfl rfl ?_
              show Steps p.tables e below (T95.setTop (mkF m 189 #[.val (.int q0), .val (.int q1), .val (.int ((q0 &&& (2147483647 : Int32)) % (7 : Int32))), .val (.int (1 : Int32)), .val (.ref u3), .val (.ref s1)] [(.ref u3)])) t
              refine XS.iloadN X95.here hx rfl (hb hby at_189) rfl ?_
              exact k
            obtain ⟨cq97, kq97, q97a, q97b, q97c⟩ := isOf hZ e95 pE_u3
            obtain ⟨_, _, ⟨T97, L97, k97, n97⟩, -, X97, ⟨Lc97, hQ97, l97, y97, z97⟩, st97⟩ := X95.virtualBack hx (y := (⟨"com/example/lean_tx/leantx/Propagation", "step", "(Z)Lcom/example/lean_tx/leantx/Propagation$Step;"⟩ : MethodName)) (z := (⟨"com/example/lean_tx/leantx/Propagation", "step", "(Z)Lcom/example/lean_tx/leantx/Propagation$Step;"⟩ : MethodName)) hown (mvT hZ (hw _ (List.mem_of_getElem? (i := 7) rfl))) (mvT hZ (hw _ (List.mem_of_getElem? (i := 8) rfl))) (notFace_of_selects (args := #[]) (mvT hZ (hw _ (List.mem_of_getElem? (i := 10) rfl)))) (mvT hZ (hw _ (List.mem_of_getElem? (i := 10) rfl))) (mvT hZ (hw _ (List.mem_of_getElem? (i := 9) rfl))) (by decide) (backOf (W := 0) (rm1 l Z a0 hw [] u3 (1 : Int32) s1 s1 h0 n0 (Nat.le_trans Z0 K0.1) pW_u3 pO_u3) hZ (hw _ (List.mem_of_getElem? (i := 11) rfl)) (hw _ (List.mem_of_getElem? (i := 2) rfl)) (by decide) (by decide)) q97a q97c (g := (mkF m 190 #[.val (.int q0), .val (.int q1), .val (.int ((q0 &&& (2147483647 : Int32)) % (7 : Int32))), .val (.int (1 : Int32)), .val (.ref u3), .val (.ref s1)] [(.int (1 : Int32)), (.ref u3)])) rfl (by rw [hml]; rfl) (Steps.refl _) (argsL := [(.int (1 : Int32))]) (rest := []) (lenOf pd_0 rfl) rfl (by show 2 * 0 + _ ≤ _; exact Nat.le_of_eq rfl) (hb hby at_190) (fun _ _ => ⟨rfl, e95, (by decide : 0 + 0 ≤ _), (by decide : 0 + 0 ≤ _)⟩)
            dsimp only [Pt.U, Pt.locs, Pt.cells, Pt.slots] at X97 l97 y97 z97 st97 hQ97
            subst l97 y97 z97
            obtain ⟨rfl, N97q, e97⟩ := hQ97
            have N97 := Fr.app N0 N97q
            have hp97 : own_step (1 : Int32) s1 s1 = s1 := by simp [own_step]
            rw [hp97] at st97
            have R99 : Rch p e below (s₁.setTop (entryFrame m #[(.int q0), (.int q1)] maxLocals)) T97 (mkF m 203 #[.val (.int q0), .val (.int q1), .val (.int ((q0 &&& (2147483647 : Int32)) % (7 : Int32))), .val (.int (1 : Int32)), .val (.ref u3), .val (.ref s1)] [(.int (1 : Int32))]) := fun t k => by
              refine R98 t ?_
              refine st97.trans ?_
              show Steps p.tables e below (T97.setTop (mkF m 193 #[.val (.int q0), .val (.int q1), .val (.int ((q0 &&& (2147483647 : Int32)) % (7 : Int32))), .val (.int (1 : Int32)), .val (.ref u3), .val (.ref s1)] [(.ref s1)])) t
              refine XS.aload X97.here hx rfl (hb hby at_193) rfl rfl ?_
              show Steps p.tables e below (T97.setTop (mkF m 195 #[.val (.int q0), .val (.int q1), .val (.int ((q0 &&& (2147483647 : Int32)) % (7 : Int32))), .val (.int (1 : Int32)), .val (.ref u3), .val (.ref s1)] [(.ref s1), (.ref s1)])) t
              refine Jvm.RoadKit.acmp (g := (mkF m 195 #[.val (.int q0), .val (.int q1), .val (.int ((q0 &&& (2147483647 : Int32)) % (7 : Int32))), .val (.int (1 : Int32)), .val (.ref u3), .val (.ref s1)] [(.ref s1), (.ref s1)])) X97 hx rfl rfl rfl (pc0 := 195) (pc' := 198) (same := true) rfl (hb hby at_195) rfl (decide_eq_true rfl) (by decide) (by decide) ?_
              show Steps p.tables e below (T97.setTop (mkF m 198 #[.val (.int q0), .val (.int q1), .val (.int ((q0 &&& (2147483647 : Int32)) % (7 : Int32))), .val (.int (1 : Int32)), .val (.ref u3), .val (.ref s1)] [])) t
              refine XS.iconst X97.here hx rfl (hb hby at_198) ?_
              show Steps p.tables e below (T97.setTop (mkF m 199 #[.val (.int q0), .val (.int q1), .val (.int ((q0 &&& (2147483647 : Int32)) % (7 : Int32))), .val (.int (1 : Int32)), .val (.ref u3), .val (.ref s1)] [(.int (1 : Int32))])) t
              refine XS.goto X97.here hx rfl (pc0 := 199) (pc' := 203) rfl (hb hby at_199) (by decide) (by decide) ?_
              exact k
            obtain ⟨fs, hr, hrun, hended, hW, hsame⟩ := X97.leave (v := some (.int (1 : Int32))) (fun h => by rw [Bd.returns] at h; cases h)
            refine ⟨_, _, R99 _ ?_, hrun, hended, _, _, rfl, ?_, ⟨_, rfl⟩, hW, hsame.mono (by decide) (by decide)⟩
            · exact retN X97 hx (t := .boolean) Bd.returns (by simp) (hb hby at_203) hr
            · show Q_rm0 Z q0 q1 u0 u1 u2 u3 u4 u5 u6 s0 s1 s2 s3 s4 h0 n0 _ T97.heap _
              rw [e97]
              exact ⟨rfl, N97, rfl⟩
          · have R101 : Rch p e below (s₁.setTop (entryFrame m #[(.int q0), (.int q1)] maxLocals)) s₁ (mkF m 123 #[.val (.int q0), .val (.int q1), .val (.int ((q0 &&& (2147483647 : Int32)) % (7 : Int32))), .val (.int (1 : Int32)), .unset, .unset] [(.int (4 : Int32)), (.int ((q0 &&& (2147483647 : Int32)) % (7 : Int32)))]) := fun t k => by
              refine R92 t ?_
              refine XS.icmpYes X0.here hx rfl (pc0 := 105) (pc' := 121) rfl (hb hby at_105) rfl (feq hc105_91).2 (by decide) (by decide) ?_
              show Steps p.tables e below (s₁.setTop (mkF m 121 #[.val (.int q0), .val (.int q1), .val (.int ((q0 &&& (2147483647 : Int32)) % (7 : Int32))), .val (.int (1 : Int32)), .unset, .unset] [])) t
              refine XS.iloadN X0.here hx rfl (hb hby at_121) rfl ?_
              show Steps p.tables e below (s₁.setTop (mkF m 122 #[.val (.int q0), .val (.int q1), .val (.int ((q0 &&& (2147483647 : Int32)) % (7 : Int32))), .val (.int (1 : Int32)), .unset, .unset] [(.int ((q0 &&& (2147483647 : Int32)) % (7 : Int32)))])) t
              refine XS.iconst X0.here hx rfl (hb hby at_122) ?_
              exact k
            by_cases hc123_100 : ((q0 &&& (2147483647 : Int32)) % (7 : Int32)) = (4 : Int32)
            · have R103 : Rch p e below (s₁.setTop (entryFrame m #[(.int q0), (.int q1)] maxLocals)) s₁ (mkF m 126 #[.val (.int q0), .val (.int q1), .val (.int ((q0 &&& (2147483647 : Int32)) % (7 : Int32))), .val (.int (1 : Int32)), .unset, .unset] []) := fun t k => by
                refine R101 t ?_
                refine XS.icmpNo X0.here hx rfl (hb hby at_123) rfl (teq hc123_100).2 ?_
                exact k
              obtain ⟨T102, X102, e102, st102⟩ := getS2 X0 hx hZ hown (host := "") (Or.inl (hw _ (List.mem_of_getElem? (i := 24) rfl))) Via.refl e0 pS_u4 (g := (mkF m 126 #[.val (.int q0), .val (.int q1), .val (.int ((q0 &&& (2147483647 : Int32)) % (7 : Int32))), .val (.int (1 : Int32)), .unset, .unset] [])) rfl (hb hby at_126)
              have R105 : Rch p e below (s₁.setTop (entryFrame m #[(.int q0), (.int q1)] maxLocals)) T102 (mkF m 131 #[.val (.int q0), .val (.int q1), .val (.int ((q0 &&& (2147483647 : Int32)) % (7 : Int32))), .val (.int (1 : Int32)), .val (.ref u4), .unset] []) := fun t k => by
                refine R103 t ?_
                refine st102 _ ?_
                show Steps p.tables e below (T102.setTop (mkF m 129 #[.val (.int q0), .val (.int q1), .val (.int ((q0 &&& (2147483647 : Int32)) % (7 : Int32))), .val (.int (1 : Int32)), .unset, .unset] [(.ref u4)])) t
                refine XS.astore X102.here hx rfl (hb hby at_129) rfl rfl (l' := #[.val (.int q0), .val (.int q1), .val (.int ((q0 &&& (2147483647 : Int32)) % (7 : Int32))), .val (.int (1 : Int32)), .val (.ref u4), .unset]) rfl ?_
                exact k
              obtain ⟨T104, X104, e104, st104⟩ := getS2 X102 hx hZ hown (host := "") (Or.inl (hw _ (List.mem_of_getElem? (i := 20) rfl))) Via.refl e102 pS_s2 (g := (mkF m 131 #[.val (.int q0), .val (.int q1), .val (.int ((q0 &&& (2147483647 : Int32)) % (7 : Int32))), .val (.int (1 : Int32)), .val (.ref u4), .unset] [])) rfl (hb hby at_131)
              have R107 : Rch p e below (s₁.setTop (entryFrame m #[(.int q0), (.int q1)] maxLocals)) T104 (mkF m 190 #[.val (.int q0), .val (.int q1), .val (.int ((q0 &&& (2147483647 : Int32)) % (7 : Int32))), .val (.int (1 : Int32)), .val (.ref u4), .val (.ref s2)] [(.int (1 : Int32)), (.ref u4)]) := fun t k => by
                refine R105 t ?_
                refine st104 _ ?_
                show Steps p.tables e below (T104.setTop (mkF m 134 #[.val (.int q0), .val (.int q1), .val (.int ((q0 &&& (2147483647 : Int32)) % (7 : Int32))), .val (.int (1 : Int32)), .val (.ref u4), .unset] [(.ref s2)])) t
                refine XS.astore X104.here hx rfl (hb hby at_134) rfl rfl (l' := #[.val (.int q0), .val (.int q1), .val (.int ((q0 &&& (2147483647 : Int32)) % (7 : Int32))), .val (.int (1 : Int32)), .val (.ref u4), .val (.ref s2)]) rfl ?_
                show Steps p.tables e below (T104.setTop (mkF m 136 #[.val (.int q0), .val (.int q1), .val (.int ((q0 &&& (2147483647 : Int32)) % (7 : Int32))), .val (.int (1 : Int32)), .val (.ref u4), .val (.ref s2)] [])) t
                refine XS.goto X104.here hx rfl (pc0 := 136) (pc' := 187) rfl (hb hby at_136) (by decide) (by decide) ?_
                show Steps p.tables e below (T104.setTop (mkF m 187 #[.val (.int q0), .val (.int q1), .val (.int ((q0 &&& (2147483647 : Int32)) % (7 : Int32))), .val (.int (1 : Int32)), .val (.ref u4), .val (.ref s2)] [])) t
                refine XS.aload X104.here hx rfl (hb hby at_187) rfl rfl ?_
                show Steps p.tables e below (T104.setTop (mkF m 189 #[.val (.int q0), .val (.int q1), .val (.int ((q0 &&& (2147483647 : Int32)) % (7 : Int32))), .val (.int (1 : Int32)), .val (.ref u4), .val (.ref s2)] [(.ref u4)])) t
                refine XS.iloadN X104.here hx rfl (hb hby at_189) rfl ?_
                exact k
              obtain ⟨cq106, kq106, q106a, q106b, q106c⟩ := isOf hZ e104 pE_u4
              obtain ⟨_, _, ⟨T106, L106, k106, n106⟩, -, X106, ⟨Lc106, hQ106, l106, y106, z106⟩, st106⟩ := X104.virtualBack hx (y := (⟨"com/example/lean_tx/leantx/Propagation", "step", "(Z)Lcom/example/lean_tx/leantx/Propagation$Step;"⟩ : MethodName)) (z := (⟨"com/example/lean_tx/leantx/Propagation", "step", "(Z)Lcom/example/lean_tx/leantx/Propagation$Step;"⟩ : MethodName)) hown (mvT hZ (hw _ (List.mem_of_getElem? (i := 7) rfl))) (mvT hZ (hw _ (List.mem_of_getElem? (i := 8) rfl))) (notFace_of_selects (args := #[]) (mvT hZ (hw _ (List.mem_of_getElem? (i := 10) rfl)))) (mvT hZ (hw _ (List.mem_of_getElem? (i := 10) rfl))) (mvT hZ (hw _ (List.mem_of_getElem? (i := 9) rfl))) (by decide) (backOf (W := 0) (rm1 l Z a0 hw [] u4 (1 : Int32) s2 s2 h0 n0 (Nat.le_trans Z0 K0.1) pW_u4 pO_u4) hZ (hw _ (List.mem_of_getElem? (i := 11) rfl)) (hw _ (List.mem_of_getElem? (i := 2) rfl)) (by decide) (by decide)) q106a q106c (g := (mkF m 190 #[.val (.int q0), .val (.int q1), .val (.int ((q0 &&& (2147483647 : Int32)) % (7 : Int32))), .val (.int (1 : Int32)), .val (.ref u4), .val (.ref s2)] [(.int (1 : Int32)), (.ref u4)])) rfl (by rw [hml]; rfl) (Steps.refl _) (argsL := [(.int (1 : Int32))]) (rest := []) (lenOf pd_0 rfl) rfl (by show 2 * 0 + _ ≤ _; exact Nat.le_of_eq rfl) (hb hby at_190) (fun _ _ => ⟨rfl, e104, (by decide : 0 + 0 ≤ _), (by decide : 0 + 0 ≤ _)⟩)
              dsimp only [Pt.U, Pt.locs, Pt.cells, Pt.slots] at X106 l106 y106 z106 st106 hQ106
              subst l106 y106 z106
              obtain ⟨rfl, N106q, e106⟩ := hQ106
              have N106 := Fr.app N0 N106q
              have hp106 : own_step (1 : Int32) s2 s2 = s2 := by simp [own_step]
              rw [hp106] at st106
              have R108 : Rch p e below (s₁.setTop (entryFrame m #[(.int q0), (.int q1)] maxLocals)) T106 (mkF m 203 #[.val (.int q0), .val (.int q1), .val (.int ((q0 &&& (2147483647 : Int32)) % (7 : Int32))), .val (.int (1 : Int32)), .val (.ref u4), .val (.ref s2)] [(.int (1 : Int32))]) := fun t k => by
                refine R107 t ?_
                refine st106.trans ?_
                show Steps p.tables e below (T106.setTop (mkF m 193 #[.val (.int q0), .val (.int q1), .val (.int ((q0 &&& (2147483647 : Int32)) % (7 : Int32))), .val (.int (1 : Int32)), .val (.ref u4), .val (.ref s2)] [(.ref s2)])) t
                refine XS.aload X106.here hx rfl (hb hby at_193) rfl rfl ?_
                show Steps p.tables e below (T106.setTop (mkF m 195 #[.val (.int q0), .val (.int q1), .val (.int ((q0 &&& (2147483647 : Int32)) % (7 : Int32))), .val (.int (1 : Int32)), .val (.ref u4), .val (.ref s2)] [(.ref s2), (.ref s2)])) t
                refine Jvm.RoadKit.acmp (g := (mkF m 195 #[.val (.int q0), .val (.int q1), .val (.int ((q0 &&& (2147483647 : Int32)) % (7 : Int32))), .val (.int (1 : Int32)), .val (.ref u4), .val (.ref s2)] [(.ref s2), (.ref s2)])) X106 hx rfl rfl rfl (pc0 := 195) (pc' := 198) (same := true) rfl (hb hby at_195) rfl (decide_eq_true rfl) (by decide) (by decide) ?_
                show Steps p.tables e below (T106.setTop (mkF m 198 #[.val (.int q0), .val (.int q1), .val (.int ((q0 &&& (2147483647 : Int32)) % (7 : Int32))), .val (.int (1 : Int32)), .val (.ref u4), .val (.ref s2)] [])) t
                refine XS.iconst X106.here hx rfl (hb hby at_198) ?_
                show Steps p.tables e below (T106.setTop (mkF m 199 #[.val (.int q0), .val (.int q1), .val (.int ((q0 &&& (2147483647 : Int32)) % (7 : Int32))), .val (.int (1 : Int32)), .val (.ref u4), .val (.ref s2)] [(.int (1 : Int32))])) t
                refine XS.goto X106.here hx rfl (pc0 := 199) (pc' := 203) rfl (hb hby at_199) (by decide) (by decide) ?_
                exact k
              obtain ⟨fs, hr, hrun, hended, hW, hsame⟩ := X106.leave (v := some (.int (1 : Int32))) (fun h => by rw [Bd.returns] at h; cases h)
              refine ⟨_, _, R108 _ ?_, hrun, hended, _, _, rfl, ?_, ⟨_, rfl⟩, hW, hsame.mono (by decide) (by decide)⟩
              · exact retN X106 hx (t := .boolean) Bd.returns (by simp) (hb hby at_203) hr
              · show Q_rm0 Z q0 q1 u0 u1 u2 u3 u4 u5 u6 s0 s1 s2 s3 s4 h0 n0 _ T106.heap _
                rw [e106]
                exact ⟨rfl, N106, rfl⟩
            · have R110 : Rch p e below (s₁.setTop (entryFrame m #[(.int q0), (.int q1)] maxLocals)) s₁ (mkF m 141 #[.val (.int q0), .val (.int q1), .val (.int ((q0 &&& (2147483647 : Int32)) % (7 : Int32))), .val (.int (1 : Int32)), .unset, .unset] [(.int (5 : Int32)), (.int ((q0 &&& (2147483647 : Int32)) % (7 : Int32)))]) := fun t k => by
                refine R101 t ?_
                refine XS.icmpYes X0.here hx rfl (pc0 := 123) (pc' := 139) rfl (hb hby at_123) rfl (feq hc123_100).2 (by decide) (by decide) ?_
                show Steps p.tables e below (s₁.setTop (mkF m 139 #[.val (.int q0), .val (.int q1), .val (.int ((q0 &&& (2147483647 : Int32)) % (7 : Int32))), .val (.int (1 : Int32)), .unset, .unset] [])) t
                refine XS.iloadN X0.here hx rfl (hb hby at_139) rfl ?_
                show Steps p.tables e below (s₁.setTop (mkF m 140 #[.val (.int q0), .val (.int q1), .val (.int ((q0 &&& (2147483647 : Int32)) % (7 : Int32))), .val (.int (1 : Int32)), .unset, .unset] [(.int ((q0 &&& (2147483647 : Int32)) % (7 : Int32)))])) t
                refine XS.iconst X0.here hx rfl (hb hby at_140) ?_
                exact k
              by_cases hc141_109 : ((q0 &&& (2147483647 : Int32)) % (7 : Int32)) = (5 : Int32)
              · have R112 : Rch p e below (s₁.setTop (entryFrame m #[(.int q0), (.int q1)] maxLocals)) s₁ (mkF m 144 #[.val (.int q0), .val (.int q1), .val (.int ((q0 &&& (2147483647 : Int32)) % (7 : Int32))), .val (.int (1 : Int32)), .unset, .unset] []) := fun t k => by
                  refine R110 t ?_
                  refine XS.icmpNo X0.here hx rfl (hb hby at_141) rfl (teq hc141_109).2 ?_
                  exact k
                obtain ⟨T111, X111, e111, st111⟩ := getS2 X0 hx hZ hown (host := "") (Or.inl (hw _ (List.mem_of_getElem? (i := 28) rfl))) Via.refl e0 pS_u5 (g := (mkF m 144 #[.val (.int q0), .val (.int q1), .val (.int ((q0 &&& (2147483647 : Int32)) % (7 : Int32))), .val (.int (1 : Int32)), .unset, .unset] [])) rfl (hb hby at_144)
                have R114 : Rch p e below (s₁.setTop (entryFrame m #[(.int q0), (.int q1)] maxLocals)) T111 (mkF m 153 #[.val (.int q0), .val (.int q1), .val (.int ((q0 &&& (2147483647 : Int32)) % (7 : Int32))), .val (.int (1 : Int32)), .val (.ref u5), .unset] []) := fun t k => by
                  refine R112 t ?_
                  refine st111 _ ?_
                  show Steps p.tables e below (T111.setTop (mkF m 147 #[.val (.int q0), .val (.int q1), .val (.int ((q0 &&& (2147483647 : Int32)) % (7 : Int32))), .val (.int (1 : Int32)), .unset, .unset] [(.ref u5)])) t
                  refine XS.astore X111.here hx rfl (hb hby at_147) rfl rfl (l' := #[.val (.int q0), .val (.int q1), .val (.int ((q0 &&& (2147483647 : Int32)) % (7 : Int32))), .val (.int (1 : Int32)), .val (.ref u5), .unset]) rfl ?_
                  show Steps p.tables e below (T111.setTop (mkF m 149 #[.val (.int q0), .val (.int q1), .val (.int ((q0 &&& (2147483647 : Int32)) % (7 : Int32))), .val (.int (1 : Int32)), .val (.ref u5), .unset] [])) t
                  refine XS.iloadN X111.here hx rfl (hb hby at_149) rfl ?_
                  show Steps p.tables e below (T111.setTop (mkF m 150 #[.val (.int q0), .val (.int q1), .val (.int ((q0 &&& (2147483647 : Int32)) % (7 : Int32))), .val (.int (1 : Int32)), .val (.ref u5), .unset] [(.int (1 : Int32))])) t
                  refine XS.ifNo X111.here hx rfl (hb hby at_150) rfl ((if0 _ _).trans (feq (by decide : ¬ ((1 : Int32) = (0 : Int32)))).1) ?_
                  exact k
                obtain ⟨T113, X113, e113, st113⟩ := getS2 X111 hx hZ hown (host := "") (Or.inl (hw _ (List.mem_of_getElem? (i := 30) rfl))) Via.refl e111 pS_s3 (g := (mkF m 153 #[.val (.int q0), .val (.int q1), .val (.int ((q0 &&& (2147483647 : Int32)) % (7 : Int32))), .val (.int (1 : Int32)), .val (.ref u5), .unset] [])) rfl (hb hby at_153)
                have R116 : Rch p e below (s₁.setTop (entryFrame m #[(.int q0), (.int q1)] maxLocals)) T113 (mkF m 190 #[.val (.int q0), .val (.int q1), .val (.int ((q0 &&& (2147483647 : Int32)) % (7 : Int32))), .val (.int (1 : Int32)), .val (.ref u5), .val (.ref s3)] [(.int (1 : Int32)), (.ref u5)]) := fun t k => by
                  refine R114 t ?_
                  refine st113 _ ?_
                  show Steps p.tables e below (T113.setTop (mkF m 156 #[.val (.int q0), .val (.int q1), .val (.int ((q0 &&& (2147483647 : Int32)) % (7 : Int32))), .val (.int (1 : Int32)), .val (.ref u5), .unset] [(.ref s3)])) t
                  refine XS.goto X113.here hx rfl (pc0 := 156) (pc' := 162) rfl (hb hby at_156) (by decide) (by decide) ?_
                  show Steps p.tables e below (T113.setTop (mkF m 162 #[.val (.int q0), .val (.int q1), .val (.int ((q0 &&& (2147483647 : Int32)) % (7 : Int32))), .val (.int (1 : Int32)), .val (.ref u5), .unset] [(.ref s3)])) t
                  refine XS.astore X113.here hx rfl (hb hby at_162) rfl rfl (l' := #[.val (.int q0), .val (.int q1), .val (.int ((q0 &&& (2147483647 : Int32)) % (7 : Int32))), .val (.int (1 : Int32)), .val (.ref u5), .val (.ref s3)]) rfl ?_
                  show Steps p.tables e below (T113.setTop (mkF m 164 #[.val (.int q0), .val (.int q1), .val (.int ((q0 &&& (2147483647 : Int32)) % (7 : Int32))), .val (.int (1 : Int32)), .val (.ref u5), .val (.ref s3)] [])) t
                  refine XS.goto X113.here hx rfl (pc0 := 164) (pc' := 187) rfl (hb hby at_164) (by decide) (by decide) ?_
                  show Steps p.tables e below (T113.setTop (mkF m 187 #[.val (.int q0), .val (.int q1), .val (.int ((q0 &&& (2147483647 : Int32)) % (7 : Int32))), .val (.int (1 : Int32)), .val (.ref u5), .val (.ref s3)] [])) t
                  refine XS.aload X113.here hx rfl (hb hby at_187) rfl rfl ?_
                  show Steps p.tables e below (T113.setTop (mkF m 189 #[.val (.int q0), .val (.int q1), .val (.int ((q0 &&& (2147483647 : Int32)) % (7 : Int32))), .val (.int (1 : Int32)), .val (.ref u5), .val (.ref s3)] [(.ref u5)])) t
                  refine XS.iloadN X113.here hx rfl (hb hby at_189) rfl ?_
                  exact k
                obtain ⟨cq115, kq115, q115a, q115b, q115c⟩ := isOf hZ e113 pE_u5
                obtain ⟨_, _, ⟨T115, L115, k115, n115⟩, -, X115, ⟨Lc115, hQ115, l115, y115, z115⟩, st115⟩ := X113.virtualBack hx (y := (⟨"com/example/lean_tx/leantx/Propagation", "step", "(Z)Lcom/example/lean_tx/leantx/Propagation$Step;"⟩ : MethodName)) (z := (⟨"com/example/lean_tx/leantx/Propagation", "step", "(Z)Lcom/example/lean_tx/leantx/Propagation$Step;"⟩ : MethodName)) hown (mvT hZ (hw _ (List.mem_of_getElem? (i := 7) rfl))) (mvT hZ (hw _ (List.mem_of_getElem? (i := 8) rfl))) (notFace_of_selects (args := #[]) (mvT hZ (hw _ (List.mem_of_getElem? (i := 10) rfl)))) (mvT hZ (hw _ (List.mem_of_getElem? (i := 10) rfl))) (mvT hZ (hw _ (List.mem_of_getElem? (i := 9) rfl))) (by decide) (backOf (W := 0) (rm1 l Z a0 hw [] u5 (1 : Int32) s3 s2 h0 n0 (Nat.le_trans Z0 K0.1) pW_u5 pO_u5) hZ (hw _ (List.mem_of_getElem? (i := 11) rfl)) (hw _ (List.mem_of_getElem? (i := 2) rfl)) (by decide) (by decide)) q115a q115c (g := (mkF m 190 #[.val (.int q0), .val (.int q1), .val (.int ((q0 &&& (2147483647 : Int32)) % (7 : Int32))), .val (.int (1 : Int32)), .val (.ref u5), .val (.ref s3)] [(.int (1 : Int32)), (.ref u5)])) rfl (by rw [hml]; rfl) (Steps.refl _) (argsL := [(.int (1 : Int32))]) (rest := []) (lenOf pd_0 rfl) rfl (by show 2 * 0 + _ ≤ _; exact Nat.le_of_eq rfl) (hb hby at_190) (fun _ _ => ⟨rfl, e113, (by decide : 0 + 0 ≤ _), (by decide : 0 + 0 ≤ _)⟩)
                dsimp only [Pt.U, Pt.locs, Pt.cells, Pt.slots] at X115 l115 y115 z115 st115 hQ115
                subst l115 y115 z115
                obtain ⟨rfl, N115q, e115⟩ := hQ115
                have N115 := Fr.app N0 N115q
                have hp115 : own_step (1 : Int32) s3 s2 = s3 := by simp [own_step]
                rw [hp115] at st115
                have R117 : Rch p e below (s₁.setTop (entryFrame m #[(.int q0), (.int q1)] maxLocals)) T115 (mkF m 203 #[.val (.int q0), .val (.int q1), .val (.int ((q0 &&& (2147483647 : Int32)) % (7 : Int32))), .val (.int (1 : Int32)), .val (.ref u5), .val (.ref s3)] [(.int (1 : Int32))]) := fun t k => by
                  refine R116 t ?_
                  refine st115.trans ?_
                  show Steps p.tables e below (T115.setTop (mkF m 193 #[.val (.int q0), .val (.int q1), .val (.int ((q0 &&& (2147483647 : Int32)) % (7 : Int32))), .val (.int (1 : Int32)), .val (.ref u5), .val (.ref s3)] [(.ref s3)])) t
                  refine XS.aload X115.here hx rfl (hb hby at_193) rfl rfl ?_
                  show Steps p.tables e below (T115.setTop (mkF m 195 #[.val (.int q0), .val (.int q1), .val (.int ((q0 &&& (2147483647 : Int32)) % (7 : Int32))), .val (.int (1 : Int32)), .val (.ref u5), .val (.ref s3)] [(.ref s3), (.ref s3)])) t
                  refine Jvm.RoadKit.acmp (g := (mkF m 195 #[.val (.int q0), .val (.int q1), .val (.int ((q0 &&& (2147483647 : Int32)) % (7 : Int32))), .val (.int (1 : Int32)), .val (.ref u5), .val (.ref s3)] [(.ref s3), (.ref s3)])) X115 hx rfl rfl rfl (pc0 := 195) (pc' := 198) (same := true) rfl (hb hby at_195) rfl (decide_eq_true rfl) (by decide) (by decide) ?_
                  show Steps p.tables e below (T115.setTop (mkF m 198 #[.val (.int q0), .val (.int q1), .val (.int ((q0 &&& (2147483647 : Int32)) % (7 : Int32))), .val (.int (1 : Int32)), .val (.ref u5), .val (.ref s3)] [])) t
                  refine XS.iconst X115.here hx rfl (hb hby at_198) ?_
                  show Steps p.tables e below (T115.setTop (mkF m 199 #[.val (.int q0), .val (.int q1), .val (.int ((q0 &&& (2147483647 : Int32)) % (7 : Int32))), .val (.int (1 : Int32)), .val (.ref u5), .val (.ref s3)] [(.int (1 : Int32))])) t
                  refine XS.goto X115.here hx rfl (pc0 := 199) (pc' := 203) rfl (hb hby at_199) (by decide) (by decide) ?_
                  exact k
                obtain ⟨fs, hr, hrun, hended, hW, hsame⟩ := X115.leave (v := some (.int (1 : Int32))) (fun h => by rw [Bd.returns] at h; cases h)
                refine ⟨_, _, R117 _ ?_, hrun, hended, _, _, rfl, ?_, ⟨_, rfl⟩, hW, hsame.mono (by decide) (by decide)⟩
                · exact retN X115 hx (t := .boolean) Bd.returns (by simp) (hb hby at_203) hr
                · show Q_rm0 Z q0 q1 u0 u1 u2 u3 u4 u5 u6 s0 s1 s2 s3 s4 h0 n0 _ T115.heap _
                  rw [e115]
                  exact ⟨rfl, N115, rfl⟩
              · have R119 : Rch p e below (s₁.setTop (entryFrame m #[(.int q0), (.int q1)] maxLocals)) s₁ (mkF m 167 #[.val (.int q0), .val (.int q1), .val (.int ((q0 &&& (2147483647 : Int32)) % (7 : Int32))), .val (.int (1 : Int32)), .unset, .unset] []) := fun t k => by
                  refine R110 t ?_
                  refine XS.icmpYes X0.here hx rfl (pc0 := 141) (pc' := 167) rfl (hb hby at_141) rfl (feq hc141_109).2 (by decide) (by decide) ?_
                  exact k
                obtain ⟨T118, X118, e118, st118⟩ := getS2 X0 hx hZ hown (host := "") (Or.inl (hw _ (List.mem_of_getElem? (i := 26) rfl))) Via.refl e0 pS_u6 (g := (mkF m 167 #[.val (.int q0), .val (.int q1), .val (.int ((q0 &&& (2147483647 : Int32)) % (7 : Int32))), .val (.int (1 : Int32)), .unset, .unset] [])) rfl (hb hby at_167)
                have R121 : Rch p e below (s₁.setTop (entryFrame m #[(.int q0), (.int q1)] maxLocals)) T118 (mkF m 176 #[.val (.int q0), .val (.int q1), .val (.int ((q0 &&& (2147483647 : Int32)) % (7 : Int32))), .val (.int (1 : Int32)), .val (.ref u6), .unset] []) := fun t k => by
                  refine R119 t ?_
                  refine st118 _ ?_
                  show Steps p.tables e below (T118.setTop (mkF m 170 #[.val (.int q0), .val (.int q1), .val (.int ((q0 &&& (2147483647 : Int32)) % (7 : Int32))), .val (.int (1 : Int32)), .unset, .unset] [(.ref u6)])) t
                  refine XS.astore X118.here hx rfl (hb hby at_170) rfl rfl (l' := #[.val (.int q0), .val (.int q1), .val (.int ((q0 &&& (2147483647 : Int32)) % (7 : Int32))), .val (.int (1 : Int32)), .val (.ref u6), .unset]) rfl ?_
                  show Steps p.tables e below (T118.setTop (mkF m 172 #[.val (.int q0), .val (.int q1), .val (.int ((q0 &&& (2147483647 : Int32)) % (7 : Int32))), .val (.int (1 : Int32)), .val (.ref u6), .unset] [])) t
                  refine XS.iloadN X118.here hx rfl (hb hby at_172) rfl ?_
                  show Steps p.tables e below (T118.setTop (mkF m 173 #[.val (.int q0), .val (.int q1), .val (.int ((q0 &&& (2147483647 : Int32)) % (7 : Int32))), .val (.int (1 : Int32)), .val (.ref u6), .unset] [(.int (1 : Int32))])) t
                  refine XS.ifNo X118.here hx rfl (hb hby at_173) rfl ((if0 _ _).trans (feq (by decide : ¬ ((1 : Int32) = (0 : Int32)))).1) ?_
                  exact k
                obtain ⟨T120, X120, e120, st120⟩ := getS2 X118 hx hZ hown (host := "") (Or.inl (hw _ (List.mem_of_getElem? (i := 34) rfl))) Via.refl e118 pS_s4 (g := (mkF m 176 #[.val (.int q0), .val (.int q1), .val (.int ((q0 &&& (2147483647 : Int32)) % (7 : Int32))), .val (.int (1 : Int32)), .val (.ref u6), .unset] [])) rfl (hb hby at_176)
                have R123 : Rch p e below (s₁.setTop (entryFrame m #[(.int q0), (.int q1)] maxLocals)) T120 (mkF m 190 #[.val (.int q0), .val (.int q1), .val (.int ((q0 &&& (2147483647 : Int32)) % (7 : Int32))), .val (.int (1 : Int32)), .val (.ref u6), .val (.ref s4)] [(.int (1 : Int32)), (.ref u6)]) := fun t k => by
                  refine R121 t ?_
                  refine st120 _ ?_
                  show Steps p.tables e below (T120.setTop (mkF m 179 #[.val (.int q0), .val (.int q1), .val (.int ((q0 &&& (2147483647 : Int32)) % (7 : Int32))), .val (.int (1 : Int32)), .val (.ref u6), .unset] [(.ref s4)])) t
                  refine XS.goto X120.here hx rfl (pc0 := 179) (pc' := 185) rfl (hb hby at_179) (by decide) (by decide) ?_
                  show Steps p.tables e below (T120.setTop (mkF m 185 #[.val (.int q0), .val (.int q1), .val (.int ((q0 &&& (2147483647 : Int32)) % (7 : Int32))), .val (.int (1 : Int32)), .val (.ref u6), .unset] [(.ref s4)])) t
                  refine XS.astore X120.here hx rfl (hb hby at_185) rfl rfl (l' := #[.val (.int q0), .val (.int q1), .val (.int ((q0 &&& (2147483647 : Int32)) % (7 : Int32))), .val (.int (1 : Int32)), .val (.ref u6), .val (.ref s4)]) rfl ?_
                  show Steps p.tables e below (T120.setTop (mkF m 187 #[.val (.int q0), .val (.int q1), .val (.int ((q0 &&& (2147483647 : Int32)) % (7 : Int32))), .val (.int (1 : Int32)), .val (.ref u6), .val (.ref s4)] [])) t
                  refine XS.aload X120.here hx rfl (hb hby at_187) rfl rfl ?_
                  show Steps p.tables e below (T120.setTop (mkF m 189 #[.val (.int q0), .val (.int q1), .val (.int ((q0 &&& (2147483647 : Int32)) % (7 : Int32))), .val (.int (1 : Int32)), .val (.ref u6), .val (.ref s4)] [(.ref u6)])) t
                  refine XS.iloadN X120.here hx rfl (hb hby at_189) rfl ?_
                  exact k
                obtain ⟨cq122, kq122, q122a, q122b, q122c⟩ := isOf hZ e120 pE_u6
                obtain ⟨_, _, ⟨T122, L122, k122, n122⟩, -, X122, ⟨Lc122, hQ122, l122, y122, z122⟩, st122⟩ := X120.virtualBack hx (y := (⟨"com/example/lean_tx/leantx/Propagation", "step", "(Z)Lcom/example/lean_tx/leantx/Propagation$Step;"⟩ : MethodName)) (z := (⟨"com/example/lean_tx/leantx/Propagation", "step", "(Z)Lcom/example/lean_tx/leantx/Propagation$Step;"⟩ : MethodName)) hown (mvT hZ (hw _ (List.mem_of_getElem? (i := 7) rfl))) (mvT hZ (hw _ (List.mem_of_getElem? (i := 8) rfl))) (notFace_of_selects (args := #[]) (mvT hZ (hw _ (List.mem_of_getElem? (i := 10) rfl)))) (mvT hZ (hw _ (List.mem_of_getElem? (i := 10) rfl))) (mvT hZ (hw _ (List.mem_of_getElem? (i := 9) rfl))) (by decide) (backOf (W := 0) (rm1 l Z a0 hw [] u6 (1 : Int32) s4 s1 h0 n0 (Nat.le_trans Z0 K0.1) pW_u6 pO_u6) hZ (hw _ (List.mem_of_getElem? (i := 11) rfl)) (hw _ (List.mem_of_getElem? (i := 2) rfl)) (by decide) (by decide)) q122a q122c (g := (mkF m 190 #[.val (.int q0), .val (.int q1), .val (.int ((q0 &&& (2147483647 : Int32)) % (7 : Int32))), .val (.int (1 : Int32)), .val (.ref u6), .val (.ref s4)] [(.int (1 : Int32)), (.ref u6)])) rfl (by rw [hml]; rfl) (Steps.refl _) (argsL := [(.int (1 : Int32))]) (rest := []) (lenOf pd_0 rfl) rfl (by show 2 * 0 + _ ≤ _; exact Nat.le_of_eq rfl) (hb hby at_190) (fun _ _ => ⟨rfl, e120, (by decide : 0 + 0 ≤ _), (by decide : 0 + 0 ≤ _)⟩)
                dsimp only [Pt.U, Pt.locs, Pt.cells, Pt.slots] at X122 l122 y122 z122 st122 hQ122
                subst l122 y122 z122
                obtain ⟨rfl, N122q, e122⟩ := hQ122
                have N122 := Fr.app N0 N122q
                have hp122 : own_step (1 : Int32) s4 s1 = s4 := by simp [own_step]
                rw [hp122] at st122
                have R124 : Rch p e below (s₁.setTop (entryFrame m #[(.int q0), (.int q1)] maxLocals)) T122 (mkF m 203 #[.val (.int q0), .val (.int q1), .val (.int ((q0 &&& (2147483647 : Int32)) % (7 : Int32))), .val (.int (1 : Int32)), .val (.ref u6), .val (.ref s4)] [(.int (1 : Int32))]) := fun t k => by
                  refine R123 t ?_
                  refine st122.trans ?_
                  show Steps p.tables e below (T122.setTop (mkF m 193 #[.val (.int q0), .val (.int q1), .val (.int ((q0 &&& (2147483647 : Int32)) % (7 : Int32))), .val (.int (1 : Int32)), .val (.ref u6), .val (.ref s4)] [(.ref s4)])) t
                  refine XS.aload X122.here hx rfl (hb hby at_193) rfl rfl ?_
                  show Steps p.tables e below (T122.setTop (mkF m 195 #[.val (.int q0), .val (.int q1), .val (.int ((q0 &&& (2147483647 : Int32)) % (7 : Int32))), .val (.int (1 : Int32)), .val (.ref u6), .val (.ref s4)] [(.ref s4), (.ref s4)])) t
                  refine Jvm.RoadKit.acmp (g := (mkF m 195 #[.val (.int q0), .val (.int q1), .val (.int ((q0 &&& (2147483647 : Int32)) % (7 : Int32))), .val (.int (1 : Int32)), .val (.ref u6), .val (.ref s4)] [(.ref s4), (.ref s4)])) X122 hx rfl rfl rfl (pc0 := 195) (pc' := 198) (same := true) rfl (hb hby at_195) rfl (decide_eq_true rfl) (by decide) (by decide) ?_
                  show Steps p.tables e below (T122.setTop (mkF m 198 #[.val (.int q0), .val (.int q1), .val (.int ((q0 &&& (2147483647 : Int32)) % (7 : Int32))), .val (.int (1 : Int32)), .val (.ref u6), .val (.ref s4)] [])) t
                  refine XS.iconst X122.here hx rfl (hb hby at_198) ?_
                  show Steps p.tables e below (T122.setTop (mkF m 199 #[.val (.int q0), .val (.int q1), .val (.int ((q0 &&& (2147483647 : Int32)) % (7 : Int32))), .val (.int (1 : Int32)), .val (.ref u6), .val (.ref s4)] [(.int (1 : Int32))])) t
                  refine XS.goto X122.here hx rfl (pc0 := 199) (pc' := 203) rfl (hb hby at_199) (by decide) (by decide) ?_
                  exact k
                obtain ⟨fs, hr, hrun, hended, hW, hsame⟩ := X122.leave (v := some (.int (1 : Int32))) (fun h => by rw [Bd.returns] at h; cases h)
                refine ⟨_, _, R124 _ ?_, hrun, hended, _, _, rfl, ?_, ⟨_, rfl⟩, hW, hsame.mono (by decide) (by decide)⟩
                · exact retN X122 hx (t := .boolean) Bd.returns (by simp) (hb hby at_203) hr
                · show Q_rm0 Z q0 q1 u0 u1 u2 u3 u4 u5 u6 s0 s1 s2 s3 s4 h0 n0 _ T122.heap _
                  rw [e122]
                  exact ⟨rfl, N122, rfl⟩
set_option maxRecDepth 65536 in
set_option maxHeartbeats 40000000 in
theorem comes_1 {Post : Tables → Env → Array Value → State → Outcome → State → Prop} (hpost : ∀ tb e args s v u, (limb_1_1.after args s (.returned v) u = true ∧ limb_1_2.after args s (.returned v) u = true ∧ True) → FrameEnd s (.returned v) u (Jvm.fieldLocs frame_1_writes args s ++ Jvm.arrayLocs frame_1_arrays args s ++ Jvm.staticLocs frame_1_statics s) 0 0 → Post tb e args s (.returned v) u) :
    ArmFor flags0 classFile x code maxLocals ret World_1 tables_1 room_1 Calls_1 rest_1 Pre_1 Post := by
  intro l hfl _ _ p e ha hc hk s m args below hf hA hF happ hP
  obtain ⟨hcalls, hrest, hpre⟩ := hP
  obtain ⟨-, -, -, hnamed, -, -, -, hat⟩ := (Spec.applies_iff hf).mp happ
  obtain ⟨hg, hn⟩ := and_e (Cond.before_iff.mp (show (Jvm.Cond.and given_1 narrow_1).before args s = true from hpre))
  obtain ⟨g0, g1⟩ := and_e hg
  obtain ⟨a0, g2⟩ := and_e g1
  obtain ⟨w0, w1, rfl⟩ : ∃ w0 w1 : Value, args = #[w0, w1] := by
    have hs : args.size = 2 := by simpa [Cond.value, given_1] using g0
    obtain ⟨L⟩ := args
    match L, hs with
    | [w0, w1], _ => exact ⟨w0, w1, rfl⟩
  have hw := fun d (hd : d ∈ tables_1) => atoms_spec (ws := Jvm.Cond.code x code maxLocals ret :: tables_1) hat d (List.mem_cons_of_mem _ hd)
  have hfit : Fit s := fun {y c} hc i hi => by
    obtain ⟨ha, rfl⟩ := Array.getElem?_eq_some_iff.mp hc
    have q := List.all_eq_true.mp ((Array.all_eq_true_iff_forall_mem.mp hF) _ (Array.getElem_mem ha)) i (List.mem_range.mpr hi)
    simpa [Array.getElem?_eq_getElem hi] using q
  obtain ⟨i0, ei0⟩ := is_v a0
  obtain rfl : w0 = (.int i0) := Option.some.inj ei0
  obtain ⟨i1, ei1⟩ := is_v g2
  obtain rfl : w1 = (.int i1) := Option.some.inj ei1
  obtain ⟨c0, hn0⟩ := and_e hn
  obtain ⟨c1, hn1⟩ := and_e hn0
  obtain ⟨c2, hn2⟩ := and_e hn1
  obtain ⟨c3, hn3⟩ := and_e hn2
  obtain ⟨c4, hn4⟩ := and_e hn3
  obtain ⟨c5, hn5⟩ := and_e hn4
  obtain ⟨c6, hn6⟩ := and_e hn5
  obtain ⟨c7, hn7⟩ := and_e hn6
  obtain ⟨c8, hn8⟩ := and_e hn7
  obtain ⟨c9, hn9⟩ := and_e hn8
  obtain ⟨c10, hn10⟩ := and_e hn9
  obtain ⟨c11, hn11⟩ := and_e hn10
  obtain ⟨c12, hn12⟩ := and_e hn11
  obtain ⟨c13, hn13⟩ := and_e hn12
  obtain ⟨c14, hn14⟩ := and_e hn13
  obtain ⟨c15, hn15⟩ := and_e hn14
  obtain ⟨c16, hn16⟩ := and_e hn15
  obtain ⟨c17, hn17⟩ := and_e hn16
  obtain ⟨c18, hn18⟩ := and_e hn17
  obtain ⟨c19, hn19⟩ := and_e hn18
  obtain ⟨c20, hn20⟩ := and_e hn19
  obtain ⟨c21, hn21⟩ := and_e hn20
  obtain ⟨c22, hn22⟩ := and_e hn21
  obtain ⟨c23, hn23⟩ := and_e hn22
  obtain ⟨c24, hn24⟩ := and_e hn23
  obtain ⟨xu0, ev_xu0⟩ := exa_v c0
  have E_xu0 : Exa s s.heap xu0 "com/example/lean_tx/leantx/Propagation" := Exa.start ev_xu0 c0
  have S_xu0 : Sta s s.heap "com/example/lean_tx/leantx/Propagation" "REQUIRED" "Lcom/example/lean_tx/leantx/Propagation;" (.ref xu0) := Sta.start ev_xu0 (Or.inr ⟨(hw _ (List.mem_of_getElem? (i := 2) rfl)), (hw _ (List.mem_of_getElem? (i := 3) rfl))⟩)
  obtain ⟨xs0, ev_xs0⟩ := exa_v c1
  have E_xs0 : Exa s s.heap xs0 "com/example/lean_tx/leantx/Propagation$Step" := Exa.start ev_xs0 c1
  have S_xs0 : Sta s s.heap "com/example/lean_tx/leantx/Propagation$Step" "JOIN" "Lcom/example/lean_tx/leantx/Propagation$Step;" (.ref xs0) := Sta.start ev_xs0 (Or.inr ⟨(hw _ (List.mem_of_getElem? (i := 5) rfl)), (hw _ (List.mem_of_getElem? (i := 6) rfl))⟩)
  obtain ⟨xu3, ev_xu3⟩ := exa_v c3
  have E_xu3 : Exa s s.heap xu3 "com/example/lean_tx/leantx/Propagation" := Exa.start ev_xu3 c3
  have S_xu3 : Sta s s.heap "com/example/lean_tx/leantx/Propagation" "REQUIRES_NEW" "Lcom/example/lean_tx/leantx/Propagation;" (.ref xu3) := Sta.start ev_xu3 (Or.inr ⟨(hw _ (List.mem_of_getElem? (i := 2) rfl)), (hw _ (List.mem_of_getElem? (i := 15) rfl))⟩)
  obtain ⟨xs1, ev_xs1⟩ := exa_v c4
  have E_xs1 : Exa s s.heap xs1 "com/example/lean_tx/leantx/Propagation$Step" := Exa.start ev_xs1 c4
  have S_xs1 : Sta s s.heap "com/example/lean_tx/leantx/Propagation$Step" "BEGIN" "Lcom/example/lean_tx/leantx/Propagation$Step;" (.ref xs1) := Sta.start ev_xs1 (Or.inr ⟨(hw _ (List.mem_of_getElem? (i := 5) rfl)), (hw _ (List.mem_of_getElem? (i := 17) rfl))⟩)
  obtain ⟨xu1, ev_xu1⟩ := exa_v c6
  have E_xu1 : Exa s s.heap xu1 "com/example/lean_tx/leantx/Propagation" := Exa.start ev_xu1 c6
  have S_xu1 : Sta s s.heap "com/example/lean_tx/leantx/Propagation" "SUPPORTS" "Lcom/example/lean_tx/leantx/Propagation;" (.ref xu1) := Sta.start ev_xu1 (Or.inr ⟨(hw _ (List.mem_of_getElem? (i := 2) rfl)), (hw _ (List.mem_of_getElem? (i := 19) rfl))⟩)
  obtain ⟨xs2, ev_xs2⟩ := exa_v c7
  have E_xs2 : Exa s s.heap xs2 "com/example/lean_tx/leantx/Propagation$Step" := Exa.start ev_xs2 c7
  have S_xs2 : Sta s s.heap "com/example/lean_tx/leantx/Propagation$Step" "WITHOUT" "Lcom/example/lean_tx/leantx/Propagation$Step;" (.ref xs2) := Sta.start ev_xs2 (Or.inr ⟨(hw _ (List.mem_of_getElem? (i := 5) rfl)), (hw _ (List.mem_of_getElem? (i := 21) rfl))⟩)
  obtain ⟨xu4, ev_xu4⟩ := exa_v c9
  have E_xu4 : Exa s s.heap xu4 "com/example/lean_tx/leantx/Propagation" := Exa.start ev_xu4 c9
  have S_xu4 : Sta s s.heap "com/example/lean_tx/leantx/Propagation" "NOT_SUPPORTED" "Lcom/example/lean_tx/leantx/Propagation;" (.ref xu4) := Sta.start ev_xu4 (Or.inr ⟨(hw _ (List.mem_of_getElem? (i := 2) rfl)), (hw _ (List.mem_of_getElem? (i := 25) rfl))⟩)
  obtain ⟨xu6, ev_xu6⟩ := exa_v c12
  have E_xu6 : Exa s s.heap xu6 "com/example/lean_tx/leantx/Propagation" := Exa.start ev_xu6 c12
  have S_xu6 : Sta s s.heap "com/example/lean_tx/leantx/Propagation" "NESTED" "Lcom/example/lean_tx/leantx/Propagation;" (.ref xu6) := Sta.start ev_xu6 (Or.inr ⟨(hw _ (List.mem_of_getElem? (i := 2) rfl)), (hw _ (List.mem_of_getElem? (i := 27) rfl))⟩)
  obtain ⟨xu5, ev_xu5⟩ := exa_v c15
  have E_xu5 : Exa s s.heap xu5 "com/example/lean_tx/leantx/Propagation" := Exa.start ev_xu5 c15
  have S_xu5 : Sta s s.heap "com/example/lean_tx/leantx/Propagation" "NEVER" "Lcom/example/lean_tx/leantx/Propagation;" (.ref xu5) := Sta.start ev_xu5 (Or.inr ⟨(hw _ (List.mem_of_getElem? (i := 2) rfl)), (hw _ (List.mem_of_getElem? (i := 29) rfl))⟩)
  obtain ⟨xs3, ev_xs3⟩ := exa_v c16
  have E_xs3 : Exa s s.heap xs3 "com/example/lean_tx/leantx/Propagation$Step" := Exa.start ev_xs3 c16
  have S_xs3 : Sta s s.heap "com/example/lean_tx/leantx/Propagation$Step" "REFUSE" "Lcom/example/lean_tx/leantx/Propagation$Step;" (.ref xs3) := Sta.start ev_xs3 (Or.inr ⟨(hw _ (List.mem_of_getElem? (i := 5) rfl)), (hw _ (List.mem_of_getElem? (i := 31) rfl))⟩)
  obtain ⟨xu2, ev_xu2⟩ := exa_v c20
  have E_xu2 : Exa s s.heap xu2 "com/example/lean_tx/leantx/Propagation" := Exa.start ev_xu2 c20
  have S_xu2 : Sta s s.heap "com/example/lean_tx/leantx/Propagation" "MANDATORY" "Lcom/example/lean_tx/leantx/Propagation;" (.ref xu2) := Sta.start ev_xu2 (Or.inr ⟨(hw _ (List.mem_of_getElem? (i := 2) rfl)), (hw _ (List.mem_of_getElem? (i := 33) rfl))⟩)
  obtain ⟨xs4, ev_xs4⟩ := exa_v c23
  have E_xs4 : Exa s s.heap xs4 "com/example/lean_tx/leantx/Propagation$Step" := Exa.start ev_xs4 c23
  have S_xs4 : Sta s s.heap "com/example/lean_tx/leantx/Propagation$Step" "SAVEPOINT" "Lcom/example/lean_tx/leantx/Propagation$Step;" (.ref xs4) := Sta.start ev_xs4 (Or.inr ⟨(hw _ (List.mem_of_getElem? (i := 5) rfl)), (hw _ (List.mem_of_getElem? (i := 35) rfl))⟩)
  have F_xu0_withTransaction : Fld s s.heap xu0 "com/example/lean_tx/leantx/Propagation" "withTransaction" "Lcom/example/lean_tx/leantx/Propagation$Step;" (.ref xs0) := Fld.start ((fld_at ev_xu0).symm.trans (own_eq_ref c2 ev_xs0))
  have F_xu3_withTransaction : Fld s s.heap xu3 "com/example/lean_tx/leantx/Propagation" "withTransaction" "Lcom/example/lean_tx/leantx/Propagation$Step;" (.ref xs1) := Fld.start ((fld_at ev_xu3).symm.trans (own_eq_ref c5 ev_xs1))
  have F_xu1_withoutTransaction : Fld s s.heap xu1 "com/example/lean_tx/leantx/Propagation" "withoutTransaction" "Lcom/example/lean_tx/leantx/Propagation$Step;" (.ref xs2) := Fld.start ((fld_at ev_xu1).symm.trans (own_eq_ref c8 ev_xs2))
  have F_xu4_withoutTransaction : Fld s s.heap xu4 "com/example/lean_tx/leantx/Propagation" "withoutTransaction" "Lcom/example/lean_tx/leantx/Propagation$Step;" (.ref xs2) := Fld.start ((fld_at ev_xu4).symm.trans (own_eq_ref c10 ev_xs2))
  have F_xu4_withTransaction : Fld s s.heap xu4 "com/example/lean_tx/leantx/Propagation" "withTransaction" "Lcom/example/lean_tx/leantx/Propagation$Step;" (.ref xs2) := Fld.start ((fld_at ev_xu4).symm.trans (own_eq_ref c11 ev_xs2))
  have F_xu6_withoutTransaction : Fld s s.heap xu6 "com/example/lean_tx/leantx/Propagation" "withoutTransaction" "Lcom/example/lean_tx/leantx/Propagation$Step;" (.ref xs1) := Fld.start ((fld_at ev_xu6).symm.trans (own_eq_ref c13 ev_xs1))
  have F_xu1_withTransaction : Fld s s.heap xu1 "com/example/lean_tx/leantx/Propagation" "withTransaction" "Lcom/example/lean_tx/leantx/Propagation$Step;" (.ref xs0) := Fld.start ((fld_at ev_xu1).symm.trans (own_eq_ref c14 ev_xs0))
  have F_xu5_withTransaction : Fld s s.heap xu5 "com/example/lean_tx/leantx/Propagation" "withTransaction" "Lcom/example/lean_tx/leantx/Propagation$Step;" (.ref xs3) := Fld.start ((fld_at ev_xu5).symm.trans (own_eq_ref c17 ev_xs3))
  have F_xu0_withoutTransaction : Fld s s.heap xu0 "com/example/lean_tx/leantx/Propagation" "withoutTransaction" "Lcom/example/lean_tx/leantx/Propagation$Step;" (.ref xs1) := Fld.start ((fld_at ev_xu0).symm.trans (own_eq_ref c18 ev_xs1))
  have F_xu5_withoutTransaction : Fld s s.heap xu5 "com/example/lean_tx/leantx/Propagation" "withoutTransaction" "Lcom/example/lean_tx/leantx/Propagation$Step;" (.ref xs2) := Fld.start ((fld_at ev_xu5).symm.trans (own_eq_ref c19 ev_xs2))
  have F_xu2_withoutTransaction : Fld s s.heap xu2 "com/example/lean_tx/leantx/Propagation" "withoutTransaction" "Lcom/example/lean_tx/leantx/Propagation$Step;" (.ref xs3) := Fld.start ((fld_at ev_xu2).symm.trans (own_eq_ref c21 ev_xs3))
  have F_xu3_withoutTransaction : Fld s s.heap xu3 "com/example/lean_tx/leantx/Propagation" "withoutTransaction" "Lcom/example/lean_tx/leantx/Propagation$Step;" (.ref xs1) := Fld.start ((fld_at ev_xu3).symm.trans (own_eq_ref c22 ev_xs1))
  have F_xu6_withTransaction : Fld s s.heap xu6 "com/example/lean_tx/leantx/Propagation" "withTransaction" "Lcom/example/lean_tx/leantx/Propagation$Step;" (.ref xs4) := Fld.start ((fld_at ev_xu6).symm.trans (own_eq_ref c24 ev_xs4))
  have F_xu2_withTransaction : Fld s s.heap xu2 "com/example/lean_tx/leantx/Propagation" "withTransaction" "Lcom/example/lean_tx/leantx/Propagation$Step;" (.ref xs0) := Fld.start ((fld_at ev_xu2).symm.trans (own_eq_ref hn24 ev_xs0))
  obtain ⟨n, o, h1, h2, h3, _, L, rfl, ⟨rfl, N, -⟩, hq⟩ := rm0 l s _ hw tables_1 i0 i1 xu0 xu1 xu2 xu3 xu4 xu5 xu6 xs0 xs1 xs2 xs3 xs4 s.heap s.heap.size (Nat.le_refl _) S_xu0 S_xu1 S_xu2 S_xu3 S_xu4 S_xu5 S_xu6 S_xs0 S_xs1 S_xs2 S_xs3 S_xs4 E_xu0 E_xu1 E_xu2 E_xu3 E_xu4 E_xu5 E_xu6 F_xu0_withTransaction F_xu1_withTransaction F_xu2_withTransaction F_xu3_withTransaction F_xu4_withTransaction F_xu5_withTransaction F_xu6_withTransaction F_xu0_withoutTransaction F_xu1_withoutTransaction F_xu2_withoutTransaction F_xu3_withoutTransaction F_xu4_withoutTransaction F_xu5_withoutTransaction F_xu6_withoutTransaction p e ha hc hk s m _ below hf ((Spec.applies_iff_loose hf).mp happ).1 ⟨rfl, State.Warmed39.refl s, rfl⟩ trivial
  refine ⟨n, _, h1, h2, h3, hpost _ _ _ _ _ _ ⟨Cond.after_iff.mpr rfl, Cond.after_iff.mpr (eq_i res_at (Term.int_eval (1)) rfl), trivial⟩ ⟨hq.1, hq.2.1, (hq.2.2.sift fun y hy => Or.inr (N y hy)).mono (by decide) (by decide)⟩⟩
theorem main_1_1 : Claimed_1_1 := comes_1 fun _ _ _ _ _ _ h hF => ⟨h.1, hF⟩
theorem main_1_2 : Claimed_1_2 := comes_1 fun _ _ _ _ _ _ h hF => ⟨h.2.1, hF⟩
end Jvm.Pilot.@@N@@
namespace Jvm.Pilot.@@N@@
open Jvm Jvm.ClassFile Sem Op Lib Jvm.Free Jvm.Stand Jvm.Pilot.@@N@@.Jvm.D
/-! MADE BY PROGRAM (witnessworld.py) out of the Statement's table words and the real class files: 11 classes; the members and pool entries that the words name. The judged class is class 1, her method 1. -/
namespace start1
open Jvm.ClassFile
def u (s : String) : CpInfo := .utf8 (stringToUtf16 s)
/-- a pool by its gaps: so many unusable entries, then the entry; so many at the end -/
def gap : Nat → List CpInfo → List CpInfo
  | 0, r => r
  | n + 1, r => .unusable :: gap n r
def poolList (es : List (Nat × CpInfo)) (last : Nat) : List CpInfo := es.foldr (fun e r => gap e.1 (e.2 :: r)) (gap last [])
def pool (es : List (Nat × CpInfo)) (last : Nat) : Array CpInfo := ⟨poolList es last⟩
def fileOf (pool : Array CpInfo) (this : Nat) (attrs : Array Attribute := #[]) (ms : Array MethodInfo := #[]) (fl : Nat := 33) (sup : Nat := 0) (ifs : Array Nat := #[]) (fds : Array FieldInfo := #[]) : ClassFile where
  minorVersion := 0
  majorVersion := 65
  constantPool := pool
  accessFlags := fl
  thisClass := this
  superClass := sup
  interfaces := ifs
  fields := fds
  methods := ms
  attributes := attrs
def plain (name : String) (sup : Option ClassId) : Class where
  name := name
  kind := .ordinary
  loader := none
  accessFlags := 33
  super := sup
  interfaces := #[]
  cf := none
  fields := #[]
  methods := #[]
  instanceTypes := #[]
  staticTypes := #[]
  resolved := #[]
  callSites := []
  init := .initialized
  statics := none
  mirror := none

def pool0 : Array CpInfo := pool [(5, u "<init>"), (0, u "()V"), (1, .class_ 10), (1, u "java/lang/Object")] 113

def k0m0 : Method := { name := "<init>", desc := "()V", sig := { parameters := [], returnType := none }, accessFlags := 1, code := none }
/-- java/lang/Object -/
def k0 : Class := { plain "java/lang/Object" none with
  accessFlags := 33
  interfaces := #[]
  cf := some (fileOf pool0 8 #[] #[{ accessFlags := 1, nameIndex := 5, descriptorIndex := 6, attributes := #[] }] 33 0 #[] #[])
  fields := #[]
  methods := #[k0m0]
  instanceTypes := #[]
  staticTypes := #[]
  resolved := Array.replicate 124 none
  statics := none }

def pool1 : Array CpInfo := pool [(2, .class_ 4), (1, u "java/lang/Object"), (0, u "<init>"), (0, u "()V"), (0, .integer 2147483647), (0, .fieldref 9 10), (0, .class_ 11), (0, .nameAndType 12 13), (0, u "com/example/lean_tx/leantx/Propagation"), (0, u "REQUIRED"), (0, u "Lcom/example/lean_tx/leantx/Propagation;"), (0, .fieldref 15 16), (0, .class_ 17), (0, .nameAndType 18 19), (0, u "com/example/lean_tx/leantx/Propagation$Step"), (0, u "JOIN"), (0, u "Lcom/example/lean_tx/leantx/Propagation$Step;"), (0, .fieldref 15 21), (0, .nameAndType 22 19), (0, u "BEGIN"), (0, .fieldref 9 24), (0, .nameAndType 25 13), (0, u "SUPPORTS"), (0, .fieldref 15 27), (0, .nameAndType 28 19), (0, u "WITHOUT"), (0, .fieldref 9 30), (0, .nameAndType 31 13), (0, u "MANDATORY"), (0, .fieldref 15 33), (0, .nameAndType 34 19), (0, u "REFUSE"), (0, .fieldref 9 36), (0, .nameAndType 37 13), (0, u "REQUIRES_NEW"), (0, .fieldref 9 39), (0, .nameAndType 40 13), (0, u "NOT_SUPPORTED"), (0, .fieldref 9 42), (0, .nameAndType 43 13), (0, u "NEVER"), (0, .fieldref 9 45), (0, .nameAndType 46 13), (0, u "NESTED"), (0, .fieldref 15 48), (0, .nameAndType 49 19), (0, u "SAVEPOINT"), (0, .methodref 9 51), (0, .nameAndType 52 53), (0, u "step"), (0, u "(Z)Lcom/example/lean_tx/leantx/Propagation$Step;"), (0, .class_ 55), (0, u "com/example/lean_tx/leantx/PropagationStepPinLaw"), (2, u "law"), (0, u "(II)Z")] 5

def k1m0 : Method := { name := "<init>", desc := "()V", sig := { parameters := [], returnType := none }, accessFlags := 1, code := none }
def k1c1 : Code := { maxStack := 2, maxLocals := 6, code := code, exceptionTable := #[], attributes := #[] }
def k1m1 : Method := { name := "law", desc := "(II)Z", sig := { parameters := [.int, .int], returnType := some .boolean }, accessFlags := 9, code := some k1c1 }
/-- com/example/lean_tx/leantx/PropagationStepPinLaw -/
def k1 : Class := { plain "com/example/lean_tx/leantx/PropagationStepPinLaw" (some 0) with
  accessFlags := 49
  interfaces := #[]
  cf := some (fileOf pool1 54 #[] #[{ accessFlags := 1, nameIndex := 5, descriptorIndex := 6, attributes := #[] }, { accessFlags := 9, nameIndex := 58, descriptorIndex := 59, attributes := #[] }] 49 2 #[] #[])
  fields := #[]
  methods := #[k1m0, k1m1]
  instanceTypes := #[]
  staticTypes := #[]
  resolved := Array.replicate 65 none
  statics := none }

def pool2 : Array CpInfo := pool [(1, .class_ 2), (0, u "java/lang/constant/Constable"), (0, .class_ 4), (0, u "java/lang/Object")] 6

/-- java/lang/constant/Constable -/
def k2 : Class := { plain "java/lang/constant/Constable" (some 0) with
  accessFlags := 1537
  interfaces := #[]
  cf := some (fileOf pool2 1 #[] #[] 1537 3 #[] #[])
  fields := #[]
  methods := #[]
  instanceTypes := #[]
  staticTypes := #[]
  resolved := Array.replicate 11 none
  statics := none }

def pool3 : Array CpInfo := pool [(1, .class_ 2), (0, u "java/lang/Comparable"), (0, .class_ 4), (0, u "java/lang/Object")] 7

/-- java/lang/Comparable -/
def k3 : Class := { plain "java/lang/Comparable" (some 0) with
  accessFlags := 1537
  interfaces := #[]
  cf := some (fileOf pool3 1 #[] #[] 1537 3 #[] #[])
  fields := #[]
  methods := #[]
  instanceTypes := #[]
  staticTypes := #[]
  resolved := Array.replicate 12 none
  statics := none }

def pool4 : Array CpInfo := pool [(1, .class_ 2), (0, u "java/io/Serializable"), (0, .class_ 4), (0, u "java/lang/Object")] 2

/-- java/io/Serializable -/
def k4 : Class := { plain "java/io/Serializable" (some 0) with
  accessFlags := 1537
  interfaces := #[]
  cf := some (fileOf pool4 1 #[] #[] 1537 3 #[] #[])
  fields := #[]
  methods := #[]
  instanceTypes := #[]
  staticTypes := #[]
  resolved := Array.replicate 7 none
  statics := none }

def pool5 : Array CpInfo := pool [(2, .class_ 4), (1, u "java/lang/Enum"), (0, u "name"), (0, u "Ljava/lang/String;"), (2, u "ordinal"), (0, u "I"), (1, .class_ 14), (1, u "java/lang/Object"), (4, u "hash"), (86, .class_ 108), (1, u "java/lang/Enum$EnumDesc"), (2, .class_ 112), (0, u "java/lang/constant/Constable"), (0, .class_ 114), (0, u "java/lang/Comparable"), (0, .class_ 116), (0, u "java/io/Serializable")] 87

/-- java/lang/Enum -/
def k5 : Class := { plain "java/lang/Enum" (some 0) with
  accessFlags := 1057
  interfaces := #[2, 3, 4]
  cf := some (fileOf pool5 2 #[.nestMembers #[106]] #[] 1057 12 #[111, 113, 115] #[{ accessFlags := 18, nameIndex := 5, descriptorIndex := 6, attributes := #[] }, { accessFlags := 18, nameIndex := 9, descriptorIndex := 10, attributes := #[] }, { accessFlags := 2, nameIndex := 19, descriptorIndex := 10, attributes := #[] }])
  fields := #[{ name := "name", type := (.object "java/lang/String"), accessFlags := 18, slot := 0, constantValue := 0 }, { name := "ordinal", type := .int, accessFlags := 18, slot := 1, constantValue := 0 }, { name := "hash", type := .int, accessFlags := 2, slot := 2, constantValue := 0 }]
  methods := #[]
  instanceTypes := #[(.object "java/lang/String"), .int, .int]
  staticTypes := #[]
  resolved := Array.replicate 204 none
  statics := none }

def pool6 : Array CpInfo := pool [(1, .class_ 2), (0, u "com/example/lean_tx/leantx/Propagation"), (2, u "REQUIRED"), (0, u "Lcom/example/lean_tx/leantx/Propagation;"), (2, u "SUPPORTS"), (2, u "MANDATORY"), (2, u "REQUIRES_NEW"), (2, u "NOT_SUPPORTED"), (2, u "NEVER"), (2, u "NESTED"), (2, u "$VALUES"), (0, u "[Lcom/example/lean_tx/leantx/Propagation;"), (6, .class_ 37), (1, u "java/lang/Enum"), (6, .fieldref 1 45), (0, .nameAndType 46 47), (0, u "withTransaction"), (0, u "Lcom/example/lean_tx/leantx/Propagation$Step;"), (0, .fieldref 1 49), (0, .nameAndType 50 47), (0, u "withoutTransaction"), (2, .class_ 55), (1, u "com/example/lean_tx/leantx/Propagation$Step"), (33, u "step"), (0, u "(Z)Lcom/example/lean_tx/leantx/Propagation$Step;")] 9

def k6c0 : Code := { maxStack := 1, maxLocals := 2, code := prog_34_method_4_code, exceptionTable := #[], attributes := #[] }
def k6m0 : Method := { name := "step", desc := "(Z)Lcom/example/lean_tx/leantx/Propagation$Step;", sig := { parameters := [.boolean], returnType := some (.object "com/example/lean_tx/leantx/Propagation$Step") }, accessFlags := 0, code := some k6c0 }
/-- com/example/lean_tx/leantx/Propagation -/
def k6 : Class := { plain "com/example/lean_tx/leantx/Propagation" (some 5) with
  accessFlags := 16433
  interfaces := #[]
  cf := some (fileOf pool6 1 #[.nestMembers #[53]] #[{ accessFlags := 0, nameIndex := 89, descriptorIndex := 90, attributes := #[] }] 16433 35 #[] #[{ accessFlags := 16409, nameIndex := 5, descriptorIndex := 6, attributes := #[] }, { accessFlags := 16409, nameIndex := 9, descriptorIndex := 6, attributes := #[] }, { accessFlags := 16409, nameIndex := 12, descriptorIndex := 6, attributes := #[] }, { accessFlags := 16409, nameIndex := 15, descriptorIndex := 6, attributes := #[] }, { accessFlags := 16409, nameIndex := 18, descriptorIndex := 6, attributes := #[] }, { accessFlags := 16409, nameIndex := 21, descriptorIndex := 6, attributes := #[] }, { accessFlags := 16409, nameIndex := 24, descriptorIndex := 6, attributes := #[] }, { accessFlags := 18, nameIndex := 46, descriptorIndex := 47, attributes := #[] }, { accessFlags := 18, nameIndex := 50, descriptorIndex := 47, attributes := #[] }, { accessFlags := 4122, nameIndex := 27, descriptorIndex := 28, attributes := #[] }])
  fields := #[{ name := "REQUIRED", type := (.object "com/example/lean_tx/leantx/Propagation"), accessFlags := 16409, slot := 0, constantValue := 0 }, { name := "SUPPORTS", type := (.object "com/example/lean_tx/leantx/Propagation"), accessFlags := 16409, slot := 1, constantValue := 0 }, { name := "MANDATORY", type := (.object "com/example/lean_tx/leantx/Propagation"), accessFlags := 16409, slot := 2, constantValue := 0 }, { name := "REQUIRES_NEW", type := (.object "com/example/lean_tx/leantx/Propagation"), accessFlags := 16409, slot := 3, constantValue := 0 }, { name := "NOT_SUPPORTED", type := (.object "com/example/lean_tx/leantx/Propagation"), accessFlags := 16409, slot := 4, constantValue := 0 }, { name := "NEVER", type := (.object "com/example/lean_tx/leantx/Propagation"), accessFlags := 16409, slot := 5, constantValue := 0 }, { name := "NESTED", type := (.object "com/example/lean_tx/leantx/Propagation"), accessFlags := 16409, slot := 6, constantValue := 0 }, { name := "withTransaction", type := (.object "com/example/lean_tx/leantx/Propagation$Step"), accessFlags := 18, slot := 3, constantValue := 0 }, { name := "withoutTransaction", type := (.object "com/example/lean_tx/leantx/Propagation$Step"), accessFlags := 18, slot := 4, constantValue := 0 }, { name := "$VALUES", type := (.array (.object "com/example/lean_tx/leantx/Propagation")), accessFlags := 4122, slot := 7, constantValue := 0 }]
  methods := #[k6m0]
  instanceTypes := #[(.object "java/lang/String"), .int, .int, (.object "com/example/lean_tx/leantx/Propagation$Step"), (.object "com/example/lean_tx/leantx/Propagation$Step")]
  staticTypes := #[(.object "com/example/lean_tx/leantx/Propagation"), (.object "com/example/lean_tx/leantx/Propagation"), (.object "com/example/lean_tx/leantx/Propagation"), (.object "com/example/lean_tx/leantx/Propagation"), (.object "com/example/lean_tx/leantx/Propagation"), (.object "com/example/lean_tx/leantx/Propagation"), (.object "com/example/lean_tx/leantx/Propagation"), (.array (.object "com/example/lean_tx/leantx/Propagation"))]
  resolved := Array.replicate 100 none
  statics := some 0 }

def pool7 : Array CpInfo := pool [(1, .class_ 2), (0, u "com/example/lean_tx/leantx/Propagation$Step"), (2, u "JOIN"), (0, u "Lcom/example/lean_tx/leantx/Propagation$Step;"), (2, u "SAVEPOINT"), (2, u "BEGIN"), (2, u "WITHOUT"), (2, u "REFUSE"), (2, u "$VALUES"), (0, u "[Lcom/example/lean_tx/leantx/Propagation$Step;"), (6, .class_ 31), (1, u "java/lang/Enum"), (28, .class_ 61), (0, u "com/example/lean_tx/leantx/Propagation")] 2

/-- com/example/lean_tx/leantx/Propagation$Step -/
def k7 : Class := { plain "com/example/lean_tx/leantx/Propagation$Step" (some 5) with
  accessFlags := 16432
  interfaces := #[]
  cf := some (fileOf pool7 1 #[.nestHost 60] #[] 16432 29 #[] #[{ accessFlags := 16409, nameIndex := 5, descriptorIndex := 6, attributes := #[] }, { accessFlags := 16409, nameIndex := 9, descriptorIndex := 6, attributes := #[] }, { accessFlags := 16409, nameIndex := 12, descriptorIndex := 6, attributes := #[] }, { accessFlags := 16409, nameIndex := 15, descriptorIndex := 6, attributes := #[] }, { accessFlags := 16409, nameIndex := 18, descriptorIndex := 6, attributes := #[] }, { accessFlags := 4122, nameIndex := 21, descriptorIndex := 22, attributes := #[] }])
  fields := #[{ name := "JOIN", type := (.object "com/example/lean_tx/leantx/Propagation$Step"), accessFlags := 16409, slot := 0, constantValue := 0 }, { name := "SAVEPOINT", type := (.object "com/example/lean_tx/leantx/Propagation$Step"), accessFlags := 16409, slot := 1, constantValue := 0 }, { name := "BEGIN", type := (.object "com/example/lean_tx/leantx/Propagation$Step"), accessFlags := 16409, slot := 2, constantValue := 0 }, { name := "WITHOUT", type := (.object "com/example/lean_tx/leantx/Propagation$Step"), accessFlags := 16409, slot := 3, constantValue := 0 }, { name := "REFUSE", type := (.object "com/example/lean_tx/leantx/Propagation$Step"), accessFlags := 16409, slot := 4, constantValue := 0 }, { name := "$VALUES", type := (.array (.object "com/example/lean_tx/leantx/Propagation$Step")), accessFlags := 4122, slot := 5, constantValue := 0 }]
  methods := #[]
  instanceTypes := #[(.object "java/lang/String"), .int, .int]
  staticTypes := #[(.object "com/example/lean_tx/leantx/Propagation$Step"), (.object "com/example/lean_tx/leantx/Propagation$Step"), (.object "com/example/lean_tx/leantx/Propagation$Step"), (.object "com/example/lean_tx/leantx/Propagation$Step"), (.object "com/example/lean_tx/leantx/Propagation$Step"), (.array (.object "com/example/lean_tx/leantx/Propagation$Step"))]
  resolved := Array.replicate 64 none
  statics := some 1 }

def pool8 : Array CpInfo := pool [(1, u "java/lang/Cloneable"), (0, .class_ 1), (0, u "java/lang/Object"), (0, .class_ 3)] 3

/-- java/lang/Cloneable -/
def k8 : Class := { plain "java/lang/Cloneable" (some 0) with
  accessFlags := 1537
  interfaces := #[]
  cf := some (fileOf pool8 2 #[] #[] 1537 4 #[] #[])
  fields := #[]
  methods := #[]
  instanceTypes := #[]
  staticTypes := #[]
  resolved := Array.replicate 8 none
  statics := none }

/-- the primitive byte -/
def k9 : Class := { plain "byte" none with kind := .primitive 'B', accessFlags := 0x411 }
/-- [B -/
def k10 : Class := { plain "[B" (some 0) with kind := .array 9 .byte, interfaces := #[8, 4], accessFlags := 1041 }

def heap : Heap := #[{ cls := 6, slots := #[.ref 7, .ref 8, .ref 9, .ref 10, .ref 11, .ref 12, .ref 13, .null], vm := .statics 6 },
  { cls := 7, slots := #[.ref 2, .ref 6, .ref 3, .ref 4, .ref 5, .null], vm := .statics 7 },
  { cls := 7, slots := #[.null, .int 0, .int 0], vm := .none },
  { cls := 7, slots := #[.null, .int 1, .int 0], vm := .none },
  { cls := 7, slots := #[.null, .int 2, .int 0], vm := .none },
  { cls := 7, slots := #[.null, .int 3, .int 0], vm := .none },
  { cls := 7, slots := #[.null, .int 4, .int 0], vm := .none },
  { cls := 6, slots := #[.null, .int 0, .int 0, .ref 2, .ref 3], vm := .none },
  { cls := 6, slots := #[.null, .int 1, .int 0, .ref 2, .ref 4], vm := .none },
  { cls := 6, slots := #[.null, .int 2, .int 0, .ref 2, .ref 5], vm := .none },
  { cls := 6, slots := #[.null, .int 3, .int 0, .ref 3, .ref 3], vm := .none },
  { cls := 6, slots := #[.null, .int 4, .int 0, .ref 4, .ref 4], vm := .none },
  { cls := 6, slots := #[.null, .int 5, .int 0, .ref 5, .ref 4], vm := .none },
  { cls := 6, slots := #[.null, .int 6, .int 0, .ref 6, .ref 3], vm := .none }]
def classes : Array Class := #[k0, k1, k2, k3, k4, k5, k6, k7, k8, k9, k10]
def interned : List (Array UInt16 × Addr) := []
def slotsUsed : Nat := 64
def theMethod : MethodId := ⟨1, 1⟩
def args0 : Array Value := #[.int 5, .int 1]
def aboutOver (below : List Frame) : State where
  vm := { classes := classes, interned := interned.toArray }
  heap := heap
  slotsUsed := slotsUsed
  threads := #[{ frames := .invoking theMethod args0 :: below }]
def below0 : List Frame := [.native { method := ⟨0, 0⟩, args := #[] }]
def about1 : State := aboutOver below0
def p0 : Program := .bare "" "" ""
def e0 : Env := launch0.env 0 0 0
theorem w_frames : about1.frames = Frame.invoking theMethod args0 :: below0 := rfl
set_option maxRecDepth 65536 in
theorem w_args : argsFit about1.vm theMethod args0 = true := by decide +kernel
set_option maxRecDepth 65536 in
theorem w_heap : heapFits about1 = true := by decide +kernel
set_option maxRecDepth 65536 in
theorem w_runnable : about1.curStatus? = some .runnable := by decide +kernel
set_option maxRecDepth 65536 in
theorem w_alone : about1.alone = true := by decide +kernel
set_option maxRecDepth 65536 in
theorem w_named : about1.methodNamed? x = some theMethod := by decide +kernel
set_option maxRecDepth 65536 in
theorem w_hears : about1.hears theMethod below0 = true := by decide +kernel
set_option maxRecDepth 65536 in
theorem w_ripe : about1.ripe theMethod args0 below0 = true := by decide +kernel
theorem w_running : about1.status = .running := rfl
set_option maxRecDepth 65536 in
theorem w_room : about1.hasRoom e0.platform room_1 = true :=
  launch0.hasRoom_least _ room_1 (by decide +kernel) (by decide +kernel) (by decide +kernel) (by decide +kernel) (by decide +kernel) (by decide +kernel)
theorem allAtoms_all (ts : List Jvm.Cond) (a : Array Jvm.Value) (st : Jvm.State) : (allAtoms ts).before a st = ts.all (fun c => c.before a st) := by
  induction ts with
  | nil => rfl
  | cons c t ih =>
    show (Jvm.Cond.and c (allAtoms t)).before a st = _
    rw [Jvm.Cond.before_and, ih, List.all_cons]
def words1 : List Jvm.Cond := Jvm.Cond.code x code maxLocals ret :: tables_1
/-- a 'code' word, met by the world's own term for the bytes: nothing is compared byte by byte -/
theorem code_word {y : MethodName} {bytes : ByteArray} {mx : Nat} {rt : Option FieldType} {a : Array Value} {s : State} {m : MethodId} {meth : Method} {c : Code} (h1 : s.methodNamed? y = some m) (h2 : s.vm.method? m = some meth) (h3 : meth.code = some c) (h4 : c.code = bytes)
    (h5 : (c.maxLocals == mx && c.exceptionTable.isEmpty && decide (c.maxStack ≤ mostOperands) && decide (meth.sig.returnType = rt) && !meth.locks && decide (parseMethodDescriptor y.desc = some meth.sig)) = true) : (Jvm.Cond.code y bytes mx rt).before a s = true := by
  simp only [Bool.and_eq_true, beq_iff_eq, Bool.not_eq_true', decide_eq_true_eq] at h5
  obtain ⟨⟨⟨⟨⟨g1, g2⟩, g3⟩, g4⟩, g5⟩, g6⟩ := h5
  simp [Cond.before, Cond.holds, Cond.value, h1, h2, h3, h4, g1, g2, g3, g4, g5, g6]
def isCode : Jvm.Cond → Bool
  | .code _ _ _ _ => true
  | _ => false
theorem all_split {L : List Jvm.Cond} {P : Jvm.Cond → Bool} (h1 : L.all (fun c => isCode c || P c) = true) (h2 : ∀ c ∈ L.filter isCode, P c = true) : L.all P = true := by
  refine List.all_eq_true.mpr fun c hc => ?_
  have h := List.all_eq_true.mp h1 c hc
  rcases Bool.eq_false_or_eq_true (isCode c) with hi | hi
  · exact h2 c (List.mem_filter.mpr ⟨hc, hi⟩)
  · simpa [hi] using h
set_option maxRecDepth 65536 in
theorem w_c0 : (Jvm.Cond.code x code maxLocals ret).before args0 about1 = true := code_word (m := ⟨1, 1⟩) (meth := k1m1) (c := k1c1) (by decide +kernel) rfl rfl rfl (by decide +kernel)
set_option maxRecDepth 65536 in
theorem w_c1 : (Jvm.Cond.code ({ cls := "com/example/lean_tx/leantx/Propagation", name := "step", desc := "(Z)Lcom/example/lean_tx/leantx/Propagation$Step;" } : Jvm.MethodName) prog_34_method_4_code (2 : Nat) (Option.some (Jvm.ClassFile.FieldType.object "com/example/lean_tx/leantx/Propagation$Step"))).before args0 about1 = true := code_word (m := ⟨6, 0⟩) (meth := k6m0) (c := k6c0) (by decide +kernel) rfl rfl rfl (by decide +kernel)
def codes1 : List Jvm.Cond := [Jvm.Cond.code x code maxLocals ret, Jvm.Cond.code ({ cls := "com/example/lean_tx/leantx/Propagation", name := "step", desc := "(Z)Lcom/example/lean_tx/leantx/Propagation$Step;" } : Jvm.MethodName) prog_34_method_4_code (2 : Nat) (Option.some (Jvm.ClassFile.FieldType.object "com/example/lean_tx/leantx/Propagation$Step"))]
set_option maxRecDepth 65536 in
theorem codes_eq : words1.filter isCode = codes1 := rfl
theorem w_codes : ∀ c ∈ words1.filter isCode, c.before args0 about1 = true := by
  rw [codes_eq]
  intro c hc
  simp only [codes1, List.mem_cons, List.not_mem_nil, or_false] at hc
  rcases hc with rfl | rfl
  · exact w_c0
  · exact w_c1
set_option maxRecDepth 65536 in
theorem w_t1 : (words1.take 24).all (fun c => isCode c || c.before args0 about1) = true := by decide +kernel
set_option maxRecDepth 65536 in
theorem w_t2 : (words1.drop 24).all (fun c => isCode c || c.before args0 about1) = true := by decide +kernel
theorem w_tables : (allAtoms (Jvm.Cond.code x code maxLocals ret :: tables_1)).before args0 about1 = true := by
  rw [allAtoms_all]
  show words1.all (fun c => c.before args0 about1) = true
  refine all_split ?_ w_codes
  rw [← List.take_append_drop 24 words1, List.all_append, w_t1, w_t2]
  rfl
set_option maxRecDepth 65536 in
theorem w_case : (Jvm.Cond.and given_1 narrow_1).before args0 about1 = true := by decide +kernel
theorem w_applies : (headSpec (Jvm.Cond.code x code maxLocals ret :: tables_1) room_1).applies x e0.platform about1 = true :=
  (Spec.applies_iff w_frames).mpr ⟨w_running, w_runnable, w_alone, w_named, w_hears, w_ripe, w_room, w_tables⟩
theorem atStart : AtStart classFile x code maxLocals ret World_1 tables_1 room_1 Calls_1 rest_1 Pre_1 launch0 p0 e0 about1 theMethod args0 below0 :=
  ⟨lists_1, trivial, launch0.admits_env _ _ _, launch0.least_env, fairChoices_fair.cas, fairChoices_fair.clock, w_frames, w_args, w_heap, w_applies, trivial, trivial, w_case⟩
end start1
theorem witness_1 : WitnessClaimed_1 := ⟨start1.p0, start1.e0, start1.about1, start1.theMethod, start1.args0, start1.below0, start1.atStart⟩
end Jvm.Pilot.@@N@@
