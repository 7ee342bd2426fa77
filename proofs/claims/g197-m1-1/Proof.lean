import JvmDerived
import JvmDerived.Pilot.@@N@@Statement
import JvmDerived.Pilot.@@N@@Code
set_option linter.unusedVariables false
set_option linter.unusedSimpArgs false
namespace Jvm.RoadKit
open Sem ClassFile Op Lib Jvm.Stand Jvm.Free Jvm.LawKit
section New
variable {p : Program} {l : Launch} {e : Env} {R : Room} {s : State} {m : MethodId} {args : Array Value} {below : List Frame} {meth : Method} {c : Code} {T : State} {locs : List Loc} {cells slots : Nat}
theorem retI (X : Stand p l e R s m args below meth c T locs cells slots) (hx : p.tables.exec = Jvm.exec) {pc : Nat} {Ls : Array Slot} {z : Int32} {rest : List Value} (hret : meth.sig.returnType = some .int) (hd : decode c.code pc = .ok (.ireturn, 1)) {fs : List Frame}
    (hl : ∀ (f : JFrame) (acts : List Action), f.method = m → f.locked = none → f.entered = [] → (doReturn e (T.setTop f) acts (some (.int z))).1 = T.setFrames fs) : Steps p.tables e below (T.setTop (mkF m pc Ls (.int z :: rest))) (T.setFrames fs) := by
  have hm' : T.vm.method? m = some meth := X.method'
  have hn : narrow .int (.int z) = .int z := rfl
  show Steps p.tables e below (T.setTop { method := m, pc := pc, locals := Ls, stack := _ :: rest, locked := none }) _
  jvm_step X.here [X.here.top, hx, hd, hm', hret, hn]
  first | (intro acts; rw [hl _ acts rfl rfl rfl]) | rw [hl _ _ rfl rfl rfl]
  exact Steps.refl _
end New
end Jvm.RoadKit
namespace Jvm.Pilot.@@N@@
open Jvm Jvm.ClassFile Sem Op Lib Jvm.Free Jvm.Stand Jvm.LawKit Jvm.RoadKit Bundle Jvm.Pilot.@@N@@.Jvm.D
/-- the road so far: whoever comes from T with the frame g comes from S -/
def Rch (p : Program) (e : Env) (below : List Frame) (S T : State) (g : JFrame) : Prop := ∀ t, Steps p.tables e below (T.setTop g) t → Steps p.tables e below S t
theorem own_sta_keep {Z : State} {h h' : Heap} {C n d : String} {v : Value} {ws : List Addr} (F : Sta Z h C n d v) (K : Keep h h' ws) (q : ∀ x ∈ ws, ∀ cell : Cell, h[x]? = some cell → cell.vm.isStatics = false) : Sta Z h' C n d v := by
  obtain ⟨cf, i, k, f, st, cell, h1, h2, h3, h4, h5, h6, h7⟩ := F
  exact ⟨cf, i, k, f, st, cell, h1, h2, h3, h4, K.2.1 _ _ h5 (fun hm => by rw [q st hm cell h5] at h6; cases h6), h6, h7⟩
theorem own_selp {Z s : State} {a0 args : Array Value} {y : MethodName} {n : Nat} (hZ : Z.Warmed39 s.vm) (wi : (Jvm.Cond.instantiable y.cls n).before a0 Z = true) (wp : (Jvm.Cond.privateMethod y).before a0 Z = true) (wm : (Jvm.Cond.instanceMethod y).before a0 Z = true) (hy : y.cls ≠ "java/lang/invoke/MethodHandle" ∧ y.cls ≠ "java/lang/invoke/VarHandle") : (Jvm.Cond.selects y.cls y y).before args s = true := by
  have wi' : (Jvm.Cond.instantiable y.cls n).before args s = true := mvT hZ wi
  obtain ⟨c, k, h1, h2, h3, h4, -⟩ := Cond.instantiable_spec wi'
  exact selects_self_of_private h1 h2 (Bool.or_eq_false_iff.mp h4).1 (Cond.privateMethod_at (mvP hZ wp (args := #[]))) (mvT hZ wm) hy
theorem own_eq_int {args : Array Value} {s : State} {a : Term} {k : Int32} (h : (Jvm.Cond.eq a (Term.int k)).value args s none s [] = some true) : a.eval args s none [] s = some (.int k) := by
  simp only [Cond.value, Term.eval] at h
  cases ha : a.eval args s none [] s with
  | none => simp [ha] at h
  | some x => cases x <;> simp [ha] at h ⊢; exact h
theorem own_eq_ref {args : Array Value} {s : State} {a b : Term} {y : Addr} (h : (Jvm.Cond.eq a b).value args s none s [] = some true) (hb : b.eval args s none [] s = some (.ref y)) : a.eval args s none [] s = some (.ref y) := by
  simp only [Cond.value] at h
  cases ha : a.eval args s none [] s with
  | none => simp [ha] at h
  | some x => cases x <;> simp [ha, hb] at h ⊢; exact h
theorem own_i {a b : Int32} (h : a = b) : some (Value.int a) = some (Value.int b) := by rw [h]
theorem own_v {a b : Addr} (h : a = b) : some (Value.ref a) = some (Value.ref b) := by rw [h]
theorem own_rem (q m n : Int32) (hm : 0 ≤ m.toInt) (hn : 0 < n.toInt) : 0 ≤ ((q &&& m) % n).toInt ∧ ((q &&& m) % n).toInt < n.toInt := by
  have h1 := c_and q m hm
  have h2 := (c_irem (q &&& m) n n.toInt rfl).1 h1.1
  rw [h2]
  exact ⟨Int.emod_nonneg _ (by omega), Int.emod_lt_of_pos _ hn⟩
theorem own_k (q0 : Int32) : ((q0 &&& (2147483647 : Int32)) % (5 : Int32)) = (0 : Int32) ∨ ((q0 &&& (2147483647 : Int32)) % (5 : Int32)) = (1 : Int32) ∨ ((q0 &&& (2147483647 : Int32)) % (5 : Int32)) = (2 : Int32) ∨ ((q0 &&& (2147483647 : Int32)) % (5 : Int32)) = (3 : Int32) ∨ ((q0 &&& (2147483647 : Int32)) % (5 : Int32)) = (4 : Int32) := by
  have h : 0 ≤ (((q0 &&& (2147483647 : Int32)) % (5 : Int32))).toInt ∧ (((q0 &&& (2147483647 : Int32)) % (5 : Int32))).toInt < 5 := own_rem q0 2147483647 5 (by decide) (by decide)
  generalize ((q0 &&& (2147483647 : Int32)) % (5 : Int32)) = r at h ⊢
  have hr : r.toInt = 0 ∨ r.toInt = 1 ∨ r.toInt = 2 ∨ r.toInt = 3 ∨ r.toInt = 4 := by omega
  rcases hr with h' | h' | h' | h' | h' <;> simp [← Int32.toInt_inj, h']
def own_f (o a b : Addr) : Int32 := if o = a then 1 else if o = b then 1 else 0
theorem d1_0 : decode prog_10_method_5_code 0 = .ok (.aload_n 0, 1) := by decide +kernel
theorem d1_1 : decode prog_10_method_5_code 1 = .ok (.getstatic 13, 3) := by decide +kernel
theorem d1_4 : decode prog_10_method_5_code 4 = .ok (.if_acmp .eq 10, 3) := by decide +kernel
theorem d1_14 : decode prog_10_method_5_code 14 = .ok (.iconst 1, 1) := by decide +kernel
theorem d1_15 : decode prog_10_method_5_code 15 = .ok (.goto 4, 3) := by decide +kernel
theorem d1_19 : decode prog_10_method_5_code 19 = .ok (.ireturn, 1) := by decide +kernel
theorem d1_7 : decode prog_10_method_5_code 7 = .ok (.aload_n 0, 1) := by decide +kernel
theorem d1_8 : decode prog_10_method_5_code 8 = .ok (.getstatic 16, 3) := by decide +kernel
theorem d1_11 : decode prog_10_method_5_code 11 = .ok (.if_acmp .ne 7, 3) := by decide +kernel
theorem d1_18 : decode prog_10_method_5_code 18 = .ok (.iconst 0, 1) := by decide +kernel
theorem ef_rm1 (m : MethodId) (x0 : Addr) : entryFrame m #[(.ref x0)] 1 = mkF m 0 #[.val (.ref x0)] [] := by first | (simp [entryFrame, mkF, argsToLocals, Value.category]; done) | rfl
theorem pn_0 : plainName "com/example/geo_relay/georelay/PeerState" = true := by first | (simp [plainName, overriddenIn]; done) | decide +kernel
def Q_rm1 (Z : State) (o0 : Addr) (w3 : Addr) (w4 : Addr) (h0 : Heap) (n0 : Nat) (v : Option Value) (h : Heap) (L : List Loc) : Prop := (v = some (.int (own_f o0 w3 w4))) ∧ (Fr n0 L) ∧ (h = h0)
set_option maxRecDepth 65536 in
set_option maxHeartbeats 40000000 in
theorem rm1 (l : Launch) (Z : State) (a0 : Array Value) (hw : ∀ d ∈ tables_1, d.before a0 Z = true) (ws : List Jvm.Cond) (o0 : Addr) (w3 : Addr) (w4 : Addr) (h0 : Heap) (n0 : Nat) (Z0 : n0 ≤ h0.size) (pS3 : Sta Z h0 "com/example/geo_relay/georelay/PeerState" "DEAD" "Lcom/example/geo_relay/georelay/PeerState;" (.ref w3)) (pS4 : Sta Z h0 "com/example/geo_relay/georelay/PeerState" "AWAY" "Lcom/example/geo_relay/georelay/PeerState;" (.ref w4)) :
    MetFree l (⟨"com/example/geo_relay/georelay/PeerState", "outOfReach", "()Z"⟩ : MethodName) (head1 (Jvm.Cond.code (⟨"com/example/geo_relay/georelay/PeerState", "outOfReach", "()Z"⟩ : MethodName) prog_10_method_5_code 1 (some .boolean) :: ws) ({ frames := 0, cells := 0, slots := 0, locals := 0 } : Room)) (fun a U => a = #[(.ref o0)] ∧ Z.Warmed39 U.vm ∧ U.heap = h0) (fun _ _ _ _ _ => True) (fun _ U o U' => ∃ v L, o = .returned v ∧ Q_rm1 Z o0 w3 w4 h0 n0 v U'.heap L ∧ FrameEnd U o U' L ({ frames := 0, cells := 0, slots := 0, locals := 0 } : Room).cells ({ frames := 0, cells := 0, slots := 0, locals := 0 } : Room).slots) := by
  refine MetFree.of_bodySF (plainFor_of_name pn_0) hisR ?_
  intro p e s m args below meth c s₁ Bd hml0 hP hK
  obtain ⟨rfl, hZ, hh⟩ := hP
  have hx := Bd.exec
  have hby := Bd.bytes
  have hml : c.maxLocals = 1 := hml0
  have hown : s.vm.findClass "com/example/geo_relay/georelay/PeerState" = some m.cls := findClass_of_methodNamed Bd.named
  have hnm := (name_of_methodNamed Bd.named Bd.method).1
  have X0 : Stand p l e ({ frames := 0, cells := 0, slots := 0, locals := 0 } : Room) s m #[(.ref o0)] below meth c s₁ [] 0 0 := Stand.of_body Bd
  have e0 : s₁.heap = h0 := by rw [← hh, Bd.state]; rfl
  have N0 := Fr.nil n0
  have K0 : Keep h0 h0 [] := Keep.refl _ _
  have R0 : Rch p e below (s₁.setTop (entryFrame m #[(.ref o0)] 1)) s₁ (mkF m 0 #[.val (.ref o0)] []) := fun t k => castTop (ef_rm1 m o0) k
  have R2 : Rch p e below (s₁.setTop (entryFrame m #[(.ref o0)] 1)) s₁ (mkF m 1 #[.val (.ref o0)] [(.ref o0)]) := fun t k => by
    refine R0 t ?_
    refine XS.aloadN X0.here hx rfl (hb hby d1_0) rfl rfl ?_
    exact k
  obtain ⟨T1, X1, e1, st1⟩ := getS2 X0 hx hZ hown (host := "") (Or.inl (hw _ (List.mem_of_getElem? (i := 21) rfl))) Via.refl e0 pS3 (g := (mkF m 1 #[.val (.ref o0)] [(.ref o0)])) rfl (hb hby d1_1)
  have R4 : Rch p e below (s₁.setTop (entryFrame m #[(.ref o0)] 1)) T1 (mkF m 4 #[.val (.ref o0)] [(.ref w3), (.ref o0)]) := fun t k => by
    refine R2 t ?_
    refine st1 _ ?_
    exact k
  by_cases ha4_3 : o0 = w3
  · have R5 : Rch p e below (s₁.setTop (entryFrame m #[(.ref o0)] 1)) T1 (mkF m 19 #[.val (.ref o0)] [(.int (1 : Int32))]) := fun t k => by
      refine R4 t ?_
      refine Jvm.RoadKit.acmp (g := (mkF m 4 #[.val (.ref o0)] [(.ref w3), (.ref o0)])) X1 hx rfl rfl rfl (pc0 := 4) (pc' := 14) (same := true) rfl (hb hby d1_4) rfl (decide_eq_true (congrArg Value.ref ha4_3)) (by decide) (by decide) ?_
      show Steps p.tables e below (T1.setTop (mkF m 14 #[.val (.ref o0)] [])) t
      refine XS.iconst X1.here hx rfl (hb hby d1_14) ?_
      show Steps p.tables e below (T1.setTop (mkF m 15 #[.val (.ref o0)] [(.int (1 : Int32))])) t
      refine XS.goto X1.here hx rfl (pc0 := 15) (pc' := 19) rfl (hb hby d1_15) (by decide) (by decide) ?_
      exact k
    obtain ⟨fs, hr, hrun, hended, hW, hsame⟩ := X1.leave (v := some (.int (1 : Int32))) (fun h => by rw [Bd.returns] at h; cases h)
    refine ⟨_, _, R5 _ ?_, hrun, hended, _, _, rfl, ?_, ⟨_, rfl⟩, hW, hsame.mono (by decide) (by decide)⟩
    · exact retN X1 hx (t := .boolean) Bd.returns (by simp) (hb hby d1_19) hr
    · show Q_rm1 Z o0 w3 w4 h0 n0 _ T1.heap _
      rw [e1]
      exact ⟨own_i (by simp [own_f, ha4_3]), N0, rfl⟩
  · have R7 : Rch p e below (s₁.setTop (entryFrame m #[(.ref o0)] 1)) T1 (mkF m 8 #[.val (.ref o0)] [(.ref o0)]) := fun t k => by
      refine R4 t ?_
      refine Jvm.RoadKit.acmp (g := (mkF m 4 #[.val (.ref o0)] [(.ref w3), (.ref o0)])) X1 hx rfl rfl rfl (pc0 := 4) (pc' := 7) (same := false) rfl (hb hby d1_4) rfl (decide_eq_false (fun q => ha4_3 (Value.ref.inj q))) (by decide) (by decide) ?_
      show Steps p.tables e below (T1.setTop (mkF m 7 #[.val (.ref o0)] [])) t
      refine XS.aloadN X1.here hx rfl (hb hby d1_7) rfl rfl ?_
      exact k
    obtain ⟨T6, X6, e6, st6⟩ := getS2 X1 hx hZ hown (host := "") (Or.inl (hw _ (List.mem_of_getElem? (i := 22) rfl))) Via.refl e1 pS4 (g := (mkF m 8 #[.val (.ref o0)] [(.ref o0)])) rfl (hb hby d1_8)
    have R9 : Rch p e below (s₁.setTop (entryFrame m #[(.ref o0)] 1)) T6 (mkF m 11 #[.val (.ref o0)] [(.ref w4), (.ref o0)]) := fun t k => by
      refine R7 t ?_
      refine st6 _ ?_
      exact k
    by_cases ha11_8 : o0 = w4
    · have R10 : Rch p e below (s₁.setTop (entryFrame m #[(.ref o0)] 1)) T6 (mkF m 19 #[.val (.ref o0)] [(.int (1 : Int32))]) := fun t k => by
        refine R9 t ?_
        refine Jvm.RoadKit.acmp (g := (mkF m 11 #[.val (.ref o0)] [(.ref w4), (.ref o0)])) X6 hx rfl rfl rfl (pc0 := 11) (pc' := 14) (same := true) rfl (hb hby d1_11) rfl (decide_eq_true (congrArg Value.ref ha11_8)) (by decide) (by decide) ?_
        show Steps p.tables e below (T6.setTop (mkF m 14 #[.val (.ref o0)] [])) t
        refine XS.iconst X6.here hx rfl (hb hby d1_14) ?_
        show Steps p.tables e below (T6.setTop (mkF m 15 #[.val (.ref o0)] [(.int (1 : Int32))])) t
        refine XS.goto X6.here hx rfl (pc0 := 15) (pc' := 19) rfl (hb hby d1_15) (by decide) (by decide) ?_
        exact k
      obtain ⟨fs, hr, hrun, hended, hW, hsame⟩ := X6.leave (v := some (.int (1 : Int32))) (fun h => by rw [Bd.returns] at h; cases h)
      refine ⟨_, _, R10 _ ?_, hrun, hended, _, _, rfl, ?_, ⟨_, rfl⟩, hW, hsame.mono (by decide) (by decide)⟩
      · exact retN X6 hx (t := .boolean) Bd.returns (by simp) (hb hby d1_19) hr
      · show Q_rm1 Z o0 w3 w4 h0 n0 _ T6.heap _
        rw [e6]
        exact ⟨own_i (by simp [own_f, ha4_3, ha11_8]), N0, rfl⟩
    · have R11 : Rch p e below (s₁.setTop (entryFrame m #[(.ref o0)] 1)) T6 (mkF m 19 #[.val (.ref o0)] [(.int (0 : Int32))]) := fun t k => by
        refine R9 t ?_
        refine Jvm.RoadKit.acmp (g := (mkF m 11 #[.val (.ref o0)] [(.ref w4), (.ref o0)])) X6 hx rfl rfl rfl (pc0 := 11) (pc' := 18) (same := false) rfl (hb hby d1_11) rfl (decide_eq_false (fun q => ha11_8 (Value.ref.inj q))) (by decide) (by decide) ?_
        show Steps p.tables e below (T6.setTop (mkF m 18 #[.val (.ref o0)] [])) t
        refine XS.iconst X6.here hx rfl (hb hby d1_18) ?_
        exact k
      obtain ⟨fs, hr, hrun, hended, hW, hsame⟩ := X6.leave (v := some (.int (0 : Int32))) (fun h => by rw [Bd.returns] at h; cases h)
      refine ⟨_, _, R11 _ ?_, hrun, hended, _, _, rfl, ?_, ⟨_, rfl⟩, hW, hsame.mono (by decide) (by decide)⟩
      · exact retN X6 hx (t := .boolean) Bd.returns (by simp) (hb hby d1_19) hr
      · show Q_rm1 Z o0 w3 w4 h0 n0 _ T6.heap _
        rw [e6]
        exact ⟨own_i (by simp [own_f, ha4_3, ha11_8]), N0, rfl⟩
theorem pd_0 : parseMethodDescriptor "()Z" = some ⟨[], some .boolean⟩ := by decide +kernel
theorem ef_rm0 (m : MethodId) (x0 : Int32) : entryFrame m #[(.int x0)] maxLocals = mkF m 0 #[.val (.int x0), .unset, .unset, .unset, .unset] [] := by first | (simp [entryFrame, mkF, argsToLocals, Value.category, maxLocals]; done) | rfl
theorem pn_1 : plainName "com/example/geo_relay/georelay/PeerStateOutOfReachPinLaw" = true := by first | (simp [plainName, overriddenIn]; done) | decide +kernel
def Q_rm0 (Z : State) (q0 : Int32) (w0 : Addr) (w1 : Addr) (w2 : Addr) (w3 : Addr) (w4 : Addr) (h0 : Heap) (n0 : Nat) (v : Option Value) (h : Heap) (L : List Loc) : Prop := (v = some (.int (1 : Int32))) ∧ (Fr n0 L) ∧ (Keep h0 h [])
set_option maxRecDepth 65536 in
set_option maxHeartbeats 40000000 in
theorem rm0 (l : Launch) (Z : State) (a0 : Array Value) (hw : ∀ d ∈ tables_1, d.before a0 Z = true) (ws : List Jvm.Cond) (q0 : Int32) (w0 : Addr) (w1 : Addr) (w2 : Addr) (w3 : Addr) (w4 : Addr) (h0 : Heap) (n0 : Nat) (Z0 : n0 ≤ h0.size) (pS0 : Sta Z h0 "com/example/geo_relay/georelay/PeerState" "PROSPECT" "Lcom/example/geo_relay/georelay/PeerState;" (.ref w0)) (pS1 : Sta Z h0 "com/example/geo_relay/georelay/PeerState" "ACTIVE" "Lcom/example/geo_relay/georelay/PeerState;" (.ref w1)) (pS2 : Sta Z h0 "com/example/geo_relay/georelay/PeerState" "SUSPECT" "Lcom/example/geo_relay/georelay/PeerState;" (.ref w2)) (pS3 : Sta Z h0 "com/example/geo_relay/georelay/PeerState" "DEAD" "Lcom/example/geo_relay/georelay/PeerState;" (.ref w3)) (pS4 : Sta Z h0 "com/example/geo_relay/georelay/PeerState" "AWAY" "Lcom/example/geo_relay/georelay/PeerState;" (.ref w4)) (pE0 : Exa Z h0 w0 "com/example/geo_relay/georelay/PeerState") (pE1 : Exa Z h0 w1 "com/example/geo_relay/georelay/PeerState") (pE2 : Exa Z h0 w2 "com/example/geo_relay/georelay/PeerState") (pE3 : Exa Z h0 w3 "com/example/geo_relay/georelay/PeerState") (pE4 : Exa Z h0 w4 "com/example/geo_relay/georelay/PeerState") (pn0_3 : w0 ≠ w3) (pn0_4 : w0 ≠ w4) (pn1_3 : w1 ≠ w3) (pn1_4 : w1 ≠ w4) (pn2_3 : w2 ≠ w3) (pn2_4 : w2 ≠ w4) (pn3_4 : w3 ≠ w4) (pn4_3 : w4 ≠ w3) :
    MetFree l x (head1 (Jvm.Cond.code x code maxLocals ret :: ws) room_1) (fun a U => a = #[(.int q0)] ∧ Z.Warmed39 U.vm ∧ U.heap = h0) (fun _ _ _ _ _ => True) (fun _ U o U' => ∃ v L, o = .returned v ∧ Q_rm0 Z q0 w0 w1 w2 w3 w4 h0 n0 v U'.heap L ∧ FrameEnd U o U' L room_1.cells room_1.slots) := by
  refine MetFree.of_bodySF (plainFor_of_name pn_1) hisR ?_
  intro p e s m args below meth c s₁ Bd hml0 hP hK
  obtain ⟨rfl, hZ, hh⟩ := hP
  have hx := Bd.exec
  have hby := Bd.bytes
  have hml : c.maxLocals = 5 := hml0
  have hown : s.vm.findClass "com/example/geo_relay/georelay/PeerStateOutOfReachPinLaw" = some m.cls := findClass_of_methodNamed Bd.named
  have hnm := (name_of_methodNamed Bd.named Bd.method).1
  have X0 : Stand p l e room_1 s m #[(.int q0)] below meth c s₁ [] 0 0 := Stand.of_body Bd
  have e0 : s₁.heap = h0 := by rw [← hh, Bd.state]; rfl
  have N0 := Fr.nil n0
  have K0 : Keep h0 h0 [] := Keep.refl _ _
  have R0 : Rch p e below (s₁.setTop (entryFrame m #[(.int q0)] maxLocals)) s₁ (mkF m 0 #[.val (.int q0), .unset, .unset, .unset, .unset] []) := fun t k => castTop (ef_rm0 m q0) k
  have R2 : Rch p e below (s₁.setTop (entryFrame m #[(.int q0)] maxLocals)) s₁ (mkF m 1 #[.val (.int q0), .unset, .unset, .unset, .unset] [(.int (5 : Int32))]) := fun t k => by
    refine R0 t ?_
    refine XS.iconst X0.here hx rfl (hb hby at_0) ?_
    exact k
  obtain ⟨T1, h1, k1, X1, e1, E1, A1, O1, st1⟩ := newR X0 hx hZ hown (hw _ (List.mem_of_getElem? (i := 0) rfl)) (hw _ (List.mem_of_getElem? (i := 1) rfl)) e0 (g := (mkF m 1 #[.val (.int q0), .unset, .unset, .unset, .unset] [(.int (5 : Int32))])) rfl (hb hby at_1) rfl (by decide) (cap := 5) (by decide) (by decide) (by decide) (by decide)
  obtain ⟨b1, g1⟩ : ∃ z, z = h0.size := ⟨_, rfl⟩
  rw [← g1] at A1 st1
  have g_b1 : n0 ≤ b1 := Nat.le_trans (Nat.le_trans Z0 K0.1) (Nat.le_of_eq g1.symm)
  have sz_b1 : h0.size ≤ b1 := Nat.le_trans K0.1 (Nat.le_of_eq g1.symm)
  have K1 : Keep h0 h1 [] := K0.ext E1
  have V1 : Arv Z h1 b1 k1 (.object "com/example/geo_relay/georelay/PeerState") (5 : Int32) [.null, .null, .null, .null, .null] .null := (Arv.new A1 (by decide)).pad (pad_rep [] .null 5)
  have R4 : Rch p e below (s₁.setTop (entryFrame m #[(.int q0)] maxLocals)) T1 (mkF m 6 #[.val (.int q0), .unset, .unset, .unset, .unset] [(.int (0 : Int32)), (.ref b1), (.ref b1)]) := fun t k => by
    refine R2 t ?_
    refine st1 _ ?_
    show Steps p.tables e below (T1.setTop (mkF m 4 #[.val (.int q0), .unset, .unset, .unset, .unset] [(.ref b1)])) t
    refine XS.dup X1.here hx rfl (hb hby at_4) rfl rfl ?_
    show Steps p.tables e below (T1.setTop (mkF m 5 #[.val (.int q0), .unset, .unset, .unset, .unset] [(.ref b1), (.ref b1)])) t
    refine XS.iconst X1.here hx rfl (hb hby at_5) ?_
    exact k
  obtain ⟨T3, X3, e3, st3⟩ := getS2 X1 hx hZ hown (host := "") (Or.inl (hw _ (List.mem_of_getElem? (i := 2) rfl))) Via.refl e1 (pS0.ext E1) (g := (mkF m 6 #[.val (.int q0), .unset, .unset, .unset, .unset] [(.int (0 : Int32)), (.ref b1), (.ref b1)])) rfl (hb hby at_6)
  have R6 : Rch p e below (s₁.setTop (entryFrame m #[(.int q0)] maxLocals)) T3 (mkF m 9 #[.val (.int q0), .unset, .unset, .unset, .unset] [(.ref w0), (.int (0 : Int32)), (.ref b1), (.ref b1)]) := fun t k => by
    refine R4 t ?_
    refine st3 _ ?_
    exact k
  obtain ⟨cl5, Ar5, q5, Sz5, N5_, Hs5, G5⟩ := V1
  have hin5 : ¬ ((0 : Int32) < 0 ∨ cl5.slots.size ≤ ((0 : Int32)).toNatClampNeg) := inb_of Sz5 ⟨by decide, by decide⟩
  obtain ⟨T7, h7, X7, e7, W7, st7⟩ := stR X3 hx hZ e3 Ar5 (j := (0 : Int32)) hin5 rfl (Sto.ofV Ar5 q5 O1 (Ins.self (pE0.ext E1))) (g := (mkF m 9 #[.val (.int q0), .unset, .unset, .unset, .unset] [(.ref w0), (.int (0 : Int32)), (.ref b1), (.ref b1)])) rfl rfl (hb hby at_9)
  have V7 : Arv Z h7 b1 k1 (.object "com/example/geo_relay/georelay/PeerState") (5 : Int32) [(.ref w0), .null, .null, .null, .null] .null := Arv.set Ar5 q5 Sz5 N5_ Hs5 G5 rfl W7 0 rfl (Nat.le_of_ble_eq_true rfl)
  have K7 : Keep h0 h7 [] := K1.wr W7 (Or.inr sz_b1)
  have N7 := Fr.snoc X7 N0 g_b1
  have R9 : Rch p e below (s₁.setTop (entryFrame m #[(.int q0)] maxLocals)) T7 (mkF m 12 #[.val (.int q0), .unset, .unset, .unset, .unset] [(.int (1 : Int32)), (.ref b1), (.ref b1)]) := fun t k => by
    refine R6 t ?_
    refine st7 _ ?_
    show Steps p.tables e below (T7.setTop (mkF m 10 #[.val (.int q0), .unset, .unset, .unset, .unset] [(.ref b1)])) t
    refine XS.dup X7.here hx rfl (hb hby at_10) rfl rfl ?_
    show Steps p.tables e below (T7.setTop (mkF m 11 #[.val (.int q0), .unset, .unset, .unset, .unset] [(.ref b1), (.ref b1)])) t
    refine XS.iconst X7.here hx rfl (hb hby at_11) ?_
    exact k
  obtain ⟨T8, X8, e8, st8⟩ := getS2 X7 hx hZ hown (host := "") (Or.inl (hw _ (List.mem_of_getElem? (i := 6) rfl))) Via.refl e7 ((pS1.ext E1).wr W7) (g := (mkF m 12 #[.val (.int q0), .unset, .unset, .unset, .unset] [(.int (1 : Int32)), (.ref b1), (.ref b1)])) rfl (hb hby at_12)
  have R11 : Rch p e below (s₁.setTop (entryFrame m #[(.int q0)] maxLocals)) T8 (mkF m 15 #[.val (.int q0), .unset, .unset, .unset, .unset] [(.ref w1), (.int (1 : Int32)), (.ref b1), (.ref b1)]) := fun t k => by
    refine R9 t ?_
    refine st8 _ ?_
    exact k
  obtain ⟨cl10, Ar10, q10, Sz10, N10_, Hs10, G10⟩ := V7
  have hin10 : ¬ ((1 : Int32) < 0 ∨ cl10.slots.size ≤ ((1 : Int32)).toNatClampNeg) := inb_of Sz10 ⟨by decide, by decide⟩
  obtain ⟨T12, h12, X12, e12, W12, st12⟩ := stR X8 hx hZ e8 Ar10 (j := (1 : Int32)) hin10 rfl (Sto.ofV Ar10 q10 O1 (Ins.self ((pE1.ext E1).wr W7))) (g := (mkF m 15 #[.val (.int q0), .unset, .unset, .unset, .unset] [(.ref w1), (.int (1 : Int32)), (.ref b1), (.ref b1)])) rfl rfl (hb hby at_15)
  have V12 : Arv Z h12 b1 k1 (.object "com/example/geo_relay/georelay/PeerState") (5 : Int32) [(.ref w0), (.ref w1), .null, .null, .null] .null := Arv.set Ar10 q10 Sz10 N10_ Hs10 G10 rfl W12 1 rfl (Nat.le_of_ble_eq_true rfl)
  have K12 : Keep h0 h12 [] := K7.wr W12 (Or.inr sz_b1)
  have N12 := Fr.snoc X12 N7 g_b1
  have R14 : Rch p e below (s₁.setTop (entryFrame m #[(.int q0)] maxLocals)) T12 (mkF m 18 #[.val (.int q0), .unset, .unset, .unset, .unset] [(.int (2 : Int32)), (.ref b1), (.ref b1)]) := fun t k => by
    refine R11 t ?_
    refine st12 _ ?_
    show Steps p.tables e below (T12.setTop (mkF m 16 #[.val (.int q0), .unset, .unset, .unset, .unset] [(.ref b1)])) t
    refine XS.dup X12.here hx rfl (hb hby at_16) rfl rfl ?_
    show Steps p.tables e below (T12.setTop (mkF m 17 #[.val (.int q0), .unset, .unset, .unset, .unset] [(.ref b1), (.ref b1)])) t
    refine XS.iconst X12.here hx rfl (hb hby at_17) ?_
    exact k
  obtain ⟨T13, X13, e13, st13⟩ := getS2 X12 hx hZ hown (host := "") (Or.inl (hw _ (List.mem_of_getElem? (i := 8) rfl))) Via.refl e12 (((pS2.ext E1).wr W7).wr W12) (g := (mkF m 18 #[.val (.int q0), .unset, .unset, .unset, .unset] [(.int (2 : Int32)), (.ref b1), (.ref b1)])) rfl (hb hby at_18)
  have R16 : Rch p e below (s₁.setTop (entryFrame m #[(.int q0)] maxLocals)) T13 (mkF m 21 #[.val (.int q0), .unset, .unset, .unset, .unset] [(.ref w2), (.int (2 : Int32)), (.ref b1), (.ref b1)]) := fun t k => by
    refine R14 t ?_
    refine st13 _ ?_
    exact k
  obtain ⟨cl15, Ar15, q15, Sz15, N15_, Hs15, G15⟩ := V12
  have hin15 : ¬ ((2 : Int32) < 0 ∨ cl15.slots.size ≤ ((2 : Int32)).toNatClampNeg) := inb_of Sz15 ⟨by decide, by decide⟩
  obtain ⟨T17, h17, X17, e17, W17, st17⟩ := stR X13 hx hZ e13 Ar15 (j := (2 : Int32)) hin15 rfl (Sto.ofV Ar15 q15 O1 (Ins.self (((pE2.ext E1).wr W7).wr W12))) (g := (mkF m 21 #[.val (.int q0), .unset, .unset, .unset, .unset] [(.ref w2), (.int (2 : Int32)), (.ref b1), (.ref b1)])) rfl rfl (hb hby at_21)
  have V17 : Arv Z h17 b1 k1 (.object "com/example/geo_relay/georelay/PeerState") (5 : Int32) [(.ref w0), (.ref w1), (.ref w2), .null, .null] .null := Arv.set Ar15 q15 Sz15 N15_ Hs15 G15 rfl W17 2 rfl (Nat.le_of_ble_eq_true rfl)
  have K17 : Keep h0 h17 [] := K12.wr W17 (Or.inr sz_b1)
  have N17 := Fr.snoc X17 N12 g_b1
  have R19 : Rch p e below (s₁.setTop (entryFrame m #[(.int q0)] maxLocals)) T17 (mkF m 24 #[.val (.int q0), .unset, .unset, .unset, .unset] [(.int (3 : Int32)), (.ref b1), (.ref b1)]) := fun t k => by
    refine R16 t ?_
    refine st17 _ ?_
    show Steps p.tables e below (T17.setTop (mkF m 22 #[.val (.int q0), .unset, .unset, .unset, .unset] [(.ref b1)])) t
    refine XS.dup X17.here hx rfl (hb hby at_22) rfl rfl ?_
    show Steps p.tables e below (T17.setTop (mkF m 23 #[.val (.int q0), .unset, .unset, .unset, .unset] [(.ref b1), (.ref b1)])) t
    refine XS.iconst X17.here hx rfl (hb hby at_23) ?_
    exact k
  obtain ⟨T18, X18, e18, st18⟩ := getS2 X17 hx hZ hown (host := "") (Or.inl (hw _ (List.mem_of_getElem? (i := 10) rfl))) Via.refl e17 ((((pS3.ext E1).wr W7).wr W12).wr W17) (g := (mkF m 24 #[.val (.int q0), .unset, .unset, .unset, .unset] [(.int (3 : Int32)), (.ref b1), (.ref b1)])) rfl (hb hby at_24)
  have R21 : Rch p e below (s₁.setTop (entryFrame m #[(.int q0)] maxLocals)) T18 (mkF m 27 #[.val (.int q0), .unset, .unset, .unset, .unset] [(.ref w3), (.int (3 : Int32)), (.ref b1), (.ref b1)]) := fun t k => by
    refine R19 t ?_
    refine st18 _ ?_
    exact k
  obtain ⟨cl20, Ar20, q20, Sz20, N20_, Hs20, G20⟩ := V17
  have hin20 : ¬ ((3 : Int32) < 0 ∨ cl20.slots.size ≤ ((3 : Int32)).toNatClampNeg) := inb_of Sz20 ⟨by decide, by decide⟩
  obtain ⟨T22, h22, X22, e22, W22, st22⟩ := stR X18 hx hZ e18 Ar20 (j := (3 : Int32)) hin20 rfl (Sto.ofV Ar20 q20 O1 (Ins.self ((((pE3.ext E1).wr W7).wr W12).wr W17))) (g := (mkF m 27 #[.val (.int q0), .unset, .unset, .unset, .unset] [(.ref w3), (.int (3 : Int32)), (.ref b1), (.ref b1)])) rfl rfl (hb hby at_27)
  have V22 : Arv Z h22 b1 k1 (.object "com/example/geo_relay/georelay/PeerState") (5 : Int32) [(.ref w0), (.ref w1), (.ref w2), (.ref w3), .null] .null := Arv.set Ar20 q20 Sz20 N20_ Hs20 G20 rfl W22 3 rfl (Nat.le_of_ble_eq_true rfl)
  have K22 : Keep h0 h22 [] := K17.wr W22 (Or.inr sz_b1)
  have N22 := Fr.snoc X22 N17 g_b1
  have R24 : Rch p e below (s₁.setTop (entryFrame m #[(.int q0)] maxLocals)) T22 (mkF m 30 #[.val (.int q0), .unset, .unset, .unset, .unset] [(.int (4 : Int32)), (.ref b1), (.ref b1)]) := fun t k => by
    refine R21 t ?_
    refine st22 _ ?_
    show Steps p.tables e below (T22.setTop (mkF m 28 #[.val (.int q0), .unset, .unset, .unset, .unset] [(.ref b1)])) t
    refine XS.dup X22.here hx rfl (hb hby at_28) rfl rfl ?_
    show Steps p.tables e below (T22.setTop (mkF m 29 #[.val (.int q0), .unset, .unset, .unset, .unset] [(.ref b1), (.ref b1)])) t
    refine XS.iconst X22.here hx rfl (hb hby at_29) ?_
    exact k
  obtain ⟨T23, X23, e23, st23⟩ := getS2 X22 hx hZ hown (host := "") (Or.inl (hw _ (List.mem_of_getElem? (i := 12) rfl))) Via.refl e22 (((((pS4.ext E1).wr W7).wr W12).wr W17).wr W22) (g := (mkF m 30 #[.val (.int q0), .unset, .unset, .unset, .unset] [(.int (4 : Int32)), (.ref b1), (.ref b1)])) rfl (hb hby at_30)
  have R26 : Rch p e below (s₁.setTop (entryFrame m #[(.int q0)] maxLocals)) T23 (mkF m 33 #[.val (.int q0), .unset, .unset, .unset, .unset] [(.ref w4), (.int (4 : Int32)), (.ref b1), (.ref b1)]) := fun t k => by
    refine R24 t ?_
    refine st23 _ ?_
    exact k
  obtain ⟨cl25, Ar25, q25, Sz25, N25_, Hs25, G25⟩ := V22
  have hin25 : ¬ ((4 : Int32) < 0 ∨ cl25.slots.size ≤ ((4 : Int32)).toNatClampNeg) := inb_of Sz25 ⟨by decide, by decide⟩
  obtain ⟨T27, h27, X27, e27, W27, st27⟩ := stR X23 hx hZ e23 Ar25 (j := (4 : Int32)) hin25 rfl (Sto.ofV Ar25 q25 O1 (Ins.self (((((pE4.ext E1).wr W7).wr W12).wr W17).wr W22))) (g := (mkF m 33 #[.val (.int q0), .unset, .unset, .unset, .unset] [(.ref w4), (.int (4 : Int32)), (.ref b1), (.ref b1)])) rfl rfl (hb hby at_33)
  have V27 : Arv Z h27 b1 k1 (.object "com/example/geo_relay/georelay/PeerState") (5 : Int32) [(.ref w0), (.ref w1), (.ref w2), (.ref w3), (.ref w4)] .null := Arv.set Ar25 q25 Sz25 N25_ Hs25 G25 rfl W27 4 rfl (Nat.le_of_ble_eq_true rfl)
  have K27 : Keep h0 h27 [] := K22.wr W27 (Or.inr sz_b1)
  have N27 := Fr.snoc X27 N22 g_b1
  have R29 : Rch p e below (s₁.setTop (entryFrame m #[(.int q0)] maxLocals)) T27 (mkF m 36 #[.val (.int q0), .val (.ref b1), .unset, .unset, .unset] [(.int (5 : Int32))]) := fun t k => by
    refine R26 t ?_
    refine st27 _ ?_
    show Steps p.tables e below (T27.setTop (mkF m 34 #[.val (.int q0), .unset, .unset, .unset, .unset] [(.ref b1)])) t
    refine XS.astoreN X27.here hx rfl (hb hby at_34) rfl rfl (l' := #[.val (.int q0), .val (.ref b1), .unset, .unset, .unset]) rfl ?_
    show Steps p.tables e below (T27.setTop (mkF m 35 #[.val (.int q0), .val (.ref b1), .unset, .unset, .unset] [])) t
    refine XS.iconst X27.here hx rfl (hb hby at_35) ?_
    exact k
  obtain ⟨T28, h28, k28, X28, e28, E28, A28, st28⟩ := newP X27 hx hZ (hw _ (List.mem_of_getElem? (i := 14) rfl)) e27 (g := (mkF m 36 #[.val (.int q0), .val (.ref b1), .unset, .unset, .unset] [(.int (5 : Int32))])) rfl (hb hby at_36) rfl (by decide) (cap := 5) (by decide) (by decide) (by decide) (by decide)
  obtain ⟨b28, g28⟩ : ∃ z, z = h27.size := ⟨_, rfl⟩
  rw [← g28] at A28 st28
  have g_b28 : n0 ≤ b28 := Nat.le_trans (Nat.le_trans Z0 K27.1) (Nat.le_of_eq g28.symm)
  have sz_b28 : h0.size ≤ b28 := Nat.le_trans K27.1 (Nat.le_of_eq g28.symm)
  have K28 : Keep h0 h28 [] := K27.ext E28
  have V28 : Arv Z h28 b28 k28 .boolean (5 : Int32) [(.int (0 : Int32)), (.int (0 : Int32)), (.int (0 : Int32)), (.int (0 : Int32)), (.int (0 : Int32))] (.int (0 : Int32)) := (Arv.new A28 (by decide)).pad (pad_rep [] (.int (0 : Int32)) 5)
  have R31 : Rch p e below (s₁.setTop (entryFrame m #[(.int q0)] maxLocals)) T28 (mkF m 41 #[.val (.int q0), .val (.ref b1), .unset, .unset, .unset] [(.int (0 : Int32)), (.int (0 : Int32)), (.ref b28), (.ref b28)]) := fun t k => by
    refine R29 t ?_
    refine st28 _ ?_
    show Steps p.tables e below (T28.setTop (mkF m 38 #[.val (.int q0), .val (.ref b1), .unset, .unset, .unset] [(.ref b28)])) t
    refine XS.dup X28.here hx rfl (hb hby at_38) rfl rfl ?_
    show Steps p.tables e below (T28.setTop (mkF m 39 #[.val (.int q0), .val (.ref b1), .unset, .unset, .unset] [(.ref b28), (.ref b28)])) t
    refine XS.iconst X28.here hx rfl (hb hby at_39) ?_
    show Steps p.tables e below (T28.setTop (mkF m 40 #[.val (.int q0), .val (.ref b1), .unset, .unset, .unset] [(.int (0 : Int32)), (.ref b28), (.ref b28)])) t
    refine XS.iconst X28.here hx rfl (hb hby at_40) ?_
    exact k
  obtain ⟨cl30, Ar30, q30, Sz30, N30_, Hs30, G30⟩ := V28
  have hin30 : ¬ ((0 : Int32) < 0 ∨ cl30.slots.size ≤ ((0 : Int32)).toNatClampNeg) := inb_of Sz30 ⟨by decide, by decide⟩
  obtain ⟨T32, h32, X32, e32, W32, st32⟩ := stZ X28 hx hZ e28 Ar30 (j := (0 : Int32)) hin30 (g := (mkF m 41 #[.val (.int q0), .val (.ref b1), .unset, .unset, .unset] [(.int (0 : Int32)), (.int (0 : Int32)), (.ref b28), (.ref b28)])) rfl rfl (hb hby at_41)
  have V32 : Arv Z h32 b28 k28 .boolean (5 : Int32) [(.int (0 : Int32)), (.int (0 : Int32)), (.int (0 : Int32)), (.int (0 : Int32)), (.int (0 : Int32))] (.int (0 : Int32)) := Arv.set Ar30 q30 Sz30 N30_ Hs30 G30 (by decide) W32 0 rfl (Nat.le_of_ble_eq_true rfl)
  have K32 : Keep h0 h32 [] := K28.wr W32 (Or.inr sz_b28)
  have N32 := Fr.snoc X32 N27 g_b28
  have R34 : Rch p e below (s₁.setTop (entryFrame m #[(.int q0)] maxLocals)) T32 (mkF m 45 #[.val (.int q0), .val (.ref b1), .unset, .unset, .unset] [(.int (0 : Int32)), (.int (1 : Int32)), (.ref b28), (.ref b28)]) := fun t k => by
    refine R31 t ?_
    refine st32 _ ?_
    show Steps p.tables e below (T32.setTop (mkF m 42 #[.val (.int q0), .val (.ref b1), .unset, .unset, .unset] [(.ref b28)])) t
    refine XS.dup X32.here hx rfl (hb hby at_42) rfl rfl ?_
    show Steps p.tables e below (T32.setTop (mkF m 43 #[.val (.int q0), .val (.ref b1), .unset, .unset, .unset] [(.ref b28), (.ref b28)])) t
    refine XS.iconst X32.here hx rfl (hb hby at_43) ?_
    show Steps p.tables e below (T32.setTop (mkF m 44 #[.val (.int q0), .val (.ref b1), .unset, .unset, .unset] [(.int (1 : Int32)), (.ref b28), (.ref b28)])) t
    refine XS.iconst X32.here hx rfl (hb hby at_44) ?_
    exact k
  obtain ⟨cl33, Ar33, q33, Sz33, N33_, Hs33, G33⟩ := V32
  have hin33 : ¬ ((1 : Int32) < 0 ∨ cl33.slots.size ≤ ((1 : Int32)).toNatClampNeg) := inb_of Sz33 ⟨by decide, by decide⟩
  obtain ⟨T35, h35, X35, e35, W35, st35⟩ := stZ X32 hx hZ e32 Ar33 (j := (1 : Int32)) hin33 (g := (mkF m 45 #[.val (.int q0), .val (.ref b1), .unset, .unset, .unset] [(.int (0 : Int32)), (.int (1 : Int32)), (.ref b28), (.ref b28)])) rfl rfl (hb hby at_45)
  have V35 : Arv Z h35 b28 k28 .boolean (5 : Int32) [(.int (0 : Int32)), (.int (0 : Int32)), (.int (0 : Int32)), (.int (0 : Int32)), (.int (0 : Int32))] (.int (0 : Int32)) := Arv.set Ar33 q33 Sz33 N33_ Hs33 G33 (by decide) W35 1 rfl (Nat.le_of_ble_eq_true rfl)
  have K35 : Keep h0 h35 [] := K32.wr W35 (Or.inr sz_b28)
  have N35 := Fr.snoc X35 N32 g_b28
  have R37 : Rch p e below (s₁.setTop (entryFrame m #[(.int q0)] maxLocals)) T35 (mkF m 49 #[.val (.int q0), .val (.ref b1), .unset, .unset, .unset] [(.int (0 : Int32)), (.int (2 : Int32)), (.ref b28), (.ref b28)]) := fun t k => by
    refine R34 t ?_
    refine st35 _ ?_
    show Steps p.tables e below (T35.setTop (mkF m 46 #[.val (.int q0), .val (.ref b1), .unset, .unset, .unset] [(.ref b28)])) t
    refine XS.dup X35.here hx rfl (hb hby at_46) rfl rfl ?_
    show Steps p.tables e below (T35.setTop (mkF m 47 #[.val (.int q0), .val (.ref b1), .unset, .unset, .unset] [(.ref b28), (.ref b28)])) t
    refine XS.iconst X35.here hx rfl (hb hby at_47) ?_
    show Steps p.tables e below (T35.setTop (mkF m 48 #[.val (.int q0), .val (.ref b1), .unset, .unset, .unset] [(.int (2 : Int32)), (.ref b28), (.ref b28)])) t
    refine XS.iconst X35.here hx rfl (hb hby at_48) ?_
    exact k
  obtain ⟨cl36, Ar36, q36, Sz36, N36_, Hs36, G36⟩ := V35
  have hin36 : ¬ ((2 : Int32) < 0 ∨ cl36.slots.size ≤ ((2 : Int32)).toNatClampNeg) := inb_of Sz36 ⟨by decide, by decide⟩
  obtain ⟨T38, h38, X38, e38, W38, st38⟩ := stZ X35 hx hZ e35 Ar36 (j := (2 : Int32)) hin36 (g := (mkF m 49 #[.val (.int q0), .val (.ref b1), .unset, .unset, .unset] [(.int (0 : Int32)), (.int (2 : Int32)), (.ref b28), (.ref b28)])) rfl rfl (hb hby at_49)
  have V38 : Arv Z h38 b28 k28 .boolean (5 : Int32) [(.int (0 : Int32)), (.int (0 : Int32)), (.int (0 : Int32)), (.int (0 : Int32)), (.int (0 : Int32))] (.int (0 : Int32)) := Arv.set Ar36 q36 Sz36 N36_ Hs36 G36 (by decide) W38 2 rfl (Nat.le_of_ble_eq_true rfl)
  have K38 : Keep h0 h38 [] := K35.wr W38 (Or.inr sz_b28)
  have N38 := Fr.snoc X38 N35 g_b28
  have R40 : Rch p e below (s₁.setTop (entryFrame m #[(.int q0)] maxLocals)) T38 (mkF m 53 #[.val (.int q0), .val (.ref b1), .unset, .unset, .unset] [(.int (1 : Int32)), (.int (3 : Int32)), (.ref b28), (.ref b28)]) := fun t k => by
    refine R37 t ?_
    refine st38 _ ?_
    show Steps p.tables e below (T38.setTop (mkF m 50 #[.val (.int q0), .val (.ref b1), .unset, .unset, .unset] [(.ref b28)])) t
    refine XS.dup X38.here hx rfl (hb hby at_50) rfl rfl ?_
    show Steps p.tables e below (T38.setTop (mkF m 51 #[.val (.int q0), .val (.ref b1), .unset, .unset, .unset] [(.ref b28), (.ref b28)])) t
    refine XS.iconst X38.here hx rfl (hb hby at_51) ?_
    show Steps p.tables e below (T38.setTop (mkF m 52 #[.val (.int q0), .val (.ref b1), .unset, .unset, .unset] [(.int (3 : Int32)), (.ref b28), (.ref b28)])) t
    refine XS.iconst X38.here hx rfl (hb hby at_52) ?_
    exact k
  obtain ⟨cl39, Ar39, q39, Sz39, N39_, Hs39, G39⟩ := V38
  have hin39 : ¬ ((3 : Int32) < 0 ∨ cl39.slots.size ≤ ((3 : Int32)).toNatClampNeg) := inb_of Sz39 ⟨by decide, by decide⟩
  obtain ⟨T41, h41, X41, e41, W41, st41⟩ := stZ X38 hx hZ e38 Ar39 (j := (3 : Int32)) hin39 (g := (mkF m 53 #[.val (.int q0), .val (.ref b1), .unset, .unset, .unset] [(.int (1 : Int32)), (.int (3 : Int32)), (.ref b28), (.ref b28)])) rfl rfl (hb hby at_53)
  have V41 : Arv Z h41 b28 k28 .boolean (5 : Int32) [(.int (0 : Int32)), (.int (0 : Int32)), (.int (0 : Int32)), (.int (1 : Int32)), (.int (0 : Int32))] (.int (0 : Int32)) := Arv.set Ar39 q39 Sz39 N39_ Hs39 G39 (by decide) W41 3 rfl (Nat.le_of_ble_eq_true rfl)
  have K41 : Keep h0 h41 [] := K38.wr W41 (Or.inr sz_b28)
  have N41 := Fr.snoc X41 N38 g_b28
  have R43 : Rch p e below (s₁.setTop (entryFrame m #[(.int q0)] maxLocals)) T41 (mkF m 57 #[.val (.int q0), .val (.ref b1), .unset, .unset, .unset] [(.int (1 : Int32)), (.int (4 : Int32)), (.ref b28), (.ref b28)]) := fun t k => by
    refine R40 t ?_
    refine st41 _ ?_
    show Steps p.tables e below (T41.setTop (mkF m 54 #[.val (.int q0), .val (.ref b1), .unset, .unset, .unset] [(.ref b28)])) t
    refine XS.dup X41.here hx rfl (hb hby at_54) rfl rfl ?_
    show Steps p.tables e below (T41.setTop (mkF m 55 #[.val (.int q0), .val (.ref b1), .unset, .unset, .unset] [(.ref b28), (.ref b28)])) t
    refine XS.iconst X41.here hx rfl (hb hby at_55) ?_
    show Steps p.tables e below (T41.setTop (mkF m 56 #[.val (.int q0), .val (.ref b1), .unset, .unset, .unset] [(.int (4 : Int32)), (.ref b28), (.ref b28)])) t
    refine XS.iconst X41.here hx rfl (hb hby at_56) ?_
    exact k
  obtain ⟨cl42, Ar42, q42, Sz42, N42_, Hs42, G42⟩ := V41
  have hin42 : ¬ ((4 : Int32) < 0 ∨ cl42.slots.size ≤ ((4 : Int32)).toNatClampNeg) := inb_of Sz42 ⟨by decide, by decide⟩
  obtain ⟨T44, h44, X44, e44, W44, st44⟩ := stZ X41 hx hZ e41 Ar42 (j := (4 : Int32)) hin42 (g := (mkF m 57 #[.val (.int q0), .val (.ref b1), .unset, .unset, .unset] [(.int (1 : Int32)), (.int (4 : Int32)), (.ref b28), (.ref b28)])) rfl rfl (hb hby at_57)
  have V44 : Arv Z h44 b28 k28 .boolean (5 : Int32) [(.int (0 : Int32)), (.int (0 : Int32)), (.int (0 : Int32)), (.int (1 : Int32)), (.int (1 : Int32))] (.int (0 : Int32)) := Arv.set Ar42 q42 Sz42 N42_ Hs42 G42 (by decide) W44 4 rfl (Nat.le_of_ble_eq_true rfl)
  have K44 : Keep h0 h44 [] := K41.wr W44 (Or.inr sz_b28)
  have N44 := Fr.snoc X44 N41 g_b28
  have R45 : Rch p e below (s₁.setTop (entryFrame m #[(.int q0)] maxLocals)) T44 (mkF m 66 #[.val (.int q0), .val (.ref b1), .val (.ref b28), .val (.int ((q0 &&& (2147483647 : Int32)) % (5 : Int32))), .unset] []) := fun t k => by
    refine R43 t ?_
    refine st44 _ ?_
    show Steps p.tables e below (T44.setTop (mkF m 58 #[.val (.int q0), .val (.ref b1), .unset, .unset, .unset] [(.ref b28)])) t
    refine XS.astoreN X44.here hx rfl (hb hby at_58) rfl rfl (l' := #[.val (.int q0), .val (.ref b1), .val (.ref b28), .unset, .unset]) rfl ?_
    show Steps p.tables e below (T44.setTop (mkF m 59 #[.val (.int q0), .val (.ref b1), .val (.ref b28), .unset, .unset] [])) t
    refine XS.iloadN X44.here hx rfl (hb hby at_59) rfl ?_
    show Steps p.tables e below (T44.setTop (mkF m 60 #[.val (.int q0), .val (.ref b1), .val (.ref b28), .unset, .unset] [(.int q0)])) t
    refine X44.ldcInt hx hown (mvT hZ (hw _ (List.mem_of_getElem? (i := 15) rfl))) (g := (mkF m 60 #[.val (.int q0), .val (.ref b1), .val (.ref b28), .unset, .unset] [(.int q0)])) rfl (hb hby at_60) _ ?_
    show Steps p.tables e below (T44.setTop (mkF m 62 #[.val (.int q0), .val (.ref b1), .val (.ref b28), .unset, .unset] [(.int (2147483647 : Int32)), (.int q0)])) t
    refine XS.iand X44.here hx rfl (hb hby at_62) rfl ?_
    show Steps p.tables e below (T44.setTop (mkF m 63 #[.val (.int q0), .val (.ref b1), .val (.ref b28), .unset, .unset] [(.int (q0 &&& (2147483647 : Int32)))])) t
    refine XS.iconst X44.here hx rfl (hb hby at_63) ?_
    show Steps p.tables e below (T44.setTop (mkF m 64 #[.val (.int q0), .val (.ref b1), .val (.ref b28), .unset, .unset] [(.int (5 : Int32)), (.int (q0 &&& (2147483647 : Int32)))])) t
    refine iremM X44 hx rfl (hb hby at_64) rfl (by decide) ?_
    show Steps p.tables e below (T44.setTop (mkF m 65 #[.val (.int q0), .val (.ref b1), .val (.ref b28), .unset, .unset] [(.int ((q0 &&& (2147483647 : Int32)) % (5 : Int32)))])) t
    refine XS.istoreN X44.here hx rfl (hb hby at_65) rfl (l' := #[.val (.int q0), .val (.ref b1), .val (.ref b28), .val (.int ((q0 &&& (2147483647 : Int32)) % (5 : Int32))), .unset]) rfl ?_
    exact k
  rcases own_k q0 with hk | hk | hk | hk | hk
  · rw [hk] at R45
    have R47 : Rch p e below (s₁.setTop (entryFrame m #[(.int q0)] maxLocals)) T44 (mkF m 68 #[.val (.int q0), .val (.ref b1), .val (.ref b28), .val (.int (0 : Int32)), .unset] [(.int (0 : Int32)), (.ref b1)]) := fun t k => by
      refine R45 t ?_
      refine XS.aloadN X44.here hx rfl (hb hby at_66) rfl rfl ?_
      show Steps p.tables e below (T44.setTop (mkF m 67 #[.val (.int q0), .val (.ref b1), .val (.ref b28), .val (.int (0 : Int32)), .unset] [(.ref b1)])) t
      refine XS.iloadN X44.here hx rfl (hb hby at_67) rfl ?_
      exact k
    obtain ⟨cl46, Ar46, q46, Sz46, N46_, Hs46, G46⟩ := ((((((V27.ext E28).other W32 (Nat.ne_of_lt (Nat.lt_of_lt_of_le V27.lt (Nat.le_of_eq g28.symm)))).other W35 (Nat.ne_of_lt (Nat.lt_of_lt_of_le V27.lt (Nat.le_of_eq g28.symm)))).other W38 (Nat.ne_of_lt (Nat.lt_of_lt_of_le V27.lt (Nat.le_of_eq g28.symm)))).other W41 (Nat.ne_of_lt (Nat.lt_of_lt_of_le V27.lt (Nat.le_of_eq g28.symm)))).other W44 (Nat.ne_of_lt (Nat.lt_of_lt_of_le V27.lt (Nat.le_of_eq g28.symm))))
    have hin46 : ¬ ((0 : Int32) < 0 ∨ cl46.slots.size ≤ ((0 : Int32)).toNatClampNeg) := inb_of Sz46 ⟨by decide, by decide⟩
    have hat46 : cl46.slots[((0 : Int32)).toNatClampNeg]? = some (.ref w0) := Hs46.at hin46 rfl
    have R49 : Rch p e below (s₁.setTop (entryFrame m #[(.int q0)] maxLocals)) T44 (mkF m 73 #[.val (.int q0), .val (.ref b1), .val (.ref b28), .val (.int (0 : Int32)), .val (.ref w0)] [(.ref w0)]) := fun t k => by
      refine R47 t ?_
      refine X44.aaload hx (j := (0 : Int32)) (v := (.ref w0)) (by rw [e44]; exact Ar46.1) (State.isArrayOf_alike hZ.alike Ar46.2.1) rfl Ar46.2.2 hin46 hat46 (g := (mkF m 68 #[.val (.int q0), .val (.ref b1), .val (.ref b28), .val (.int (0 : Int32)), .unset] [(.int (0 : Int32)), (.ref b1)])) rfl rfl (hb hby at_68) _ ?_
      show Steps p.tables e below (T44.setTop (mkF m 69 #[.val (.int q0), .val (.ref b1), .val (.ref b28), .val (.int (0 : Int32)), .unset] [(.ref w0)])) t
      refine XS.astore X44.here hx rfl (hb hby at_69) rfl rfl (l' := #[.val (.int q0), .val (.ref b1), .val (.ref b28), .val (.int (0 : Int32)), .val (.ref w0)]) rfl ?_
      show Steps p.tables e below (T44.setTop (mkF m 71 #[.val (.int q0), .val (.ref b1), .val (.ref b28), .val (.int (0 : Int32)), .val (.ref w0)] [])) t
      refine XS.aload X44.here hx rfl (hb hby at_71) rfl rfl ?_
      exact k
    obtain ⟨cq48, kq48, q48a, q48b, q48c⟩ := isOf hZ e44 ((((((((((((pE0.ext E1).wr W7).wr W12).wr W17).wr W22).wr W27).ext E28).wr W32).wr W35).wr W38).wr W41).wr W44)
    obtain ⟨_, _, ⟨T48, L48, k48, n48⟩, -, X48, ⟨Lc48, hQ48, l48, y48, z48⟩, st48⟩ := X44.virtualBack hx (y := (⟨"com/example/geo_relay/georelay/PeerState", "outOfReach", "()Z"⟩ : MethodName)) (z := (⟨"com/example/geo_relay/georelay/PeerState", "outOfReach", "()Z"⟩ : MethodName)) hown (mvT hZ (hw _ (List.mem_of_getElem? (i := 16) rfl))) (mvT hZ (hw _ (List.mem_of_getElem? (i := 17) rfl))) (notFace_of_selects (args := #[]) (mvT hZ (hw _ (List.mem_of_getElem? (i := 19) rfl)))) (mvT hZ (hw _ (List.mem_of_getElem? (i := 19) rfl))) (mvT hZ (hw _ (List.mem_of_getElem? (i := 18) rfl))) (by decide) (backOf (W := 0) (rm1 l Z a0 hw [] w0 w3 w4 h44 n0 (Nat.le_trans Z0 K44.1) ((((((((((((pS3.ext E1).wr W7).wr W12).wr W17).wr W22).wr W27).ext E28).wr W32).wr W35).wr W38).wr W41).wr W44) ((((((((((((pS4.ext E1).wr W7).wr W12).wr W17).wr W22).wr W27).ext E28).wr W32).wr W35).wr W38).wr W41).wr W44)) hZ (hw _ (List.mem_of_getElem? (i := 20) rfl)) (hw _ (List.mem_of_getElem? (i := 3) rfl)) (by decide) (by decide)) q48a q48c (g := (mkF m 73 #[.val (.int q0), .val (.ref b1), .val (.ref b28), .val (.int (0 : Int32)), .val (.ref w0)] [(.ref w0)])) rfl (by rw [hml]; rfl) (Steps.refl _) (argsL := []) (rest := []) (lenOf pd_0 rfl) rfl (by show 2 * 0 + _ ≤ _; exact Nat.le_of_eq rfl) (hb hby at_73) (fun _ _ => ⟨rfl, e44, (by decide : 2 + 0 ≤ _), (by decide : 10 + 0 ≤ _)⟩)
    dsimp only [Pt.U, Pt.locs, Pt.cells, Pt.slots] at X48 l48 y48 z48 st48 hQ48
    subst l48 y48 z48
    obtain ⟨rfl, N48q, e48⟩ := hQ48
    have N48 := Fr.app N44 N48q
    have hp48 : own_f w0 w3 w4 = (0 : Int32) := by simp [own_f, pn0_3, pn0_4]
    rw [hp48] at st48
    have R51 : Rch p e below (s₁.setTop (entryFrame m #[(.int q0)] maxLocals)) T48 (mkF m 78 #[.val (.int q0), .val (.ref b1), .val (.ref b28), .val (.int (0 : Int32)), .val (.ref w0)] [(.int (0 : Int32)), (.ref b28), (.int (0 : Int32))]) := fun t k => by
      refine R49 t ?_
      refine st48.trans ?_
      show Steps p.tables e below (T48.setTop (mkF m 76 #[.val (.int q0), .val (.ref b1), .val (.ref b28), .val (.int (0 : Int32)), .val (.ref w0)] [(.int (0 : Int32))])) t
      refine XS.aloadN X48.here hx rfl (hb hby at_76) rfl rfl ?_
      show Steps p.tables e below (T48.setTop (mkF m 77 #[.val (.int q0), .val (.ref b1), .val (.ref b28), .val (.int (0 : Int32)), .val (.ref w0)] [(.ref b28), (.int (0 : Int32))])) t
      refine XS.iloadN X48.here hx rfl (hb hby at_77) rfl ?_
      exact k
    obtain ⟨cl50, Ar50, q50, Sz50, N50_, Hs50, G50⟩ := V44
    have hin50 : ¬ ((0 : Int32) < 0 ∨ cl50.slots.size ≤ ((0 : Int32)).toNatClampNeg) := inb_of Sz50 ⟨by decide, by decide⟩
    have hat50 : cl50.slots[((0 : Int32)).toNatClampNeg]? = some (.int (0 : Int32)) := Hs50.at hin50 rfl
    have R52 : Rch p e below (s₁.setTop (entryFrame m #[(.int q0)] maxLocals)) T48 (mkF m 87 #[.val (.int q0), .val (.ref b1), .val (.ref b28), .val (.int (0 : Int32)), .val (.ref w0)] [(.int (1 : Int32))]) := fun t k => by
      refine R51 t ?_
      refine X48.baloadBooleans hx (j := (0 : Int32)) (v := (.int (0 : Int32))) (by rw [e48]; exact Ar50.1) (State.isArrayOf_alike hZ.alike Ar50.2.1) Ar50.2.2 hin50 hat50 (g := (mkF m 78 #[.val (.int q0), .val (.ref b1), .val (.ref b28), .val (.int (0 : Int32)), .val (.ref w0)] [(.int (0 : Int32)), (.ref b28), (.int (0 : Int32))])) rfl rfl (hb hby at_78) _ ?_
      show Steps p.tables e below (T48.setTop (mkF m 79 #[.val (.int q0), .val (.ref b1), .val (.ref b28), .val (.int (0 : Int32)), .val (.ref w0)] [(.int (0 : Int32)), (.int (0 : Int32))])) t
      refine XS.icmpNo X48.here hx rfl (hb hby at_79) rfl (teq (by decide : (0 : Int32) = (0 : Int32))).2 ?_
      show Steps p.tables e below (T48.setTop (mkF m 82 #[.val (.int q0), .val (.ref b1), .val (.ref b28), .val (.int (0 : Int32)), .val (.ref w0)] [])) t
      refine XS.iconst X48.here hx rfl (hb hby at_82) ?_
      show Steps p.tables e below (T48.setTop (mkF m 83 #[.val (.int q0), .val (.ref b1), .val (.ref b28), .val (.int (0 : Int32)), .val (.ref w0)] [(.int (1 : Int32))])) t
      refine XS.goto X48.here hx rfl (pc0 := 83) (pc' := 87) rfl (hb hby at_83) (by decide) (by decide) ?_
      exact k
    obtain ⟨fs, hr, hrun, hended, hW, hsame⟩ := X48.leave (v := some (.int (1 : Int32))) (fun h => by rw [Bd.returns] at h; cases h)
    refine ⟨_, _, R52 _ ?_, hrun, hended, _, _, rfl, ?_, ⟨_, rfl⟩, hW, hsame.mono (by decide) (by decide)⟩
    · exact retN X48 hx (t := .boolean) Bd.returns (by simp) (hb hby at_87) hr
    · show Q_rm0 Z q0 w0 w1 w2 w3 w4 h0 n0 _ T48.heap _
      rw [e48]
      exact ⟨rfl, N48, K44⟩
  · rw [hk] at R45
    have R54 : Rch p e below (s₁.setTop (entryFrame m #[(.int q0)] maxLocals)) T44 (mkF m 68 #[.val (.int q0), .val (.ref b1), .val (.ref b28), .val (.int (1 : Int32)), .unset] [(.int (1 : Int32)), (.ref b1)]) := fun t k => by
      refine R45 t ?_
      refine XS.aloadN X44.here hx rfl (hb hby at_66) rfl rfl ?_
      show Steps p.tables e below (T44.setTop (mkF m 67 #[.val (.int q0), .val (.ref b1), .val (.ref b28), .val (.int (1 : Int32)), .unset] [(.ref b1)])) t
      refine XS.iloadN X44.here hx rfl (hb hby at_67) rfl ?_
      exact k
    obtain ⟨cl53, Ar53, q53, Sz53, N53_, Hs53, G53⟩ := ((((((V27.ext E28).other W32 (Nat.ne_of_lt (Nat.lt_of_lt_of_le V27.lt (Nat.le_of_eq g28.symm)))).other W35 (Nat.ne_of_lt (Nat.lt_of_lt_of_le V27.lt (Nat.le_of_eq g28.symm)))).other W38 (Nat.ne_of_lt (Nat.lt_of_lt_of_le V27.lt (Nat.le_of_eq g28.symm)))).other W41 (Nat.ne_of_lt (Nat.lt_of_lt_of_le V27.lt (Nat.le_of_eq g28.symm)))).other W44 (Nat.ne_of_lt (Nat.lt_of_lt_of_le V27.lt (Nat.le_of_eq g28.symm))))
    have hin53 : ¬ ((1 : Int32) < 0 ∨ cl53.slots.size ≤ ((1 : Int32)).toNatClampNeg) := inb_of Sz53 ⟨by decide, by decide⟩
    have hat53 : cl53.slots[((1 : Int32)).toNatClampNeg]? = some (.ref w1) := Hs53.at hin53 rfl
    have R56 : Rch p e below (s₁.setTop (entryFrame m #[(.int q0)] maxLocals)) T44 (mkF m 73 #[.val (.int q0), .val (.ref b1), .val (.ref b28), .val (.int (1 : Int32)), .val (.ref w1)] [(.ref w1)]) := fun t k => by
      refine R54 t ?_
      refine X44.aaload hx (j := (1 : Int32)) (v := (.ref w1)) (by rw [e44]; exact Ar53.1) (State.isArrayOf_alike hZ.alike Ar53.2.1) rfl Ar53.2.2 hin53 hat53 (g := (mkF m 68 #[.val (.int q0), .val (.ref b1), .val (.ref b28), .val (.int (1 : Int32)), .unset] [(.int (1 : Int32)), (.ref b1)])) rfl rfl (hb hby at_68) _ ?_
      show Steps p.tables e below (T44.setTop (mkF m 69 #[.val (.int q0), .val (.ref b1), .val (.ref b28), .val (.int (1 : Int32)), .unset] [(.ref w1)])) t
      refine XS.astore X44.here hx rfl (hb hby at_69) rfl rfl (l' := #[.val (.int q0), .val (.ref b1), .val (.ref b28), .val (.int (1 : Int32)), .val (.ref w1)]) rfl ?_
      show Steps p.tables e below (T44.setTop (mkF m 71 #[.val (.int q0), .val (.ref b1), .val (.ref b28), .val (.int (1 : Int32)), .val (.ref w1)] [])) t
      refine XS.aload X44.here hx rfl (hb hby at_71) rfl rfl ?_
      exact k
    obtain ⟨cq55, kq55, q55a, q55b, q55c⟩ := isOf hZ e44 ((((((((((((pE1.ext E1).wr W7).wr W12).wr W17).wr W22).wr W27).ext E28).wr W32).wr W35).wr W38).wr W41).wr W44)
    obtain ⟨_, _, ⟨T55, L55, k55, n55⟩, -, X55, ⟨Lc55, hQ55, l55, y55, z55⟩, st55⟩ := X44.virtualBack hx (y := (⟨"com/example/geo_relay/georelay/PeerState", "outOfReach", "()Z"⟩ : MethodName)) (z := (⟨"com/example/geo_relay/georelay/PeerState", "outOfReach", "()Z"⟩ : MethodName)) hown (mvT hZ (hw _ (List.mem_of_getElem? (i := 16) rfl))) (mvT hZ (hw _ (List.mem_of_getElem? (i := 17) rfl))) (notFace_of_selects (args := #[]) (mvT hZ (hw _ (List.mem_of_getElem? (i := 19) rfl)))) (mvT hZ (hw _ (List.mem_of_getElem? (i := 19) rfl))) (mvT hZ (hw _ (List.mem_of_getElem? (i := 18) rfl))) (by decide) (backOf (W := 0) (rm1 l Z a0 hw [] w1 w3 w4 h44 n0 (Nat.le_trans Z0 K44.1) ((((((((((((pS3.ext E1).wr W7).wr W12).wr W17).wr W22).wr W27).ext E28).wr W32).wr W35).wr W38).wr W41).wr W44) ((((((((((((pS4.ext E1).wr W7).wr W12).wr W17).wr W22).wr W27).ext E28).wr W32).wr W35).wr W38).wr W41).wr W44)) hZ (hw _ (List.mem_of_getElem? (i := 20) rfl)) (hw _ (List.mem_of_getElem? (i := 3) rfl)) (by decide) (by decide)) q55a q55c (g := (mkF m 73 #[.val (.int q0), .val (.ref b1), .val (.ref b28), .val (.int (1 : Int32)), .val (.ref w1)] [(.ref w1)])) rfl (by rw [hml]; rfl) (Steps.refl _) (argsL := []) (rest := []) (lenOf pd_0 rfl) rfl (by show 2 * 0 + _ ≤ _; exact Nat.le_of_eq rfl) (hb hby at_73) (fun _ _ => ⟨rfl, e44, (by decide : 2 + 0 ≤ _), (by decide : 10 + 0 ≤ _)⟩)
    dsimp only [Pt.U, Pt.locs, Pt.cells, Pt.slots] at X55 l55 y55 z55 st55 hQ55
    subst l55 y55 z55
    obtain ⟨rfl, N55q, e55⟩ := hQ55
    have N55 := Fr.app N44 N55q
    have hp55 : own_f w1 w3 w4 = (0 : Int32) := by simp [own_f, pn1_3, pn1_4]
    rw [hp55] at st55
    have R58 : Rch p e below (s₁.setTop (entryFrame m #[(.int q0)] maxLocals)) T55 (mkF m 78 #[.val (.int q0), .val (.ref b1), .val (.ref b28), .val (.int (1 : Int32)), .val (.ref w1)] [(.int (1 : Int32)), (.ref b28), (.int (0 : Int32))]) := fun t k => by
      refine R56 t ?_
      refine st55.trans ?_
      show Steps p.tables e below (T55.setTop (mkF m 76 #[.val (.int q0), .val (.ref b1), .val (.ref b28), .val (.int (1 : Int32)), .val (.ref w1)] [(.int (0 : Int32))])) t
      refine XS.aloadN X55.here hx rfl (hb hby at_76) rfl rfl ?_
      show Steps p.tables e below (T55.setTop (mkF m 77 #[.val (.int q0), .val (.ref b1), .val (.ref b28), .val (.int (1 : Int32)), .val (.ref w1)] [(.ref b28), (.int (0 : Int32))])) t
      refine XS.iloadN X55.here hx rfl (hb hby at_77) rfl ?_
      exact k
    obtain ⟨cl57, Ar57, q57, Sz57, N57_, Hs57, G57⟩ := V44
    have hin57 : ¬ ((1 : Int32) < 0 ∨ cl57.slots.size ≤ ((1 : Int32)).toNatClampNeg) := inb_of Sz57 ⟨by decide, by decide⟩
    have hat57 : cl57.slots[((1 : Int32)).toNatClampNeg]? = some (.int (0 : Int32)) := Hs57.at hin57 rfl
    have R59 : Rch p e below (s₁.setTop (entryFrame m #[(.int q0)] maxLocals)) T55 (mkF m 87 #[.val (.int q0), .val (.ref b1), .val (.ref b28), .val (.int (1 : Int32)), .val (.ref w1)] [(.int (1 : Int32))]) := fun t k => by
      refine R58 t ?_
      refine X55.baloadBooleans hx (j := (1 : Int32)) (v := (.int (0 : Int32))) (by rw [e55]; exact Ar57.1) (State.isArrayOf_alike hZ.alike Ar57.2.1) Ar57.2.2 hin57 hat57 (g := (mkF m 78 #[.val (.int q0), .val (.ref b1), .val (.ref b28), .val (.int (1 : Int32)), .val (.ref w1)] [(.int (1 : Int32)), (.ref b28), (.int (0 : Int32))])) rfl rfl (hb hby at_78) _ ?_
      show Steps p.tables e below (T55.setTop (mkF m 79 #[.val (.int q0), .val (.ref b1), .val (.ref b28), .val (.int (1 : Int32)), .val (.ref w1)] [(.int (0 : Int32)), (.int (0 : Int32))])) t
      refine XS.icmpNo X55.here hx rfl (hb hby at_79) rfl (teq (by decide : (0 : Int32) = (0 : Int32))).2 ?_
      show Steps p.tables e below (T55.setTop (mkF m 82 #[.val (.int q0), .val (.ref b1), .val (.ref b28), .val (.int (1 : Int32)), .val (.ref w1)] [])) t
      refine XS.iconst X55.here hx rfl (hb hby at_82) ?_
      show Steps p.tables e below (T55.setTop (mkF m 83 #[.val (.int q0), .val (.ref b1), .val (.ref b28), .val (.int (1 : Int32)), .val (.ref w1)] [(.int (1 : Int32))])) t
      refine XS.goto X55.here hx rfl (pc0 := 83) (pc' := 87) rfl (hb hby at_83) (by decide) (by decide) ?_
      exact k
    obtain ⟨fs, hr, hrun, hended, hW, hsame⟩ := X55.leave (v := some (.int (1 : Int32))) (fun h => by rw [Bd.returns] at h; cases h)
    refine ⟨_, _, R59 _ ?_, hrun, hended, _, _, rfl, ?_, ⟨_, rfl⟩, hW, hsame.mono (by decide) (by decide)⟩
    · exact retN X55 hx (t := .boolean) Bd.returns (by simp) (hb hby at_87) hr
    · show Q_rm0 Z q0 w0 w1 w2 w3 w4 h0 n0 _ T55.heap _
      rw [e55]
      exact ⟨rfl, N55, K44⟩
  · rw [hk] at R45
    have R61 : Rch p e below (s₁.setTop (entryFrame m #[(.int q0)] maxLocals)) T44 (mkF m 68 #[.val (.int q0), .val (.ref b1), .val (.ref b28), .val (.int (2 : Int32)), .unset] [(.int (2 : Int32)), (.ref b1)]) := fun t k => by
      refine R45 t ?_
      refine XS.aloadN X44.here hx rfl (hb hby at_66) rfl rfl ?_
      show Steps p.tables e below (T44.setTop (mkF m 67 #[.val (.int q0), .val (.ref b1), .val (.ref b28), .val (.int (2 : Int32)), .unset] [(.ref b1)])) t
      refine XS.iloadN X44.here hx rfl (hb hby at_67) rfl ?_
      exact k
    obtain ⟨cl60, Ar60, q60, Sz60, N60_, Hs60, G60⟩ := ((((((V27.ext E28).other W32 (Nat.ne_of_lt (Nat.lt_of_lt_of_le V27.lt (Nat.le_of_eq g28.symm)))).other W35 (Nat.ne_of_lt (Nat.lt_of_lt_of_le V27.lt (Nat.le_of_eq g28.symm)))).other W38 (Nat.ne_of_lt (Nat.lt_of_lt_of_le V27.lt (Nat.le_of_eq g28.symm)))).other W41 (Nat.ne_of_lt (Nat.lt_of_lt_of_le V27.lt (Nat.le_of_eq g28.symm)))).other W44 (Nat.ne_of_lt (Nat.lt_of_lt_of_le V27.lt (Nat.le_of_eq g28.symm))))
    have hin60 : ¬ ((2 : Int32) < 0 ∨ cl60.slots.size ≤ ((2 : Int32)).toNatClampNeg) := inb_of Sz60 ⟨by decide, by decide⟩
    have hat60 : cl60.slots[((2 : Int32)).toNatClampNeg]? = some (.ref w2) := Hs60.at hin60 rfl
    have R63 : Rch p e below (s₁.setTop (entryFrame m #[(.int q0)] maxLocals)) T44 (mkF m 73 #[.val (.int q0), .val (.ref b1), .val (.ref b28), .val (.int (2 : Int32)), .val (.ref w2)] [(.ref w2)]) := fun t k => by
      refine R61 t ?_
      refine X44.aaload hx (j := (2 : Int32)) (v := (.ref w2)) (by rw [e44]; exact Ar60.1) (State.isArrayOf_alike hZ.alike Ar60.2.1) rfl Ar60.2.2 hin60 hat60 (g := (mkF m 68 #[.val (.int q0), .val (.ref b1), .val (.ref b28), .val (.int (2 : Int32)), .unset] [(.int (2 : Int32)), (.ref b1)])) rfl rfl (hb hby at_68) _ ?_
      show Steps p.tables e below (T44.setTop (mkF m 69 #[.val (.int q0), .val (.ref b1), .val (.ref b28), .val (.int (2 : Int32)), .unset] [(.ref w2)])) t
      refine XS.astore X44.here hx rfl (hb hby at_69) rfl rfl (l' := #[.val (.int q0), .val (.ref b1), .val (.ref b28), .val (.int (2 : Int32)), .val (.ref w2)]) rfl ?_
      show Steps p.tables e below (T44.setTop (mkF m 71 #[.val (.int q0), .val (.ref b1), .val (.ref b28), .val (.int (2 : Int32)), .val (.ref w2)] [])) t
      refine XS.aload X44.here hx rfl (hb hby at_71) rfl rfl ?_
      exact k
    obtain ⟨cq62, kq62, q62a, q62b, q62c⟩ := isOf hZ e44 ((((((((((((pE2.ext E1).wr W7).wr W12).wr W17).wr W22).wr W27).ext E28).wr W32).wr W35).wr W38).wr W41).wr W44)
    obtain ⟨_, _, ⟨T62, L62, k62, n62⟩, -, X62, ⟨Lc62, hQ62, l62, y62, z62⟩, st62⟩ := X44.virtualBack hx (y := (⟨"com/example/geo_relay/georelay/PeerState", "outOfReach", "()Z"⟩ : MethodName)) (z := (⟨"com/example/geo_relay/georelay/PeerState", "outOfReach", "()Z"⟩ : MethodName)) hown (mvT hZ (hw _ (List.mem_of_getElem? (i := 16) rfl))) (mvT hZ (hw _ (List.mem_of_getElem? (i := 17) rfl))) (notFace_of_selects (args := #[]) (mvT hZ (hw _ (List.mem_of_getElem? (i := 19) rfl)))) (mvT hZ (hw _ (List.mem_of_getElem? (i := 19) rfl))) (mvT hZ (hw _ (List.mem_of_getElem? (i := 18) rfl))) (by decide) (backOf (W := 0) (rm1 l Z a0 hw [] w2 w3 w4 h44 n0 (Nat.le_trans Z0 K44.1) ((((((((((((pS3.ext E1).wr W7).wr W12).wr W17).wr W22).wr W27).ext E28).wr W32).wr W35).wr W38).wr W41).wr W44) ((((((((((((pS4.ext E1).wr W7).wr W12).wr W17).wr W22).wr W27).ext E28).wr W32).wr W35).wr W38).wr W41).wr W44)) hZ (hw _ (List.mem_of_getElem? (i := 20) rfl)) (hw _ (List.mem_of_getElem? (i := 3) rfl)) (by decide) (by decide)) q62a q62c (g := (mkF m 73 #[.val (.int q0), .val (.ref b1), .val (.ref b28), .val (.int (2 : Int32)), .val (.ref w2)] [(.ref w2)])) rfl (by rw [hml]; rfl) (Steps.refl _) (argsL := []) (rest := []) (lenOf pd_0 rfl) rfl (by show 2 * 0 + _ ≤ _; exact Nat.le_of_eq rfl) (hb hby at_73) (fun _ _ => ⟨rfl, e44, (by decide : 2 + 0 ≤ _), (by decide : 10 + 0 ≤ _)⟩)
    dsimp only [Pt.U, Pt.locs, Pt.cells, Pt.slots] at X62 l62 y62 z62 st62 hQ62
    subst l62 y62 z62
    obtain ⟨rfl, N62q, e62⟩ := hQ62
    have N62 := Fr.app N44 N62q
    have hp62 : own_f w2 w3 w4 = (0 : Int32) := by simp [own_f, pn2_3, pn2_4]
    rw [hp62] at st62
    have R65 : Rch p e below (s₁.setTop (entryFrame m #[(.int q0)] maxLocals)) T62 (mkF m 78 #[.val (.int q0), .val (.ref b1), .val (.ref b28), .val (.int (2 : Int32)), .val (.ref w2)] [(.int (2 : Int32)), (.ref b28), (.int (0 : Int32))]) := fun t k => by
      refine R63 t ?_
      refine st62.trans ?_
      show Steps p.tables e below (T62.setTop (mkF m 76 #[.val (.int q0), .val (.ref b1), .val (.ref b28), .val (.int (2 : Int32)), .val (.ref w2)] [(.int (0 : Int32))])) t
      refine XS.aloadN X62.here hx rfl (hb hby at_76) rfl rfl ?_
      show Steps p.tables e below (T62.setTop (mkF m 77 #[.val (.int q0), .val (.ref b1), .val (.ref b28), .val (.int (2 : Int32)), .val (.ref w2)] [(.ref b28), (.int (0 : Int32))])) t
      refine XS.iloadN X62.here hx rfl (hb hby at_77) rfl ?_
      exact k
    obtain ⟨cl64, Ar64, q64, Sz64, N64_, Hs64, G64⟩ := V44
    have hin64 : ¬ ((2 : Int32) < 0 ∨ cl64.slots.size ≤ ((2 : Int32)).toNatClampNeg) := inb_of Sz64 ⟨by decide, by decide⟩
    have hat64 : cl64.slots[((2 : Int32)).toNatClampNeg]? = some (.int (0 : Int32)) := Hs64.at hin64 rfl
    have R66 : Rch p e below (s₁.setTop (entryFrame m #[(.int q0)] maxLocals)) T62 (mkF m 87 #[.val (.int q0), .val (.ref b1), .val (.ref b28), .val (.int (2 : Int32)), .val (.ref w2)] [(.int (1 : Int32))]) := fun t k => by
      refine R65 t ?_
      refine X62.baloadBooleans hx (j := (2 : Int32)) (v := (.int (0 : Int32))) (by rw [e62]; exact Ar64.1) (State.isArrayOf_alike hZ.alike Ar64.2.1) Ar64.2.2 hin64 hat64 (g := (mkF m 78 #[.val (.int q0), .val (.ref b1), .val (.ref b28), .val (.int (2 : Int32)), .val (.ref w2)] [(.int (2 : Int32)), (.ref b28), (.int (0 : Int32))])) rfl rfl (hb hby at_78) _ ?_
      show Steps p.tables e below (T62.setTop (mkF m 79 #[.val (.int q0), .val (.ref b1), .val (.ref b28), .val (.int (2 : Int32)), .val (.ref w2)] [(.int (0 : Int32)), (.int (0 : Int32))])) t
      refine XS.icmpNo X62.here hx rfl (hb hby at_79) rfl (teq (by decide : (0 : Int32) = (0 : Int32))).2 ?_
      show Steps p.tables e below (T62.setTop (mkF m 82 #[.val (.int q0), .val (.ref b1), .val (.ref b28), .val (.int (2 : Int32)), .val (.ref w2)] [])) t
      refine XS.iconst X62.here hx rfl (hb hby at_82) ?_
      show Steps p.tables e below (T62.setTop (mkF m 83 #[.val (.int q0), .val (.ref b1), .val (.ref b28), .val (.int (2 : Int32)), .val (.ref w2)] [(.int (1 : Int32))])) t
      refine XS.goto X62.here hx rfl (pc0 := 83) (pc' := 87) rfl (hb hby at_83) (by decide) (by decide) ?_
      exact k
    obtain ⟨fs, hr, hrun, hended, hW, hsame⟩ := X62.leave (v := some (.int (1 : Int32))) (fun h => by rw [Bd.returns] at h; cases h)
    refine ⟨_, _, R66 _ ?_, hrun, hended, _, _, rfl, ?_, ⟨_, rfl⟩, hW, hsame.mono (by decide) (by decide)⟩
    · exact retN X62 hx (t := .boolean) Bd.returns (by simp) (hb hby at_87) hr
    · show Q_rm0 Z q0 w0 w1 w2 w3 w4 h0 n0 _ T62.heap _
      rw [e62]
      exact ⟨rfl, N62, K44⟩
  · rw [hk] at R45
    have R68 : Rch p e below (s₁.setTop (entryFrame m #[(.int q0)] maxLocals)) T44 (mkF m 68 #[.val (.int q0), .val (.ref b1), .val (.ref b28), .val (.int (3 : Int32)), .unset] [(.int (3 : Int32)), (.ref b1)]) := fun t k => by
      refine R45 t ?_
      refine XS.aloadN X44.here hx rfl (hb hby at_66) rfl rfl ?_
      show Steps p.tables e below (T44.setTop (mkF m 67 #[.val (.int q0), .val (.ref b1), .val (.ref b28), .val (.int (3 : Int32)), .unset] [(.ref b1)])) t
      refine XS.iloadN X44.here hx rfl (hb hby at_67) rfl ?_
      exact k
    obtain ⟨cl67, Ar67, q67, Sz67, N67_, Hs67, G67⟩ := ((((((V27.ext E28).other W32 (Nat.ne_of_lt (Nat.lt_of_lt_of_le V27.lt (Nat.le_of_eq g28.symm)))).other W35 (Nat.ne_of_lt (Nat.lt_of_lt_of_le V27.lt (Nat.le_of_eq g28.symm)))).other W38 (Nat.ne_of_lt (Nat.lt_of_lt_of_le V27.lt (Nat.le_of_eq g28.symm)))).other W41 (Nat.ne_of_lt (Nat.lt_of_lt_of_le V27.lt (Nat.le_of_eq g28.symm)))).other W44 (Nat.ne_of_lt (Nat.lt_of_lt_of_le V27.lt (Nat.le_of_eq g28.symm))))
    have hin67 : ¬ ((3 : Int32) < 0 ∨ cl67.slots.size ≤ ((3 : Int32)).toNatClampNeg) := inb_of Sz67 ⟨by decide, by decide⟩
    have hat67 : cl67.slots[((3 : Int32)).toNatClampNeg]? = some (.ref w3) := Hs67.at hin67 rfl
    have R70 : Rch p e below (s₁.setTop (entryFrame m #[(.int q0)] maxLocals)) T44 (mkF m 73 #[.val (.int q0), .val (.ref b1), .val (.ref b28), .val (.int (3 : Int32)), .val (.ref w3)] [(.ref w3)]) := fun t k => by
      refine R68 t ?_
      refine X44.aaload hx (j := (3 : Int32)) (v := (.ref w3)) (by rw [e44]; exact Ar67.1) (State.isArrayOf_alike hZ.alike Ar67.2.1) rfl Ar67.2.2 hin67 hat67 (g := (mkF m 68 #[.val (.int q0), .val (.ref b1), .val (.ref b28), .val (.int (3 : Int32)), .unset] [(.int (3 : Int32)), (.ref b1)])) rfl rfl (hb hby at_68) _ ?_
      show Steps p.tables e below (T44.setTop (mkF m 69 #[.val (.int q0), .val (.ref b1), .val (.ref b28), .val (.int (3 : Int32)), .unset] [(.ref w3)])) t
      refine XS.astore X44.here hx rfl (hb hby at_69) rfl rfl (l' := #[.val (.int q0), .val (.ref b1), .val (.ref b28), .val (.int (3 : Int32)), .val (.ref w3)]) rfl ?_
      show Steps p.tables e below (T44.setTop (mkF m 71 #[.val (.int q0), .val (.ref b1), .val (.ref b28), .val (.int (3 : Int32)), .val (.ref w3)] [])) t
      refine XS.aload X44.here hx rfl (hb hby at_71) rfl rfl ?_
      exact k
    obtain ⟨cq69, kq69, q69a, q69b, q69c⟩ := isOf hZ e44 ((((((((((((pE3.ext E1).wr W7).wr W12).wr W17).wr W22).wr W27).ext E28).wr W32).wr W35).wr W38).wr W41).wr W44)
    obtain ⟨_, _, ⟨T69, L69, k69, n69⟩, -, X69, ⟨Lc69, hQ69, l69, y69, z69⟩, st69⟩ := X44.virtualBack hx (y := (⟨"com/example/geo_relay/georelay/PeerState", "outOfReach", "()Z"⟩ : MethodName)) (z := (⟨"com/example/geo_relay/georelay/PeerState", "outOfReach", "()Z"⟩ : MethodName)) hown (mvT hZ (hw _ (List.mem_of_getElem? (i := 16) rfl))) (mvT hZ (hw _ (List.mem_of_getElem? (i := 17) rfl))) (notFace_of_selects (args := #[]) (mvT hZ (hw _ (List.mem_of_getElem? (i := 19) rfl)))) (mvT hZ (hw _ (List.mem_of_getElem? (i := 19) rfl))) (mvT hZ (hw _ (List.mem_of_getElem? (i := 18) rfl))) (by decide) (backOf (W := 0) (rm1 l Z a0 hw [] w3 w3 w4 h44 n0 (Nat.le_trans Z0 K44.1) ((((((((((((pS3.ext E1).wr W7).wr W12).wr W17).wr W22).wr W27).ext E28).wr W32).wr W35).wr W38).wr W41).wr W44) ((((((((((((pS4.ext E1).wr W7).wr W12).wr W17).wr W22).wr W27).ext E28).wr W32).wr W35).wr W38).wr W41).wr W44)) hZ (hw _ (List.mem_of_getElem? (i := 20) rfl)) (hw _ (List.mem_of_getElem? (i := 3) rfl)) (by decide) (by decide)) q69a q69c (g := (mkF m 73 #[.val (.int q0), .val (.ref b1), .val (.ref b28), .val (.int (3 : Int32)), .val (.ref w3)] [(.ref w3)])) rfl (by rw [hml]; rfl) (Steps.refl _) (argsL := []) (rest := []) (lenOf pd_0 rfl) rfl (by show 2 * 0 + _ ≤ _; exact Nat.le_of_eq rfl) (hb hby at_73) (fun _ _ => ⟨rfl, e44, (by decide : 2 + 0 ≤ _), (by decide : 10 + 0 ≤ _)⟩)
    dsimp only [Pt.U, Pt.locs, Pt.cells, Pt.slots] at X69 l69 y69 z69 st69 hQ69
    subst l69 y69 z69
    obtain ⟨rfl, N69q, e69⟩ := hQ69
    have N69 := Fr.app N44 N69q
    have hp69 : own_f w3 w3 w4 = (1 : Int32) := by simp [own_f, pn3_4]
    rw [hp69] at st69
    have R72 : Rch p e below (s₁.setTop (entryFrame m #[(.int q0)] maxLocals)) T69 (mkF m 78 #[.val (.int q0), .val (.ref b1), .val (.ref b28), .val (.int (3 : Int32)), .val (.ref w3)] [(.int (3 : Int32)), (.ref b28), (.int (1 : Int32))]) := fun t k => by
      refine R70 t ?_
      refine st69.trans ?_
      show Steps p.tables e below (T69.setTop (mkF m 76 #[.val (.int q0), .val (.ref b1), .val (.ref b28), .val (.int (3 : Int32)), .val (.ref w3)] [(.int (1 : Int32))])) t
      refine XS.aloadN X69.here hx rfl (hb hby at_76) rfl rfl ?_
      show Steps p.tables e below (T69.setTop (mkF m 77 #[.val (.int q0), .val (.ref b1), .val (.ref b28), .val (.int (3 : Int32)), .val (.ref w3)] [(.ref b28), (.int (1 : Int32))])) t
      refine XS.iloadN X69.here hx rfl (hb hby at_77) rfl ?_
      exact k
    obtain ⟨cl71, Ar71, q71, Sz71, N71_, Hs71, G71⟩ := V44
    have hin71 : ¬ ((3 : Int32) < 0 ∨ cl71.slots.size ≤ ((3 : Int32)).toNatClampNeg) := inb_of Sz71 ⟨by decide, by decide⟩
    have hat71 : cl71.slots[((3 : Int32)).toNatClampNeg]? = some (.int (1 : Int32)) := Hs71.at hin71 rfl
    have R73 : Rch p e below (s₁.setTop (entryFrame m #[(.int q0)] maxLocals)) T69 (mkF m 87 #[.val (.int q0), .val (.ref b1), .val (.ref b28), .val (.int (3 : Int32)), .val (.ref w3)] [(.int (1 : Int32))]) := fun t k => by
      refine R72 t ?_
      refine X69.baloadBooleans hx (j := (3 : Int32)) (v := (.int (1 : Int32))) (by rw [e69]; exact Ar71.1) (State.isArrayOf_alike hZ.alike Ar71.2.1) Ar71.2.2 hin71 hat71 (g := (mkF m 78 #[.val (.int q0), .val (.ref b1), .val (.ref b28), .val (.int (3 : Int32)), .val (.ref w3)] [(.int (3 : Int32)), (.ref b28), (.int (1 : Int32))])) rfl rfl (hb hby at_78) _ ?_
      show Steps p.tables e below (T69.setTop (mkF m 79 #[.val (.int q0), .val (.ref b1), .val (.ref b28), .val (.int (3 : Int32)), .val (.ref w3)] [(.int (1 : Int32)), (.int (1 : Int32))])) t
      refine XS.icmpNo X69.here hx rfl (hb hby at_79) rfl (teq (by decide : (1 : Int32) = (1 : Int32))).2 ?_
      show Steps p.tables e below (T69.setTop (mkF m 82 #[.val (.int q0), .val (.ref b1), .val (.ref b28), .val (.int (3 : Int32)), .val (.ref w3)] [])) t
      refine XS.iconst X69.here hx rfl (hb hby at_82) ?_
      show Steps p.tables e below (T69.setTop (mkF m 83 #[.val (.int q0), .val (.ref b1), .val (.ref b28), .val (.int (3 : Int32)), .val (.ref w3)] [(.int (1 : Int32))])) t
      refine XS.goto X69.here hx rfl (pc0 := 83) (pc' := 87) rfl (hb hby at_83) (by decide) (by decide) ?_
      exact k
    obtain ⟨fs, hr, hrun, hended, hW, hsame⟩ := X69.leave (v := some (.int (1 : Int32))) (fun h => by rw [Bd.returns] at h; cases h)
    refine ⟨_, _, R73 _ ?_, hrun, hended, _, _, rfl, ?_, ⟨_, rfl⟩, hW, hsame.mono (by decide) (by decide)⟩
    · exact retN X69 hx (t := .boolean) Bd.returns (by simp) (hb hby at_87) hr
    · show Q_rm0 Z q0 w0 w1 w2 w3 w4 h0 n0 _ T69.heap _
      rw [e69]
      exact ⟨rfl, N69, K44⟩
  · rw [hk] at R45
    have R75 : Rch p e below (s₁.setTop (entryFrame m #[(.int q0)] maxLocals)) T44 (mkF m 68 #[.val (.int q0), .val (.ref b1), .val (.ref b28), .val (.int (4 : Int32)), .unset] [(.int (4 : Int32)), (.ref b1)]) := fun t k => by
      refine R45 t ?_
      refine XS.aloadN X44.here hx rfl (hb hby at_66) rfl rfl ?_
      show Steps p.tables e below (T44.setTop (mkF m 67 #[.val (.int q0), .val (.ref b1), .val (.ref b28), .val (.int (4 : Int32)), .unset] [(.ref b1)])) t
      refine XS.iloadN X44.here hx rfl (hb hby at_67) rfl ?_
      exact k
    obtain ⟨cl74, Ar74, q74, Sz74, N74_, Hs74, G74⟩ := ((((((V27.ext E28).other W32 (Nat.ne_of_lt (Nat.lt_of_lt_of_le V27.lt (Nat.le_of_eq g28.symm)))).other W35 (Nat.ne_of_lt (Nat.lt_of_lt_of_le V27.lt (Nat.le_of_eq g28.symm)))).other W38 (Nat.ne_of_lt (Nat.lt_of_lt_of_le V27.lt (Nat.le_of_eq g28.symm)))).other W41 (Nat.ne_of_lt (Nat.lt_of_lt_of_le V27.lt (Nat.le_of_eq g28.symm)))).other W44 (Nat.ne_of_lt (Nat.lt_of_lt_of_le V27.lt (Nat.le_of_eq g28.symm))))
    have hin74 : ¬ ((4 : Int32) < 0 ∨ cl74.slots.size ≤ ((4 : Int32)).toNatClampNeg) := inb_of Sz74 ⟨by decide, by decide⟩
    have hat74 : cl74.slots[((4 : Int32)).toNatClampNeg]? = some (.ref w4) := Hs74.at hin74 rfl
    have R77 : Rch p e below (s₁.setTop (entryFrame m #[(.int q0)] maxLocals)) T44 (mkF m 73 #[.val (.int q0), .val (.ref b1), .val (.ref b28), .val (.int (4 : Int32)), .val (.ref w4)] [(.ref w4)]) := fun t k => by
      refine R75 t ?_
      refine X44.aaload hx (j := (4 : Int32)) (v := (.ref w4)) (by rw [e44]; exact Ar74.1) (State.isArrayOf_alike hZ.alike Ar74.2.1) rfl Ar74.2.2 hin74 hat74 (g := (mkF m 68 #[.val (.int q0), .val (.ref b1), .val (.ref b28), .val (.int (4 : Int32)), .unset] [(.int (4 : Int32)), (.ref b1)])) rfl rfl (hb hby at_68) _ ?_
      show Steps p.tables e below (T44.setTop (mkF m 69 #[.val (.int q0), .val (.ref b1), .val (.ref b28), .val (.int (4 : Int32)), .unset] [(.ref w4)])) t
      refine XS.astore X44.here hx rfl (hb hby at_69) rfl rfl (l' := #[.val (.int q0), .val (.ref b1), .val (.ref b28), .val (.int (4 : Int32)), .val (.ref w4)]) rfl ?_
      show Steps p.tables e below (T44.setTop (mkF m 71 #[.val (.int q0), .val (.ref b1), .val (.ref b28), .val (.int (4 : Int32)), .val (.ref w4)] [])) t
      refine XS.aload X44.here hx rfl (hb hby at_71) rfl rfl ?_
      exact k
    obtain ⟨cq76, kq76, q76a, q76b, q76c⟩ := isOf hZ e44 ((((((((((((pE4.ext E1).wr W7).wr W12).wr W17).wr W22).wr W27).ext E28).wr W32).wr W35).wr W38).wr W41).wr W44)
    obtain ⟨_, _, ⟨T76, L76, k76, n76⟩, -, X76, ⟨Lc76, hQ76, l76, y76, z76⟩, st76⟩ := X44.virtualBack hx (y := (⟨"com/example/geo_relay/georelay/PeerState", "outOfReach", "()Z"⟩ : MethodName)) (z := (⟨"com/example/geo_relay/georelay/PeerState", "outOfReach", "()Z"⟩ : MethodName)) hown (mvT hZ (hw _ (List.mem_of_getElem? (i := 16) rfl))) (mvT hZ (hw _ (List.mem_of_getElem? (i := 17) rfl))) (notFace_of_selects (args := #[]) (mvT hZ (hw _ (List.mem_of_getElem? (i := 19) rfl)))) (mvT hZ (hw _ (List.mem_of_getElem? (i := 19) rfl))) (mvT hZ (hw _ (List.mem_of_getElem? (i := 18) rfl))) (by decide) (backOf (W := 0) (rm1 l Z a0 hw [] w4 w3 w4 h44 n0 (Nat.le_trans Z0 K44.1) ((((((((((((pS3.ext E1).wr W7).wr W12).wr W17).wr W22).wr W27).ext E28).wr W32).wr W35).wr W38).wr W41).wr W44) ((((((((((((pS4.ext E1).wr W7).wr W12).wr W17).wr W22).wr W27).ext E28).wr W32).wr W35).wr W38).wr W41).wr W44)) hZ (hw _ (List.mem_of_getElem? (i := 20) rfl)) (hw _ (List.mem_of_getElem? (i := 3) rfl)) (by decide) (by decide)) q76a q76c (g := (mkF m 73 #[.val (.int q0), .val (.ref b1), .val (.ref b28), .val (.int (4 : Int32)), .val (.ref w4)] [(.ref w4)])) rfl (by rw [hml]; rfl) (Steps.refl _) (argsL := []) (rest := []) (lenOf pd_0 rfl) rfl (by show 2 * 0 + _ ≤ _; exact Nat.le_of_eq rfl) (hb hby at_73) (fun _ _ => ⟨rfl, e44, (by decide : 2 + 0 ≤ _), (by decide : 10 + 0 ≤ _)⟩)
    dsimp only [Pt.U, Pt.locs, Pt.cells, Pt.slots] at X76 l76 y76 z76 st76 hQ76
    subst l76 y76 z76
    obtain ⟨rfl, N76q, e76⟩ := hQ76
    have N76 := Fr.app N44 N76q
    have hp76 : own_f w4 w3 w4 = (1 : Int32) := by simp [own_f, pn4_3]
    rw [hp76] at st76
    have R79 : Rch p e below (s₁.setTop (entryFrame m #[(.int q0)] maxLocals)) T76 (mkF m 78 #[.val (.int q0), .val (.ref b1), .val (.ref b28), .val (.int (4 : Int32)), .val (.ref w4)] [(.int (4 : Int32)), (.ref b28), (.int (1 : Int32))]) := fun t k => by
      refine R77 t ?_
      refine st76.trans ?_
      show Steps p.tables e below (T76.setTop (mkF m 76 #[.val (.int q0), .val (.ref b1), .val (.ref b28), .val (.int (4 : Int32)), .val (.ref w4)] [(.int (1 : Int32))])) t
      refine XS.aloadN X76.here hx rfl (hb hby at_76) rfl rfl ?_
      show Steps p.tables e below (T76.setTop (mkF m 77 #[.val (.int q0), .val (.ref b1), .val (.ref b28), .val (.int (4 : Int32)), .val (.ref w4)] [(.ref b28), (.int (1 : Int32))])) t
      refine XS.iloadN X76.here hx rfl (hb hby at_77) rfl ?_
      exact k
    obtain ⟨cl78, Ar78, q78, Sz78, N78_, Hs78, G78⟩ := V44
    have hin78 : ¬ ((4 : Int32) < 0 ∨ cl78.slots.size ≤ ((4 : Int32)).toNatClampNeg) := inb_of Sz78 ⟨by decide, by decide⟩
    have hat78 : cl78.slots[((4 : Int32)).toNatClampNeg]? = some (.int (1 : Int32)) := Hs78.at hin78 rfl
    have R80 : Rch p e below (s₁.setTop (entryFrame m #[(.int q0)] maxLocals)) T76 (mkF m 87 #[.val (.int q0), .val (.ref b1), .val (.ref b28), .val (.int (4 : Int32)), .val (.ref w4)] [(.int (1 : Int32))]) := fun t k => by
      refine R79 t ?_
      refine X76.baloadBooleans hx (j := (4 : Int32)) (v := (.int (1 : Int32))) (by rw [e76]; exact Ar78.1) (State.isArrayOf_alike hZ.alike Ar78.2.1) Ar78.2.2 hin78 hat78 (g := (mkF m 78 #[.val (.int q0), .val (.ref b1), .val (.ref b28), .val (.int (4 : Int32)), .val (.ref w4)] [(.int (4 : Int32)), (.ref b28), (.int (1 : Int32))])) rfl rfl (hb hby at_78) _ ?_
      show Steps p.tables e below (T76.setTop (mkF m 79 #[.val (.int q0), .val (.ref b1), .val (.ref b28), .val (.int (4 : Int32)), .val (.ref w4)] [(.int (1 : Int32)), (.int (1 : Int32))])) t
      refine XS.icmpNo X76.here hx rfl (hb hby at_79) rfl (teq (by decide : (1 : Int32) = (1 : Int32))).2 ?_
      show Steps p.tables e below (T76.setTop (mkF m 82 #[.val (.int q0), .val (.ref b1), .val (.ref b28), .val (.int (4 : Int32)), .val (.ref w4)] [])) t
      refine XS.iconst X76.here hx rfl (hb hby at_82) ?_
      show Steps p.tables e below (T76.setTop (mkF m 83 #[.val (.int q0), .val (.ref b1), .val (.ref b28), .val (.int (4 : Int32)), .val (.ref w4)] [(.int (1 : Int32))])) t
      refine XS.goto X76.here hx rfl (pc0 := 83) (pc' := 87) rfl (hb hby at_83) (by decide) (by decide) ?_
      exact k
    obtain ⟨fs, hr, hrun, hended, hW, hsame⟩ := X76.leave (v := some (.int (1 : Int32))) (fun h => by rw [Bd.returns] at h; cases h)
    refine ⟨_, _, R80 _ ?_, hrun, hended, _, _, rfl, ?_, ⟨_, rfl⟩, hW, hsame.mono (by decide) (by decide)⟩
    · exact retN X76 hx (t := .boolean) Bd.returns (by simp) (hb hby at_87) hr
    · show Q_rm0 Z q0 w0 w1 w2 w3 w4 h0 n0 _ T76.heap _
      rw [e76]
      exact ⟨rfl, N76, K44⟩
set_option maxRecDepth 65536 in
set_option maxHeartbeats 40000000 in
theorem comes_1 {Post : Tables → Env → Array Value → State → Outcome → State → Prop} (hpost : ∀ tb e args s v u, (limb_1_1.after args s (.returned v) u = true ∧ limb_1_2.after args s (.returned v) u = true ∧ True) → FrameEnd s (.returned v) u (Jvm.fieldLocs frame_1_writes args s ++ Jvm.arrayLocs frame_1_arrays args s ++ Jvm.staticLocs frame_1_statics s) 16 128 → Post tb e args s (.returned v) u) :
    ArmFor flags0 classFile x code maxLocals ret World_1 tables_1 room_1 Calls_1 rest_1 Pre_1 Post := by
  intro l hfl _ _ p e ha hc hk s m args below hf hA hF happ hP
  obtain ⟨hcalls, hrest, hpre⟩ := hP
  obtain ⟨-, -, -, hnamed, -, -, -, hat⟩ := (Spec.applies_iff hf).mp happ
  obtain ⟨hg, hn⟩ := and_e (Cond.before_iff.mp (show (Jvm.Cond.and given_1 narrow_1).before args s = true from hpre))
  obtain ⟨g0, g1⟩ := and_e hg
  obtain ⟨w0, rfl⟩ : ∃ w0 : Value, args = #[w0] := by
    have hs : args.size = 1 := by simpa [Cond.value, given_1] using g0
    obtain ⟨L⟩ := args
    match L, hs with
    | [w0], _ => exact ⟨w0, rfl⟩
  have hw := fun d (hd : d ∈ tables_1) => atoms_spec (ws := Jvm.Cond.code x code maxLocals ret :: tables_1) hat d (List.mem_cons_of_mem _ hd)
  have hfit : Fit s := fun {y c} hc i hi => by
    obtain ⟨ha, rfl⟩ := Array.getElem?_eq_some_iff.mp hc
    have q := List.all_eq_true.mp ((Array.all_eq_true_iff_forall_mem.mp hF) _ (Array.getElem_mem ha)) i (List.mem_range.mpr hi)
    simpa [Array.getElem?_eq_getElem hi] using q
  obtain ⟨i0, ei0⟩ := is_v g1
  obtain rfl : w0 = (.int i0) := Option.some.inj ei0
  obtain ⟨c0, hn0⟩ := and_e hn
  obtain ⟨c1, hn1⟩ := and_e hn0
  obtain ⟨c2, hn2⟩ := and_e hn1
  obtain ⟨c3, hn3⟩ := and_e hn2
  obtain ⟨c4, hn4⟩ := and_e hn3
  obtain ⟨c5, hn5⟩ := and_e hn4
  obtain ⟨c6, hn6⟩ := and_e hn5
  obtain ⟨c7, hn7⟩ := and_e hn6
  obtain ⟨c8, hn8⟩ := and_e hn7
  obtain ⟨v0, ev_v0⟩ := exa_v c0
  have E_v0 : Exa s s.heap v0 "com/example/geo_relay/georelay/PeerState" := Exa.start ev_v0 c0
  have S_v0 : Sta s s.heap "com/example/geo_relay/georelay/PeerState" "PROSPECT" "Lcom/example/geo_relay/georelay/PeerState;" (.ref v0) := Sta.start ev_v0 (Or.inr ⟨(hw _ (List.mem_of_getElem? (i := 3) rfl)), (hw _ (List.mem_of_getElem? (i := 4) rfl))⟩)
  obtain ⟨v1, ev_v1⟩ := exa_v c1
  have E_v1 : Exa s s.heap v1 "com/example/geo_relay/georelay/PeerState" := Exa.start ev_v1 c1
  have S_v1 : Sta s s.heap "com/example/geo_relay/georelay/PeerState" "ACTIVE" "Lcom/example/geo_relay/georelay/PeerState;" (.ref v1) := Sta.start ev_v1 (Or.inr ⟨(hw _ (List.mem_of_getElem? (i := 3) rfl)), (hw _ (List.mem_of_getElem? (i := 7) rfl))⟩)
  obtain ⟨v2, ev_v2⟩ := exa_v c2
  have E_v2 : Exa s s.heap v2 "com/example/geo_relay/georelay/PeerState" := Exa.start ev_v2 c2
  have S_v2 : Sta s s.heap "com/example/geo_relay/georelay/PeerState" "SUSPECT" "Lcom/example/geo_relay/georelay/PeerState;" (.ref v2) := Sta.start ev_v2 (Or.inr ⟨(hw _ (List.mem_of_getElem? (i := 3) rfl)), (hw _ (List.mem_of_getElem? (i := 9) rfl))⟩)
  obtain ⟨v3, ev_v3⟩ := exa_v c3
  have E_v3 : Exa s s.heap v3 "com/example/geo_relay/georelay/PeerState" := Exa.start ev_v3 c3
  have S_v3 : Sta s s.heap "com/example/geo_relay/georelay/PeerState" "DEAD" "Lcom/example/geo_relay/georelay/PeerState;" (.ref v3) := Sta.start ev_v3 (Or.inr ⟨(hw _ (List.mem_of_getElem? (i := 3) rfl)), (hw _ (List.mem_of_getElem? (i := 11) rfl))⟩)
  obtain ⟨v4, ev_v4⟩ := exa_v c4
  have E_v4 : Exa s s.heap v4 "com/example/geo_relay/georelay/PeerState" := Exa.start ev_v4 c4
  have S_v4 : Sta s s.heap "com/example/geo_relay/georelay/PeerState" "AWAY" "Lcom/example/geo_relay/georelay/PeerState;" (.ref v4) := Sta.start ev_v4 (Or.inr ⟨(hw _ (List.mem_of_getElem? (i := 3) rfl)), (hw _ (List.mem_of_getElem? (i := 13) rfl))⟩)
  have F_v0_ordinal : Fld s s.heap v0 "java/lang/Enum" "ordinal" "I" (.int (0 : Int32)) := Fld.start ((fld_at ev_v0).symm.trans (own_eq_int c5))
  have F_v3_ordinal : Fld s s.heap v3 "java/lang/Enum" "ordinal" "I" (.int (3 : Int32)) := Fld.start ((fld_at ev_v3).symm.trans (own_eq_int c6))
  have F_v4_ordinal : Fld s s.heap v4 "java/lang/Enum" "ordinal" "I" (.int (4 : Int32)) := Fld.start ((fld_at ev_v4).symm.trans (own_eq_int c7))
  have F_v1_ordinal : Fld s s.heap v1 "java/lang/Enum" "ordinal" "I" (.int (1 : Int32)) := Fld.start ((fld_at ev_v1).symm.trans (own_eq_int c8))
  have F_v2_ordinal : Fld s s.heap v2 "java/lang/Enum" "ordinal" "I" (.int (2 : Int32)) := Fld.start ((fld_at ev_v2).symm.trans (own_eq_int hn8))
  obtain ⟨n, o, h1, h2, h3, _, L, rfl, ⟨rfl, N, -⟩, hq⟩ := rm0 l s _ hw tables_1 i0 v0 v1 v2 v3 v4 s.heap s.heap.size (Nat.le_refl _) S_v0 S_v1 S_v2 S_v3 S_v4 E_v0 E_v1 E_v2 E_v3 E_v4 (F_v0_ordinal.ne F_v3_ordinal (by decide)) (F_v0_ordinal.ne F_v4_ordinal (by decide)) (F_v1_ordinal.ne F_v3_ordinal (by decide)) (F_v1_ordinal.ne F_v4_ordinal (by decide)) (F_v2_ordinal.ne F_v3_ordinal (by decide)) (F_v2_ordinal.ne F_v4_ordinal (by decide)) (F_v3_ordinal.ne F_v4_ordinal (by decide)) (F_v4_ordinal.ne F_v3_ordinal (by decide)) p e ha hc hk s m _ below hf ((Spec.applies_iff_loose hf).mp happ).1 ⟨rfl, State.Warmed39.refl s, rfl⟩ trivial
  refine ⟨n, _, h1, h2, h3, hpost _ _ _ _ _ _ ⟨Cond.after_iff.mpr rfl, Cond.after_iff.mpr (eq_i res_at (Term.int_eval (1)) rfl), trivial⟩ ⟨hq.1, hq.2.1, (hq.2.2.sift fun y hy => Or.inr (N y hy)).mono (by decide) (by decide)⟩⟩
theorem main_1_1 : Claimed_1_1 := comes_1 fun _ _ _ _ _ _ h hF => ⟨h.1, hF⟩
theorem main_1_2 : Claimed_1_2 := comes_1 fun _ _ _ _ _ _ h hF => ⟨h.2.1, hF⟩
end Jvm.Pilot.@@N@@
namespace Jvm.Pilot.@@N@@
open Jvm Jvm.ClassFile Sem Op Lib Jvm.Free Jvm.Stand Jvm.Pilot.@@N@@.Jvm.D
/-! MADE BY PROGRAM (witnessworld.py) out of the Statement's table words and the real class files: 13 classes; the members and pool entries that the words name. The judged class is class 1, her method 1. -/
namespace start1
open Jvm.ClassFile
def u (s : String) : CpInfo := .utf8 (stringToUtf16 s)
/-- a pool by its gaps: so many unusable entries, then the entry; so many at the end -/
def gap : Nat → List CpInfo → List CpInfo
  | 0, r => r
  | n + 1, r => .unusable :: gap n r
def poolList (es : List (Nat × CpInfo)) (last : Nat) : List CpInfo := es.foldr (fun e r => gap e.1 (e.2 :: r)) (gap last [])
def pool (es : List (Nat × CpInfo)) (last : Nat) : Array CpInfo := ⟨poolList es last⟩
def fileOf (pool : Array CpInfo) (this : Nat) (attrs : Array Attribute := #[]) (ms : Array MethodInfo := #[]) (fl : Nat := 33) (sup : Nat := 0) (ifs : Array Nat := #[]) (fds : Array FieldInfo := #[]) : ClassFile where
  minorVersion := 0
  majorVersion := 65
  constantPool := pool
  accessFlags := fl
  thisClass := this
  superClass := sup
  interfaces := ifs
  fields := fds
  methods := ms
  attributes := attrs
def plain (name : String) (sup : Option ClassId) : Class where
  name := name
  kind := .ordinary
  loader := none
  accessFlags := 33
  super := sup
  interfaces := #[]
  cf := none
  fields := #[]
  methods := #[]
  instanceTypes := #[]
  staticTypes := #[]
  resolved := #[]
  callSites := []
  init := .initialized
  statics := none
  mirror := none

def pool0 : Array CpInfo := pool [(5, u "<init>"), (0, u "()V"), (1, .class_ 10), (1, u "java/lang/Object")] 113

def k0m0 : Method := { name := "<init>", desc := "()V", sig := { parameters := [], returnType := none }, accessFlags := 1, code := none }
/-- java/lang/Object -/
def k0 : Class := { plain "java/lang/Object" none with
  accessFlags := 33
  interfaces := #[]
  cf := some (fileOf pool0 8 #[] #[{ accessFlags := 1, nameIndex := 5, descriptorIndex := 6, attributes := #[] }] 33 0 #[] #[])
  fields := #[]
  methods := #[k0m0]
  instanceTypes := #[]
  staticTypes := #[]
  resolved := Array.replicate 124 none
  statics := none }

def pool1 : Array CpInfo := pool [(2, .class_ 4), (1, u "java/lang/Object"), (0, u "<init>"), (0, u "()V"), (0, .class_ 8), (0, u "com/example/geo_relay/georelay/PeerState"), (0, .fieldref 7 10), (0, .nameAndType 11 12), (0, u "PROSPECT"), (0, u "Lcom/example/geo_relay/georelay/PeerState;"), (0, .fieldref 7 14), (0, .nameAndType 15 12), (0, u "ACTIVE"), (0, .fieldref 7 17), (0, .nameAndType 18 12), (0, u "SUSPECT"), (0, .fieldref 7 20), (0, .nameAndType 21 12), (0, u "DEAD"), (0, .fieldref 7 23), (0, .nameAndType 24 12), (0, u "AWAY"), (0, .integer 2147483647), (0, .methodref 7 27), (0, .nameAndType 28 29), (0, u "outOfReach"), (0, u "()Z"), (0, .class_ 31), (0, u "com/example/geo_relay/georelay/PeerStateOutOfReachPinLaw"), (2, u "law"), (0, u "(I)Z")] 7

def k1m0 : Method := { name := "<init>", desc := "()V", sig := { parameters := [], returnType := none }, accessFlags := 1, code := none }
def k1c1 : Code := { maxStack := 4, maxLocals := 5, code := code, exceptionTable := #[], attributes := #[] }
def k1m1 : Method := { name := "law", desc := "(I)Z", sig := { parameters := [.int], returnType := some .boolean }, accessFlags := 9, code := some k1c1 }
/-- com/example/geo_relay/georelay/PeerStateOutOfReachPinLaw -/
def k1 : Class := { plain "com/example/geo_relay/georelay/PeerStateOutOfReachPinLaw" (some 0) with
  accessFlags := 49
  interfaces := #[]
  cf := some (fileOf pool1 30 #[] #[{ accessFlags := 1, nameIndex := 5, descriptorIndex := 6, attributes := #[] }, { accessFlags := 9, nameIndex := 34, descriptorIndex := 35, attributes := #[] }] 49 2 #[] #[])
  fields := #[]
  methods := #[k1m0, k1m1]
  instanceTypes := #[]
  staticTypes := #[]
  resolved := Array.replicate 43 none
  statics := none }

def pool2 : Array CpInfo := pool [(1, .class_ 2), (0, u "java/lang/constant/Constable"), (0, .class_ 4), (0, u "java/lang/Object")] 6

/-- java/lang/constant/Constable -/
def k2 : Class := { plain "java/lang/constant/Constable" (some 0) with
  accessFlags := 1537
  interfaces := #[]
  cf := some (fileOf pool2 1 #[] #[] 1537 3 #[] #[])
  fields := #[]
  methods := #[]
  instanceTypes := #[]
  staticTypes := #[]
  resolved := Array.replicate 11 none
  statics := none }

def pool3 : Array CpInfo := pool [(1, .class_ 2), (0, u "java/lang/Comparable"), (0, .class_ 4), (0, u "java/lang/Object")] 7

/-- java/lang/Comparable -/
def k3 : Class := { plain "java/lang/Comparable" (some 0) with
  accessFlags := 1537
  interfaces := #[]
  cf := some (fileOf pool3 1 #[] #[] 1537 3 #[] #[])
  fields := #[]
  methods := #[]
  instanceTypes := #[]
  staticTypes := #[]
  resolved := Array.replicate 12 none
  statics := none }

def pool4 : Array CpInfo := pool [(1, .class_ 2), (0, u "java/io/Serializable"), (0, .class_ 4), (0, u "java/lang/Object")] 2

/-- java/io/Serializable -/
def k4 : Class := { plain "java/io/Serializable" (some 0) with
  accessFlags := 1537
  interfaces := #[]
  cf := some (fileOf pool4 1 #[] #[] 1537 3 #[] #[])
  fields := #[]
  methods := #[]
  instanceTypes := #[]
  staticTypes := #[]
  resolved := Array.replicate 7 none
  statics := none }

def pool5 : Array CpInfo := pool [(2, .class_ 4), (1, u "java/lang/Enum"), (0, u "name"), (0, u "Ljava/lang/String;"), (2, u "ordinal"), (0, u "I"), (1, .class_ 14), (1, u "java/lang/Object"), (4, u "hash"), (86, .class_ 108), (1, u "java/lang/Enum$EnumDesc"), (2, .class_ 112), (0, u "java/lang/constant/Constable"), (0, .class_ 114), (0, u "java/lang/Comparable"), (0, .class_ 116), (0, u "java/io/Serializable")] 87

/-- java/lang/Enum -/
def k5 : Class := { plain "java/lang/Enum" (some 0) with
  accessFlags := 1057
  interfaces := #[2, 3, 4]
  cf := some (fileOf pool5 2 #[.nestMembers #[106]] #[] 1057 12 #[111, 113, 115] #[{ accessFlags := 18, nameIndex := 5, descriptorIndex := 6, attributes := #[] }, { accessFlags := 18, nameIndex := 9, descriptorIndex := 10, attributes := #[] }, { accessFlags := 2, nameIndex := 19, descriptorIndex := 10, attributes := #[] }])
  fields := #[{ name := "name", type := (.object "java/lang/String"), accessFlags := 18, slot := 0, constantValue := 0 }, { name := "ordinal", type := .int, accessFlags := 18, slot := 1, constantValue := 0 }, { name := "hash", type := .int, accessFlags := 2, slot := 2, constantValue := 0 }]
  methods := #[]
  instanceTypes := #[(.object "java/lang/String"), .int, .int]
  staticTypes := #[]
  resolved := Array.replicate 204 none
  statics := none }

def pool6 : Array CpInfo := pool [(1, .class_ 2), (0, u "com/example/geo_relay/georelay/PeerState"), (2, u "PROSPECT"), (0, u "Lcom/example/geo_relay/georelay/PeerState;"), (2, u "ACTIVE"), (2, u "SUSPECT"), (0, .fieldref 1 14), (0, .nameAndType 15 6), (0, u "DEAD"), (0, .fieldref 1 17), (0, .nameAndType 18 6), (0, u "AWAY"), (2, u "$VALUES"), (0, u "[Lcom/example/geo_relay/georelay/PeerState;"), (6, .class_ 31), (1, u "java/lang/Enum"), (40, u "outOfReach"), (0, u "()Z")] 5

def k6c0 : Code := { maxStack := 2, maxLocals := 1, code := prog_10_method_5_code, exceptionTable := #[], attributes := #[] }
def k6m0 : Method := { name := "outOfReach", desc := "()Z", sig := { parameters := [], returnType := some .boolean }, accessFlags := 0, code := some k6c0 }
/-- com/example/geo_relay/georelay/PeerState -/
def k6 : Class := { plain "com/example/geo_relay/georelay/PeerState" (some 5) with
  accessFlags := 16433
  interfaces := #[]
  cf := some (fileOf pool6 1 #[] #[{ accessFlags := 0, nameIndex := 72, descriptorIndex := 73, attributes := #[] }] 16433 29 #[] #[{ accessFlags := 16409, nameIndex := 5, descriptorIndex := 6, attributes := #[] }, { accessFlags := 16409, nameIndex := 9, descriptorIndex := 6, attributes := #[] }, { accessFlags := 16409, nameIndex := 12, descriptorIndex := 6, attributes := #[] }, { accessFlags := 16409, nameIndex := 15, descriptorIndex := 6, attributes := #[] }, { accessFlags := 16409, nameIndex := 18, descriptorIndex := 6, attributes := #[] }, { accessFlags := 4122, nameIndex := 21, descriptorIndex := 22, attributes := #[] }])
  fields := #[{ name := "PROSPECT", type := (.object "com/example/geo_relay/georelay/PeerState"), accessFlags := 16409, slot := 0, constantValue := 0 }, { name := "ACTIVE", type := (.object "com/example/geo_relay/georelay/PeerState"), accessFlags := 16409, slot := 1, constantValue := 0 }, { name := "SUSPECT", type := (.object "com/example/geo_relay/georelay/PeerState"), accessFlags := 16409, slot := 2, constantValue := 0 }, { name := "DEAD", type := (.object "com/example/geo_relay/georelay/PeerState"), accessFlags := 16409, slot := 3, constantValue := 0 }, { name := "AWAY", type := (.object "com/example/geo_relay/georelay/PeerState"), accessFlags := 16409, slot := 4, constantValue := 0 }, { name := "$VALUES", type := (.array (.object "com/example/geo_relay/georelay/PeerState")), accessFlags := 4122, slot := 5, constantValue := 0 }]
  methods := #[k6m0]
  instanceTypes := #[(.object "java/lang/String"), .int, .int]
  staticTypes := #[(.object "com/example/geo_relay/georelay/PeerState"), (.object "com/example/geo_relay/georelay/PeerState"), (.object "com/example/geo_relay/georelay/PeerState"), (.object "com/example/geo_relay/georelay/PeerState"), (.object "com/example/geo_relay/georelay/PeerState"), (.array (.object "com/example/geo_relay/georelay/PeerState"))]
  resolved := Array.replicate 79 none
  statics := some 0 }

def pool7 : Array CpInfo := pool [(1, u "java/lang/Cloneable"), (0, .class_ 1), (0, u "java/lang/Object"), (0, .class_ 3)] 3

/-- java/lang/Cloneable -/
def k7 : Class := { plain "java/lang/Cloneable" (some 0) with
  accessFlags := 1537
  interfaces := #[]
  cf := some (fileOf pool7 2 #[] #[] 1537 4 #[] #[])
  fields := #[]
  methods := #[]
  instanceTypes := #[]
  staticTypes := #[]
  resolved := Array.replicate 8 none
  statics := none }

/-- the primitive boolean -/
def k8 : Class := { plain "boolean" none with kind := .primitive 'Z', accessFlags := 0x411 }
/-- [Z -/
def k9 : Class := { plain "[Z" (some 0) with kind := .array 8 .boolean, interfaces := #[7, 4], accessFlags := 1041 }

/-- the primitive byte -/
def k10 : Class := { plain "byte" none with kind := .primitive 'B', accessFlags := 0x411 }
/-- [B -/
def k11 : Class := { plain "[B" (some 0) with kind := .array 10 .byte, interfaces := #[7, 4], accessFlags := 1041 }

/-- [Lcom/example/geo_relay/georelay/PeerState; -/
def k12 : Class := { plain "[Lcom/example/geo_relay/georelay/PeerState;" (some 0) with kind := .array 6 (.object "com/example/geo_relay/georelay/PeerState"), interfaces := #[7, 4], accessFlags := 1041 }

def heap : Heap := #[{ cls := 6, slots := #[.ref 1, .ref 2, .ref 3, .ref 4, .ref 5, .null], vm := .statics 6 },
  { cls := 6, slots := #[.null, .int 0, .int 0], vm := .none },
  { cls := 6, slots := #[.null, .int 1, .int 0], vm := .none },
  { cls := 6, slots := #[.null, .int 2, .int 0], vm := .none },
  { cls := 6, slots := #[.null, .int 3, .int 0], vm := .none },
  { cls := 6, slots := #[.null, .int 4, .int 0], vm := .none }]
def classes : Array Class := #[k0, k1, k2, k3, k4, k5, k6, k7, k8, k9, k10, k11, k12]
def interned : List (Array UInt16 × Addr) := []
def slotsUsed : Nat := 21
def theMethod : MethodId := ⟨1, 1⟩
def args0 : Array Value := #[.int 5]
def aboutOver (below : List Frame) : State where
  vm := { classes := classes, interned := interned.toArray }
  heap := heap
  slotsUsed := slotsUsed
  threads := #[{ frames := .invoking theMethod args0 :: below }]
def below0 : List Frame := [.native { method := ⟨0, 0⟩, args := #[] }]
def about1 : State := aboutOver below0
def p0 : Program := .bare "" "" ""
def e0 : Env := launch0.env 0 0 0
theorem w_frames : about1.frames = Frame.invoking theMethod args0 :: below0 := rfl
set_option maxRecDepth 65536 in
theorem w_args : argsFit about1.vm theMethod args0 = true := by decide +kernel
set_option maxRecDepth 65536 in
theorem w_heap : heapFits about1 = true := by decide +kernel
set_option maxRecDepth 65536 in
theorem w_runnable : about1.curStatus? = some .runnable := by decide +kernel
set_option maxRecDepth 65536 in
theorem w_alone : about1.alone = true := by decide +kernel
set_option maxRecDepth 65536 in
theorem w_named : about1.methodNamed? x = some theMethod := by decide +kernel
set_option maxRecDepth 65536 in
theorem w_hears : about1.hears theMethod below0 = true := by decide +kernel
set_option maxRecDepth 65536 in
theorem w_ripe : about1.ripe theMethod args0 below0 = true := by decide +kernel
theorem w_running : about1.status = .running := rfl
set_option maxRecDepth 65536 in
theorem w_room : about1.hasRoom e0.platform room_1 = true :=
  launch0.hasRoom_least _ room_1 (by decide +kernel) (by decide +kernel) (by decide +kernel) (by decide +kernel) (by decide +kernel) (by decide +kernel)
theorem allAtoms_all (ts : List Jvm.Cond) (a : Array Jvm.Value) (st : Jvm.State) : (allAtoms ts).before a st = ts.all (fun c => c.before a st) := by
  induction ts with
  | nil => rfl
  | cons c t ih =>
    show (Jvm.Cond.and c (allAtoms t)).before a st = _
    rw [Jvm.Cond.before_and, ih, List.all_cons]
def words1 : List Jvm.Cond := Jvm.Cond.code x code maxLocals ret :: tables_1
/-- a 'code' word, met by the world's own term for the bytes: nothing is compared byte by byte -/
theorem code_word {y : MethodName} {bytes : ByteArray} {mx : Nat} {rt : Option FieldType} {a : Array Value} {s : State} {m : MethodId} {meth : Method} {c : Code} (h1 : s.methodNamed? y = some m) (h2 : s.vm.method? m = some meth) (h3 : meth.code = some c) (h4 : c.code = bytes)
    (h5 : (c.maxLocals == mx && c.exceptionTable.isEmpty && decide (c.maxStack ≤ mostOperands) && decide (meth.sig.returnType = rt) && !meth.locks && decide (parseMethodDescriptor y.desc = some meth.sig)) = true) : (Jvm.Cond.code y bytes mx rt).before a s = true := by
  simp only [Bool.and_eq_true, beq_iff_eq, Bool.not_eq_true', decide_eq_true_eq] at h5
  obtain ⟨⟨⟨⟨⟨g1, g2⟩, g3⟩, g4⟩, g5⟩, g6⟩ := h5
  simp [Cond.before, Cond.holds, Cond.value, h1, h2, h3, h4, g1, g2, g3, g4, g5, g6]
def isCode : Jvm.Cond → Bool
  | .code _ _ _ _ => true
  | _ => false
theorem all_split {L : List Jvm.Cond} {P : Jvm.Cond → Bool} (h1 : L.all (fun c => isCode c || P c) = true) (h2 : ∀ c ∈ L.filter isCode, P c = true) : L.all P = true := by
  refine List.all_eq_true.mpr fun c hc => ?_
  have h := List.all_eq_true.mp h1 c hc
  rcases Bool.eq_false_or_eq_true (isCode c) with hi | hi
  · exact h2 c (List.mem_filter.mpr ⟨hc, hi⟩)
  · simpa [hi] using h
set_option maxRecDepth 65536 in
theorem w_c0 : (Jvm.Cond.code x code maxLocals ret).before args0 about1 = true := code_word (m := ⟨1, 1⟩) (meth := k1m1) (c := k1c1) (by decide +kernel) rfl rfl rfl (by decide +kernel)
set_option maxRecDepth 65536 in
theorem w_c1 : (Jvm.Cond.code ({ cls := "com/example/geo_relay/georelay/PeerState", name := "outOfReach", desc := "()Z" } : Jvm.MethodName) prog_10_method_5_code (1 : Nat) (Option.some Jvm.ClassFile.FieldType.boolean)).before args0 about1 = true := code_word (m := ⟨6, 0⟩) (meth := k6m0) (c := k6c0) (by decide +kernel) rfl rfl rfl (by decide +kernel)
def codes1 : List Jvm.Cond := [Jvm.Cond.code x code maxLocals ret, Jvm.Cond.code ({ cls := "com/example/geo_relay/georelay/PeerState", name := "outOfReach", desc := "()Z" } : Jvm.MethodName) prog_10_method_5_code (1 : Nat) (Option.some Jvm.ClassFile.FieldType.boolean)]
set_option maxRecDepth 65536 in
theorem codes_eq : words1.filter isCode = codes1 := rfl
theorem w_codes : ∀ c ∈ words1.filter isCode, c.before args0 about1 = true := by
  rw [codes_eq]
  intro c hc
  simp only [codes1, List.mem_cons, List.not_mem_nil, or_false] at hc
  rcases hc with rfl | rfl
  · exact w_c0
  · exact w_c1
set_option maxRecDepth 65536 in
theorem w_t1 : words1.all (fun c => isCode c || c.before args0 about1) = true := by decide +kernel
theorem w_tables : (allAtoms (Jvm.Cond.code x code maxLocals ret :: tables_1)).before args0 about1 = true := by
  rw [allAtoms_all]
  show words1.all (fun c => c.before args0 about1) = true
  refine all_split ?_ w_codes
  rw [w_t1]
set_option maxRecDepth 65536 in
theorem w_case : (Jvm.Cond.and given_1 narrow_1).before args0 about1 = true := by decide +kernel
theorem w_applies : (headSpec (Jvm.Cond.code x code maxLocals ret :: tables_1) room_1).applies x e0.platform about1 = true :=
  (Spec.applies_iff w_frames).mpr ⟨w_running, w_runnable, w_alone, w_named, w_hears, w_ripe, w_room, w_tables⟩
theorem atStart : AtStart classFile x code maxLocals ret World_1 tables_1 room_1 Calls_1 rest_1 Pre_1 launch0 p0 e0 about1 theMethod args0 below0 :=
  ⟨lists_1, trivial, launch0.admits_env _ _ _, launch0.least_env, fairChoices_fair.cas, fairChoices_fair.clock, w_frames, w_args, w_heap, w_applies, trivial, trivial, w_case⟩
end start1
theorem witness_1 : WitnessClaimed_1 := ⟨start1.p0, start1.e0, start1.about1, start1.theMethod, start1.args0, start1.below0, start1.atStart⟩
end Jvm.Pilot.@@N@@
