import JvmDerived
import JvmDerived.Pilot.@@N@@Statement
import JvmDerived.Pilot.@@N@@Code
set_option linter.unusedVariables false
set_option linter.unusedSimpArgs false
namespace Jvm.RoadKit
open Sem ClassFile Op Lib Jvm.Stand Jvm.Free Jvm.LawKit
section New
variable {p : Program} {l : Launch} {e : Env} {R : Room} {s : State} {m : MethodId} {args : Array Value} {below : List Frame} {meth : Method} {c : Code} {T : State} {locs : List Loc} {cells slots : Nat}
theorem retI (X : Stand p l e R s m args below meth c T locs cells slots) (hx : p.tables.exec = Jvm.exec) {pc : Nat} {Ls : Array Slot} {z : Int32} {rest : List Value} (hret : meth.sig.returnType = some .int) (hd : decode c.code pc = .ok (.ireturn, 1)) {fs : List Frame}
    (hl : ∀ (f : JFrame) (acts : List Action), f.method = m → f.locked = none → f.entered = [] → (doReturn e (T.setTop f) acts (some (.int z))).1 = T.setFrames fs) : Steps p.tables e below (T.setTop (mkF m pc Ls (.int z :: rest))) (T.setFrames fs) := by
  have hm' : T.vm.method? m = some meth := X.method'
  have hn : narrow .int (.int z) = .int z := rfl
  show Steps p.tables e below (T.setTop { method := m, pc := pc, locals := Ls, stack := _ :: rest, locked := none }) _
  jvm_step X.here [X.here.top, hx, hd, hm', hret, hn]
  first | (intro acts; rw [hl _ acts rfl rfl rfl]) | rw [hl _ _ rfl rfl rfl]
  exact Steps.refl _
/-- from S the run comes to an end of which P holds -/
def Goes (p : Program) (e : Env) (below : List Frame) (P : State → Outcome → Prop) (S : State) : Prop := ∃ t o, Steps p.tables e below S t ∧ t.status = .running ∧ Ended t below o ∧ P t o
theorem Goes.step {P : State → Outcome → Prop} {S S' : State} (h : ∀ t, Steps p.tables e below S' t → Steps p.tables e below S t) (k : Goes p e below P S') : Goes p e below P S := by
  obtain ⟨t, o, h1, h2⟩ := k
  exact ⟨t, o, h t h1, h2⟩
/-- what a contract says of its end -/
def Pq (Q : Option Value → Heap → List Loc → Prop) (s : State) (kc ks : Nat) (t : State) (o : Outcome) : Prop := ∃ v L, o = .returned v ∧ Q v t.heap L ∧ FrameEnd s o t L kc ks
theorem Goes.leave {Q : Option Value → Heap → List Loc → Prop} {kc ks : Nat} {g : JFrame} {v : Option Value} {h : Heap} (X : Stand p l e R s m args below meth c T locs cells slots) (hlk : meth.locks = false) (hv : meth.sig.returnType = none → v = none)
    (st : ∀ fs, (∀ (f : JFrame) (acts : List Action), f.method = m → f.locked = none → f.entered = [] → (doReturn e (T.setTop f) acts v).1 = T.setFrames fs) → Steps p.tables e below (T.setTop g) (T.setFrames fs))
    (eT : T.heap = h) (hQ : Q v h locs) (hc : cells ≤ kc) (hs : slots ≤ ks) : Goes p e below (Pq Q s kc ks) (T.setTop g) := by
  obtain ⟨fs, hr, hrun, hended, hW, hsame⟩ := X.leave (v := v) hv hlk
  exact ⟨_, _, st fs hr, hrun, hended, v, locs, rfl, eT ▸ hQ, ⟨_, rfl⟩, hW, hsame.mono hc hs⟩
theorem own_eqI {args : Array Value} {first s : State} {o : Option Outcome} {idx : List Nat} {t : Term} {k : Int32} (h : (Cond.eq t (.int k)).value args first o s idx = some true) : t.eval args first o idx s = some (.int k) := by
  simp only [Cond.value, Term.eval] at h
  cases ht : t.eval args first o idx s with
  | none => simp [ht] at h
  | some x => cases x <;> simp [ht] at h ⊢; exact h
theorem own_stakeep {Z : State} {h h' : Heap} {ws : List Addr} {C n d : String} {w : Value} (F : Sta Z h C n d w) (K : Keep h h' ws) (q : ∀ x ∈ ws, ∀ cell : Cell, h[x]? = some cell → cell.vm.isStatics = false) : Sta Z h' C n d w := by
  obtain ⟨cf, i, k, f, st, cell, h1, h2, h3, h4, h5, h6, h7⟩ := F
  exact ⟨cf, i, k, f, st, cell, h1, h2, h3, h4, K.2.1 st cell h5 (fun hm => by rw [q st hm cell h5] at h6; cases h6), h6, h7⟩
theorem own_selP {s : State} {args : Array Value} {y : MethodName} {k : Nat} (w1 : (Cond.instanceMethod y).before args s = true) (w2 : (Cond.privateMethod y).before args s = true) (w3 : (Cond.instantiable y.cls k).before args s = true)
    (hy : y.cls ≠ "java/lang/invoke/MethodHandle" ∧ y.cls ≠ "java/lang/invoke/VarHandle") : (Cond.selects y.cls y y).before args s = true := by
  obtain ⟨mk, meth, hn, hm, -, -⟩ := Cond.instanceMethod_spec w1
  have hp := Cond.privateMethod_at w2 mk meth hn hm
  have hf := State.methodFound?_of_named hn hy
  have hc := findClass_of_methodNamed hn
  obtain ⟨c2, k2, i1, i2, -, i4, -⟩ := Cond.instantiable_spec w3
  cases hc.symm.trans i1
  simp only [Bool.or_eq_false_iff] at i4
  simp [Cond.before, Cond.holds, Cond.value, hc, hf, hn, selectMethod_private hm hp, i2, i4.1]
theorem own_neVV {Z : State} {h : Heap} {a b : Addr} {k1 k2 : ClassId} {t1 t2 : FieldType} {z1 z2 : Int32} {v1 v2 : List Value} {d1 d2 : Value} (A : Arv Z h a k1 t1 z1 v1 d1) (B : Arv Z h b k2 t2 z2 v2 d2) (q : t1 ≠ t2) : a ≠ b := fun e => by
  subst e
  obtain ⟨c1, A1, -⟩ := A
  obtain ⟨c2, B1, -⟩ := B
  cases A1.1.symm.trans B1.1
  obtain ⟨-, k, g1, comp, g2⟩ := A1.2.1
  obtain ⟨-, k', g1', comp', g2'⟩ := B1.2.1
  cases g1.symm.trans g1'
  rw [g2] at g2'
  cases g2'
  exact q rfl
end New
end Jvm.RoadKit
namespace Jvm.Pilot.@@N@@
open Jvm Jvm.ClassFile Sem Op Lib Jvm.Free Jvm.Stand Jvm.LawKit Jvm.RoadKit Bundle Jvm.Pilot.@@N@@.Jvm.D
abbrev rom0 : Room := { frames := 0, cells := 0, slots := 0, locals := 0 }
theorem pnm0 : plainName "com/example/rerouted/rerouted/engine/NodeState" = true := by first | (simp [plainName, overriddenIn]; done) | decide +kernel
theorem pnm1 : plainName "com/example/rerouted/rerouted/engine/NodeStateIsFinishedPinLaw" = true := by first | (simp [plainName, overriddenIn]; done) | decide +kernel
abbrev mth0 : MethodName := ⟨"com/example/rerouted/rerouted/engine/NodeState", "isFinished", "()Z"⟩
theorem d_prog_31_method_4_code_0 : decode prog_31_method_4_code 0 = .ok (.aload_n 0, 1) := by decide +kernel
theorem d_prog_31_method_4_code_1 : decode prog_31_method_4_code 1 = .ok (.getstatic 13, 3) := by decide +kernel
theorem d_prog_31_method_4_code_4 : decode prog_31_method_4_code 4 = .ok (.if_acmp .eq 10, 3) := by decide +kernel
theorem d_prog_31_method_4_code_14 : decode prog_31_method_4_code 14 = .ok (.iconst 1, 1) := by decide +kernel
theorem d_prog_31_method_4_code_15 : decode prog_31_method_4_code 15 = .ok (.goto 4, 3) := by decide +kernel
theorem d_prog_31_method_4_code_19 : decode prog_31_method_4_code 19 = .ok (.ireturn, 1) := by decide +kernel
theorem d_prog_31_method_4_code_7 : decode prog_31_method_4_code 7 = .ok (.aload_n 0, 1) := by decide +kernel
theorem d_prog_31_method_4_code_8 : decode prog_31_method_4_code 8 = .ok (.getstatic 16, 3) := by decide +kernel
theorem d_prog_31_method_4_code_11 : decode prog_31_method_4_code 11 = .ok (.if_acmp .ne 7, 3) := by decide +kernel
theorem d_prog_31_method_4_code_18 : decode prog_31_method_4_code 18 = .ok (.iconst 0, 1) := by decide +kernel
theorem pd_Z : parseMethodDescriptor "()Z" = some ⟨[], some .boolean⟩ := by decide +kernel
theorem ef_fin_COMPLETED (m : MethodId) (x0 : Addr) : entryFrame m #[(.ref x0)] 1 = mkF m 0 #[.val (.ref x0)] [] := by first | (simp [entryFrame, mkF, argsToLocals, Value.category]; done) | rfl
def Q_fin_COMPLETED (Z : State) (w_COMPLETED : Addr) (w_SKIPPED : Addr) (h0 : Heap) (n0 : Nat) (v : Option Value) (h : Heap) (L : List Loc) : Prop := v = some (.int (1 : Int32)) ∧ Fr n0 L ∧ h = h0
set_option maxRecDepth 65536 in
set_option maxHeartbeats 40000000 in
theorem fin_COMPLETED (l : Launch) (Z : State) (a0 : Array Value) (hw : ∀ d ∈ tables_1, d.before a0 Z = true) (ws : List Jvm.Cond) (w_COMPLETED : Addr) (w_SKIPPED : Addr) (h0 : Heap) (n0 : Nat) (Z0 : n0 ≤ h0.size) (S_COMPLETED : Sta Z h0 "com/example/rerouted/rerouted/engine/NodeState" "COMPLETED" "Lcom/example/rerouted/rerouted/engine/NodeState;" (.ref w_COMPLETED)) (S_SKIPPED : Sta Z h0 "com/example/rerouted/rerouted/engine/NodeState" "SKIPPED" "Lcom/example/rerouted/rerouted/engine/NodeState;" (.ref w_SKIPPED)) :
    MetFree l mth0 (head1 (Jvm.Cond.code mth0 prog_31_method_4_code 1 (some .boolean) :: ws) rom0) (fun a U => a = #[(.ref w_COMPLETED)] ∧ Z.Warmed39 U.vm ∧ U.heap = h0) (fun _ _ _ _ _ => True) (fun _ U o U' => ∃ v L, o = .returned v ∧ Q_fin_COMPLETED Z w_COMPLETED w_SKIPPED h0 n0 v U'.heap L ∧ FrameEnd U o U' L rom0.cells rom0.slots) := by
  refine MetFree.of_bodySF (plainFor_of_name pnm0) hisR ?_
  intro p e s m args below meth c s₁ Bd hml0 hP hK
  obtain ⟨rfl, hZ, hh⟩ := hP
  have hx := Bd.exec
  have hby := Bd.bytes
  have hml : c.maxLocals = 1 := hml0
  have hown : s.vm.findClass "com/example/rerouted/rerouted/engine/NodeState" = some m.cls := findClass_of_methodNamed Bd.named
  have hnm := (name_of_methodNamed Bd.named Bd.method).1
  have X0 : Stand p l e rom0 s m #[(.ref w_COMPLETED)] below meth c s₁ [] 0 0 := Stand.of_body Bd
  have e0 : s₁.heap = h0 := by rw [← hh, Bd.state]; rfl
  have N0 := Fr.nil n0
  have tw9 := hw _ (List.mem_of_getElem? (i := 9) rfl)
  show Goes p e below (Pq (Q_fin_COMPLETED Z w_COMPLETED w_SKIPPED h0 n0) s rom0.cells rom0.slots) (s₁.setTop (entryFrame m #[(.ref w_COMPLETED)] 1))
  refine Goes.step (S' := s₁.setTop (mkF m 0 #[.val (.ref w_COMPLETED)] [])) (fun t k => castTop (ef_fin_COMPLETED m w_COMPLETED) k) ?_
  refine Goes.step (S' := s₁.setTop (mkF m 1 #[.val (.ref w_COMPLETED)] [(.ref w_COMPLETED)])) (fun t k => XS.aloadN X0.here hx rfl (hb hby d_prog_31_method_4_code_0) rfl rfl k) ?_
  obtain ⟨T1, X1, e1, st1⟩ := getS2 X0 hx hZ hown (host := "") (Or.inl tw9) Via.refl e0 S_COMPLETED (g := (mkF m 1 #[.val (.ref w_COMPLETED)] [(.ref w_COMPLETED)])) rfl (hb hby d_prog_31_method_4_code_1)
  refine Goes.step (S' := T1.setTop (mkF m 19 #[.val (.ref w_COMPLETED)] [(.int (1 : Int32))])) (fun t k => st1 _ (Jvm.RoadKit.acmp (g := (mkF m 4 #[.val (.ref w_COMPLETED)] [(.ref w_COMPLETED), (.ref w_COMPLETED)])) X1 hx rfl rfl rfl (pc0 := 4) (pc' := 14) (same := true) rfl (hb hby d_prog_31_method_4_code_4) rfl (decide_eq_true rfl) (by decide) (by decide) (XS.iconst X1.here hx rfl (hb hby d_prog_31_method_4_code_14) (XS.goto X1.here hx rfl (pc0 := 15) (pc' := 19) rfl (hb hby d_prog_31_method_4_code_15) (by decide) (by decide) k)))) ?_
  refine Goes.leave (g := (mkF m 19 #[.val (.ref w_COMPLETED)] [(.int (1 : Int32))])) X1 Bd.notSynchronized (v := (some (.int (1 : Int32)))) (fun h => by rw [Bd.returns] at h; cases h) (fun fs hr => retN X1 hx (t := .boolean) Bd.returns (by simp) (hb hby d_prog_31_method_4_code_19) hr) e1 ?_ (by decide) (by decide)
  exact ⟨rfl, N0, rfl⟩

theorem ef_fin_SKIPPED (m : MethodId) (x0 : Addr) : entryFrame m #[(.ref x0)] 1 = mkF m 0 #[.val (.ref x0)] [] := by first | (simp [entryFrame, mkF, argsToLocals, Value.category]; done) | rfl
def Q_fin_SKIPPED (Z : State) (w_COMPLETED : Addr) (w_SKIPPED : Addr) (h0 : Heap) (n0 : Nat) (v : Option Value) (h : Heap) (L : List Loc) : Prop := v = some (.int (1 : Int32)) ∧ Fr n0 L ∧ h = h0
set_option maxRecDepth 65536 in
set_option maxHeartbeats 40000000 in
theorem fin_SKIPPED (l : Launch) (Z : State) (a0 : Array Value) (hw : ∀ d ∈ tables_1, d.before a0 Z = true) (ws : List Jvm.Cond) (w_COMPLETED : Addr) (w_SKIPPED : Addr) (h0 : Heap) (n0 : Nat) (Z0 : n0 ≤ h0.size) (S_COMPLETED : Sta Z h0 "com/example/rerouted/rerouted/engine/NodeState" "COMPLETED" "Lcom/example/rerouted/rerouted/engine/NodeState;" (.ref w_COMPLETED)) (S_SKIPPED : Sta Z h0 "com/example/rerouted/rerouted/engine/NodeState" "SKIPPED" "Lcom/example/rerouted/rerouted/engine/NodeState;" (.ref w_SKIPPED)) (H_w_SKIPPED_w_COMPLETED : w_SKIPPED ≠ w_COMPLETED) :
    MetFree l mth0 (head1 (Jvm.Cond.code mth0 prog_31_method_4_code 1 (some .boolean) :: ws) rom0) (fun a U => a = #[(.ref w_SKIPPED)] ∧ Z.Warmed39 U.vm ∧ U.heap = h0) (fun _ _ _ _ _ => True) (fun _ U o U' => ∃ v L, o = .returned v ∧ Q_fin_SKIPPED Z w_COMPLETED w_SKIPPED h0 n0 v U'.heap L ∧ FrameEnd U o U' L rom0.cells rom0.slots) := by
  refine MetFree.of_bodySF (plainFor_of_name pnm0) hisR ?_
  intro p e s m args below meth c s₁ Bd hml0 hP hK
  obtain ⟨rfl, hZ, hh⟩ := hP
  have hx := Bd.exec
  have hby := Bd.bytes
  have hml : c.maxLocals = 1 := hml0
  have hown : s.vm.findClass "com/example/rerouted/rerouted/engine/NodeState" = some m.cls := findClass_of_methodNamed Bd.named
  have hnm := (name_of_methodNamed Bd.named Bd.method).1
  have X0 : Stand p l e rom0 s m #[(.ref w_SKIPPED)] below meth c s₁ [] 0 0 := Stand.of_body Bd
  have e0 : s₁.heap = h0 := by rw [← hh, Bd.state]; rfl
  have N0 := Fr.nil n0
  have tw9 := hw _ (List.mem_of_getElem? (i := 9) rfl)
  have tw11 := hw _ (List.mem_of_getElem? (i := 11) rfl)
  show Goes p e below (Pq (Q_fin_SKIPPED Z w_COMPLETED w_SKIPPED h0 n0) s rom0.cells rom0.slots) (s₁.setTop (entryFrame m #[(.ref w_SKIPPED)] 1))
  refine Goes.step (S' := s₁.setTop (mkF m 0 #[.val (.ref w_SKIPPED)] [])) (fun t k => castTop (ef_fin_SKIPPED m w_SKIPPED) k) ?_
  refine Goes.step (S' := s₁.setTop (mkF m 1 #[.val (.ref w_SKIPPED)] [(.ref w_SKIPPED)])) (fun t k => XS.aloadN X0.here hx rfl (hb hby d_prog_31_method_4_code_0) rfl rfl k) ?_
  obtain ⟨T1, X1, e1, st1⟩ := getS2 X0 hx hZ hown (host := "") (Or.inl tw9) Via.refl e0 S_COMPLETED (g := (mkF m 1 #[.val (.ref w_SKIPPED)] [(.ref w_SKIPPED)])) rfl (hb hby d_prog_31_method_4_code_1)
  refine Goes.step (S' := T1.setTop (mkF m 8 #[.val (.ref w_SKIPPED)] [(.ref w_SKIPPED)])) (fun t k => st1 _ (Jvm.RoadKit.acmp (g := (mkF m 4 #[.val (.ref w_SKIPPED)] [(.ref w_COMPLETED), (.ref w_SKIPPED)])) X1 hx rfl rfl rfl (pc0 := 4) (pc' := 7) (same := false) rfl (hb hby d_prog_31_method_4_code_4) rfl (decide_eq_false fun q => H_w_SKIPPED_w_COMPLETED (Value.ref.inj q)) (by decide) (by decide) (XS.aloadN X1.here hx rfl (hb hby d_prog_31_method_4_code_7) rfl rfl k))) ?_
  obtain ⟨T2, X2, e2, st2⟩ := getS2 X1 hx hZ hown (host := "") (Or.inl tw11) Via.refl e1 S_SKIPPED (g := (mkF m 8 #[.val (.ref w_SKIPPED)] [(.ref w_SKIPPED)])) rfl (hb hby d_prog_31_method_4_code_8)
  refine Goes.step (S' := T2.setTop (mkF m 19 #[.val (.ref w_SKIPPED)] [(.int (1 : Int32))])) (fun t k => st2 _ (Jvm.RoadKit.acmp (g := (mkF m 11 #[.val (.ref w_SKIPPED)] [(.ref w_SKIPPED), (.ref w_SKIPPED)])) X2 hx rfl rfl rfl (pc0 := 11) (pc' := 14) (same := true) rfl (hb hby d_prog_31_method_4_code_11) rfl (decide_eq_true rfl) (by decide) (by decide) (XS.iconst X2.here hx rfl (hb hby d_prog_31_method_4_code_14) (XS.goto X2.here hx rfl (pc0 := 15) (pc' := 19) rfl (hb hby d_prog_31_method_4_code_15) (by decide) (by decide) k)))) ?_
  refine Goes.leave (g := (mkF m 19 #[.val (.ref w_SKIPPED)] [(.int (1 : Int32))])) X2 Bd.notSynchronized (v := (some (.int (1 : Int32)))) (fun h => by rw [Bd.returns] at h; cases h) (fun fs hr => retN X2 hx (t := .boolean) Bd.returns (by simp) (hb hby d_prog_31_method_4_code_19) hr) e2 ?_ (by decide) (by decide)
  exact ⟨rfl, N0, rfl⟩

theorem ef_fin_not (m : MethodId) (x0 : Addr) : entryFrame m #[(.ref x0)] 1 = mkF m 0 #[.val (.ref x0)] [] := by first | (simp [entryFrame, mkF, argsToLocals, Value.category]; done) | rfl
def Q_fin_not (Z : State) (a1 : Addr) (w_COMPLETED : Addr) (w_SKIPPED : Addr) (h0 : Heap) (n0 : Nat) (v : Option Value) (h : Heap) (L : List Loc) : Prop := v = some (.int (0 : Int32)) ∧ Fr n0 L ∧ h = h0
set_option maxRecDepth 65536 in
set_option maxHeartbeats 40000000 in
theorem fin_not (l : Launch) (Z : State) (a0 : Array Value) (hw : ∀ d ∈ tables_1, d.before a0 Z = true) (ws : List Jvm.Cond) (a1 : Addr) (w_COMPLETED : Addr) (w_SKIPPED : Addr) (h0 : Heap) (n0 : Nat) (Z0 : n0 ≤ h0.size) (S_COMPLETED : Sta Z h0 "com/example/rerouted/rerouted/engine/NodeState" "COMPLETED" "Lcom/example/rerouted/rerouted/engine/NodeState;" (.ref w_COMPLETED)) (S_SKIPPED : Sta Z h0 "com/example/rerouted/rerouted/engine/NodeState" "SKIPPED" "Lcom/example/rerouted/rerouted/engine/NodeState;" (.ref w_SKIPPED)) (H_a1_w_COMPLETED : a1 ≠ w_COMPLETED) (H_a1_w_SKIPPED : a1 ≠ w_SKIPPED) :
    MetFree l mth0 (head1 (Jvm.Cond.code mth0 prog_31_method_4_code 1 (some .boolean) :: ws) rom0) (fun a U => a = #[(.ref a1)] ∧ Z.Warmed39 U.vm ∧ U.heap = h0) (fun _ _ _ _ _ => True) (fun _ U o U' => ∃ v L, o = .returned v ∧ Q_fin_not Z a1 w_COMPLETED w_SKIPPED h0 n0 v U'.heap L ∧ FrameEnd U o U' L rom0.cells rom0.slots) := by
  refine MetFree.of_bodySF (plainFor_of_name pnm0) hisR ?_
  intro p e s m args below meth c s₁ Bd hml0 hP hK
  obtain ⟨rfl, hZ, hh⟩ := hP
  have hx := Bd.exec
  have hby := Bd.bytes
  have hml : c.maxLocals = 1 := hml0
  have hown : s.vm.findClass "com/example/rerouted/rerouted/engine/NodeState" = some m.cls := findClass_of_methodNamed Bd.named
  have hnm := (name_of_methodNamed Bd.named Bd.method).1
  have X0 : Stand p l e rom0 s m #[(.ref a1)] below meth c s₁ [] 0 0 := Stand.of_body Bd
  have e0 : s₁.heap = h0 := by rw [← hh, Bd.state]; rfl
  have N0 := Fr.nil n0
  have tw9 := hw _ (List.mem_of_getElem? (i := 9) rfl)
  have tw11 := hw _ (List.mem_of_getElem? (i := 11) rfl)
  show Goes p e below (Pq (Q_fin_not Z a1 w_COMPLETED w_SKIPPED h0 n0) s rom0.cells rom0.slots) (s₁.setTop (entryFrame m #[(.ref a1)] 1))
  refine Goes.step (S' := s₁.setTop (mkF m 0 #[.val (.ref a1)] [])) (fun t k => castTop (ef_fin_not m a1) k) ?_
  refine Goes.step (S' := s₁.setTop (mkF m 1 #[.val (.ref a1)] [(.ref a1)])) (fun t k => XS.aloadN X0.here hx rfl (hb hby d_prog_31_method_4_code_0) rfl rfl k) ?_
  obtain ⟨T1, X1, e1, st1⟩ := getS2 X0 hx hZ hown (host := "") (Or.inl tw9) Via.refl e0 S_COMPLETED (g := (mkF m 1 #[.val (.ref a1)] [(.ref a1)])) rfl (hb hby d_prog_31_method_4_code_1)
  refine Goes.step (S' := T1.setTop (mkF m 8 #[.val (.ref a1)] [(.ref a1)])) (fun t k => st1 _ (Jvm.RoadKit.acmp (g := (mkF m 4 #[.val (.ref a1)] [(.ref w_COMPLETED), (.ref a1)])) X1 hx rfl rfl rfl (pc0 := 4) (pc' := 7) (same := false) rfl (hb hby d_prog_31_method_4_code_4) rfl (decide_eq_false fun q => H_a1_w_COMPLETED (Value.ref.inj q)) (by decide) (by decide) (XS.aloadN X1.here hx rfl (hb hby d_prog_31_method_4_code_7) rfl rfl k))) ?_
  obtain ⟨T2, X2, e2, st2⟩ := getS2 X1 hx hZ hown (host := "") (Or.inl tw11) Via.refl e1 S_SKIPPED (g := (mkF m 8 #[.val (.ref a1)] [(.ref a1)])) rfl (hb hby d_prog_31_method_4_code_8)
  refine Goes.step (S' := T2.setTop (mkF m 19 #[.val (.ref a1)] [(.int (0 : Int32))])) (fun t k => st2 _ (Jvm.RoadKit.acmp (g := (mkF m 11 #[.val (.ref a1)] [(.ref w_SKIPPED), (.ref a1)])) X2 hx rfl rfl rfl (pc0 := 11) (pc' := 18) (same := false) rfl (hb hby d_prog_31_method_4_code_11) rfl (decide_eq_false fun q => H_a1_w_SKIPPED (Value.ref.inj q)) (by decide) (by decide) (XS.iconst X2.here hx rfl (hb hby d_prog_31_method_4_code_18) k))) ?_
  refine Goes.leave (g := (mkF m 19 #[.val (.ref a1)] [(.int (0 : Int32))])) X2 Bd.notSynchronized (v := (some (.int (0 : Int32)))) (fun h => by rw [Bd.returns] at h; cases h) (fun fs hr => retN X2 hx (t := .boolean) Bd.returns (by simp) (hb hby d_prog_31_method_4_code_19) hr) e2 ?_ (by decide) (by decide)
  exact ⟨rfl, N0, rfl⟩

theorem ef_law (m : MethodId) (x0 : Int32) : entryFrame m #[(.int x0)] maxLocals = mkF m 0 #[.val (.int x0), .unset, .unset, .unset] [] := by first | (simp [entryFrame, mkF, argsToLocals, Value.category, maxLocals]; done) | rfl
def Q_law (Z : State) (p0 : Int32) (w_NOT_ACTIVATED : Addr) (w_ACTIVATED : Addr) (w_RUNNING : Addr) (w_COMPLETED : Addr) (w_SKIPPED : Addr) (w_DELETED : Addr) (h0 : Heap) (n0 : Nat) (v : Option Value) (h : Heap) (L : List Loc) : Prop := v = some (.int (1 : Int32)) ∧ Fr n0 L
set_option maxRecDepth 65536 in
set_option maxHeartbeats 40000000 in
theorem law (l : Launch) (Z : State) (a0 : Array Value) (hw : ∀ d ∈ tables_1, d.before a0 Z = true) (ws : List Jvm.Cond) (p0 : Int32) (w_NOT_ACTIVATED : Addr) (w_ACTIVATED : Addr) (w_RUNNING : Addr) (w_COMPLETED : Addr) (w_SKIPPED : Addr) (w_DELETED : Addr) (h0 : Heap) (n0 : Nat) (Z0 : n0 ≤ h0.size) (S_NOT_ACTIVATED : Sta Z h0 "com/example/rerouted/rerouted/engine/NodeState" "NOT_ACTIVATED" "Lcom/example/rerouted/rerouted/engine/NodeState;" (.ref w_NOT_ACTIVATED)) (S_ACTIVATED : Sta Z h0 "com/example/rerouted/rerouted/engine/NodeState" "ACTIVATED" "Lcom/example/rerouted/rerouted/engine/NodeState;" (.ref w_ACTIVATED)) (S_RUNNING : Sta Z h0 "com/example/rerouted/rerouted/engine/NodeState" "RUNNING" "Lcom/example/rerouted/rerouted/engine/NodeState;" (.ref w_RUNNING)) (S_COMPLETED : Sta Z h0 "com/example/rerouted/rerouted/engine/NodeState" "COMPLETED" "Lcom/example/rerouted/rerouted/engine/NodeState;" (.ref w_COMPLETED)) (S_SKIPPED : Sta Z h0 "com/example/rerouted/rerouted/engine/NodeState" "SKIPPED" "Lcom/example/rerouted/rerouted/engine/NodeState;" (.ref w_SKIPPED)) (S_DELETED : Sta Z h0 "com/example/rerouted/rerouted/engine/NodeState" "DELETED" "Lcom/example/rerouted/rerouted/engine/NodeState;" (.ref w_DELETED)) (E_NOT_ACTIVATED : Exa Z h0 w_NOT_ACTIVATED "com/example/rerouted/rerouted/engine/NodeState") (E_ACTIVATED : Exa Z h0 w_ACTIVATED "com/example/rerouted/rerouted/engine/NodeState") (E_RUNNING : Exa Z h0 w_RUNNING "com/example/rerouted/rerouted/engine/NodeState") (E_COMPLETED : Exa Z h0 w_COMPLETED "com/example/rerouted/rerouted/engine/NodeState") (E_SKIPPED : Exa Z h0 w_SKIPPED "com/example/rerouted/rerouted/engine/NodeState") (E_DELETED : Exa Z h0 w_DELETED "com/example/rerouted/rerouted/engine/NodeState") (H_w_NOT_ACTIVATED_w_COMPLETED : w_NOT_ACTIVATED ≠ w_COMPLETED) (H_w_NOT_ACTIVATED_w_SKIPPED : w_NOT_ACTIVATED ≠ w_SKIPPED) (H_w_ACTIVATED_w_COMPLETED : w_ACTIVATED ≠ w_COMPLETED) (H_w_ACTIVATED_w_SKIPPED : w_ACTIVATED ≠ w_SKIPPED) (H_w_RUNNING_w_COMPLETED : w_RUNNING ≠ w_COMPLETED) (H_w_RUNNING_w_SKIPPED : w_RUNNING ≠ w_SKIPPED) (H_w_SKIPPED_w_COMPLETED : w_SKIPPED ≠ w_COMPLETED) (H_w_DELETED_w_COMPLETED : w_DELETED ≠ w_COMPLETED) (H_w_DELETED_w_SKIPPED : w_DELETED ≠ w_SKIPPED) :
    MetFree l x (head1 (Jvm.Cond.code x code maxLocals ret :: ws) room_1) (fun a U => a = #[(.int p0)] ∧ Z.Warmed39 U.vm ∧ U.heap = h0) (fun _ _ _ _ _ => True) (fun _ U o U' => ∃ v L, o = .returned v ∧ Q_law Z p0 w_NOT_ACTIVATED w_ACTIVATED w_RUNNING w_COMPLETED w_SKIPPED w_DELETED h0 n0 v U'.heap L ∧ FrameEnd U o U' L room_1.cells room_1.slots) := by
  refine MetFree.of_bodySF (plainFor_of_name pnm1) hisR ?_
  intro p e s m args below meth c s₁ Bd hml0 hP hK
  obtain ⟨rfl, hZ, hh⟩ := hP
  have hx := Bd.exec
  have hby := Bd.bytes
  have hml : c.maxLocals = 4 := hml0
  have hown : s.vm.findClass "com/example/rerouted/rerouted/engine/NodeStateIsFinishedPinLaw" = some m.cls := findClass_of_methodNamed Bd.named
  have hnm := (name_of_methodNamed Bd.named Bd.method).1
  have X0 : Stand p l e room_1 s m #[(.int p0)] below meth c s₁ [] 0 0 := Stand.of_body Bd
  have e0 : s₁.heap = h0 := by rw [← hh, Bd.state]; rfl
  have N0 := Fr.nil n0
  have tw0 := hw _ (List.mem_of_getElem? (i := 0) rfl)
  have tw1 := hw _ (List.mem_of_getElem? (i := 1) rfl)
  have tw2 := hw _ (List.mem_of_getElem? (i := 2) rfl)
  have tw4 := hw _ (List.mem_of_getElem? (i := 4) rfl)
  have tw5 := hw _ (List.mem_of_getElem? (i := 5) rfl)
  have tw6 := hw _ (List.mem_of_getElem? (i := 6) rfl)
  have tw7 := hw _ (List.mem_of_getElem? (i := 7) rfl)
  have tw8 := hw _ (List.mem_of_getElem? (i := 8) rfl)
  have tw13 := hw _ (List.mem_of_getElem? (i := 13) rfl)
  have tw14 := hw _ (List.mem_of_getElem? (i := 14) rfl)
  have tw16 := hw _ (List.mem_of_getElem? (i := 16) rfl)
  have tw18 := hw _ (List.mem_of_getElem? (i := 18) rfl)
  have tw20 := hw _ (List.mem_of_getElem? (i := 20) rfl)
  show Goes p e below (Pq (Q_law Z p0 w_NOT_ACTIVATED w_ACTIVATED w_RUNNING w_COMPLETED w_SKIPPED w_DELETED h0 n0) s room_1.cells room_1.slots) (s₁.setTop (entryFrame m #[(.int p0)] maxLocals))
  refine Goes.step (S' := s₁.setTop (mkF m 0 #[.val (.int p0), .unset, .unset, .unset] [])) (fun t k => castTop (ef_law m p0) k) ?_
  refine Goes.step (S' := s₁.setTop (mkF m 9 #[.val (.int p0), .val (.int ((p0 &&& (2147483647 : Int32)) % (6 : Int32))), .unset, .unset] [(.int ((p0 &&& (2147483647 : Int32)) % (6 : Int32)))])) (fun t k => XS.iloadN X0.here hx rfl (hb hby at_0) rfl (X0.ldcInt hx hown (mvT hZ tw0) (g := (mkF m 1 #[.val (.int p0), .unset, .unset, .unset] [(.int p0)])) rfl (hb hby at_1) _ (XS.iand X0.here hx rfl (hb hby at_3) rfl (XS.bipush X0.here hx rfl (hb hby at_4) (iremM X0 hx rfl (hb hby at_6) rfl (by decide) (XS.istoreN X0.here hx rfl (hb hby at_7) rfl (l' := #[.val (.int p0), .val (.int ((p0 &&& (2147483647 : Int32)) % (6 : Int32))), .unset, .unset]) rfl (XS.iloadN X0.here hx rfl (hb hby at_8) rfl k))))))) ?_
  by_cases hc1 : ((p0 &&& (2147483647 : Int32)) % (6 : Int32)) = (0 : Int32)
  case pos =>
    refine Goes.step (S' := s₁.setTop (mkF m 12 #[.val (.int p0), .val (.int ((p0 &&& (2147483647 : Int32)) % (6 : Int32))), .unset, .unset] [])) (fun t k => XS.ifNo X0.here hx rfl (hb hby at_9) rfl ((if0 _ _).trans (teq hc1).2) k) ?_
    obtain ⟨T2, X2, e2, st2⟩ := getS2 X0 hx hZ hown (host := "") (Or.inl tw1) Via.refl e0 S_NOT_ACTIVATED (g := (mkF m 12 #[.val (.int p0), .val (.int ((p0 &&& (2147483647 : Int32)) % (6 : Int32))), .unset, .unset] [])) rfl (hb hby at_12)
    refine Goes.step (S' := T2.setTop (mkF m 84 #[.val (.int p0), .val (.int ((p0 &&& (2147483647 : Int32)) % (6 : Int32))), .val (.ref w_NOT_ACTIVATED), .val (.int (0 : Int32))] [(.ref w_NOT_ACTIVATED)])) (fun t k => st2 _ (XS.astoreN X2.here hx rfl (hb hby at_15) rfl rfl (l' := #[.val (.int p0), .val (.int ((p0 &&& (2147483647 : Int32)) % (6 : Int32))), .val (.ref w_NOT_ACTIVATED), .unset]) rfl (XS.iconst X2.here hx rfl (hb hby at_16) (XS.istoreN X2.here hx rfl (hb hby at_17) rfl (l' := #[.val (.int p0), .val (.int ((p0 &&& (2147483647 : Int32)) % (6 : Int32))), .val (.ref w_NOT_ACTIVATED), .val (.int (0 : Int32))]) rfl (XS.goto X2.here hx rfl (pc0 := 18) (pc' := 83) rfl (hb hby at_18) (by decide) (by decide) (XS.aloadN X2.here hx rfl (hb hby at_83) rfl rfl k)))))) ?_
    obtain ⟨cq3, kq3, q3a, q3b, q3c⟩ := isOf hZ e2 E_NOT_ACTIVATED
    obtain ⟨_, _, ⟨T3, L3, k3, n3⟩, -, X3, ⟨Lc3, hQ3, l3, y3, z3⟩, st3⟩ := X2.virtualBack hx (y := mth0) (z := mth0) hown (mvT hZ tw4) (mvT hZ tw5) (notFace_of_selects (args := #[]) (mvT hZ tw7)) (mvT hZ tw7) (mvT hZ tw6) (by decide) (backOf (W := 0) (fin_not l Z a0 hw [] w_NOT_ACTIVATED w_COMPLETED w_SKIPPED h0 n0 Z0 S_COMPLETED S_SKIPPED H_w_NOT_ACTIVATED_w_COMPLETED H_w_NOT_ACTIVATED_w_SKIPPED) hZ tw8 tw2 (by decide) (by decide)) q3a q3c (g := (mkF m 84 #[.val (.int p0), .val (.int ((p0 &&& (2147483647 : Int32)) % (6 : Int32))), .val (.ref w_NOT_ACTIVATED), .val (.int (0 : Int32))] [(.ref w_NOT_ACTIVATED)])) rfl (by rw [hml]; rfl) (Steps.refl _) (argsL := []) (rest := []) (lenOf pd_Z rfl) rfl (Nat.le_of_eq rfl) (hb hby at_84) (fun _ _ => ⟨rfl, e2, (by decide : 0 + 0 ≤ _), (by decide : 0 + 0 ≤ _)⟩)
    dsimp only [Pt.U, Pt.locs, Pt.cells, Pt.slots] at X3 l3 y3 z3 st3 hQ3
    subst l3 y3 z3
    obtain ⟨rfl, Nq3, q3_0⟩ := hQ3
    have N3 := Fr.app N0 Nq3
    refine Goes.step (S' := T3.setTop (mkF m 96 #[.val (.int p0), .val (.int ((p0 &&& (2147483647 : Int32)) % (6 : Int32))), .val (.ref w_NOT_ACTIVATED), .val (.int (0 : Int32))] [(.int (1 : Int32))])) (fun t k => st3.trans (XS.iloadN X3.here hx rfl (hb hby at_87) rfl (XS.icmpNo X3.here hx rfl (hb hby at_88) rfl (teq ((by decide) : (0 : Int32) = (0 : Int32))).2 (XS.iconst X3.here hx rfl (hb hby at_91) (XS.goto X3.here hx rfl (pc0 := 92) (pc' := 96) rfl (hb hby at_92) (by decide) (by decide) k))))) ?_
    refine Goes.leave (g := (mkF m 96 #[.val (.int p0), .val (.int ((p0 &&& (2147483647 : Int32)) % (6 : Int32))), .val (.ref w_NOT_ACTIVATED), .val (.int (0 : Int32))] [(.int (1 : Int32))])) X3 Bd.notSynchronized (v := (some (.int (1 : Int32)))) (fun h => by rw [Bd.returns] at h; cases h) (fun fs hr => retN X3 hx (t := .boolean) Bd.returns (by simp) (hb hby at_96) hr) q3_0 ?_ (by decide) (by decide)
    exact ⟨rfl, N3⟩
  case neg =>
    refine Goes.step (S' := s₁.setTop (mkF m 23 #[.val (.int p0), .val (.int ((p0 &&& (2147483647 : Int32)) % (6 : Int32))), .unset, .unset] [(.int (1 : Int32)), (.int ((p0 &&& (2147483647 : Int32)) % (6 : Int32)))])) (fun t k => XS.ifYes X0.here hx rfl (pc0 := 9) (pc' := 21) rfl (hb hby at_9) rfl ((if0 _ _).trans (feq hc1).2) (by decide) (by decide) (XS.iloadN X0.here hx rfl (hb hby at_21) rfl (XS.iconst X0.here hx rfl (hb hby at_22) k))) ?_
    by_cases hc4 : ((p0 &&& (2147483647 : Int32)) % (6 : Int32)) = (1 : Int32)
    case pos =>
      refine Goes.step (S' := s₁.setTop (mkF m 26 #[.val (.int p0), .val (.int ((p0 &&& (2147483647 : Int32)) % (6 : Int32))), .unset, .unset] [])) (fun t k => XS.icmpNo X0.here hx rfl (hb hby at_23) rfl (teq hc4).2 k) ?_
      obtain ⟨T5, X5, e5, st5⟩ := getS2 X0 hx hZ hown (host := "") (Or.inl tw16) Via.refl e0 S_ACTIVATED (g := (mkF m 26 #[.val (.int p0), .val (.int ((p0 &&& (2147483647 : Int32)) % (6 : Int32))), .unset, .unset] [])) rfl (hb hby at_26)
      refine Goes.step (S' := T5.setTop (mkF m 84 #[.val (.int p0), .val (.int ((p0 &&& (2147483647 : Int32)) % (6 : Int32))), .val (.ref w_ACTIVATED), .val (.int (0 : Int32))] [(.ref w_ACTIVATED)])) (fun t k => st5 _ (XS.astoreN X5.here hx rfl (hb hby at_29) rfl rfl (l' := #[.val (.int p0), .val (.int ((p0 &&& (2147483647 : Int32)) % (6 : Int32))), .val (.ref w_ACTIVATED), .unset]) rfl (XS.iconst X5.here hx rfl (hb hby at_30) (XS.istoreN X5.here hx rfl (hb hby at_31) rfl (l' := #[.val (.int p0), .val (.int ((p0 &&& (2147483647 : Int32)) % (6 : Int32))), .val (.ref w_ACTIVATED), .val (.int (0 : Int32))]) rfl (XS.goto X5.here hx rfl (pc0 := 32) (pc' := 83) rfl (hb hby at_32) (by decide) (by decide) (XS.aloadN X5.here hx rfl (hb hby at_83) rfl rfl k)))))) ?_
      obtain ⟨cq6, kq6, q6a, q6b, q6c⟩ := isOf hZ e5 E_ACTIVATED
      obtain ⟨_, _, ⟨T6, L6, k6, n6⟩, -, X6, ⟨Lc6, hQ6, l6, y6, z6⟩, st6⟩ := X5.virtualBack hx (y := mth0) (z := mth0) hown (mvT hZ tw4) (mvT hZ tw5) (notFace_of_selects (args := #[]) (mvT hZ tw7)) (mvT hZ tw7) (mvT hZ tw6) (by decide) (backOf (W := 0) (fin_not l Z a0 hw [] w_ACTIVATED w_COMPLETED w_SKIPPED h0 n0 Z0 S_COMPLETED S_SKIPPED H_w_ACTIVATED_w_COMPLETED H_w_ACTIVATED_w_SKIPPED) hZ tw8 tw2 (by decide) (by decide)) q6a q6c (g := (mkF m 84 #[.val (.int p0), .val (.int ((p0 &&& (2147483647 : Int32)) % (6 : Int32))), .val (.ref w_ACTIVATED), .val (.int (0 : Int32))] [(.ref w_ACTIVATED)])) rfl (by rw [hml]; rfl) (Steps.refl _) (argsL := []) (rest := []) (lenOf pd_Z rfl) rfl (Nat.le_of_eq rfl) (hb hby at_84) (fun _ _ => ⟨rfl, e5, (by decide : 0 + 0 ≤ _), (by decide : 0 + 0 ≤ _)⟩)
      dsimp only [Pt.U, Pt.locs, Pt.cells, Pt.slots] at X6 l6 y6 z6 st6 hQ6
      subst l6 y6 z6
      obtain ⟨rfl, Nq6, q6_0⟩ := hQ6
      have N6 := Fr.app N0 Nq6
      refine Goes.step (S' := T6.setTop (mkF m 96 #[.val (.int p0), .val (.int ((p0 &&& (2147483647 : Int32)) % (6 : Int32))), .val (.ref w_ACTIVATED), .val (.int (0 : Int32))] [(.int (1 : Int32))])) (fun t k => st6.trans (XS.iloadN X6.here hx rfl (hb hby at_87) rfl (XS.icmpNo X6.here hx rfl (hb hby at_88) rfl (teq ((by decide) : (0 : Int32) = (0 : Int32))).2 (XS.iconst X6.here hx rfl (hb hby at_91) (XS.goto X6.here hx rfl (pc0 := 92) (pc' := 96) rfl (hb hby at_92) (by decide) (by decide) k))))) ?_
      refine Goes.leave (g := (mkF m 96 #[.val (.int p0), .val (.int ((p0 &&& (2147483647 : Int32)) % (6 : Int32))), .val (.ref w_ACTIVATED), .val (.int (0 : Int32))] [(.int (1 : Int32))])) X6 Bd.notSynchronized (v := (some (.int (1 : Int32)))) (fun h => by rw [Bd.returns] at h; cases h) (fun fs hr => retN X6 hx (t := .boolean) Bd.returns (by simp) (hb hby at_96) hr) q6_0 ?_ (by decide) (by decide)
      exact ⟨rfl, N6⟩
    case neg =>
      refine Goes.step (S' := s₁.setTop (mkF m 37 #[.val (.int p0), .val (.int ((p0 &&& (2147483647 : Int32)) % (6 : Int32))), .unset, .unset] [(.int (2 : Int32)), (.int ((p0 &&& (2147483647 : Int32)) % (6 : Int32)))])) (fun t k => XS.icmpYes X0.here hx rfl (pc0 := 23) (pc' := 35) rfl (hb hby at_23) rfl (feq hc4).2 (by decide) (by decide) (XS.iloadN X0.here hx rfl (hb hby at_35) rfl (XS.iconst X0.here hx rfl (hb hby at_36) k))) ?_
      by_cases hc7 : ((p0 &&& (2147483647 : Int32)) % (6 : Int32)) = (2 : Int32)
      case pos =>
        refine Goes.step (S' := s₁.setTop (mkF m 40 #[.val (.int p0), .val (.int ((p0 &&& (2147483647 : Int32)) % (6 : Int32))), .unset, .unset] [])) (fun t k => XS.icmpNo X0.here hx rfl (hb hby at_37) rfl (teq hc7).2 k) ?_
        obtain ⟨T8, X8, e8, st8⟩ := getS2 X0 hx hZ hown (host := "") (Or.inl tw14) Via.refl e0 S_RUNNING (g := (mkF m 40 #[.val (.int p0), .val (.int ((p0 &&& (2147483647 : Int32)) % (6 : Int32))), .unset, .unset] [])) rfl (hb hby at_40)
        refine Goes.step (S' := T8.setTop (mkF m 84 #[.val (.int p0), .val (.int ((p0 &&& (2147483647 : Int32)) % (6 : Int32))), .val (.ref w_RUNNING), .val (.int (0 : Int32))] [(.ref w_RUNNING)])) (fun t k => st8 _ (XS.astoreN X8.here hx rfl (hb hby at_43) rfl rfl (l' := #[.val (.int p0), .val (.int ((p0 &&& (2147483647 : Int32)) % (6 : Int32))), .val (.ref w_RUNNING), .unset]) rfl (XS.iconst X8.here hx rfl (hb hby at_44) (XS.istoreN X8.here hx rfl (hb hby at_45) rfl (l' := #[.val (.int p0), .val (.int ((p0 &&& (2147483647 : Int32)) % (6 : Int32))), .val (.ref w_RUNNING), .val (.int (0 : Int32))]) rfl (XS.goto X8.here hx rfl (pc0 := 46) (pc' := 83) rfl (hb hby at_46) (by decide) (by decide) (XS.aloadN X8.here hx rfl (hb hby at_83) rfl rfl k)))))) ?_
        obtain ⟨cq9, kq9, q9a, q9b, q9c⟩ := isOf hZ e8 E_RUNNING
        obtain ⟨_, _, ⟨T9, L9, k9, n9⟩, -, X9, ⟨Lc9, hQ9, l9, y9, z9⟩, st9⟩ := X8.virtualBack hx (y := mth0) (z := mth0) hown (mvT hZ tw4) (mvT hZ tw5) (notFace_of_selects (args := #[]) (mvT hZ tw7)) (mvT hZ tw7) (mvT hZ tw6) (by decide) (backOf (W := 0) (fin_not l Z a0 hw [] w_RUNNING w_COMPLETED w_SKIPPED h0 n0 Z0 S_COMPLETED S_SKIPPED H_w_RUNNING_w_COMPLETED H_w_RUNNING_w_SKIPPED) hZ tw8 tw2 (by decide) (by decide)) q9a q9c (g := (mkF m 84 #[.val (.int p0), .val (.int ((p0 &&& (2147483647 : Int32)) % (6 : Int32))), .val (.ref w_RUNNING), .val (.int (0 : Int32))] [(.ref w_RUNNING)])) rfl (by rw [hml]; rfl) (Steps.refl _) (argsL := []) (rest := []) (lenOf pd_Z rfl) rfl (Nat.le_of_eq rfl) (hb hby at_84) (fun _ _ => ⟨rfl, e8, (by decide : 0 + 0 ≤ _), (by decide : 0 + 0 ≤ _)⟩)
        dsimp only [Pt.U, Pt.locs, Pt.cells, Pt.slots] at X9 l9 y9 z9 st9 hQ9
        subst l9 y9 z9
        obtain ⟨rfl, Nq9, q9_0⟩ := hQ9
        have N9 := Fr.app N0 Nq9
        refine Goes.step (S' := T9.setTop (mkF m 96 #[.val (.int p0), .val (.int ((p0 &&& (2147483647 : Int32)) % (6 : Int32))), .val (.ref w_RUNNING), .val (.int (0 : Int32))] [(.int (1 : Int32))])) (fun t k => st9.trans (XS.iloadN X9.here hx rfl (hb hby at_87) rfl (XS.icmpNo X9.here hx rfl (hb hby at_88) rfl (teq ((by decide) : (0 : Int32) = (0 : Int32))).2 (XS.iconst X9.here hx rfl (hb hby at_91) (XS.goto X9.here hx rfl (pc0 := 92) (pc' := 96) rfl (hb hby at_92) (by decide) (by decide) k))))) ?_
        refine Goes.leave (g := (mkF m 96 #[.val (.int p0), .val (.int ((p0 &&& (2147483647 : Int32)) % (6 : Int32))), .val (.ref w_RUNNING), .val (.int (0 : Int32))] [(.int (1 : Int32))])) X9 Bd.notSynchronized (v := (some (.int (1 : Int32)))) (fun h => by rw [Bd.returns] at h; cases h) (fun fs hr => retN X9 hx (t := .boolean) Bd.returns (by simp) (hb hby at_96) hr) q9_0 ?_ (by decide) (by decide)
        exact ⟨rfl, N9⟩
      case neg =>
        refine Goes.step (S' := s₁.setTop (mkF m 51 #[.val (.int p0), .val (.int ((p0 &&& (2147483647 : Int32)) % (6 : Int32))), .unset, .unset] [(.int (3 : Int32)), (.int ((p0 &&& (2147483647 : Int32)) % (6 : Int32)))])) (fun t k => XS.icmpYes X0.here hx rfl (pc0 := 37) (pc' := 49) rfl (hb hby at_37) rfl (feq hc7).2 (by decide) (by decide) (XS.iloadN X0.here hx rfl (hb hby at_49) rfl (XS.iconst X0.here hx rfl (hb hby at_50) k))) ?_
        by_cases hc10 : ((p0 &&& (2147483647 : Int32)) % (6 : Int32)) = (3 : Int32)
        case pos =>
          refine Goes.step (S' := s₁.setTop (mkF m 54 #[.val (.int p0), .val (.int ((p0 &&& (2147483647 : Int32)) % (6 : Int32))), .unset, .unset] [])) (fun t k => XS.icmpNo X0.here hx rfl (hb hby at_51) rfl (teq hc10).2 k) ?_
          obtain ⟨T11, X11, e11, st11⟩ := getS2 X0 hx hZ hown (host := "") (Or.inl tw13) Via.refl e0 S_COMPLETED (g := (mkF m 54 #[.val (.int p0), .val (.int ((p0 &&& (2147483647 : Int32)) % (6 : Int32))), .unset, .unset] [])) rfl (hb hby at_54)
          refine Goes.step (S' := T11.setTop (mkF m 84 #[.val (.int p0), .val (.int ((p0 &&& (2147483647 : Int32)) % (6 : Int32))), .val (.ref w_COMPLETED), .val (.int (1 : Int32))] [(.ref w_COMPLETED)])) (fun t k => st11 _ (XS.astoreN X11.here hx rfl (hb hby at_57) rfl rfl (l' := #[.val (.int p0), .val (.int ((p0 &&& (2147483647 : Int32)) % (6 : Int32))), .val (.ref w_COMPLETED), .unset]) rfl (XS.iconst X11.here hx rfl (hb hby at_58) (XS.istoreN X11.here hx rfl (hb hby at_59) rfl (l' := #[.val (.int p0), .val (.int ((p0 &&& (2147483647 : Int32)) % (6 : Int32))), .val (.ref w_COMPLETED), .val (.int (1 : Int32))]) rfl (XS.goto X11.here hx rfl (pc0 := 60) (pc' := 83) rfl (hb hby at_60) (by decide) (by decide) (XS.aloadN X11.here hx rfl (hb hby at_83) rfl rfl k)))))) ?_
          obtain ⟨cq12, kq12, q12a, q12b, q12c⟩ := isOf hZ e11 E_COMPLETED
          obtain ⟨_, _, ⟨T12, L12, k12, n12⟩, -, X12, ⟨Lc12, hQ12, l12, y12, z12⟩, st12⟩ := X11.virtualBack hx (y := mth0) (z := mth0) hown (mvT hZ tw4) (mvT hZ tw5) (notFace_of_selects (args := #[]) (mvT hZ tw7)) (mvT hZ tw7) (mvT hZ tw6) (by decide) (backOf (W := 0) (fin_COMPLETED l Z a0 hw [] w_COMPLETED w_SKIPPED h0 n0 Z0 S_COMPLETED S_SKIPPED) hZ tw8 tw2 (by decide) (by decide)) q12a q12c (g := (mkF m 84 #[.val (.int p0), .val (.int ((p0 &&& (2147483647 : Int32)) % (6 : Int32))), .val (.ref w_COMPLETED), .val (.int (1 : Int32))] [(.ref w_COMPLETED)])) rfl (by rw [hml]; rfl) (Steps.refl _) (argsL := []) (rest := []) (lenOf pd_Z rfl) rfl (Nat.le_of_eq rfl) (hb hby at_84) (fun _ _ => ⟨rfl, e11, (by decide : 0 + 0 ≤ _), (by decide : 0 + 0 ≤ _)⟩)
          dsimp only [Pt.U, Pt.locs, Pt.cells, Pt.slots] at X12 l12 y12 z12 st12 hQ12
          subst l12 y12 z12
          obtain ⟨rfl, Nq12, q12_0⟩ := hQ12
          have N12 := Fr.app N0 Nq12
          refine Goes.step (S' := T12.setTop (mkF m 96 #[.val (.int p0), .val (.int ((p0 &&& (2147483647 : Int32)) % (6 : Int32))), .val (.ref w_COMPLETED), .val (.int (1 : Int32))] [(.int (1 : Int32))])) (fun t k => st12.trans (XS.iloadN X12.here hx rfl (hb hby at_87) rfl (XS.icmpNo X12.here hx rfl (hb hby at_88) rfl (teq ((by decide) : (1 : Int32) = (1 : Int32))).2 (XS.iconst X12.here hx rfl (hb hby at_91) (XS.goto X12.here hx rfl (pc0 := 92) (pc' := 96) rfl (hb hby at_92) (by decide) (by decide) k))))) ?_
          refine Goes.leave (g := (mkF m 96 #[.val (.int p0), .val (.int ((p0 &&& (2147483647 : Int32)) % (6 : Int32))), .val (.ref w_COMPLETED), .val (.int (1 : Int32))] [(.int (1 : Int32))])) X12 Bd.notSynchronized (v := (some (.int (1 : Int32)))) (fun h => by rw [Bd.returns] at h; cases h) (fun fs hr => retN X12 hx (t := .boolean) Bd.returns (by simp) (hb hby at_96) hr) q12_0 ?_ (by decide) (by decide)
          exact ⟨rfl, N12⟩
        case neg =>
          refine Goes.step (S' := s₁.setTop (mkF m 65 #[.val (.int p0), .val (.int ((p0 &&& (2147483647 : Int32)) % (6 : Int32))), .unset, .unset] [(.int (4 : Int32)), (.int ((p0 &&& (2147483647 : Int32)) % (6 : Int32)))])) (fun t k => XS.icmpYes X0.here hx rfl (pc0 := 51) (pc' := 63) rfl (hb hby at_51) rfl (feq hc10).2 (by decide) (by decide) (XS.iloadN X0.here hx rfl (hb hby at_63) rfl (XS.iconst X0.here hx rfl (hb hby at_64) k))) ?_
          by_cases hc13 : ((p0 &&& (2147483647 : Int32)) % (6 : Int32)) = (4 : Int32)
          case pos =>
            refine Goes.step (S' := s₁.setTop (mkF m 68 #[.val (.int p0), .val (.int ((p0 &&& (2147483647 : Int32)) % (6 : Int32))), .unset, .unset] [])) (fun t k => XS.icmpNo X0.here hx rfl (hb hby at_65) rfl (teq hc13).2 k) ?_
            obtain ⟨T14, X14, e14, st14⟩ := getS2 X0 hx hZ hown (host := "") (Or.inl tw20) Via.refl e0 S_SKIPPED (g := (mkF m 68 #[.val (.int p0), .val (.int ((p0 &&& (2147483647 : Int32)) % (6 : Int32))), .unset, .unset] [])) rfl (hb hby at_68)
            refine Goes.step (S' := T14.setTop (mkF m 84 #[.val (.int p0), .val (.int ((p0 &&& (2147483647 : Int32)) % (6 : Int32))), .val (.ref w_SKIPPED), .val (.int (1 : Int32))] [(.ref w_SKIPPED)])) (fun t k => st14 _ (XS.astoreN X14.here hx rfl (hb hby at_71) rfl rfl (l' := #[.val (.int p0), .val (.int ((p0 &&& (2147483647 : Int32)) % (6 : Int32))), .val (.ref w_SKIPPED), .unset]) rfl (XS.iconst X14.here hx rfl (hb hby at_72) (XS.istoreN X14.here hx rfl (hb hby at_73) rfl (l' := #[.val (.int p0), .val (.int ((p0 &&& (2147483647 : Int32)) % (6 : Int32))), .val (.ref w_SKIPPED), .val (.int (1 : Int32))]) rfl (XS.goto X14.here hx rfl (pc0 := 74) (pc' := 83) rfl (hb hby at_74) (by decide) (by decide) (XS.aloadN X14.here hx rfl (hb hby at_83) rfl rfl k)))))) ?_
            obtain ⟨cq15, kq15, q15a, q15b, q15c⟩ := isOf hZ e14 E_SKIPPED
            obtain ⟨_, _, ⟨T15, L15, k15, n15⟩, -, X15, ⟨Lc15, hQ15, l15, y15, z15⟩, st15⟩ := X14.virtualBack hx (y := mth0) (z := mth0) hown (mvT hZ tw4) (mvT hZ tw5) (notFace_of_selects (args := #[]) (mvT hZ tw7)) (mvT hZ tw7) (mvT hZ tw6) (by decide) (backOf (W := 0) (fin_SKIPPED l Z a0 hw [] w_COMPLETED w_SKIPPED h0 n0 Z0 S_COMPLETED S_SKIPPED H_w_SKIPPED_w_COMPLETED) hZ tw8 tw2 (by decide) (by decide)) q15a q15c (g := (mkF m 84 #[.val (.int p0), .val (.int ((p0 &&& (2147483647 : Int32)) % (6 : Int32))), .val (.ref w_SKIPPED), .val (.int (1 : Int32))] [(.ref w_SKIPPED)])) rfl (by rw [hml]; rfl) (Steps.refl _) (argsL := []) (rest := []) (lenOf pd_Z rfl) rfl (Nat.le_of_eq rfl) (hb hby at_84) (fun _ _ => ⟨rfl, e14, (by decide : 0 + 0 ≤ _), (by decide : 0 + 0 ≤ _)⟩)
            dsimp only [Pt.U, Pt.locs, Pt.cells, Pt.slots] at X15 l15 y15 z15 st15 hQ15
            subst l15 y15 z15
            obtain ⟨rfl, Nq15, q15_0⟩ := hQ15
            have N15 := Fr.app N0 Nq15
            refine Goes.step (S' := T15.setTop (mkF m 96 #[.val (.int p0), .val (.int ((p0 &&& (2147483647 : Int32)) % (6 : Int32))), .val (.ref w_SKIPPED), .val (.int (1 : Int32))] [(.int (1 : Int32))])) (fun t k => st15.trans (XS.iloadN X15.here hx rfl (hb hby at_87) rfl (XS.icmpNo X15.here hx rfl (hb hby at_88) rfl (teq ((by decide) : (1 : Int32) = (1 : Int32))).2 (XS.iconst X15.here hx rfl (hb hby at_91) (XS.goto X15.here hx rfl (pc0 := 92) (pc' := 96) rfl (hb hby at_92) (by decide) (by decide) k))))) ?_
            refine Goes.leave (g := (mkF m 96 #[.val (.int p0), .val (.int ((p0 &&& (2147483647 : Int32)) % (6 : Int32))), .val (.ref w_SKIPPED), .val (.int (1 : Int32))] [(.int (1 : Int32))])) X15 Bd.notSynchronized (v := (some (.int (1 : Int32)))) (fun h => by rw [Bd.returns] at h; cases h) (fun fs hr => retN X15 hx (t := .boolean) Bd.returns (by simp) (hb hby at_96) hr) q15_0 ?_ (by decide) (by decide)
            exact ⟨rfl, N15⟩
          case neg =>
            refine Goes.step (S' := s₁.setTop (mkF m 77 #[.val (.int p0), .val (.int ((p0 &&& (2147483647 : Int32)) % (6 : Int32))), .unset, .unset] [])) (fun t k => XS.icmpYes X0.here hx rfl (pc0 := 65) (pc' := 77) rfl (hb hby at_65) rfl (feq hc13).2 (by decide) (by decide) k) ?_
            obtain ⟨T16, X16, e16, st16⟩ := getS2 X0 hx hZ hown (host := "") (Or.inl tw18) Via.refl e0 S_DELETED (g := (mkF m 77 #[.val (.int p0), .val (.int ((p0 &&& (2147483647 : Int32)) % (6 : Int32))), .unset, .unset] [])) rfl (hb hby at_77)
            refine Goes.step (S' := T16.setTop (mkF m 84 #[.val (.int p0), .val (.int ((p0 &&& (2147483647 : Int32)) % (6 : Int32))), .val (.ref w_DELETED), .val (.int (0 : Int32))] [(.ref w_DELETED)])) (fun t k => st16 _ (XS.astoreN X16.here hx rfl (hb hby at_80) rfl rfl (l' := #[.val (.int p0), .val (.int ((p0 &&& (2147483647 : Int32)) % (6 : Int32))), .val (.ref w_DELETED), .unset]) rfl (XS.iconst X16.here hx rfl (hb hby at_81) (XS.istoreN X16.here hx rfl (hb hby at_82) rfl (l' := #[.val (.int p0), .val (.int ((p0 &&& (2147483647 : Int32)) % (6 : Int32))), .val (.ref w_DELETED), .val (.int (0 : Int32))]) rfl (XS.aloadN X16.here hx rfl (hb hby at_83) rfl rfl k))))) ?_
            obtain ⟨cq17, kq17, q17a, q17b, q17c⟩ := isOf hZ e16 E_DELETED
            obtain ⟨_, _, ⟨T17, L17, k17, n17⟩, -, X17, ⟨Lc17, hQ17, l17, y17, z17⟩, st17⟩ := X16.virtualBack hx (y := mth0) (z := mth0) hown (mvT hZ tw4) (mvT hZ tw5) (notFace_of_selects (args := #[]) (mvT hZ tw7)) (mvT hZ tw7) (mvT hZ tw6) (by decide) (backOf (W := 0) (fin_not l Z a0 hw [] w_DELETED w_COMPLETED w_SKIPPED h0 n0 Z0 S_COMPLETED S_SKIPPED H_w_DELETED_w_COMPLETED H_w_DELETED_w_SKIPPED) hZ tw8 tw2 (by decide) (by decide)) q17a q17c (g := (mkF m 84 #[.val (.int p0), .val (.int ((p0 &&& (2147483647 : Int32)) % (6 : Int32))), .val (.ref w_DELETED), .val (.int (0 : Int32))] [(.ref w_DELETED)])) rfl (by rw [hml]; rfl) (Steps.refl _) (argsL := []) (rest := []) (lenOf pd_Z rfl) rfl (Nat.le_of_eq rfl) (hb hby at_84) (fun _ _ => ⟨rfl, e16, (by decide : 0 + 0 ≤ _), (by decide : 0 + 0 ≤ _)⟩)
            dsimp only [Pt.U, Pt.locs, Pt.cells, Pt.slots] at X17 l17 y17 z17 st17 hQ17
            subst l17 y17 z17
            obtain ⟨rfl, Nq17, q17_0⟩ := hQ17
            have N17 := Fr.app N0 Nq17
            refine Goes.step (S' := T17.setTop (mkF m 96 #[.val (.int p0), .val (.int ((p0 &&& (2147483647 : Int32)) % (6 : Int32))), .val (.ref w_DELETED), .val (.int (0 : Int32))] [(.int (1 : Int32))])) (fun t k => st17.trans (XS.iloadN X17.here hx rfl (hb hby at_87) rfl (XS.icmpNo X17.here hx rfl (hb hby at_88) rfl (teq ((by decide) : (0 : Int32) = (0 : Int32))).2 (XS.iconst X17.here hx rfl (hb hby at_91) (XS.goto X17.here hx rfl (pc0 := 92) (pc' := 96) rfl (hb hby at_92) (by decide) (by decide) k))))) ?_
            refine Goes.leave (g := (mkF m 96 #[.val (.int p0), .val (.int ((p0 &&& (2147483647 : Int32)) % (6 : Int32))), .val (.ref w_DELETED), .val (.int (0 : Int32))] [(.int (1 : Int32))])) X17 Bd.notSynchronized (v := (some (.int (1 : Int32)))) (fun h => by rw [Bd.returns] at h; cases h) (fun fs hr => retN X17 hx (t := .boolean) Bd.returns (by simp) (hb hby at_96) hr) q17_0 ?_ (by decide) (by decide)
            exact ⟨rfl, N17⟩

set_option maxRecDepth 65536 in
set_option maxHeartbeats 40000000 in
theorem comes_1 {Post : Tables → Env → Array Value → State → Outcome → State → Prop} (hpost : ∀ tb e args s v u, (limb_1_1.after args s (.returned v) u = true ∧ limb_1_2.after args s (.returned v) u = true ∧ True) → FrameEnd s (.returned v) u (Jvm.fieldLocs frame_1_writes args s ++ Jvm.arrayLocs frame_1_arrays args s ++ Jvm.staticLocs frame_1_statics s) 0 0 → Post tb e args s (.returned v) u) :
    ArmFor flags0 classFile x code maxLocals ret World_1 tables_1 room_1 Calls_1 rest_1 Pre_1 Post := by
  intro l hfl _ _ p e ha hc hk s m args below hf hA hF happ hP
  obtain ⟨hcalls, hrest, hpre⟩ := hP
  obtain ⟨-, -, -, hnamed, -, -, -, hat⟩ := (Spec.applies_iff hf).mp happ
  obtain ⟨hg, hn⟩ := and_e (Cond.before_iff.mp (show (Jvm.Cond.and given_1 narrow_1).before args s = true from hpre))
  obtain ⟨g1, g2⟩ := and_e hg
  obtain ⟨g3, g4⟩ := and_e hn
  obtain ⟨g5, g6⟩ := and_e g4
  obtain ⟨g7, g8⟩ := and_e g6
  obtain ⟨g9, g10⟩ := and_e g8
  obtain ⟨g11, g12⟩ := and_e g10
  obtain ⟨g13, g14⟩ := and_e g12
  obtain ⟨g15, g16⟩ := and_e g14
  obtain ⟨g17, g18⟩ := and_e g16
  obtain ⟨g19, g20⟩ := and_e g18
  obtain ⟨g21, g22⟩ := and_e g20
  obtain ⟨g23, g24⟩ := and_e g22
  obtain ⟨w0, rfl⟩ : ∃ w0 : Value, args = #[w0] := by
    have hs : args.size = 1 := by simpa [Cond.value, given_1] using g1
    obtain ⟨L⟩ := args
    match L, hs with
    | [w0], _ => exact ⟨w0, rfl⟩
  have hw := fun d (hd : d ∈ tables_1) => atoms_spec (ws := Jvm.Cond.code x code maxLocals ret :: tables_1) hat d (List.mem_cons_of_mem _ hd)
  have hfit : Fit s := fun {y c} hc i hi => by
    obtain ⟨ha, rfl⟩ := Array.getElem?_eq_some_iff.mp hc
    have q := List.all_eq_true.mp ((Array.all_eq_true_iff_forall_mem.mp hF) _ (Array.getElem_mem ha)) i (List.mem_range.mpr hi)
    simpa [Array.getElem?_eq_getElem hi] using q
  obtain ⟨i0, ei0⟩ := is_v g2
  obtain rfl : w0 = (.int i0) := Option.some.inj ei0
  obtain ⟨w_NOT_ACTIVATED, ev_NOT_ACTIVATED⟩ := exa_v g3
  have E_w_NOT_ACTIVATED : Exa s s.heap w_NOT_ACTIVATED "com/example/rerouted/rerouted/engine/NodeState" := Exa.start ev_NOT_ACTIVATED g3
  have S_w_NOT_ACTIVATED : Sta s s.heap "com/example/rerouted/rerouted/engine/NodeState" "NOT_ACTIVATED" "Lcom/example/rerouted/rerouted/engine/NodeState;" (.ref w_NOT_ACTIVATED) := Sta.start ev_NOT_ACTIVATED (Or.inr ⟨(hw _ (List.mem_of_getElem? (i := 2) rfl)), (hw _ (List.mem_of_getElem? (i := 3) rfl))⟩)
  obtain ⟨w_COMPLETED, ev_COMPLETED⟩ := exa_v g5
  have E_w_COMPLETED : Exa s s.heap w_COMPLETED "com/example/rerouted/rerouted/engine/NodeState" := Exa.start ev_COMPLETED g5
  have S_w_COMPLETED : Sta s s.heap "com/example/rerouted/rerouted/engine/NodeState" "COMPLETED" "Lcom/example/rerouted/rerouted/engine/NodeState;" (.ref w_COMPLETED) := Sta.start ev_COMPLETED (Or.inr ⟨(hw _ (List.mem_of_getElem? (i := 2) rfl)), (hw _ (List.mem_of_getElem? (i := 10) rfl))⟩)
  have F_w_NOT_ACTIVATED : Fld s s.heap w_NOT_ACTIVATED "java/lang/Enum" "ordinal" "I" (.int (0 : Int32)) := Fld.start ((fld_at ev_NOT_ACTIVATED).symm.trans (own_eqI g7))
  have F_w_COMPLETED : Fld s s.heap w_COMPLETED "java/lang/Enum" "ordinal" "I" (.int (3 : Int32)) := Fld.start ((fld_at ev_COMPLETED).symm.trans (own_eqI g9))
  obtain ⟨w_SKIPPED, ev_SKIPPED⟩ := exa_v g11
  have E_w_SKIPPED : Exa s s.heap w_SKIPPED "com/example/rerouted/rerouted/engine/NodeState" := Exa.start ev_SKIPPED g11
  have S_w_SKIPPED : Sta s s.heap "com/example/rerouted/rerouted/engine/NodeState" "SKIPPED" "Lcom/example/rerouted/rerouted/engine/NodeState;" (.ref w_SKIPPED) := Sta.start ev_SKIPPED (Or.inr ⟨(hw _ (List.mem_of_getElem? (i := 2) rfl)), (hw _ (List.mem_of_getElem? (i := 12) rfl))⟩)
  have F_w_SKIPPED : Fld s s.heap w_SKIPPED "java/lang/Enum" "ordinal" "I" (.int (4 : Int32)) := Fld.start ((fld_at ev_SKIPPED).symm.trans (own_eqI g13))
  obtain ⟨w_RUNNING, ev_RUNNING⟩ := exa_v g15
  have E_w_RUNNING : Exa s s.heap w_RUNNING "com/example/rerouted/rerouted/engine/NodeState" := Exa.start ev_RUNNING g15
  have S_w_RUNNING : Sta s s.heap "com/example/rerouted/rerouted/engine/NodeState" "RUNNING" "Lcom/example/rerouted/rerouted/engine/NodeState;" (.ref w_RUNNING) := Sta.start ev_RUNNING (Or.inr ⟨(hw _ (List.mem_of_getElem? (i := 2) rfl)), (hw _ (List.mem_of_getElem? (i := 15) rfl))⟩)
  have F_w_RUNNING : Fld s s.heap w_RUNNING "java/lang/Enum" "ordinal" "I" (.int (2 : Int32)) := Fld.start ((fld_at ev_RUNNING).symm.trans (own_eqI g17))
  obtain ⟨w_ACTIVATED, ev_ACTIVATED⟩ := exa_v g19
  have E_w_ACTIVATED : Exa s s.heap w_ACTIVATED "com/example/rerouted/rerouted/engine/NodeState" := Exa.start ev_ACTIVATED g19
  have S_w_ACTIVATED : Sta s s.heap "com/example/rerouted/rerouted/engine/NodeState" "ACTIVATED" "Lcom/example/rerouted/rerouted/engine/NodeState;" (.ref w_ACTIVATED) := Sta.start ev_ACTIVATED (Or.inr ⟨(hw _ (List.mem_of_getElem? (i := 2) rfl)), (hw _ (List.mem_of_getElem? (i := 17) rfl))⟩)
  have F_w_ACTIVATED : Fld s s.heap w_ACTIVATED "java/lang/Enum" "ordinal" "I" (.int (1 : Int32)) := Fld.start ((fld_at ev_ACTIVATED).symm.trans (own_eqI g21))
  obtain ⟨w_DELETED, ev_DELETED⟩ := exa_v g23
  have E_w_DELETED : Exa s s.heap w_DELETED "com/example/rerouted/rerouted/engine/NodeState" := Exa.start ev_DELETED g23
  have S_w_DELETED : Sta s s.heap "com/example/rerouted/rerouted/engine/NodeState" "DELETED" "Lcom/example/rerouted/rerouted/engine/NodeState;" (.ref w_DELETED) := Sta.start ev_DELETED (Or.inr ⟨(hw _ (List.mem_of_getElem? (i := 2) rfl)), (hw _ (List.mem_of_getElem? (i := 19) rfl))⟩)
  have F_w_DELETED : Fld s s.heap w_DELETED "java/lang/Enum" "ordinal" "I" (.int (5 : Int32)) := Fld.start ((fld_at ev_DELETED).symm.trans (own_eqI g24))
  obtain ⟨n, o, h1, h2, h3, _, L, rfl, ⟨rfl, N⟩, hq⟩ := law l s _ hw tables_1 i0 w_NOT_ACTIVATED w_ACTIVATED w_RUNNING w_COMPLETED w_SKIPPED w_DELETED s.heap s.heap.size (Nat.le_refl _) S_w_NOT_ACTIVATED S_w_ACTIVATED S_w_RUNNING S_w_COMPLETED S_w_SKIPPED S_w_DELETED E_w_NOT_ACTIVATED E_w_ACTIVATED E_w_RUNNING E_w_COMPLETED E_w_SKIPPED E_w_DELETED (Fld.ne F_w_NOT_ACTIVATED F_w_COMPLETED (by simp)) (Fld.ne F_w_NOT_ACTIVATED F_w_SKIPPED (by simp)) (Fld.ne F_w_ACTIVATED F_w_COMPLETED (by simp)) (Fld.ne F_w_ACTIVATED F_w_SKIPPED (by simp)) (Fld.ne F_w_RUNNING F_w_COMPLETED (by simp)) (Fld.ne F_w_RUNNING F_w_SKIPPED (by simp)) (Fld.ne F_w_SKIPPED F_w_COMPLETED (by simp)) (Fld.ne F_w_DELETED F_w_COMPLETED (by simp)) (Fld.ne F_w_DELETED F_w_SKIPPED (by simp)) p e ha hc hk s m _ below hf ((Spec.applies_iff_loose hf).mp happ).1 ⟨rfl, State.Warmed39.refl s, rfl⟩ trivial
  refine ⟨n, _, h1, h2, h3, hpost _ _ _ _ _ _ ⟨Cond.after_iff.mpr rfl, Cond.after_iff.mpr (eq_i res_at (Term.int_eval (1)) rfl), trivial⟩ ⟨hq.1, hq.2.1, (hq.2.2.sift fun y hy => Or.inr (N y hy)).mono (by decide) (by decide)⟩⟩
theorem main_1_1 : Claimed_1_1 := comes_1 fun _ _ _ _ _ _ h hF => ⟨h.1, hF⟩
theorem main_1_2 : Claimed_1_2 := comes_1 fun _ _ _ _ _ _ h hF => ⟨h.2.1, hF⟩
end Jvm.Pilot.@@N@@
namespace Jvm.Pilot.@@N@@
open Jvm Jvm.ClassFile Sem Op Lib Jvm.Free Jvm.Stand Jvm.Pilot.@@N@@.Jvm.D
/-! MADE BY PROGRAM (witnessworld.py) out of the Statement's table words and the real class files: 12 classes; the members and pool entries that the words name. The judged class is class 1, her method 1. -/
namespace start1
open Jvm.ClassFile
def u (s : String) : CpInfo := .utf8 (stringToUtf16 s)
/-- a pool by its gaps: so many unusable entries, then the entry; so many at the end -/
def gap : Nat → List CpInfo → List CpInfo
  | 0, r => r
  | n + 1, r => .unusable :: gap n r
def poolList (es : List (Nat × CpInfo)) (last : Nat) : List CpInfo := es.foldr (fun e r => gap e.1 (e.2 :: r)) (gap last [])
def pool (es : List (Nat × CpInfo)) (last : Nat) : Array CpInfo := ⟨poolList es last⟩
def fileOf (pool : Array CpInfo) (this : Nat) (attrs : Array Attribute := #[]) (ms : Array MethodInfo := #[]) (fl : Nat := 33) (sup : Nat := 0) (ifs : Array Nat := #[]) (fds : Array FieldInfo := #[]) : ClassFile where
  minorVersion := 0
  majorVersion := 65
  constantPool := pool
  accessFlags := fl
  thisClass := this
  superClass := sup
  interfaces := ifs
  fields := fds
  methods := ms
  attributes := attrs
def plain (name : String) (sup : Option ClassId) : Class where
  name := name
  kind := .ordinary
  loader := none
  accessFlags := 33
  super := sup
  interfaces := #[]
  cf := none
  fields := #[]
  methods := #[]
  instanceTypes := #[]
  staticTypes := #[]
  resolved := #[]
  callSites := []
  init := .initialized
  statics := none
  mirror := none

def pool0 : Array CpInfo := pool [(5, u "<init>"), (0, u "()V"), (1, .class_ 10), (1, u "java/lang/Object")] 113

def k0m0 : Method := { name := "<init>", desc := "()V", sig := { parameters := [], returnType := none }, accessFlags := 1, code := none }
/-- java/lang/Object -/
def k0 : Class := { plain "java/lang/Object" none with
  accessFlags := 33
  interfaces := #[]
  cf := some (fileOf pool0 8 #[] #[{ accessFlags := 1, nameIndex := 5, descriptorIndex := 6, attributes := #[] }] 33 0 #[] #[])
  fields := #[]
  methods := #[k0m0]
  instanceTypes := #[]
  staticTypes := #[]
  resolved := Array.replicate 124 none
  statics := none }

def pool1 : Array CpInfo := pool [(2, .class_ 4), (1, u "java/lang/Object"), (0, u "<init>"), (0, u "()V"), (0, .integer 2147483647), (0, .fieldref 9 10), (0, .class_ 11), (0, .nameAndType 12 13), (0, u "com/example/rerouted/rerouted/engine/NodeState"), (0, u "NOT_ACTIVATED"), (0, u "Lcom/example/rerouted/rerouted/engine/NodeState;"), (0, .fieldref 9 15), (0, .nameAndType 16 13), (0, u "ACTIVATED"), (0, .fieldref 9 18), (0, .nameAndType 19 13), (0, u "RUNNING"), (0, .fieldref 9 21), (0, .nameAndType 22 13), (0, u "COMPLETED"), (0, .fieldref 9 24), (0, .nameAndType 25 13), (0, u "SKIPPED"), (0, .fieldref 9 27), (0, .nameAndType 28 13), (0, u "DELETED"), (0, .methodref 9 30), (0, .nameAndType 31 32), (0, u "isFinished"), (0, u "()Z"), (0, .class_ 34), (0, u "com/example/rerouted/rerouted/engine/NodeStateIsFinishedPinLaw"), (2, u "law"), (0, u "(I)Z")] 3

def k1m0 : Method := { name := "<init>", desc := "()V", sig := { parameters := [], returnType := none }, accessFlags := 1, code := none }
def k1c1 : Code := { maxStack := 2, maxLocals := 4, code := code, exceptionTable := #[], attributes := #[] }
def k1m1 : Method := { name := "law", desc := "(I)Z", sig := { parameters := [.int], returnType := some .boolean }, accessFlags := 9, code := some k1c1 }
/-- com/example/rerouted/rerouted/engine/NodeStateIsFinishedPinLaw -/
def k1 : Class := { plain "com/example/rerouted/rerouted/engine/NodeStateIsFinishedPinLaw" (some 0) with
  accessFlags := 49
  interfaces := #[]
  cf := some (fileOf pool1 33 #[] #[{ accessFlags := 1, nameIndex := 5, descriptorIndex := 6, attributes := #[] }, { accessFlags := 9, nameIndex := 37, descriptorIndex := 38, attributes := #[] }] 49 2 #[] #[])
  fields := #[]
  methods := #[k1m0, k1m1]
  instanceTypes := #[]
  staticTypes := #[]
  resolved := Array.replicate 42 none
  statics := none }

def pool2 : Array CpInfo := pool [(1, .class_ 2), (0, u "java/lang/constant/Constable"), (0, .class_ 4), (0, u "java/lang/Object")] 6

/-- java/lang/constant/Constable -/
def k2 : Class := { plain "java/lang/constant/Constable" (some 0) with
  accessFlags := 1537
  interfaces := #[]
  cf := some (fileOf pool2 1 #[] #[] 1537 3 #[] #[])
  fields := #[]
  methods := #[]
  instanceTypes := #[]
  staticTypes := #[]
  resolved := Array.replicate 11 none
  statics := none }

def pool3 : Array CpInfo := pool [(1, .class_ 2), (0, u "java/lang/Comparable"), (0, .class_ 4), (0, u "java/lang/Object")] 7

/-- java/lang/Comparable -/
def k3 : Class := { plain "java/lang/Comparable" (some 0) with
  accessFlags := 1537
  interfaces := #[]
  cf := some (fileOf pool3 1 #[] #[] 1537 3 #[] #[])
  fields := #[]
  methods := #[]
  instanceTypes := #[]
  staticTypes := #[]
  resolved := Array.replicate 12 none
  statics := none }

def pool4 : Array CpInfo := pool [(1, .class_ 2), (0, u "java/io/Serializable"), (0, .class_ 4), (0, u "java/lang/Object")] 2

/-- java/io/Serializable -/
def k4 : Class := { plain "java/io/Serializable" (some 0) with
  accessFlags := 1537
  interfaces := #[]
  cf := some (fileOf pool4 1 #[] #[] 1537 3 #[] #[])
  fields := #[]
  methods := #[]
  instanceTypes := #[]
  staticTypes := #[]
  resolved := Array.replicate 7 none
  statics := none }

def pool5 : Array CpInfo := pool [(2, .class_ 4), (1, u "java/lang/Enum"), (0, u "name"), (0, u "Ljava/lang/String;"), (2, u "ordinal"), (0, u "I"), (1, .class_ 14), (1, u "java/lang/Object"), (4, u "hash"), (86, .class_ 108), (1, u "java/lang/Enum$EnumDesc"), (2, .class_ 112), (0, u "java/lang/constant/Constable"), (0, .class_ 114), (0, u "java/lang/Comparable"), (0, .class_ 116), (0, u "java/io/Serializable")] 87

/-- java/lang/Enum -/
def k5 : Class := { plain "java/lang/Enum" (some 0) with
  accessFlags := 1057
  interfaces := #[2, 3, 4]
  cf := some (fileOf pool5 2 #[.nestMembers #[106]] #[] 1057 12 #[111, 113, 115] #[{ accessFlags := 18, nameIndex := 5, descriptorIndex := 6, attributes := #[] }, { accessFlags := 18, nameIndex := 9, descriptorIndex := 10, attributes := #[] }, { accessFlags := 2, nameIndex := 19, descriptorIndex := 10, attributes := #[] }])
  fields := #[{ name := "name", type := (.object "java/lang/String"), accessFlags := 18, slot := 0, constantValue := 0 }, { name := "ordinal", type := .int, accessFlags := 18, slot := 1, constantValue := 0 }, { name := "hash", type := .int, accessFlags := 2, slot := 2, constantValue := 0 }]
  methods := #[]
  instanceTypes := #[(.object "java/lang/String"), .int, .int]
  staticTypes := #[]
  resolved := Array.replicate 204 none
  statics := none }

def pool6 : Array CpInfo := pool [(1, .class_ 2), (0, u "com/example/rerouted/rerouted/engine/NodeState"), (2, u "NOT_ACTIVATED"), (0, u "Lcom/example/rerouted/rerouted/engine/NodeState;"), (2, u "ACTIVATED"), (2, u "RUNNING"), (0, .fieldref 1 14), (0, .nameAndType 15 6), (0, u "COMPLETED"), (0, .fieldref 1 17), (0, .nameAndType 18 6), (0, u "SKIPPED"), (2, u "DELETED"), (2, u "$VALUES"), (0, u "[Lcom/example/rerouted/rerouted/engine/NodeState;"), (6, .class_ 34), (1, u "java/lang/Enum"), (24, u "isFinished"), (0, u "()Z")] 5

def k6c0 : Code := { maxStack := 2, maxLocals := 1, code := prog_31_method_4_code, exceptionTable := #[], attributes := #[] }
def k6m0 : Method := { name := "isFinished", desc := "()Z", sig := { parameters := [], returnType := some .boolean }, accessFlags := 1, code := some k6c0 }
/-- com/example/rerouted/rerouted/engine/NodeState -/
def k6 : Class := { plain "com/example/rerouted/rerouted/engine/NodeState" (some 5) with
  accessFlags := 16433
  interfaces := #[]
  cf := some (fileOf pool6 1 #[] #[{ accessFlags := 1, nameIndex := 59, descriptorIndex := 60, attributes := #[] }] 16433 32 #[] #[{ accessFlags := 16409, nameIndex := 5, descriptorIndex := 6, attributes := #[] }, { accessFlags := 16409, nameIndex := 9, descriptorIndex := 6, attributes := #[] }, { accessFlags := 16409, nameIndex := 12, descriptorIndex := 6, attributes := #[] }, { accessFlags := 16409, nameIndex := 15, descriptorIndex := 6, attributes := #[] }, { accessFlags := 16409, nameIndex := 18, descriptorIndex := 6, attributes := #[] }, { accessFlags := 16409, nameIndex := 21, descriptorIndex := 6, attributes := #[] }, { accessFlags := 4122, nameIndex := 24, descriptorIndex := 25, attributes := #[] }])
  fields := #[{ name := "NOT_ACTIVATED", type := (.object "com/example/rerouted/rerouted/engine/NodeState"), accessFlags := 16409, slot := 0, constantValue := 0 }, { name := "ACTIVATED", type := (.object "com/example/rerouted/rerouted/engine/NodeState"), accessFlags := 16409, slot := 1, constantValue := 0 }, { name := "RUNNING", type := (.object "com/example/rerouted/rerouted/engine/NodeState"), accessFlags := 16409, slot := 2, constantValue := 0 }, { name := "COMPLETED", type := (.object "com/example/rerouted/rerouted/engine/NodeState"), accessFlags := 16409, slot := 3, constantValue := 0 }, { name := "SKIPPED", type := (.object "com/example/rerouted/rerouted/engine/NodeState"), accessFlags := 16409, slot := 4, constantValue := 0 }, { name := "DELETED", type := (.object "com/example/rerouted/rerouted/engine/NodeState"), accessFlags := 16409, slot := 5, constantValue := 0 }, { name := "$VALUES", type := (.array (.object "com/example/rerouted/rerouted/engine/NodeState")), accessFlags := 4122, slot := 6, constantValue := 0 }]
  methods := #[k6m0]
  instanceTypes := #[(.object "java/lang/String"), .int, .int]
  staticTypes := #[(.object "com/example/rerouted/rerouted/engine/NodeState"), (.object "com/example/rerouted/rerouted/engine/NodeState"), (.object "com/example/rerouted/rerouted/engine/NodeState"), (.object "com/example/rerouted/rerouted/engine/NodeState"), (.object "com/example/rerouted/rerouted/engine/NodeState"), (.object "com/example/rerouted/rerouted/engine/NodeState"), (.array (.object "com/example/rerouted/rerouted/engine/NodeState"))]
  resolved := Array.replicate 66 none
  statics := some 0 }

def pool7 : Array CpInfo := pool [(1, u "java/lang/Cloneable"), (0, .class_ 1), (0, u "java/lang/Object"), (0, .class_ 3)] 3

/-- java/lang/Cloneable -/
def k7 : Class := { plain "java/lang/Cloneable" (some 0) with
  accessFlags := 1537
  interfaces := #[]
  cf := some (fileOf pool7 2 #[] #[] 1537 4 #[] #[])
  fields := #[]
  methods := #[]
  instanceTypes := #[]
  staticTypes := #[]
  resolved := Array.replicate 8 none
  statics := none }

/-- the primitive byte -/
def k8 : Class := { plain "byte" none with kind := .primitive 'B', accessFlags := 0x411 }
/-- [B -/
def k9 : Class := { plain "[B" (some 0) with kind := .array 8 .byte, interfaces := #[7, 4], accessFlags := 1041 }

/-- the primitive int -/
def k10 : Class := { plain "int" none with kind := .primitive 'I', accessFlags := 0x411 }
/-- [I -/
def k11 : Class := { plain "[I" (some 0) with kind := .array 10 .int, interfaces := #[7, 4], accessFlags := 1041 }

def heap : Heap := #[{ cls := 6, slots := #[.ref 1, .ref 2, .ref 3, .ref 4, .ref 5, .ref 6, .null], vm := .statics 6 },
  { cls := 6, slots := #[.null, .int 0, .int 0], vm := .none },
  { cls := 6, slots := #[.null, .int 1, .int 0], vm := .none },
  { cls := 6, slots := #[.null, .int 2, .int 0], vm := .none },
  { cls := 6, slots := #[.null, .int 3, .int 0], vm := .none },
  { cls := 6, slots := #[.null, .int 4, .int 0], vm := .none },
  { cls := 6, slots := #[.null, .int 5, .int 0], vm := .none }]
def classes : Array Class := #[k0, k1, k2, k3, k4, k5, k6, k7, k8, k9, k10, k11]
def interned : List (Array UInt16 × Addr) := []
def slotsUsed : Nat := 25
def theMethod : MethodId := ⟨1, 1⟩
def args0 : Array Value := #[.int 5]
def aboutOver (below : List Frame) : State where
  vm := { classes := classes, interned := interned.toArray }
  heap := heap
  slotsUsed := slotsUsed
  threads := #[{ frames := .invoking theMethod args0 :: below }]
def below0 : List Frame := [.native { method := ⟨0, 0⟩, args := #[] }]
def about1 : State := aboutOver below0
def p0 : Program := .bare "" "" ""
def e0 : Env := launch0.env 0 0 0
theorem w_frames : about1.frames = Frame.invoking theMethod args0 :: below0 := rfl
set_option maxRecDepth 65536 in
theorem w_args : argsFit about1.vm theMethod args0 = true := by decide +kernel
set_option maxRecDepth 65536 in
theorem w_heap : heapFits about1 = true := by decide +kernel
set_option maxRecDepth 65536 in
theorem w_runnable : about1.curStatus? = some .runnable := by decide +kernel
set_option maxRecDepth 65536 in
theorem w_alone : about1.alone = true := by decide +kernel
set_option maxRecDepth 65536 in
theorem w_named : about1.methodNamed? x = some theMethod := by decide +kernel
set_option maxRecDepth 65536 in
theorem w_hears : about1.hears theMethod below0 = true := by decide +kernel
set_option maxRecDepth 65536 in
theorem w_ripe : about1.ripe theMethod args0 below0 = true := by decide +kernel
theorem w_running : about1.status = .running := rfl
set_option maxRecDepth 65536 in
theorem w_room : about1.hasRoom e0.platform room_1 = true :=
  launch0.hasRoom_least _ room_1 (by decide +kernel) (by decide +kernel) (by decide +kernel) (by decide +kernel) (by decide +kernel) (by decide +kernel)
theorem allAtoms_all (ts : List Jvm.Cond) (a : Array Jvm.Value) (st : Jvm.State) : (allAtoms ts).before a st = ts.all (fun c => c.before a st) := by
  induction ts with
  | nil => rfl
  | cons c t ih =>
    show (Jvm.Cond.and c (allAtoms t)).before a st = _
    rw [Jvm.Cond.before_and, ih, List.all_cons]
def words1 : List Jvm.Cond := Jvm.Cond.code x code maxLocals ret :: tables_1
/-- a 'code' word, met by the world's own term for the bytes: nothing is compared byte by byte -/
theorem code_word {y : MethodName} {bytes : ByteArray} {mx : Nat} {rt : Option FieldType} {a : Array Value} {s : State} {m : MethodId} {meth : Method} {c : Code} (h1 : s.methodNamed? y = some m) (h2 : s.vm.method? m = some meth) (h3 : meth.code = some c) (h4 : c.code = bytes)
    (h5 : (c.maxLocals == mx && c.exceptionTable.isEmpty && decide (c.maxStack ≤ mostOperands) && decide (meth.sig.returnType = rt) && !meth.locks && decide (parseMethodDescriptor y.desc = some meth.sig)) = true) : (Jvm.Cond.code y bytes mx rt).before a s = true := by
  simp only [Bool.and_eq_true, beq_iff_eq, Bool.not_eq_true', decide_eq_true_eq] at h5
  obtain ⟨⟨⟨⟨⟨g1, g2⟩, g3⟩, g4⟩, g5⟩, g6⟩ := h5
  simp [Cond.before, Cond.holds, Cond.value, h1, h2, h3, h4, g1, g2, g3, g4, g5, g6]
def isCode : Jvm.Cond → Bool
  | .code _ _ _ _ => true
  | _ => false
theorem all_split {L : List Jvm.Cond} {P : Jvm.Cond → Bool} (h1 : L.all (fun c => isCode c || P c) = true) (h2 : ∀ c ∈ L.filter isCode, P c = true) : L.all P = true := by
  refine List.all_eq_true.mpr fun c hc => ?_
  have h := List.all_eq_true.mp h1 c hc
  rcases Bool.eq_false_or_eq_true (isCode c) with hi | hi
  · exact h2 c (List.mem_filter.mpr ⟨hc, hi⟩)
  · simpa [hi] using h
set_option maxRecDepth 65536 in
theorem w_c0 : (Jvm.Cond.code x code maxLocals ret).before args0 about1 = true := code_word (m := ⟨1, 1⟩) (meth := k1m1) (c := k1c1) (by decide +kernel) rfl rfl rfl (by decide +kernel)
set_option maxRecDepth 65536 in
theorem w_c1 : (Jvm.Cond.code ({ cls := "com/example/rerouted/rerouted/engine/NodeState", name := "isFinished", desc := "()Z" } : Jvm.MethodName) prog_31_method_4_code (1 : Nat) (Option.some Jvm.ClassFile.FieldType.boolean)).before args0 about1 = true := code_word (m := ⟨6, 0⟩) (meth := k6m0) (c := k6c0) (by decide +kernel) rfl rfl rfl (by decide +kernel)
def codes1 : List Jvm.Cond := [Jvm.Cond.code x code maxLocals ret, Jvm.Cond.code ({ cls := "com/example/rerouted/rerouted/engine/NodeState", name := "isFinished", desc := "()Z" } : Jvm.MethodName) prog_31_method_4_code (1 : Nat) (Option.some Jvm.ClassFile.FieldType.boolean)]
set_option maxRecDepth 65536 in
theorem codes_eq : words1.filter isCode = codes1 := rfl
theorem w_codes : ∀ c ∈ words1.filter isCode, c.before args0 about1 = true := by
  rw [codes_eq]
  intro c hc
  simp only [codes1, List.mem_cons, List.not_mem_nil, or_false] at hc
  rcases hc with rfl | rfl
  · exact w_c0
  · exact w_c1
set_option maxRecDepth 65536 in
theorem w_t1 : words1.all (fun c => isCode c || c.before args0 about1) = true := by decide +kernel
theorem w_tables : (allAtoms (Jvm.Cond.code x code maxLocals ret :: tables_1)).before args0 about1 = true := by
  rw [allAtoms_all]
  show words1.all (fun c => c.before args0 about1) = true
  refine all_split ?_ w_codes
  rw [w_t1]
set_option maxRecDepth 65536 in
theorem w_case : (Jvm.Cond.and given_1 narrow_1).before args0 about1 = true := by decide +kernel
theorem w_applies : (headSpec (Jvm.Cond.code x code maxLocals ret :: tables_1) room_1).applies x e0.platform about1 = true :=
  (Spec.applies_iff w_frames).mpr ⟨w_running, w_runnable, w_alone, w_named, w_hears, w_ripe, w_room, w_tables⟩
theorem atStart : AtStart classFile x code maxLocals ret World_1 tables_1 room_1 Calls_1 rest_1 Pre_1 launch0 p0 e0 about1 theMethod args0 below0 :=
  ⟨lists_1, trivial, launch0.admits_env _ _ _, launch0.least_env, fairChoices_fair.cas, fairChoices_fair.clock, w_frames, w_args, w_heap, w_applies, trivial, trivial, w_case⟩
end start1
theorem witness_1 : WitnessClaimed_1 := ⟨start1.p0, start1.e0, start1.about1, start1.theMethod, start1.args0, start1.below0, start1.atStart⟩
end Jvm.Pilot.@@N@@
