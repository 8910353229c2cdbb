import JvmDerived
import JvmDerived.Pilot.@@N@@Statement
import JvmDerived.Pilot.@@N@@Code
set_option linter.unusedVariables false
set_option linter.unusedSimpArgs false
namespace Jvm.RoadKit
open Sem ClassFile Op Lib Jvm.Stand Jvm.Free Jvm.LawKit
section New
variable {p : Program} {l : Launch} {e : Env} {R : Room} {s : State} {m : MethodId} {args : Array Value} {below : List Frame} {meth : Method} {c : Code} {T : State} {locs : List Loc} {cells slots : Nat}
theorem retI (X : Stand p l e R s m args below meth c T locs cells slots) (hx : p.tables.exec = Jvm.exec) {pc : Nat} {Ls : Array Slot} {z : Int32} {rest : List Value} (hret : meth.sig.returnType = some .int) (hd : decode c.code pc = .ok (.ireturn, 1)) {fs : List Frame}
    (hl : ∀ (f : JFrame) (acts : List Action), f.method = m → f.locked = none → f.entered = [] → (doReturn e (T.setTop f) acts (some (.int z))).1 = T.setFrames fs) : Steps p.tables e below (T.setTop (mkF m pc Ls (.int z :: rest))) (T.setFrames fs) := by
  have hm' : T.vm.method? m = some meth := X.method'
  have hn : narrow .int (.int z) = .int z := rfl
  show Steps p.tables e below (T.setTop { method := m, pc := pc, locals := Ls, stack := _ :: rest, locked := none }) _
  jvm_step X.here [X.here.top, hx, hd, hm', hret, hn]
  first | (intro acts; rw [hl _ acts rfl rfl rfl]) | rw [hl _ _ rfl rfl rfl]
  exact Steps.refl _
/-- from S the run comes to an end of which P holds -/
def Goes (p : Program) (e : Env) (below : List Frame) (P : State → Outcome → Prop) (S : State) : Prop := ∃ t o, Steps p.tables e below S t ∧ t.status = .running ∧ Ended t below o ∧ P t o
theorem Goes.step {P : State → Outcome → Prop} {S S' : State} (h : ∀ t, Steps p.tables e below S' t → Steps p.tables e below S t) (k : Goes p e below P S') : Goes p e below P S := by
  obtain ⟨t, o, h1, h2⟩ := k
  exact ⟨t, o, h t h1, h2⟩
/-- what a contract says of its end -/
def Pq (Q : Option Value → Heap → List Loc → Prop) (s : State) (kc ks : Nat) (t : State) (o : Outcome) : Prop := ∃ v L, o = .returned v ∧ Q v t.heap L ∧ FrameEnd s o t L kc ks
theorem Goes.leave {Q : Option Value → Heap → List Loc → Prop} {kc ks : Nat} {g : JFrame} {v : Option Value} {h : Heap} (X : Stand p l e R s m args below meth c T locs cells slots) (hlk : meth.locks = false) (hv : meth.sig.returnType = none → v = none)
    (st : ∀ fs, (∀ (f : JFrame) (acts : List Action), f.method = m → f.locked = none → f.entered = [] → (doReturn e (T.setTop f) acts v).1 = T.setFrames fs) → Steps p.tables e below (T.setTop g) (T.setFrames fs))
    (eT : T.heap = h) (hQ : Q v h locs) (hc : cells ≤ kc) (hs : slots ≤ ks) : Goes p e below (Pq Q s kc ks) (T.setTop g) := by
  obtain ⟨fs, hr, hrun, hended, hW, hsame⟩ := X.leave (v := v) hv hlk
  exact ⟨_, _, st fs hr, hrun, hended, v, locs, rfl, eT ▸ hQ, ⟨_, rfl⟩, hW, hsame.mono hc hs⟩
theorem own_eqI {args : Array Value} {first s : State} {o : Option Outcome} {idx : List Nat} {t : Term} {k : Int32} (h : (Cond.eq t (.int k)).value args first o s idx = some true) : t.eval args first o idx s = some (.int k) := by
  simp only [Cond.value, Term.eval] at h
  cases ht : t.eval args first o idx s with
  | none => simp [ht] at h
  | some x => cases x <;> simp [ht] at h ⊢; exact h
theorem own_stakeep {Z : State} {h h' : Heap} {ws : List Addr} {C n d : String} {w : Value} (F : Sta Z h C n d w) (K : Keep h h' ws) (q : ∀ x ∈ ws, ∀ cell : Cell, h[x]? = some cell → cell.vm.isStatics = false) : Sta Z h' C n d w := by
  obtain ⟨cf, i, k, f, st, cell, h1, h2, h3, h4, h5, h6, h7⟩ := F
  exact ⟨cf, i, k, f, st, cell, h1, h2, h3, h4, K.2.1 st cell h5 (fun hm => by rw [q st hm cell h5] at h6; cases h6), h6, h7⟩
theorem own_selP {s : State} {args : Array Value} {y : MethodName} {k : Nat} (w1 : (Cond.instanceMethod y).before args s = true) (w2 : (Cond.privateMethod y).before args s = true) (w3 : (Cond.instantiable y.cls k).before args s = true)
    (hy : y.cls ≠ "java/lang/invoke/MethodHandle" ∧ y.cls ≠ "java/lang/invoke/VarHandle") : (Cond.selects y.cls y y).before args s = true := by
  obtain ⟨mk, meth, hn, hm, -, -⟩ := Cond.instanceMethod_spec w1
  have hp := Cond.privateMethod_at w2 mk meth hn hm
  have hf := State.methodFound?_of_named hn hy
  have hc := findClass_of_methodNamed hn
  obtain ⟨c2, k2, i1, i2, -, i4, -⟩ := Cond.instantiable_spec w3
  cases hc.symm.trans i1
  simp only [Bool.or_eq_false_iff] at i4
  simp [Cond.before, Cond.holds, Cond.value, hc, hf, hn, selectMethod_private hm hp, i2, i4.1]
theorem own_neVV {Z : State} {h : Heap} {a b : Addr} {k1 k2 : ClassId} {t1 t2 : FieldType} {z1 z2 : Int32} {v1 v2 : List Value} {d1 d2 : Value} (A : Arv Z h a k1 t1 z1 v1 d1) (B : Arv Z h b k2 t2 z2 v2 d2) (q : t1 ≠ t2) : a ≠ b := fun e => by
  subst e
  obtain ⟨c1, A1, -⟩ := A
  obtain ⟨c2, B1, -⟩ := B
  cases A1.1.symm.trans B1.1
  obtain ⟨-, k, g1, comp, g2⟩ := A1.2.1
  obtain ⟨-, k', g1', comp', g2'⟩ := B1.2.1
  cases g1.symm.trans g1'
  rw [g2] at g2'
  cases g2'
  exact q rfl
end New
end Jvm.RoadKit
namespace Jvm.Pilot.@@N@@
open Jvm Jvm.ClassFile Sem Op Lib Jvm.Free Jvm.Stand Jvm.LawKit Jvm.RoadKit Bundle Jvm.Pilot.@@N@@.Jvm.D
abbrev rom0 : Room := { frames := 0, cells := 0, slots := 0, locals := 0 }
theorem pnm0 : plainName "com/example/dogged_dispatch/doggeddispatch/model/DeliveryStatus" = true := by first | (simp [plainName, overriddenIn]; done) | decide +kernel
theorem pnm1 : plainName "com/example/dogged_dispatch/doggeddispatch/model/DeliveryStatusIsFinalPinLaw" = true := by first | (simp [plainName, overriddenIn]; done) | decide +kernel
abbrev mth0 : MethodName := ⟨"com/example/dogged_dispatch/doggeddispatch/model/DeliveryStatus", "isFinal", "()Z"⟩
theorem d_prog_15_method_4_code_0 : decode prog_15_method_4_code 0 = .ok (.aload_n 0, 1) := by decide +kernel
theorem d_prog_15_method_4_code_1 : decode prog_15_method_4_code 1 = .ok (.getstatic 10, 3) := by decide +kernel
theorem d_prog_15_method_4_code_4 : decode prog_15_method_4_code 4 = .ok (.if_acmp .eq 17, 3) := by decide +kernel
theorem d_prog_15_method_4_code_21 : decode prog_15_method_4_code 21 = .ok (.iconst 1, 1) := by decide +kernel
theorem d_prog_15_method_4_code_22 : decode prog_15_method_4_code 22 = .ok (.goto 4, 3) := by decide +kernel
theorem d_prog_15_method_4_code_26 : decode prog_15_method_4_code 26 = .ok (.ireturn, 1) := by decide +kernel
theorem d_prog_15_method_4_code_7 : decode prog_15_method_4_code 7 = .ok (.aload_n 0, 1) := by decide +kernel
theorem d_prog_15_method_4_code_8 : decode prog_15_method_4_code 8 = .ok (.getstatic 13, 3) := by decide +kernel
theorem d_prog_15_method_4_code_11 : decode prog_15_method_4_code 11 = .ok (.if_acmp .eq 10, 3) := by decide +kernel
theorem d_prog_15_method_4_code_14 : decode prog_15_method_4_code 14 = .ok (.aload_n 0, 1) := by decide +kernel
theorem d_prog_15_method_4_code_15 : decode prog_15_method_4_code 15 = .ok (.getstatic 16, 3) := by decide +kernel
theorem d_prog_15_method_4_code_18 : decode prog_15_method_4_code 18 = .ok (.if_acmp .ne 7, 3) := by decide +kernel
theorem d_prog_15_method_4_code_25 : decode prog_15_method_4_code 25 = .ok (.iconst 0, 1) := by decide +kernel
theorem pd_Z : parseMethodDescriptor "()Z" = some ⟨[], some .boolean⟩ := by decide +kernel
theorem ef_fin_DELIVERED (m : MethodId) (x0 : Addr) : entryFrame m #[(.ref x0)] 1 = mkF m 0 #[.val (.ref x0)] [] := by first | (simp [entryFrame, mkF, argsToLocals, Value.category]; done) | rfl
def Q_fin_DELIVERED (Z : State) (w_DELIVERED : Addr) (w_FAILED : Addr) (w_STOPPED : Addr) (h0 : Heap) (n0 : Nat) (v : Option Value) (h : Heap) (L : List Loc) : Prop := v = some (.int (1 : Int32)) ∧ Fr n0 L ∧ h = h0
set_option maxRecDepth 65536 in
set_option maxHeartbeats 40000000 in
theorem fin_DELIVERED (l : Launch) (Z : State) (a0 : Array Value) (hw : ∀ d ∈ tables_1, d.before a0 Z = true) (ws : List Jvm.Cond) (w_DELIVERED : Addr) (w_FAILED : Addr) (w_STOPPED : Addr) (h0 : Heap) (n0 : Nat) (Z0 : n0 ≤ h0.size) (S_DELIVERED : Sta Z h0 "com/example/dogged_dispatch/doggeddispatch/model/DeliveryStatus" "DELIVERED" "Lcom/example/dogged_dispatch/doggeddispatch/model/DeliveryStatus;" (.ref w_DELIVERED)) (S_FAILED : Sta Z h0 "com/example/dogged_dispatch/doggeddispatch/model/DeliveryStatus" "FAILED" "Lcom/example/dogged_dispatch/doggeddispatch/model/DeliveryStatus;" (.ref w_FAILED)) (S_STOPPED : Sta Z h0 "com/example/dogged_dispatch/doggeddispatch/model/DeliveryStatus" "STOPPED" "Lcom/example/dogged_dispatch/doggeddispatch/model/DeliveryStatus;" (.ref w_STOPPED)) :
    MetFree l mth0 (head1 (Jvm.Cond.code mth0 prog_15_method_4_code 1 (some .boolean) :: ws) rom0) (fun a U => a = #[(.ref w_DELIVERED)] ∧ Z.Warmed39 U.vm ∧ U.heap = h0) (fun _ _ _ _ _ => True) (fun _ U o U' => ∃ v L, o = .returned v ∧ Q_fin_DELIVERED Z w_DELIVERED w_FAILED w_STOPPED h0 n0 v U'.heap L ∧ FrameEnd U o U' L rom0.cells rom0.slots) := by
  refine MetFree.of_bodySF (plainFor_of_name pnm0) hisR ?_
  intro p e s m args below meth c s₁ Bd hml0 hP hK
  obtain ⟨rfl, hZ, hh⟩ := hP
  have hx := Bd.exec
  have hby := Bd.bytes
  have hml : c.maxLocals = 1 := hml0
  have hown : s.vm.findClass "com/example/dogged_dispatch/doggeddispatch/model/DeliveryStatus" = some m.cls := findClass_of_methodNamed Bd.named
  have hnm := (name_of_methodNamed Bd.named Bd.method).1
  have X0 : Stand p l e rom0 s m #[(.ref w_DELIVERED)] below meth c s₁ [] 0 0 := Stand.of_body Bd
  have e0 : s₁.heap = h0 := by rw [← hh, Bd.state]; rfl
  have N0 := Fr.nil n0
  have tw9 := hw _ (List.mem_of_getElem? (i := 9) rfl)
  show Goes p e below (Pq (Q_fin_DELIVERED Z w_DELIVERED w_FAILED w_STOPPED h0 n0) s rom0.cells rom0.slots) (s₁.setTop (entryFrame m #[(.ref w_DELIVERED)] 1))
  refine Goes.step (S' := s₁.setTop (mkF m 0 #[.val (.ref w_DELIVERED)] [])) (fun t k => castTop (ef_fin_DELIVERED m w_DELIVERED) k) ?_
  refine Goes.step (S' := s₁.setTop (mkF m 1 #[.val (.ref w_DELIVERED)] [(.ref w_DELIVERED)])) (fun t k => XS.aloadN X0.here hx rfl (hb hby d_prog_15_method_4_code_0) rfl rfl k) ?_
  obtain ⟨T1, X1, e1, st1⟩ := getS2 X0 hx hZ hown (host := "") (Or.inl tw9) Via.refl e0 S_DELIVERED (g := (mkF m 1 #[.val (.ref w_DELIVERED)] [(.ref w_DELIVERED)])) rfl (hb hby d_prog_15_method_4_code_1)
  refine Goes.step (S' := T1.setTop (mkF m 26 #[.val (.ref w_DELIVERED)] [(.int (1 : Int32))])) (fun t k => st1 _ (Jvm.RoadKit.acmp (g := (mkF m 4 #[.val (.ref w_DELIVERED)] [(.ref w_DELIVERED), (.ref w_DELIVERED)])) X1 hx rfl rfl rfl (pc0 := 4) (pc' := 21) (same := true) rfl (hb hby d_prog_15_method_4_code_4) rfl (decide_eq_true rfl) (by decide) (by decide) (XS.iconst X1.here hx rfl (hb hby d_prog_15_method_4_code_21) (XS.goto X1.here hx rfl (pc0 := 22) (pc' := 26) rfl (hb hby d_prog_15_method_4_code_22) (by decide) (by decide) k)))) ?_
  refine Goes.leave (g := (mkF m 26 #[.val (.ref w_DELIVERED)] [(.int (1 : Int32))])) X1 Bd.notSynchronized (v := (some (.int (1 : Int32)))) (fun h => by rw [Bd.returns] at h; cases h) (fun fs hr => retN X1 hx (t := .boolean) Bd.returns (by simp) (hb hby d_prog_15_method_4_code_26) hr) e1 ?_ (by decide) (by decide)
  exact ⟨rfl, N0, rfl⟩

theorem ef_fin_FAILED (m : MethodId) (x0 : Addr) : entryFrame m #[(.ref x0)] 1 = mkF m 0 #[.val (.ref x0)] [] := by first | (simp [entryFrame, mkF, argsToLocals, Value.category]; done) | rfl
def Q_fin_FAILED (Z : State) (w_DELIVERED : Addr) (w_FAILED : Addr) (w_STOPPED : Addr) (h0 : Heap) (n0 : Nat) (v : Option Value) (h : Heap) (L : List Loc) : Prop := v = some (.int (1 : Int32)) ∧ Fr n0 L ∧ h = h0
set_option maxRecDepth 65536 in
set_option maxHeartbeats 40000000 in
theorem fin_FAILED (l : Launch) (Z : State) (a0 : Array Value) (hw : ∀ d ∈ tables_1, d.before a0 Z = true) (ws : List Jvm.Cond) (w_DELIVERED : Addr) (w_FAILED : Addr) (w_STOPPED : Addr) (h0 : Heap) (n0 : Nat) (Z0 : n0 ≤ h0.size) (S_DELIVERED : Sta Z h0 "com/example/dogged_dispatch/doggeddispatch/model/DeliveryStatus" "DELIVERED" "Lcom/example/dogged_dispatch/doggeddispatch/model/DeliveryStatus;" (.ref w_DELIVERED)) (S_FAILED : Sta Z h0 "com/example/dogged_dispatch/doggeddispatch/model/DeliveryStatus" "FAILED" "Lcom/example/dogged_dispatch/doggeddispatch/model/DeliveryStatus;" (.ref w_FAILED)) (S_STOPPED : Sta Z h0 "com/example/dogged_dispatch/doggeddispatch/model/DeliveryStatus" "STOPPED" "Lcom/example/dogged_dispatch/doggeddispatch/model/DeliveryStatus;" (.ref w_STOPPED)) (H_w_FAILED_w_DELIVERED : w_FAILED ≠ w_DELIVERED) :
    MetFree l mth0 (head1 (Jvm.Cond.code mth0 prog_15_method_4_code 1 (some .boolean) :: ws) rom0) (fun a U => a = #[(.ref w_FAILED)] ∧ Z.Warmed39 U.vm ∧ U.heap = h0) (fun _ _ _ _ _ => True) (fun _ U o U' => ∃ v L, o = .returned v ∧ Q_fin_FAILED Z w_DELIVERED w_FAILED w_STOPPED h0 n0 v U'.heap L ∧ FrameEnd U o U' L rom0.cells rom0.slots) := by
  refine MetFree.of_bodySF (plainFor_of_name pnm0) hisR ?_
  intro p e s m args below meth c s₁ Bd hml0 hP hK
  obtain ⟨rfl, hZ, hh⟩ := hP
  have hx := Bd.exec
  have hby := Bd.bytes
  have hml : c.maxLocals = 1 := hml0
  have hown : s.vm.findClass "com/example/dogged_dispatch/doggeddispatch/model/DeliveryStatus" = some m.cls := findClass_of_methodNamed Bd.named
  have hnm := (name_of_methodNamed Bd.named Bd.method).1
  have X0 : Stand p l e rom0 s m #[(.ref w_FAILED)] below meth c s₁ [] 0 0 := Stand.of_body Bd
  have e0 : s₁.heap = h0 := by rw [← hh, Bd.state]; rfl
  have N0 := Fr.nil n0
  have tw9 := hw _ (List.mem_of_getElem? (i := 9) rfl)
  have tw11 := hw _ (List.mem_of_getElem? (i := 11) rfl)
  show Goes p e below (Pq (Q_fin_FAILED Z w_DELIVERED w_FAILED w_STOPPED h0 n0) s rom0.cells rom0.slots) (s₁.setTop (entryFrame m #[(.ref w_FAILED)] 1))
  refine Goes.step (S' := s₁.setTop (mkF m 0 #[.val (.ref w_FAILED)] [])) (fun t k => castTop (ef_fin_FAILED m w_FAILED) k) ?_
  refine Goes.step (S' := s₁.setTop (mkF m 1 #[.val (.ref w_FAILED)] [(.ref w_FAILED)])) (fun t k => XS.aloadN X0.here hx rfl (hb hby d_prog_15_method_4_code_0) rfl rfl k) ?_
  obtain ⟨T1, X1, e1, st1⟩ := getS2 X0 hx hZ hown (host := "") (Or.inl tw9) Via.refl e0 S_DELIVERED (g := (mkF m 1 #[.val (.ref w_FAILED)] [(.ref w_FAILED)])) rfl (hb hby d_prog_15_method_4_code_1)
  refine Goes.step (S' := T1.setTop (mkF m 8 #[.val (.ref w_FAILED)] [(.ref w_FAILED)])) (fun t k => st1 _ (Jvm.RoadKit.acmp (g := (mkF m 4 #[.val (.ref w_FAILED)] [(.ref w_DELIVERED), (.ref w_FAILED)])) X1 hx rfl rfl rfl (pc0 := 4) (pc' := 7) (same := false) rfl (hb hby d_prog_15_method_4_code_4) rfl (decide_eq_false fun q => H_w_FAILED_w_DELIVERED (Value.ref.inj q)) (by decide) (by decide) (XS.aloadN X1.here hx rfl (hb hby d_prog_15_method_4_code_7) rfl rfl k))) ?_
  obtain ⟨T2, X2, e2, st2⟩ := getS2 X1 hx hZ hown (host := "") (Or.inl tw11) Via.refl e1 S_FAILED (g := (mkF m 8 #[.val (.ref w_FAILED)] [(.ref w_FAILED)])) rfl (hb hby d_prog_15_method_4_code_8)
  refine Goes.step (S' := T2.setTop (mkF m 26 #[.val (.ref w_FAILED)] [(.int (1 : Int32))])) (fun t k => st2 _ (Jvm.RoadKit.acmp (g := (mkF m 11 #[.val (.ref w_FAILED)] [(.ref w_FAILED), (.ref w_FAILED)])) X2 hx rfl rfl rfl (pc0 := 11) (pc' := 21) (same := true) rfl (hb hby d_prog_15_method_4_code_11) rfl (decide_eq_true rfl) (by decide) (by decide) (XS.iconst X2.here hx rfl (hb hby d_prog_15_method_4_code_21) (XS.goto X2.here hx rfl (pc0 := 22) (pc' := 26) rfl (hb hby d_prog_15_method_4_code_22) (by decide) (by decide) k)))) ?_
  refine Goes.leave (g := (mkF m 26 #[.val (.ref w_FAILED)] [(.int (1 : Int32))])) X2 Bd.notSynchronized (v := (some (.int (1 : Int32)))) (fun h => by rw [Bd.returns] at h; cases h) (fun fs hr => retN X2 hx (t := .boolean) Bd.returns (by simp) (hb hby d_prog_15_method_4_code_26) hr) e2 ?_ (by decide) (by decide)
  exact ⟨rfl, N0, rfl⟩

theorem ef_fin_STOPPED (m : MethodId) (x0 : Addr) : entryFrame m #[(.ref x0)] 1 = mkF m 0 #[.val (.ref x0)] [] := by first | (simp [entryFrame, mkF, argsToLocals, Value.category]; done) | rfl
def Q_fin_STOPPED (Z : State) (w_DELIVERED : Addr) (w_FAILED : Addr) (w_STOPPED : Addr) (h0 : Heap) (n0 : Nat) (v : Option Value) (h : Heap) (L : List Loc) : Prop := v = some (.int (1 : Int32)) ∧ Fr n0 L ∧ h = h0
set_option maxRecDepth 65536 in
set_option maxHeartbeats 40000000 in
theorem fin_STOPPED (l : Launch) (Z : State) (a0 : Array Value) (hw : ∀ d ∈ tables_1, d.before a0 Z = true) (ws : List Jvm.Cond) (w_DELIVERED : Addr) (w_FAILED : Addr) (w_STOPPED : Addr) (h0 : Heap) (n0 : Nat) (Z0 : n0 ≤ h0.size) (S_DELIVERED : Sta Z h0 "com/example/dogged_dispatch/doggeddispatch/model/DeliveryStatus" "DELIVERED" "Lcom/example/dogged_dispatch/doggeddispatch/model/DeliveryStatus;" (.ref w_DELIVERED)) (S_FAILED : Sta Z h0 "com/example/dogged_dispatch/doggeddispatch/model/DeliveryStatus" "FAILED" "Lcom/example/dogged_dispatch/doggeddispatch/model/DeliveryStatus;" (.ref w_FAILED)) (S_STOPPED : Sta Z h0 "com/example/dogged_dispatch/doggeddispatch/model/DeliveryStatus" "STOPPED" "Lcom/example/dogged_dispatch/doggeddispatch/model/DeliveryStatus;" (.ref w_STOPPED)) (H_w_STOPPED_w_DELIVERED : w_STOPPED ≠ w_DELIVERED) (H_w_STOPPED_w_FAILED : w_STOPPED ≠ w_FAILED) :
    MetFree l mth0 (head1 (Jvm.Cond.code mth0 prog_15_method_4_code 1 (some .boolean) :: ws) rom0) (fun a U => a = #[(.ref w_STOPPED)] ∧ Z.Warmed39 U.vm ∧ U.heap = h0) (fun _ _ _ _ _ => True) (fun _ U o U' => ∃ v L, o = .returned v ∧ Q_fin_STOPPED Z w_DELIVERED w_FAILED w_STOPPED h0 n0 v U'.heap L ∧ FrameEnd U o U' L rom0.cells rom0.slots) := by
  refine MetFree.of_bodySF (plainFor_of_name pnm0) hisR ?_
  intro p e s m args below meth c s₁ Bd hml0 hP hK
  obtain ⟨rfl, hZ, hh⟩ := hP
  have hx := Bd.exec
  have hby := Bd.bytes
  have hml : c.maxLocals = 1 := hml0
  have hown : s.vm.findClass "com/example/dogged_dispatch/doggeddispatch/model/DeliveryStatus" = some m.cls := findClass_of_methodNamed Bd.named
  have hnm := (name_of_methodNamed Bd.named Bd.method).1
  have X0 : Stand p l e rom0 s m #[(.ref w_STOPPED)] below meth c s₁ [] 0 0 := Stand.of_body Bd
  have e0 : s₁.heap = h0 := by rw [← hh, Bd.state]; rfl
  have N0 := Fr.nil n0
  have tw9 := hw _ (List.mem_of_getElem? (i := 9) rfl)
  have tw11 := hw _ (List.mem_of_getElem? (i := 11) rfl)
  have tw13 := hw _ (List.mem_of_getElem? (i := 13) rfl)
  show Goes p e below (Pq (Q_fin_STOPPED Z w_DELIVERED w_FAILED w_STOPPED h0 n0) s rom0.cells rom0.slots) (s₁.setTop (entryFrame m #[(.ref w_STOPPED)] 1))
  refine Goes.step (S' := s₁.setTop (mkF m 0 #[.val (.ref w_STOPPED)] [])) (fun t k => castTop (ef_fin_STOPPED m w_STOPPED) k) ?_
  refine Goes.step (S' := s₁.setTop (mkF m 1 #[.val (.ref w_STOPPED)] [(.ref w_STOPPED)])) (fun t k => XS.aloadN X0.here hx rfl (hb hby d_prog_15_method_4_code_0) rfl rfl k) ?_
  obtain ⟨T1, X1, e1, st1⟩ := getS2 X0 hx hZ hown (host := "") (Or.inl tw9) Via.refl e0 S_DELIVERED (g := (mkF m 1 #[.val (.ref w_STOPPED)] [(.ref w_STOPPED)])) rfl (hb hby d_prog_15_method_4_code_1)
  refine Goes.step (S' := T1.setTop (mkF m 8 #[.val (.ref w_STOPPED)] [(.ref w_STOPPED)])) (fun t k => st1 _ (Jvm.RoadKit.acmp (g := (mkF m 4 #[.val (.ref w_STOPPED)] [(.ref w_DELIVERED), (.ref w_STOPPED)])) X1 hx rfl rfl rfl (pc0 := 4) (pc' := 7) (same := false) rfl (hb hby d_prog_15_method_4_code_4) rfl (decide_eq_false fun q => H_w_STOPPED_w_DELIVERED (Value.ref.inj q)) (by decide) (by decide) (XS.aloadN X1.here hx rfl (hb hby d_prog_15_method_4_code_7) rfl rfl k))) ?_
  obtain ⟨T2, X2, e2, st2⟩ := getS2 X1 hx hZ hown (host := "") (Or.inl tw11) Via.refl e1 S_FAILED (g := (mkF m 8 #[.val (.ref w_STOPPED)] [(.ref w_STOPPED)])) rfl (hb hby d_prog_15_method_4_code_8)
  refine Goes.step (S' := T2.setTop (mkF m 15 #[.val (.ref w_STOPPED)] [(.ref w_STOPPED)])) (fun t k => st2 _ (Jvm.RoadKit.acmp (g := (mkF m 11 #[.val (.ref w_STOPPED)] [(.ref w_FAILED), (.ref w_STOPPED)])) X2 hx rfl rfl rfl (pc0 := 11) (pc' := 14) (same := false) rfl (hb hby d_prog_15_method_4_code_11) rfl (decide_eq_false fun q => H_w_STOPPED_w_FAILED (Value.ref.inj q)) (by decide) (by decide) (XS.aloadN X2.here hx rfl (hb hby d_prog_15_method_4_code_14) rfl rfl k))) ?_
  obtain ⟨T3, X3, e3, st3⟩ := getS2 X2 hx hZ hown (host := "") (Or.inl tw13) Via.refl e2 S_STOPPED (g := (mkF m 15 #[.val (.ref w_STOPPED)] [(.ref w_STOPPED)])) rfl (hb hby d_prog_15_method_4_code_15)
  refine Goes.step (S' := T3.setTop (mkF m 26 #[.val (.ref w_STOPPED)] [(.int (1 : Int32))])) (fun t k => st3 _ (Jvm.RoadKit.acmp (g := (mkF m 18 #[.val (.ref w_STOPPED)] [(.ref w_STOPPED), (.ref w_STOPPED)])) X3 hx rfl rfl rfl (pc0 := 18) (pc' := 21) (same := true) rfl (hb hby d_prog_15_method_4_code_18) rfl (decide_eq_true rfl) (by decide) (by decide) (XS.iconst X3.here hx rfl (hb hby d_prog_15_method_4_code_21) (XS.goto X3.here hx rfl (pc0 := 22) (pc' := 26) rfl (hb hby d_prog_15_method_4_code_22) (by decide) (by decide) k)))) ?_
  refine Goes.leave (g := (mkF m 26 #[.val (.ref w_STOPPED)] [(.int (1 : Int32))])) X3 Bd.notSynchronized (v := (some (.int (1 : Int32)))) (fun h => by rw [Bd.returns] at h; cases h) (fun fs hr => retN X3 hx (t := .boolean) Bd.returns (by simp) (hb hby d_prog_15_method_4_code_26) hr) e3 ?_ (by decide) (by decide)
  exact ⟨rfl, N0, rfl⟩

theorem ef_fin_not (m : MethodId) (x0 : Addr) : entryFrame m #[(.ref x0)] 1 = mkF m 0 #[.val (.ref x0)] [] := by first | (simp [entryFrame, mkF, argsToLocals, Value.category]; done) | rfl
def Q_fin_not (Z : State) (a1 : Addr) (w_DELIVERED : Addr) (w_FAILED : Addr) (w_STOPPED : Addr) (h0 : Heap) (n0 : Nat) (v : Option Value) (h : Heap) (L : List Loc) : Prop := v = some (.int (0 : Int32)) ∧ Fr n0 L ∧ h = h0
set_option maxRecDepth 65536 in
set_option maxHeartbeats 40000000 in
theorem fin_not (l : Launch) (Z : State) (a0 : Array Value) (hw : ∀ d ∈ tables_1, d.before a0 Z = true) (ws : List Jvm.Cond) (a1 : Addr) (w_DELIVERED : Addr) (w_FAILED : Addr) (w_STOPPED : Addr) (h0 : Heap) (n0 : Nat) (Z0 : n0 ≤ h0.size) (S_DELIVERED : Sta Z h0 "com/example/dogged_dispatch/doggeddispatch/model/DeliveryStatus" "DELIVERED" "Lcom/example/dogged_dispatch/doggeddispatch/model/DeliveryStatus;" (.ref w_DELIVERED)) (S_FAILED : Sta Z h0 "com/example/dogged_dispatch/doggeddispatch/model/DeliveryStatus" "FAILED" "Lcom/example/dogged_dispatch/doggeddispatch/model/DeliveryStatus;" (.ref w_FAILED)) (S_STOPPED : Sta Z h0 "com/example/dogged_dispatch/doggeddispatch/model/DeliveryStatus" "STOPPED" "Lcom/example/dogged_dispatch/doggeddispatch/model/DeliveryStatus;" (.ref w_STOPPED)) (H_a1_w_DELIVERED : a1 ≠ w_DELIVERED) (H_a1_w_FAILED : a1 ≠ w_FAILED) (H_a1_w_STOPPED : a1 ≠ w_STOPPED) :
    MetFree l mth0 (head1 (Jvm.Cond.code mth0 prog_15_method_4_code 1 (some .boolean) :: ws) rom0) (fun a U => a = #[(.ref a1)] ∧ Z.Warmed39 U.vm ∧ U.heap = h0) (fun _ _ _ _ _ => True) (fun _ U o U' => ∃ v L, o = .returned v ∧ Q_fin_not Z a1 w_DELIVERED w_FAILED w_STOPPED h0 n0 v U'.heap L ∧ FrameEnd U o U' L rom0.cells rom0.slots) := by
  refine MetFree.of_bodySF (plainFor_of_name pnm0) hisR ?_
  intro p e s m args below meth c s₁ Bd hml0 hP hK
  obtain ⟨rfl, hZ, hh⟩ := hP
  have hx := Bd.exec
  have hby := Bd.bytes
  have hml : c.maxLocals = 1 := hml0
  have hown : s.vm.findClass "com/example/dogged_dispatch/doggeddispatch/model/DeliveryStatus" = some m.cls := findClass_of_methodNamed Bd.named
  have hnm := (name_of_methodNamed Bd.named Bd.method).1
  have X0 : Stand p l e rom0 s m #[(.ref a1)] below meth c s₁ [] 0 0 := Stand.of_body Bd
  have e0 : s₁.heap = h0 := by rw [← hh, Bd.state]; rfl
  have N0 := Fr.nil n0
  have tw9 := hw _ (List.mem_of_getElem? (i := 9) rfl)
  have tw11 := hw _ (List.mem_of_getElem? (i := 11) rfl)
  have tw13 := hw _ (List.mem_of_getElem? (i := 13) rfl)
  show Goes p e below (Pq (Q_fin_not Z a1 w_DELIVERED w_FAILED w_STOPPED h0 n0) s rom0.cells rom0.slots) (s₁.setTop (entryFrame m #[(.ref a1)] 1))
  refine Goes.step (S' := s₁.setTop (mkF m 0 #[.val (.ref a1)] [])) (fun t k => castTop (ef_fin_not m a1) k) ?_
  refine Goes.step (S' := s₁.setTop (mkF m 1 #[.val (.ref a1)] [(.ref a1)])) (fun t k => XS.aloadN X0.here hx rfl (hb hby d_prog_15_method_4_code_0) rfl rfl k) ?_
  obtain ⟨T1, X1, e1, st1⟩ := getS2 X0 hx hZ hown (host := "") (Or.inl tw9) Via.refl e0 S_DELIVERED (g := (mkF m 1 #[.val (.ref a1)] [(.ref a1)])) rfl (hb hby d_prog_15_method_4_code_1)
  refine Goes.step (S' := T1.setTop (mkF m 8 #[.val (.ref a1)] [(.ref a1)])) (fun t k => st1 _ (Jvm.RoadKit.acmp (g := (mkF m 4 #[.val (.ref a1)] [(.ref w_DELIVERED), (.ref a1)])) X1 hx rfl rfl rfl (pc0 := 4) (pc' := 7) (same := false) rfl (hb hby d_prog_15_method_4_code_4) rfl (decide_eq_false fun q => H_a1_w_DELIVERED (Value.ref.inj q)) (by decide) (by decide) (XS.aloadN X1.here hx rfl (hb hby d_prog_15_method_4_code_7) rfl rfl k))) ?_
  obtain ⟨T2, X2, e2, st2⟩ := getS2 X1 hx hZ hown (host := "") (Or.inl tw11) Via.refl e1 S_FAILED (g := (mkF m 8 #[.val (.ref a1)] [(.ref a1)])) rfl (hb hby d_prog_15_method_4_code_8)
  refine Goes.step (S' := T2.setTop (mkF m 15 #[.val (.ref a1)] [(.ref a1)])) (fun t k => st2 _ (Jvm.RoadKit.acmp (g := (mkF m 11 #[.val (.ref a1)] [(.ref w_FAILED), (.ref a1)])) X2 hx rfl rfl rfl (pc0 := 11) (pc' := 14) (same := false) rfl (hb hby d_prog_15_method_4_code_11) rfl (decide_eq_false fun q => H_a1_w_FAILED (Value.ref.inj q)) (by decide) (by decide) (XS.aloadN X2.here hx rfl (hb hby d_prog_15_method_4_code_14) rfl rfl k))) ?_
  obtain ⟨T3, X3, e3, st3⟩ := getS2 X2 hx hZ hown (host := "") (Or.inl tw13) Via.refl e2 S_STOPPED (g := (mkF m 15 #[.val (.ref a1)] [(.ref a1)])) rfl (hb hby d_prog_15_method_4_code_15)
  refine Goes.step (S' := T3.setTop (mkF m 26 #[.val (.ref a1)] [(.int (0 : Int32))])) (fun t k => st3 _ (Jvm.RoadKit.acmp (g := (mkF m 18 #[.val (.ref a1)] [(.ref w_STOPPED), (.ref a1)])) X3 hx rfl rfl rfl (pc0 := 18) (pc' := 25) (same := false) rfl (hb hby d_prog_15_method_4_code_18) rfl (decide_eq_false fun q => H_a1_w_STOPPED (Value.ref.inj q)) (by decide) (by decide) (XS.iconst X3.here hx rfl (hb hby d_prog_15_method_4_code_25) k))) ?_
  refine Goes.leave (g := (mkF m 26 #[.val (.ref a1)] [(.int (0 : Int32))])) X3 Bd.notSynchronized (v := (some (.int (0 : Int32)))) (fun h => by rw [Bd.returns] at h; cases h) (fun fs hr => retN X3 hx (t := .boolean) Bd.returns (by simp) (hb hby d_prog_15_method_4_code_26) hr) e3 ?_ (by decide) (by decide)
  exact ⟨rfl, N0, rfl⟩

theorem ef_law (m : MethodId) (x0 : Int32) : entryFrame m #[(.int x0)] maxLocals = mkF m 0 #[.val (.int x0), .unset, .unset, .unset] [] := by first | (simp [entryFrame, mkF, argsToLocals, Value.category, maxLocals]; done) | rfl
def Q_law (Z : State) (p0 : Int32) (w_SCHEDULED : Addr) (w_SENDING : Addr) (w_DELIVERED : Addr) (w_FAILED : Addr) (w_STOPPED : Addr) (h0 : Heap) (n0 : Nat) (v : Option Value) (h : Heap) (L : List Loc) : Prop := v = some (.int (1 : Int32)) ∧ Fr n0 L
set_option maxRecDepth 65536 in
set_option maxHeartbeats 40000000 in
theorem law (l : Launch) (Z : State) (a0 : Array Value) (hw : ∀ d ∈ tables_1, d.before a0 Z = true) (ws : List Jvm.Cond) (p0 : Int32) (w_SCHEDULED : Addr) (w_SENDING : Addr) (w_DELIVERED : Addr) (w_FAILED : Addr) (w_STOPPED : Addr) (h0 : Heap) (n0 : Nat) (Z0 : n0 ≤ h0.size) (S_SCHEDULED : Sta Z h0 "com/example/dogged_dispatch/doggeddispatch/model/DeliveryStatus" "SCHEDULED" "Lcom/example/dogged_dispatch/doggeddispatch/model/DeliveryStatus;" (.ref w_SCHEDULED)) (S_SENDING : Sta Z h0 "com/example/dogged_dispatch/doggeddispatch/model/DeliveryStatus" "SENDING" "Lcom/example/dogged_dispatch/doggeddispatch/model/DeliveryStatus;" (.ref w_SENDING)) (S_DELIVERED : Sta Z h0 "com/example/dogged_dispatch/doggeddispatch/model/DeliveryStatus" "DELIVERED" "Lcom/example/dogged_dispatch/doggeddispatch/model/DeliveryStatus;" (.ref w_DELIVERED)) (S_FAILED : Sta Z h0 "com/example/dogged_dispatch/doggeddispatch/model/DeliveryStatus" "FAILED" "Lcom/example/dogged_dispatch/doggeddispatch/model/DeliveryStatus;" (.ref w_FAILED)) (S_STOPPED : Sta Z h0 "com/example/dogged_dispatch/doggeddispatch/model/DeliveryStatus" "STOPPED" "Lcom/example/dogged_dispatch/doggeddispatch/model/DeliveryStatus;" (.ref w_STOPPED)) (E_SCHEDULED : Exa Z h0 w_SCHEDULED "com/example/dogged_dispatch/doggeddispatch/model/DeliveryStatus") (E_SENDING : Exa Z h0 w_SENDING "com/example/dogged_dispatch/doggeddispatch/model/DeliveryStatus") (E_DELIVERED : Exa Z h0 w_DELIVERED "com/example/dogged_dispatch/doggeddispatch/model/DeliveryStatus") (E_FAILED : Exa Z h0 w_FAILED "com/example/dogged_dispatch/doggeddispatch/model/DeliveryStatus") (E_STOPPED : Exa Z h0 w_STOPPED "com/example/dogged_dispatch/doggeddispatch/model/DeliveryStatus") (H_w_SCHEDULED_w_DELIVERED : w_SCHEDULED ≠ w_DELIVERED) (H_w_SCHEDULED_w_FAILED : w_SCHEDULED ≠ w_FAILED) (H_w_SCHEDULED_w_STOPPED : w_SCHEDULED ≠ w_STOPPED) (H_w_SENDING_w_DELIVERED : w_SENDING ≠ w_DELIVERED) (H_w_SENDING_w_FAILED : w_SENDING ≠ w_FAILED) (H_w_SENDING_w_STOPPED : w_SENDING ≠ w_STOPPED) (H_w_FAILED_w_DELIVERED : w_FAILED ≠ w_DELIVERED) (H_w_STOPPED_w_DELIVERED : w_STOPPED ≠ w_DELIVERED) (H_w_STOPPED_w_FAILED : w_STOPPED ≠ w_FAILED) :
    MetFree l x (head1 (Jvm.Cond.code x code maxLocals ret :: ws) room_1) (fun a U => a = #[(.int p0)] ∧ Z.Warmed39 U.vm ∧ U.heap = h0) (fun _ _ _ _ _ => True) (fun _ U o U' => ∃ v L, o = .returned v ∧ Q_law Z p0 w_SCHEDULED w_SENDING w_DELIVERED w_FAILED w_STOPPED h0 n0 v U'.heap L ∧ FrameEnd U o U' L room_1.cells room_1.slots) := by
  refine MetFree.of_bodySF (plainFor_of_name pnm1) hisR ?_
  intro p e s m args below meth c s₁ Bd hml0 hP hK
  obtain ⟨rfl, hZ, hh⟩ := hP
  have hx := Bd.exec
  have hby := Bd.bytes
  have hml : c.maxLocals = 4 := hml0
  have hown : s.vm.findClass "com/example/dogged_dispatch/doggeddispatch/model/DeliveryStatusIsFinalPinLaw" = some m.cls := findClass_of_methodNamed Bd.named
  have hnm := (name_of_methodNamed Bd.named Bd.method).1
  have X0 : Stand p l e room_1 s m #[(.int p0)] below meth c s₁ [] 0 0 := Stand.of_body Bd
  have e0 : s₁.heap = h0 := by rw [← hh, Bd.state]; rfl
  have N0 := Fr.nil n0
  have tw0 := hw _ (List.mem_of_getElem? (i := 0) rfl)
  have tw1 := hw _ (List.mem_of_getElem? (i := 1) rfl)
  have tw2 := hw _ (List.mem_of_getElem? (i := 2) rfl)
  have tw4 := hw _ (List.mem_of_getElem? (i := 4) rfl)
  have tw5 := hw _ (List.mem_of_getElem? (i := 5) rfl)
  have tw6 := hw _ (List.mem_of_getElem? (i := 6) rfl)
  have tw7 := hw _ (List.mem_of_getElem? (i := 7) rfl)
  have tw8 := hw _ (List.mem_of_getElem? (i := 8) rfl)
  have tw15 := hw _ (List.mem_of_getElem? (i := 15) rfl)
  have tw16 := hw _ (List.mem_of_getElem? (i := 16) rfl)
  have tw18 := hw _ (List.mem_of_getElem? (i := 18) rfl)
  have tw19 := hw _ (List.mem_of_getElem? (i := 19) rfl)
  show Goes p e below (Pq (Q_law Z p0 w_SCHEDULED w_SENDING w_DELIVERED w_FAILED w_STOPPED h0 n0) s room_1.cells room_1.slots) (s₁.setTop (entryFrame m #[(.int p0)] maxLocals))
  refine Goes.step (S' := s₁.setTop (mkF m 0 #[.val (.int p0), .unset, .unset, .unset] [])) (fun t k => castTop (ef_law m p0) k) ?_
  refine Goes.step (S' := s₁.setTop (mkF m 8 #[.val (.int p0), .val (.int ((p0 &&& (2147483647 : Int32)) % (5 : Int32))), .unset, .unset] [(.int ((p0 &&& (2147483647 : Int32)) % (5 : Int32)))])) (fun t k => XS.iloadN X0.here hx rfl (hb hby at_0) rfl (X0.ldcInt hx hown (mvT hZ tw0) (g := (mkF m 1 #[.val (.int p0), .unset, .unset, .unset] [(.int p0)])) rfl (hb hby at_1) _ (XS.iand X0.here hx rfl (hb hby at_3) rfl (XS.iconst X0.here hx rfl (hb hby at_4) (iremM X0 hx rfl (hb hby at_5) rfl (by decide) (XS.istoreN X0.here hx rfl (hb hby at_6) rfl (l' := #[.val (.int p0), .val (.int ((p0 &&& (2147483647 : Int32)) % (5 : Int32))), .unset, .unset]) rfl (XS.iloadN X0.here hx rfl (hb hby at_7) rfl k))))))) ?_
  by_cases hc1 : ((p0 &&& (2147483647 : Int32)) % (5 : Int32)) = (0 : Int32)
  case pos =>
    refine Goes.step (S' := s₁.setTop (mkF m 11 #[.val (.int p0), .val (.int ((p0 &&& (2147483647 : Int32)) % (5 : Int32))), .unset, .unset] [])) (fun t k => XS.ifNo X0.here hx rfl (hb hby at_8) rfl ((if0 _ _).trans (teq hc1).2) k) ?_
    obtain ⟨T2, X2, e2, st2⟩ := getS2 X0 hx hZ hown (host := "") (Or.inl tw1) Via.refl e0 S_SCHEDULED (g := (mkF m 11 #[.val (.int p0), .val (.int ((p0 &&& (2147483647 : Int32)) % (5 : Int32))), .unset, .unset] [])) rfl (hb hby at_11)
    refine Goes.step (S' := T2.setTop (mkF m 69 #[.val (.int p0), .val (.int ((p0 &&& (2147483647 : Int32)) % (5 : Int32))), .val (.ref w_SCHEDULED), .val (.int (0 : Int32))] [(.ref w_SCHEDULED)])) (fun t k => st2 _ (XS.astoreN X2.here hx rfl (hb hby at_14) rfl rfl (l' := #[.val (.int p0), .val (.int ((p0 &&& (2147483647 : Int32)) % (5 : Int32))), .val (.ref w_SCHEDULED), .unset]) rfl (XS.iconst X2.here hx rfl (hb hby at_15) (XS.istoreN X2.here hx rfl (hb hby at_16) rfl (l' := #[.val (.int p0), .val (.int ((p0 &&& (2147483647 : Int32)) % (5 : Int32))), .val (.ref w_SCHEDULED), .val (.int (0 : Int32))]) rfl (XS.goto X2.here hx rfl (pc0 := 17) (pc' := 68) rfl (hb hby at_17) (by decide) (by decide) (XS.aloadN X2.here hx rfl (hb hby at_68) rfl rfl k)))))) ?_
    obtain ⟨cq3, kq3, q3a, q3b, q3c⟩ := isOf hZ e2 E_SCHEDULED
    obtain ⟨_, _, ⟨T3, L3, k3, n3⟩, -, X3, ⟨Lc3, hQ3, l3, y3, z3⟩, st3⟩ := X2.virtualBack hx (y := mth0) (z := mth0) hown (mvT hZ tw4) (mvT hZ tw5) (notFace_of_selects (args := #[]) (mvT hZ tw7)) (mvT hZ tw7) (mvT hZ tw6) (by decide) (backOf (W := 0) (fin_not l Z a0 hw [] w_SCHEDULED w_DELIVERED w_FAILED w_STOPPED h0 n0 Z0 S_DELIVERED S_FAILED S_STOPPED H_w_SCHEDULED_w_DELIVERED H_w_SCHEDULED_w_FAILED H_w_SCHEDULED_w_STOPPED) hZ tw8 tw2 (by decide) (by decide)) q3a q3c (g := (mkF m 69 #[.val (.int p0), .val (.int ((p0 &&& (2147483647 : Int32)) % (5 : Int32))), .val (.ref w_SCHEDULED), .val (.int (0 : Int32))] [(.ref w_SCHEDULED)])) rfl (by rw [hml]; rfl) (Steps.refl _) (argsL := []) (rest := []) (lenOf pd_Z rfl) rfl (Nat.le_of_eq rfl) (hb hby at_69) (fun _ _ => ⟨rfl, e2, (by decide : 0 + 0 ≤ _), (by decide : 0 + 0 ≤ _)⟩)
    dsimp only [Pt.U, Pt.locs, Pt.cells, Pt.slots] at X3 l3 y3 z3 st3 hQ3
    subst l3 y3 z3
    obtain ⟨rfl, Nq3, q3_0⟩ := hQ3
    have N3 := Fr.app N0 Nq3
    refine Goes.step (S' := T3.setTop (mkF m 81 #[.val (.int p0), .val (.int ((p0 &&& (2147483647 : Int32)) % (5 : Int32))), .val (.ref w_SCHEDULED), .val (.int (0 : Int32))] [(.int (1 : Int32))])) (fun t k => st3.trans (XS.iloadN X3.here hx rfl (hb hby at_72) rfl (XS.icmpNo X3.here hx rfl (hb hby at_73) rfl (teq ((by decide) : (0 : Int32) = (0 : Int32))).2 (XS.iconst X3.here hx rfl (hb hby at_76) (XS.goto X3.here hx rfl (pc0 := 77) (pc' := 81) rfl (hb hby at_77) (by decide) (by decide) k))))) ?_
    refine Goes.leave (g := (mkF m 81 #[.val (.int p0), .val (.int ((p0 &&& (2147483647 : Int32)) % (5 : Int32))), .val (.ref w_SCHEDULED), .val (.int (0 : Int32))] [(.int (1 : Int32))])) X3 Bd.notSynchronized (v := (some (.int (1 : Int32)))) (fun h => by rw [Bd.returns] at h; cases h) (fun fs hr => retN X3 hx (t := .boolean) Bd.returns (by simp) (hb hby at_81) hr) q3_0 ?_ (by decide) (by decide)
    exact ⟨rfl, N3⟩
  case neg =>
    refine Goes.step (S' := s₁.setTop (mkF m 22 #[.val (.int p0), .val (.int ((p0 &&& (2147483647 : Int32)) % (5 : Int32))), .unset, .unset] [(.int (1 : Int32)), (.int ((p0 &&& (2147483647 : Int32)) % (5 : Int32)))])) (fun t k => XS.ifYes X0.here hx rfl (pc0 := 8) (pc' := 20) rfl (hb hby at_8) rfl ((if0 _ _).trans (feq hc1).2) (by decide) (by decide) (XS.iloadN X0.here hx rfl (hb hby at_20) rfl (XS.iconst X0.here hx rfl (hb hby at_21) k))) ?_
    by_cases hc4 : ((p0 &&& (2147483647 : Int32)) % (5 : Int32)) = (1 : Int32)
    case pos =>
      refine Goes.step (S' := s₁.setTop (mkF m 25 #[.val (.int p0), .val (.int ((p0 &&& (2147483647 : Int32)) % (5 : Int32))), .unset, .unset] [])) (fun t k => XS.icmpNo X0.here hx rfl (hb hby at_22) rfl (teq hc4).2 k) ?_
      obtain ⟨T5, X5, e5, st5⟩ := getS2 X0 hx hZ hown (host := "") (Or.inl tw16) Via.refl e0 S_SENDING (g := (mkF m 25 #[.val (.int p0), .val (.int ((p0 &&& (2147483647 : Int32)) % (5 : Int32))), .unset, .unset] [])) rfl (hb hby at_25)
      refine Goes.step (S' := T5.setTop (mkF m 69 #[.val (.int p0), .val (.int ((p0 &&& (2147483647 : Int32)) % (5 : Int32))), .val (.ref w_SENDING), .val (.int (0 : Int32))] [(.ref w_SENDING)])) (fun t k => st5 _ (XS.astoreN X5.here hx rfl (hb hby at_28) rfl rfl (l' := #[.val (.int p0), .val (.int ((p0 &&& (2147483647 : Int32)) % (5 : Int32))), .val (.ref w_SENDING), .unset]) rfl (XS.iconst X5.here hx rfl (hb hby at_29) (XS.istoreN X5.here hx rfl (hb hby at_30) rfl (l' := #[.val (.int p0), .val (.int ((p0 &&& (2147483647 : Int32)) % (5 : Int32))), .val (.ref w_SENDING), .val (.int (0 : Int32))]) rfl (XS.goto X5.here hx rfl (pc0 := 31) (pc' := 68) rfl (hb hby at_31) (by decide) (by decide) (XS.aloadN X5.here hx rfl (hb hby at_68) rfl rfl k)))))) ?_
      obtain ⟨cq6, kq6, q6a, q6b, q6c⟩ := isOf hZ e5 E_SENDING
      obtain ⟨_, _, ⟨T6, L6, k6, n6⟩, -, X6, ⟨Lc6, hQ6, l6, y6, z6⟩, st6⟩ := X5.virtualBack hx (y := mth0) (z := mth0) hown (mvT hZ tw4) (mvT hZ tw5) (notFace_of_selects (args := #[]) (mvT hZ tw7)) (mvT hZ tw7) (mvT hZ tw6) (by decide) (backOf (W := 0) (fin_not l Z a0 hw [] w_SENDING w_DELIVERED w_FAILED w_STOPPED h0 n0 Z0 S_DELIVERED S_FAILED S_STOPPED H_w_SENDING_w_DELIVERED H_w_SENDING_w_FAILED H_w_SENDING_w_STOPPED) hZ tw8 tw2 (by decide) (by decide)) q6a q6c (g := (mkF m 69 #[.val (.int p0), .val (.int ((p0 &&& (2147483647 : Int32)) % (5 : Int32))), .val (.ref w_SENDING), .val (.int (0 : Int32))] [(.ref w_SENDING)])) rfl (by rw [hml]; rfl) (Steps.refl _) (argsL := []) (rest := []) (lenOf pd_Z rfl) rfl (Nat.le_of_eq rfl) (hb hby at_69) (fun _ _ => ⟨rfl, e5, (by decide : 0 + 0 ≤ _), (by decide : 0 + 0 ≤ _)⟩)
      dsimp only [Pt.U, Pt.locs, Pt.cells, Pt.slots] at X6 l6 y6 z6 st6 hQ6
      subst l6 y6 z6
      obtain ⟨rfl, Nq6, q6_0⟩ := hQ6
      have N6 := Fr.app N0 Nq6
      refine Goes.step (S' := T6.setTop (mkF m 81 #[.val (.int p0), .val (.int ((p0 &&& (2147483647 : Int32)) % (5 : Int32))), .val (.ref w_SENDING), .val (.int (0 : Int32))] [(.int (1 : Int32))])) (fun t k => st6.trans (XS.iloadN X6.here hx rfl (hb hby at_72) rfl (XS.icmpNo X6.here hx rfl (hb hby at_73) rfl (teq ((by decide) : (0 : Int32) = (0 : Int32))).2 (XS.iconst X6.here hx rfl (hb hby at_76) (XS.goto X6.here hx rfl (pc0 := 77) (pc' := 81) rfl (hb hby at_77) (by decide) (by decide) k))))) ?_
      refine Goes.leave (g := (mkF m 81 #[.val (.int p0), .val (.int ((p0 &&& (2147483647 : Int32)) % (5 : Int32))), .val (.ref w_SENDING), .val (.int (0 : Int32))] [(.int (1 : Int32))])) X6 Bd.notSynchronized (v := (some (.int (1 : Int32)))) (fun h => by rw [Bd.returns] at h; cases h) (fun fs hr => retN X6 hx (t := .boolean) Bd.returns (by simp) (hb hby at_81) hr) q6_0 ?_ (by decide) (by decide)
      exact ⟨rfl, N6⟩
    case neg =>
      refine Goes.step (S' := s₁.setTop (mkF m 36 #[.val (.int p0), .val (.int ((p0 &&& (2147483647 : Int32)) % (5 : Int32))), .unset, .unset] [(.int (2 : Int32)), (.int ((p0 &&& (2147483647 : Int32)) % (5 : Int32)))])) (fun t k => XS.icmpYes X0.here hx rfl (pc0 := 22) (pc' := 34) rfl (hb hby at_22) rfl (feq hc4).2 (by decide) (by decide) (XS.iloadN X0.here hx rfl (hb hby at_34) rfl (XS.iconst X0.here hx rfl (hb hby at_35) k))) ?_
      by_cases hc7 : ((p0 &&& (2147483647 : Int32)) % (5 : Int32)) = (2 : Int32)
      case pos =>
        refine Goes.step (S' := s₁.setTop (mkF m 39 #[.val (.int p0), .val (.int ((p0 &&& (2147483647 : Int32)) % (5 : Int32))), .unset, .unset] [])) (fun t k => XS.icmpNo X0.here hx rfl (hb hby at_36) rfl (teq hc7).2 k) ?_
        obtain ⟨T8, X8, e8, st8⟩ := getS2 X0 hx hZ hown (host := "") (Or.inl tw19) Via.refl e0 S_DELIVERED (g := (mkF m 39 #[.val (.int p0), .val (.int ((p0 &&& (2147483647 : Int32)) % (5 : Int32))), .unset, .unset] [])) rfl (hb hby at_39)
        refine Goes.step (S' := T8.setTop (mkF m 69 #[.val (.int p0), .val (.int ((p0 &&& (2147483647 : Int32)) % (5 : Int32))), .val (.ref w_DELIVERED), .val (.int (1 : Int32))] [(.ref w_DELIVERED)])) (fun t k => st8 _ (XS.astoreN X8.here hx rfl (hb hby at_42) rfl rfl (l' := #[.val (.int p0), .val (.int ((p0 &&& (2147483647 : Int32)) % (5 : Int32))), .val (.ref w_DELIVERED), .unset]) rfl (XS.iconst X8.here hx rfl (hb hby at_43) (XS.istoreN X8.here hx rfl (hb hby at_44) rfl (l' := #[.val (.int p0), .val (.int ((p0 &&& (2147483647 : Int32)) % (5 : Int32))), .val (.ref w_DELIVERED), .val (.int (1 : Int32))]) rfl (XS.goto X8.here hx rfl (pc0 := 45) (pc' := 68) rfl (hb hby at_45) (by decide) (by decide) (XS.aloadN X8.here hx rfl (hb hby at_68) rfl rfl k)))))) ?_
        obtain ⟨cq9, kq9, q9a, q9b, q9c⟩ := isOf hZ e8 E_DELIVERED
        obtain ⟨_, _, ⟨T9, L9, k9, n9⟩, -, X9, ⟨Lc9, hQ9, l9, y9, z9⟩, st9⟩ := X8.virtualBack hx (y := mth0) (z := mth0) hown (mvT hZ tw4) (mvT hZ tw5) (notFace_of_selects (args := #[]) (mvT hZ tw7)) (mvT hZ tw7) (mvT hZ tw6) (by decide) (backOf (W := 0) (fin_DELIVERED l Z a0 hw [] w_DELIVERED w_FAILED w_STOPPED h0 n0 Z0 S_DELIVERED S_FAILED S_STOPPED) hZ tw8 tw2 (by decide) (by decide)) q9a q9c (g := (mkF m 69 #[.val (.int p0), .val (.int ((p0 &&& (2147483647 : Int32)) % (5 : Int32))), .val (.ref w_DELIVERED), .val (.int (1 : Int32))] [(.ref w_DELIVERED)])) rfl (by rw [hml]; rfl) (Steps.refl _) (argsL := []) (rest := []) (lenOf pd_Z rfl) rfl (Nat.le_of_eq rfl) (hb hby at_69) (fun _ _ => ⟨rfl, e8, (by decide : 0 + 0 ≤ _), (by decide : 0 + 0 ≤ _)⟩)
        dsimp only [Pt.U, Pt.locs, Pt.cells, Pt.slots] at X9 l9 y9 z9 st9 hQ9
        subst l9 y9 z9
        obtain ⟨rfl, Nq9, q9_0⟩ := hQ9
        have N9 := Fr.app N0 Nq9
        refine Goes.step (S' := T9.setTop (mkF m 81 #[.val (.int p0), .val (.int ((p0 &&& (2147483647 : Int32)) % (5 : Int32))), .val (.ref w_DELIVERED), .val (.int (1 : Int32))] [(.int (1 : Int32))])) (fun t k => st9.trans (XS.iloadN X9.here hx rfl (hb hby at_72) rfl (XS.icmpNo X9.here hx rfl (hb hby at_73) rfl (teq ((by decide) : (1 : Int32) = (1 : Int32))).2 (XS.iconst X9.here hx rfl (hb hby at_76) (XS.goto X9.here hx rfl (pc0 := 77) (pc' := 81) rfl (hb hby at_77) (by decide) (by decide) k))))) ?_
        refine Goes.leave (g := (mkF m 81 #[.val (.int p0), .val (.int ((p0 &&& (2147483647 : Int32)) % (5 : Int32))), .val (.ref w_DELIVERED), .val (.int (1 : Int32))] [(.int (1 : Int32))])) X9 Bd.notSynchronized (v := (some (.int (1 : Int32)))) (fun h => by rw [Bd.returns] at h; cases h) (fun fs hr => retN X9 hx (t := .boolean) Bd.returns (by simp) (hb hby at_81) hr) q9_0 ?_ (by decide) (by decide)
        exact ⟨rfl, N9⟩
      case neg =>
        refine Goes.step (S' := s₁.setTop (mkF m 50 #[.val (.int p0), .val (.int ((p0 &&& (2147483647 : Int32)) % (5 : Int32))), .unset, .unset] [(.int (3 : Int32)), (.int ((p0 &&& (2147483647 : Int32)) % (5 : Int32)))])) (fun t k => XS.icmpYes X0.here hx rfl (pc0 := 36) (pc' := 48) rfl (hb hby at_36) rfl (feq hc7).2 (by decide) (by decide) (XS.iloadN X0.here hx rfl (hb hby at_48) rfl (XS.iconst X0.here hx rfl (hb hby at_49) k))) ?_
        by_cases hc10 : ((p0 &&& (2147483647 : Int32)) % (5 : Int32)) = (3 : Int32)
        case pos =>
          refine Goes.step (S' := s₁.setTop (mkF m 53 #[.val (.int p0), .val (.int ((p0 &&& (2147483647 : Int32)) % (5 : Int32))), .unset, .unset] [])) (fun t k => XS.icmpNo X0.here hx rfl (hb hby at_50) rfl (teq hc10).2 k) ?_
          obtain ⟨T11, X11, e11, st11⟩ := getS2 X0 hx hZ hown (host := "") (Or.inl tw15) Via.refl e0 S_FAILED (g := (mkF m 53 #[.val (.int p0), .val (.int ((p0 &&& (2147483647 : Int32)) % (5 : Int32))), .unset, .unset] [])) rfl (hb hby at_53)
          refine Goes.step (S' := T11.setTop (mkF m 69 #[.val (.int p0), .val (.int ((p0 &&& (2147483647 : Int32)) % (5 : Int32))), .val (.ref w_FAILED), .val (.int (1 : Int32))] [(.ref w_FAILED)])) (fun t k => st11 _ (XS.astoreN X11.here hx rfl (hb hby at_56) rfl rfl (l' := #[.val (.int p0), .val (.int ((p0 &&& (2147483647 : Int32)) % (5 : Int32))), .val (.ref w_FAILED), .unset]) rfl (XS.iconst X11.here hx rfl (hb hby at_57) (XS.istoreN X11.here hx rfl (hb hby at_58) rfl (l' := #[.val (.int p0), .val (.int ((p0 &&& (2147483647 : Int32)) % (5 : Int32))), .val (.ref w_FAILED), .val (.int (1 : Int32))]) rfl (XS.goto X11.here hx rfl (pc0 := 59) (pc' := 68) rfl (hb hby at_59) (by decide) (by decide) (XS.aloadN X11.here hx rfl (hb hby at_68) rfl rfl k)))))) ?_
          obtain ⟨cq12, kq12, q12a, q12b, q12c⟩ := isOf hZ e11 E_FAILED
          obtain ⟨_, _, ⟨T12, L12, k12, n12⟩, -, X12, ⟨Lc12, hQ12, l12, y12, z12⟩, st12⟩ := X11.virtualBack hx (y := mth0) (z := mth0) hown (mvT hZ tw4) (mvT hZ tw5) (notFace_of_selects (args := #[]) (mvT hZ tw7)) (mvT hZ tw7) (mvT hZ tw6) (by decide) (backOf (W := 0) (fin_FAILED l Z a0 hw [] w_DELIVERED w_FAILED w_STOPPED h0 n0 Z0 S_DELIVERED S_FAILED S_STOPPED H_w_FAILED_w_DELIVERED) hZ tw8 tw2 (by decide) (by decide)) q12a q12c (g := (mkF m 69 #[.val (.int p0), .val (.int ((p0 &&& (2147483647 : Int32)) % (5 : Int32))), .val (.ref w_FAILED), .val (.int (1 : Int32))] [(.ref w_FAILED)])) rfl (by rw [hml]; rfl) (Steps.refl _) (argsL := []) (rest := []) (lenOf pd_Z rfl) rfl (Nat.le_of_eq rfl) (hb hby at_69) (fun _ _ => ⟨rfl, e11, (by decide : 0 + 0 ≤ _), (by decide : 0 + 0 ≤ _)⟩)
          dsimp only [Pt.U, Pt.locs, Pt.cells, Pt.slots] at X12 l12 y12 z12 st12 hQ12
          subst l12 y12 z12
          obtain ⟨rfl, Nq12, q12_0⟩ := hQ12
          have N12 := Fr.app N0 Nq12
          refine Goes.step (S' := T12.setTop (mkF m 81 #[.val (.int p0), .val (.int ((p0 &&& (2147483647 : Int32)) % (5 : Int32))), .val (.ref w_FAILED), .val (.int (1 : Int32))] [(.int (1 : Int32))])) (fun t k => st12.trans (XS.iloadN X12.here hx rfl (hb hby at_72) rfl (XS.icmpNo X12.here hx rfl (hb hby at_73) rfl (teq ((by decide) : (1 : Int32) = (1 : Int32))).2 (XS.iconst X12.here hx rfl (hb hby at_76) (XS.goto X12.here hx rfl (pc0 := 77) (pc' := 81) rfl (hb hby at_77) (by decide) (by decide) k))))) ?_
          refine Goes.leave (g := (mkF m 81 #[.val (.int p0), .val (.int ((p0 &&& (2147483647 : Int32)) % (5 : Int32))), .val (.ref w_FAILED), .val (.int (1 : Int32))] [(.int (1 : Int32))])) X12 Bd.notSynchronized (v := (some (.int (1 : Int32)))) (fun h => by rw [Bd.returns] at h; cases h) (fun fs hr => retN X12 hx (t := .boolean) Bd.returns (by simp) (hb hby at_81) hr) q12_0 ?_ (by decide) (by decide)
          exact ⟨rfl, N12⟩
        case neg =>
          refine Goes.step (S' := s₁.setTop (mkF m 62 #[.val (.int p0), .val (.int ((p0 &&& (2147483647 : Int32)) % (5 : Int32))), .unset, .unset] [])) (fun t k => XS.icmpYes X0.here hx rfl (pc0 := 50) (pc' := 62) rfl (hb hby at_50) rfl (feq hc10).2 (by decide) (by decide) k) ?_
          obtain ⟨T13, X13, e13, st13⟩ := getS2 X0 hx hZ hown (host := "") (Or.inl tw18) Via.refl e0 S_STOPPED (g := (mkF m 62 #[.val (.int p0), .val (.int ((p0 &&& (2147483647 : Int32)) % (5 : Int32))), .unset, .unset] [])) rfl (hb hby at_62)
          refine Goes.step (S' := T13.setTop (mkF m 69 #[.val (.int p0), .val (.int ((p0 &&& (2147483647 : Int32)) % (5 : Int32))), .val (.ref w_STOPPED), .val (.int (1 : Int32))] [(.ref w_STOPPED)])) (fun t k => st13 _ (XS.astoreN X13.here hx rfl (hb hby at_65) rfl rfl (l' := #[.val (.int p0), .val (.int ((p0 &&& (2147483647 : Int32)) % (5 : Int32))), .val (.ref w_STOPPED), .unset]) rfl (XS.iconst X13.here hx rfl (hb hby at_66) (XS.istoreN X13.here hx rfl (hb hby at_67) rfl (l' := #[.val (.int p0), .val (.int ((p0 &&& (2147483647 : Int32)) % (5 : Int32))), .val (.ref w_STOPPED), .val (.int (1 : Int32))]) rfl (XS.aloadN X13.here hx rfl (hb hby at_68) rfl rfl k))))) ?_
          obtain ⟨cq14, kq14, q14a, q14b, q14c⟩ := isOf hZ e13 E_STOPPED
          obtain ⟨_, _, ⟨T14, L14, k14, n14⟩, -, X14, ⟨Lc14, hQ14, l14, y14, z14⟩, st14⟩ := X13.virtualBack hx (y := mth0) (z := mth0) hown (mvT hZ tw4) (mvT hZ tw5) (notFace_of_selects (args := #[]) (mvT hZ tw7)) (mvT hZ tw7) (mvT hZ tw6) (by decide) (backOf (W := 0) (fin_STOPPED l Z a0 hw [] w_DELIVERED w_FAILED w_STOPPED h0 n0 Z0 S_DELIVERED S_FAILED S_STOPPED H_w_STOPPED_w_DELIVERED H_w_STOPPED_w_FAILED) hZ tw8 tw2 (by decide) (by decide)) q14a q14c (g := (mkF m 69 #[.val (.int p0), .val (.int ((p0 &&& (2147483647 : Int32)) % (5 : Int32))), .val (.ref w_STOPPED), .val (.int (1 : Int32))] [(.ref w_STOPPED)])) rfl (by rw [hml]; rfl) (Steps.refl _) (argsL := []) (rest := []) (lenOf pd_Z rfl) rfl (Nat.le_of_eq rfl) (hb hby at_69) (fun _ _ => ⟨rfl, e13, (by decide : 0 + 0 ≤ _), (by decide : 0 + 0 ≤ _)⟩)
          dsimp only [Pt.U, Pt.locs, Pt.cells, Pt.slots] at X14 l14 y14 z14 st14 hQ14
          subst l14 y14 z14
          obtain ⟨rfl, Nq14, q14_0⟩ := hQ14
          have N14 := Fr.app N0 Nq14
          refine Goes.step (S' := T14.setTop (mkF m 81 #[.val (.int p0), .val (.int ((p0 &&& (2147483647 : Int32)) % (5 : Int32))), .val (.ref w_STOPPED), .val (.int (1 : Int32))] [(.int (1 : Int32))])) (fun t k => st14.trans (XS.iloadN X14.here hx rfl (hb hby at_72) rfl (XS.icmpNo X14.here hx rfl (hb hby at_73) rfl (teq ((by decide) : (1 : Int32) = (1 : Int32))).2 (XS.iconst X14.here hx rfl (hb hby at_76) (XS.goto X14.here hx rfl (pc0 := 77) (pc' := 81) rfl (hb hby at_77) (by decide) (by decide) k))))) ?_
          refine Goes.leave (g := (mkF m 81 #[.val (.int p0), .val (.int ((p0 &&& (2147483647 : Int32)) % (5 : Int32))), .val (.ref w_STOPPED), .val (.int (1 : Int32))] [(.int (1 : Int32))])) X14 Bd.notSynchronized (v := (some (.int (1 : Int32)))) (fun h => by rw [Bd.returns] at h; cases h) (fun fs hr => retN X14 hx (t := .boolean) Bd.returns (by simp) (hb hby at_81) hr) q14_0 ?_ (by decide) (by decide)
          exact ⟨rfl, N14⟩

set_option maxRecDepth 65536 in
set_option maxHeartbeats 40000000 in
theorem comes_1 {Post : Tables → Env → Array Value → State → Outcome → State → Prop} (hpost : ∀ tb e args s v u, (limb_1_1.after args s (.returned v) u = true ∧ limb_1_2.after args s (.returned v) u = true ∧ True) → FrameEnd s (.returned v) u (Jvm.fieldLocs frame_1_writes args s ++ Jvm.arrayLocs frame_1_arrays args s ++ Jvm.staticLocs frame_1_statics s) 0 0 → Post tb e args s (.returned v) u) :
    ArmFor flags0 classFile x code maxLocals ret World_1 tables_1 room_1 Calls_1 rest_1 Pre_1 Post := by
  intro l hfl _ _ p e ha hc hk s m args below hf hA hF happ hP
  obtain ⟨hcalls, hrest, hpre⟩ := hP
  obtain ⟨-, -, -, hnamed, -, -, -, hat⟩ := (Spec.applies_iff hf).mp happ
  obtain ⟨hg, hn⟩ := and_e (Cond.before_iff.mp (show (Jvm.Cond.and given_1 narrow_1).before args s = true from hpre))
  obtain ⟨g1, g2⟩ := and_e hg
  obtain ⟨g3, g4⟩ := and_e hn
  obtain ⟨g5, g6⟩ := and_e g4
  obtain ⟨g7, g8⟩ := and_e g6
  obtain ⟨g9, g10⟩ := and_e g8
  obtain ⟨g11, g12⟩ := and_e g10
  obtain ⟨g13, g14⟩ := and_e g12
  obtain ⟨g15, g16⟩ := and_e g14
  obtain ⟨g17, g18⟩ := and_e g16
  obtain ⟨g19, g20⟩ := and_e g18
  obtain ⟨w0, rfl⟩ : ∃ w0 : Value, args = #[w0] := by
    have hs : args.size = 1 := by simpa [Cond.value, given_1] using g1
    obtain ⟨L⟩ := args
    match L, hs with
    | [w0], _ => exact ⟨w0, rfl⟩
  have hw := fun d (hd : d ∈ tables_1) => atoms_spec (ws := Jvm.Cond.code x code maxLocals ret :: tables_1) hat d (List.mem_cons_of_mem _ hd)
  have hfit : Fit s := fun {y c} hc i hi => by
    obtain ⟨ha, rfl⟩ := Array.getElem?_eq_some_iff.mp hc
    have q := List.all_eq_true.mp ((Array.all_eq_true_iff_forall_mem.mp hF) _ (Array.getElem_mem ha)) i (List.mem_range.mpr hi)
    simpa [Array.getElem?_eq_getElem hi] using q
  obtain ⟨i0, ei0⟩ := is_v g2
  obtain rfl : w0 = (.int i0) := Option.some.inj ei0
  obtain ⟨w_SCHEDULED, ev_SCHEDULED⟩ := exa_v g3
  have E_w_SCHEDULED : Exa s s.heap w_SCHEDULED "com/example/dogged_dispatch/doggeddispatch/model/DeliveryStatus" := Exa.start ev_SCHEDULED g3
  have S_w_SCHEDULED : Sta s s.heap "com/example/dogged_dispatch/doggeddispatch/model/DeliveryStatus" "SCHEDULED" "Lcom/example/dogged_dispatch/doggeddispatch/model/DeliveryStatus;" (.ref w_SCHEDULED) := Sta.start ev_SCHEDULED (Or.inr ⟨(hw _ (List.mem_of_getElem? (i := 2) rfl)), (hw _ (List.mem_of_getElem? (i := 3) rfl))⟩)
  obtain ⟨w_DELIVERED, ev_DELIVERED⟩ := exa_v g5
  have E_w_DELIVERED : Exa s s.heap w_DELIVERED "com/example/dogged_dispatch/doggeddispatch/model/DeliveryStatus" := Exa.start ev_DELIVERED g5
  have S_w_DELIVERED : Sta s s.heap "com/example/dogged_dispatch/doggeddispatch/model/DeliveryStatus" "DELIVERED" "Lcom/example/dogged_dispatch/doggeddispatch/model/DeliveryStatus;" (.ref w_DELIVERED) := Sta.start ev_DELIVERED (Or.inr ⟨(hw _ (List.mem_of_getElem? (i := 2) rfl)), (hw _ (List.mem_of_getElem? (i := 10) rfl))⟩)
  have F_w_SCHEDULED : Fld s s.heap w_SCHEDULED "java/lang/Enum" "ordinal" "I" (.int (0 : Int32)) := Fld.start ((fld_at ev_SCHEDULED).symm.trans (own_eqI g7))
  have F_w_DELIVERED : Fld s s.heap w_DELIVERED "java/lang/Enum" "ordinal" "I" (.int (2 : Int32)) := Fld.start ((fld_at ev_DELIVERED).symm.trans (own_eqI g9))
  obtain ⟨w_FAILED, ev_FAILED⟩ := exa_v g11
  have E_w_FAILED : Exa s s.heap w_FAILED "com/example/dogged_dispatch/doggeddispatch/model/DeliveryStatus" := Exa.start ev_FAILED g11
  have S_w_FAILED : Sta s s.heap "com/example/dogged_dispatch/doggeddispatch/model/DeliveryStatus" "FAILED" "Lcom/example/dogged_dispatch/doggeddispatch/model/DeliveryStatus;" (.ref w_FAILED) := Sta.start ev_FAILED (Or.inr ⟨(hw _ (List.mem_of_getElem? (i := 2) rfl)), (hw _ (List.mem_of_getElem? (i := 12) rfl))⟩)
  have F_w_FAILED : Fld s s.heap w_FAILED "java/lang/Enum" "ordinal" "I" (.int (3 : Int32)) := Fld.start ((fld_at ev_FAILED).symm.trans (own_eqI g13))
  obtain ⟨w_STOPPED, ev_STOPPED⟩ := exa_v g15
  have E_w_STOPPED : Exa s s.heap w_STOPPED "com/example/dogged_dispatch/doggeddispatch/model/DeliveryStatus" := Exa.start ev_STOPPED g15
  have S_w_STOPPED : Sta s s.heap "com/example/dogged_dispatch/doggeddispatch/model/DeliveryStatus" "STOPPED" "Lcom/example/dogged_dispatch/doggeddispatch/model/DeliveryStatus;" (.ref w_STOPPED) := Sta.start ev_STOPPED (Or.inr ⟨(hw _ (List.mem_of_getElem? (i := 2) rfl)), (hw _ (List.mem_of_getElem? (i := 14) rfl))⟩)
  have F_w_STOPPED : Fld s s.heap w_STOPPED "java/lang/Enum" "ordinal" "I" (.int (4 : Int32)) := Fld.start ((fld_at ev_STOPPED).symm.trans (own_eqI g17))
  obtain ⟨w_SENDING, ev_SENDING⟩ := exa_v g19
  have E_w_SENDING : Exa s s.heap w_SENDING "com/example/dogged_dispatch/doggeddispatch/model/DeliveryStatus" := Exa.start ev_SENDING g19
  have S_w_SENDING : Sta s s.heap "com/example/dogged_dispatch/doggeddispatch/model/DeliveryStatus" "SENDING" "Lcom/example/dogged_dispatch/doggeddispatch/model/DeliveryStatus;" (.ref w_SENDING) := Sta.start ev_SENDING (Or.inr ⟨(hw _ (List.mem_of_getElem? (i := 2) rfl)), (hw _ (List.mem_of_getElem? (i := 17) rfl))⟩)
  have F_w_SENDING : Fld s s.heap w_SENDING "java/lang/Enum" "ordinal" "I" (.int (1 : Int32)) := Fld.start ((fld_at ev_SENDING).symm.trans (own_eqI g20))
  obtain ⟨n, o, h1, h2, h3, _, L, rfl, ⟨rfl, N⟩, hq⟩ := law l s _ hw tables_1 i0 w_SCHEDULED w_SENDING w_DELIVERED w_FAILED w_STOPPED s.heap s.heap.size (Nat.le_refl _) S_w_SCHEDULED S_w_SENDING S_w_DELIVERED S_w_FAILED S_w_STOPPED E_w_SCHEDULED E_w_SENDING E_w_DELIVERED E_w_FAILED E_w_STOPPED (Fld.ne F_w_SCHEDULED F_w_DELIVERED (by simp)) (Fld.ne F_w_SCHEDULED F_w_FAILED (by simp)) (Fld.ne F_w_SCHEDULED F_w_STOPPED (by simp)) (Fld.ne F_w_SENDING F_w_DELIVERED (by simp)) (Fld.ne F_w_SENDING F_w_FAILED (by simp)) (Fld.ne F_w_SENDING F_w_STOPPED (by simp)) (Fld.ne F_w_FAILED F_w_DELIVERED (by simp)) (Fld.ne F_w_STOPPED F_w_DELIVERED (by simp)) (Fld.ne F_w_STOPPED F_w_FAILED (by simp)) p e ha hc hk s m _ below hf ((Spec.applies_iff_loose hf).mp happ).1 ⟨rfl, State.Warmed39.refl s, rfl⟩ trivial
  refine ⟨n, _, h1, h2, h3, hpost _ _ _ _ _ _ ⟨Cond.after_iff.mpr rfl, Cond.after_iff.mpr (eq_i res_at (Term.int_eval (1)) rfl), trivial⟩ ⟨hq.1, hq.2.1, (hq.2.2.sift fun y hy => Or.inr (N y hy)).mono (by decide) (by decide)⟩⟩
theorem main_1_1 : Claimed_1_1 := comes_1 fun _ _ _ _ _ _ h hF => ⟨h.1, hF⟩
theorem main_1_2 : Claimed_1_2 := comes_1 fun _ _ _ _ _ _ h hF => ⟨h.2.1, hF⟩
end Jvm.Pilot.@@N@@
namespace Jvm.Pilot.@@N@@
open Jvm Jvm.ClassFile Sem Op Lib Jvm.Free Jvm.Stand Jvm.Pilot.@@N@@.Jvm.D
/-! MADE BY PROGRAM (witnessworld.py) out of the Statement's table words and the real class files: 12 classes; the members and pool entries that the words name. The judged class is class 1, her method 1. -/
namespace start1
open Jvm.ClassFile
def u (s : String) : CpInfo := .utf8 (stringToUtf16 s)
/-- a pool by its gaps: so many unusable entries, then the entry; so many at the end -/
def gap : Nat → List CpInfo → List CpInfo
  | 0, r => r
  | n + 1, r => .unusable :: gap n r
def poolList (es : List (Nat × CpInfo)) (last : Nat) : List CpInfo := es.foldr (fun e r => gap e.1 (e.2 :: r)) (gap last [])
def pool (es : List (Nat × CpInfo)) (last : Nat) : Array CpInfo := ⟨poolList es last⟩
def fileOf (pool : Array CpInfo) (this : Nat) (attrs : Array Attribute := #[]) (ms : Array MethodInfo := #[]) (fl : Nat := 33) (sup : Nat := 0) (ifs : Array Nat := #[]) (fds : Array FieldInfo := #[]) : ClassFile where
  minorVersion := 0
  majorVersion := 65
  constantPool := pool
  accessFlags := fl
  thisClass := this
  superClass := sup
  interfaces := ifs
  fields := fds
  methods := ms
  attributes := attrs
def plain (name : String) (sup : Option ClassId) : Class where
  name := name
  kind := .ordinary
  loader := none
  accessFlags := 33
  super := sup
  interfaces := #[]
  cf := none
  fields := #[]
  methods := #[]
  instanceTypes := #[]
  staticTypes := #[]
  resolved := #[]
  callSites := []
  init := .initialized
  statics := none
  mirror := none

def pool0 : Array CpInfo := pool [(5, u "<init>"), (0, u "()V"), (1, .class_ 10), (1, u "java/lang/Object")] 113

def k0m0 : Method := { name := "<init>", desc := "()V", sig := { parameters := [], returnType := none }, accessFlags := 1, code := none }
/-- java/lang/Object -/
def k0 : Class := { plain "java/lang/Object" none with
  accessFlags := 33
  interfaces := #[]
  cf := some (fileOf pool0 8 #[] #[{ accessFlags := 1, nameIndex := 5, descriptorIndex := 6, attributes := #[] }] 33 0 #[] #[])
  fields := #[]
  methods := #[k0m0]
  instanceTypes := #[]
  staticTypes := #[]
  resolved := Array.replicate 124 none
  statics := none }

def pool1 : Array CpInfo := pool [(2, .class_ 4), (1, u "java/lang/Object"), (0, u "<init>"), (0, u "()V"), (0, .integer 2147483647), (0, .fieldref 9 10), (0, .class_ 11), (0, .nameAndType 12 13), (0, u "com/example/dogged_dispatch/doggeddispatch/model/DeliveryStatus"), (0, u "SCHEDULED"), (0, u "Lcom/example/dogged_dispatch/doggeddispatch/model/DeliveryStatus;"), (0, .fieldref 9 15), (0, .nameAndType 16 13), (0, u "SENDING"), (0, .fieldref 9 18), (0, .nameAndType 19 13), (0, u "DELIVERED"), (0, .fieldref 9 21), (0, .nameAndType 22 13), (0, u "FAILED"), (0, .fieldref 9 24), (0, .nameAndType 25 13), (0, u "STOPPED"), (0, .methodref 9 27), (0, .nameAndType 28 29), (0, u "isFinal"), (0, u "()Z"), (0, .class_ 31), (0, u "com/example/dogged_dispatch/doggeddispatch/model/DeliveryStatusIsFinalPinLaw"), (2, u "law"), (0, u "(I)Z")] 3

def k1m0 : Method := { name := "<init>", desc := "()V", sig := { parameters := [], returnType := none }, accessFlags := 2, code := none }
def k1c1 : Code := { maxStack := 2, maxLocals := 4, code := code, exceptionTable := #[], attributes := #[] }
def k1m1 : Method := { name := "law", desc := "(I)Z", sig := { parameters := [.int], returnType := some .boolean }, accessFlags := 9, code := some k1c1 }
/-- com/example/dogged_dispatch/doggeddispatch/model/DeliveryStatusIsFinalPinLaw -/
def k1 : Class := { plain "com/example/dogged_dispatch/doggeddispatch/model/DeliveryStatusIsFinalPinLaw" (some 0) with
  accessFlags := 49
  interfaces := #[]
  cf := some (fileOf pool1 30 #[] #[{ accessFlags := 2, nameIndex := 5, descriptorIndex := 6, attributes := #[] }, { accessFlags := 9, nameIndex := 34, descriptorIndex := 35, attributes := #[] }] 49 2 #[] #[])
  fields := #[]
  methods := #[k1m0, k1m1]
  instanceTypes := #[]
  staticTypes := #[]
  resolved := Array.replicate 39 none
  statics := none }

def pool2 : Array CpInfo := pool [(1, .class_ 2), (0, u "java/lang/constant/Constable"), (0, .class_ 4), (0, u "java/lang/Object")] 6

/-- java/lang/constant/Constable -/
def k2 : Class := { plain "java/lang/constant/Constable" (some 0) with
  accessFlags := 1537
  interfaces := #[]
  cf := some (fileOf pool2 1 #[] #[] 1537 3 #[] #[])
  fields := #[]
  methods := #[]
  instanceTypes := #[]
  staticTypes := #[]
  resolved := Array.replicate 11 none
  statics := none }

def pool3 : Array CpInfo := pool [(1, .class_ 2), (0, u "java/lang/Comparable"), (0, .class_ 4), (0, u "java/lang/Object")] 7

/-- java/lang/Comparable -/
def k3 : Class := { plain "java/lang/Comparable" (some 0) with
  accessFlags := 1537
  interfaces := #[]
  cf := some (fileOf pool3 1 #[] #[] 1537 3 #[] #[])
  fields := #[]
  methods := #[]
  instanceTypes := #[]
  staticTypes := #[]
  resolved := Array.replicate 12 none
  statics := none }

def pool4 : Array CpInfo := pool [(1, .class_ 2), (0, u "java/io/Serializable"), (0, .class_ 4), (0, u "java/lang/Object")] 2

/-- java/io/Serializable -/
def k4 : Class := { plain "java/io/Serializable" (some 0) with
  accessFlags := 1537
  interfaces := #[]
  cf := some (fileOf pool4 1 #[] #[] 1537 3 #[] #[])
  fields := #[]
  methods := #[]
  instanceTypes := #[]
  staticTypes := #[]
  resolved := Array.replicate 7 none
  statics := none }

def pool5 : Array CpInfo := pool [(2, .class_ 4), (1, u "java/lang/Enum"), (0, u "name"), (0, u "Ljava/lang/String;"), (2, u "ordinal"), (0, u "I"), (1, .class_ 14), (1, u "java/lang/Object"), (4, u "hash"), (86, .class_ 108), (1, u "java/lang/Enum$EnumDesc"), (2, .class_ 112), (0, u "java/lang/constant/Constable"), (0, .class_ 114), (0, u "java/lang/Comparable"), (0, .class_ 116), (0, u "java/io/Serializable")] 87

/-- java/lang/Enum -/
def k5 : Class := { plain "java/lang/Enum" (some 0) with
  accessFlags := 1057
  interfaces := #[2, 3, 4]
  cf := some (fileOf pool5 2 #[.nestMembers #[106]] #[] 1057 12 #[111, 113, 115] #[{ accessFlags := 18, nameIndex := 5, descriptorIndex := 6, attributes := #[] }, { accessFlags := 18, nameIndex := 9, descriptorIndex := 10, attributes := #[] }, { accessFlags := 2, nameIndex := 19, descriptorIndex := 10, attributes := #[] }])
  fields := #[{ name := "name", type := (.object "java/lang/String"), accessFlags := 18, slot := 0, constantValue := 0 }, { name := "ordinal", type := .int, accessFlags := 18, slot := 1, constantValue := 0 }, { name := "hash", type := .int, accessFlags := 2, slot := 2, constantValue := 0 }]
  methods := #[]
  instanceTypes := #[(.object "java/lang/String"), .int, .int]
  staticTypes := #[]
  resolved := Array.replicate 204 none
  statics := none }

def pool6 : Array CpInfo := pool [(1, .class_ 2), (0, u "com/example/dogged_dispatch/doggeddispatch/model/DeliveryStatus"), (2, u "SCHEDULED"), (0, u "Lcom/example/dogged_dispatch/doggeddispatch/model/DeliveryStatus;"), (2, u "SENDING"), (0, .fieldref 1 11), (0, .nameAndType 12 6), (0, u "DELIVERED"), (0, .fieldref 1 14), (0, .nameAndType 15 6), (0, u "FAILED"), (0, .fieldref 1 17), (0, .nameAndType 18 6), (0, u "STOPPED"), (2, u "$VALUES"), (0, u "[Lcom/example/dogged_dispatch/doggeddispatch/model/DeliveryStatus;"), (6, .class_ 31), (1, u "java/lang/Enum"), (35, u "isFinal"), (0, u "()Z")] 8

def k6c0 : Code := { maxStack := 2, maxLocals := 1, code := prog_15_method_4_code, exceptionTable := #[], attributes := #[] }
def k6m0 : Method := { name := "isFinal", desc := "()Z", sig := { parameters := [], returnType := some .boolean }, accessFlags := 1, code := some k6c0 }
/-- com/example/dogged_dispatch/doggeddispatch/model/DeliveryStatus -/
def k6 : Class := { plain "com/example/dogged_dispatch/doggeddispatch/model/DeliveryStatus" (some 5) with
  accessFlags := 16433
  interfaces := #[]
  cf := some (fileOf pool6 1 #[] #[{ accessFlags := 1, nameIndex := 67, descriptorIndex := 68, attributes := #[] }] 16433 29 #[] #[{ accessFlags := 16409, nameIndex := 5, descriptorIndex := 6, attributes := #[] }, { accessFlags := 16409, nameIndex := 9, descriptorIndex := 6, attributes := #[] }, { accessFlags := 16409, nameIndex := 12, descriptorIndex := 6, attributes := #[] }, { accessFlags := 16409, nameIndex := 15, descriptorIndex := 6, attributes := #[] }, { accessFlags := 16409, nameIndex := 18, descriptorIndex := 6, attributes := #[] }, { accessFlags := 4122, nameIndex := 21, descriptorIndex := 22, attributes := #[] }])
  fields := #[{ name := "SCHEDULED", type := (.object "com/example/dogged_dispatch/doggeddispatch/model/DeliveryStatus"), accessFlags := 16409, slot := 0, constantValue := 0 }, { name := "SENDING", type := (.object "com/example/dogged_dispatch/doggeddispatch/model/DeliveryStatus"), accessFlags := 16409, slot := 1, constantValue := 0 }, { name := "DELIVERED", type := (.object "com/example/dogged_dispatch/doggeddispatch/model/DeliveryStatus"), accessFlags := 16409, slot := 2, constantValue := 0 }, { name := "FAILED", type := (.object "com/example/dogged_dispatch/doggeddispatch/model/DeliveryStatus"), accessFlags := 16409, slot := 3, constantValue := 0 }, { name := "STOPPED", type := (.object "com/example/dogged_dispatch/doggeddispatch/model/DeliveryStatus"), accessFlags := 16409, slot := 4, constantValue := 0 }, { name := "$VALUES", type := (.array (.object "com/example/dogged_dispatch/doggeddispatch/model/DeliveryStatus")), accessFlags := 4122, slot := 5, constantValue := 0 }]
  methods := #[k6m0]
  instanceTypes := #[(.object "java/lang/String"), .int, .int]
  staticTypes := #[(.object "com/example/dogged_dispatch/doggeddispatch/model/DeliveryStatus"), (.object "com/example/dogged_dispatch/doggeddispatch/model/DeliveryStatus"), (.object "com/example/dogged_dispatch/doggeddispatch/model/DeliveryStatus"), (.object "com/example/dogged_dispatch/doggeddispatch/model/DeliveryStatus"), (.object "com/example/dogged_dispatch/doggeddispatch/model/DeliveryStatus"), (.array (.object "com/example/dogged_dispatch/doggeddispatch/model/DeliveryStatus"))]
  resolved := Array.replicate 77 none
  statics := some 0 }

def pool7 : Array CpInfo := pool [(1, u "java/lang/Cloneable"), (0, .class_ 1), (0, u "java/lang/Object"), (0, .class_ 3)] 3

/-- java/lang/Cloneable -/
def k7 : Class := { plain "java/lang/Cloneable" (some 0) with
  accessFlags := 1537
  interfaces := #[]
  cf := some (fileOf pool7 2 #[] #[] 1537 4 #[] #[])
  fields := #[]
  methods := #[]
  instanceTypes := #[]
  staticTypes := #[]
  resolved := Array.replicate 8 none
  statics := none }

/-- the primitive byte -/
def k8 : Class := { plain "byte" none with kind := .primitive 'B', accessFlags := 0x411 }
/-- [B -/
def k9 : Class := { plain "[B" (some 0) with kind := .array 8 .byte, interfaces := #[7, 4], accessFlags := 1041 }

/-- the primitive int -/
def k10 : Class := { plain "int" none with kind := .primitive 'I', accessFlags := 0x411 }
/-- [I -/
def k11 : Class := { plain "[I" (some 0) with kind := .array 10 .int, interfaces := #[7, 4], accessFlags := 1041 }

def heap : Heap := #[{ cls := 6, slots := #[.ref 1, .ref 2, .ref 3, .ref 4, .ref 5, .null], vm := .statics 6 },
  { cls := 6, slots := #[.null, .int 0, .int 0], vm := .none },
  { cls := 6, slots := #[.null, .int 1, .int 0], vm := .none },
  { cls := 6, slots := #[.null, .int 2, .int 0], vm := .none },
  { cls := 6, slots := #[.null, .int 3, .int 0], vm := .none },
  { cls := 6, slots := #[.null, .int 4, .int 0], vm := .none }]
def classes : Array Class := #[k0, k1, k2, k3, k4, k5, k6, k7, k8, k9, k10, k11]
def interned : List (Array UInt16 × Addr) := []
def slotsUsed : Nat := 21
def theMethod : MethodId := ⟨1, 1⟩
def args0 : Array Value := #[.int 5]
def aboutOver (below : List Frame) : State where
  vm := { classes := classes, interned := interned.toArray }
  heap := heap
  slotsUsed := slotsUsed
  threads := #[{ frames := .invoking theMethod args0 :: below }]
def below0 : List Frame := [.native { method := ⟨0, 0⟩, args := #[] }]
def about1 : State := aboutOver below0
def p0 : Program := .bare "" "" ""
def e0 : Env := launch0.env 0 0 0
theorem w_frames : about1.frames = Frame.invoking theMethod args0 :: below0 := rfl
set_option maxRecDepth 65536 in
theorem w_args : argsFit about1.vm theMethod args0 = true := by decide +kernel
set_option maxRecDepth 65536 in
theorem w_heap : heapFits about1 = true := by decide +kernel
set_option maxRecDepth 65536 in
theorem w_runnable : about1.curStatus? = some .runnable := by decide +kernel
set_option maxRecDepth 65536 in
theorem w_alone : about1.alone = true := by decide +kernel
set_option maxRecDepth 65536 in
theorem w_named : about1.methodNamed? x = some theMethod := by decide +kernel
set_option maxRecDepth 65536 in
theorem w_hears : about1.hears theMethod below0 = true := by decide +kernel
set_option maxRecDepth 65536 in
theorem w_ripe : about1.ripe theMethod args0 below0 = true := by decide +kernel
theorem w_running : about1.status = .running := rfl
set_option maxRecDepth 65536 in
theorem w_room : about1.hasRoom e0.platform room_1 = true :=
  launch0.hasRoom_least _ room_1 (by decide +kernel) (by decide +kernel) (by decide +kernel) (by decide +kernel) (by decide +kernel) (by decide +kernel)
theorem allAtoms_all (ts : List Jvm.Cond) (a : Array Jvm.Value) (st : Jvm.State) : (allAtoms ts).before a st = ts.all (fun c => c.before a st) := by
  induction ts with
  | nil => rfl
  | cons c t ih =>
    show (Jvm.Cond.and c (allAtoms t)).before a st = _
    rw [Jvm.Cond.before_and, ih, List.all_cons]
def words1 : List Jvm.Cond := Jvm.Cond.code x code maxLocals ret :: tables_1
/-- a 'code' word, met by the world's own term for the bytes: nothing is compared byte by byte -/
theorem code_word {y : MethodName} {bytes : ByteArray} {mx : Nat} {rt : Option FieldType} {a : Array Value} {s : State} {m : MethodId} {meth : Method} {c : Code} (h1 : s.methodNamed? y = some m) (h2 : s.vm.method? m = some meth) (h3 : meth.code = some c) (h4 : c.code = bytes)
    (h5 : (c.maxLocals == mx && c.exceptionTable.isEmpty && decide (c.maxStack ≤ mostOperands) && decide (meth.sig.returnType = rt) && !meth.locks && decide (parseMethodDescriptor y.desc = some meth.sig)) = true) : (Jvm.Cond.code y bytes mx rt).before a s = true := by
  simp only [Bool.and_eq_true, beq_iff_eq, Bool.not_eq_true', decide_eq_true_eq] at h5
  obtain ⟨⟨⟨⟨⟨g1, g2⟩, g3⟩, g4⟩, g5⟩, g6⟩ := h5
  simp [Cond.before, Cond.holds, Cond.value, h1, h2, h3, h4, g1, g2, g3, g4, g5, g6]
def isCode : Jvm.Cond → Bool
  | .code _ _ _ _ => true
  | _ => false
theorem all_split {L : List Jvm.Cond} {P : Jvm.Cond → Bool} (h1 : L.all (fun c => isCode c || P c) = true) (h2 : ∀ c ∈ L.filter isCode, P c = true) : L.all P = true := by
  refine List.all_eq_true.mpr fun c hc => ?_
  have h := List.all_eq_true.mp h1 c hc
  rcases Bool.eq_false_or_eq_true (isCode c) with hi | hi
  · exact h2 c (List.mem_filter.mpr ⟨hc, hi⟩)
  · simpa [hi] using h
set_option maxRecDepth 65536 in
theorem w_c0 : (Jvm.Cond.code x code maxLocals ret).before args0 about1 = true := code_word (m := ⟨1, 1⟩) (meth := k1m1) (c := k1c1) (by decide +kernel) rfl rfl rfl (by decide +kernel)
set_option maxRecDepth 65536 in
theorem w_c1 : (Jvm.Cond.code ({ cls := "com/example/dogged_dispatch/doggeddispatch/model/DeliveryStatus", name := "isFinal", desc := "()Z" } : Jvm.MethodName) prog_15_method_4_code (1 : Nat) (Option.some Jvm.ClassFile.FieldType.boolean)).before args0 about1 = true := code_word (m := ⟨6, 0⟩) (meth := k6m0) (c := k6c0) (by decide +kernel) rfl rfl rfl (by decide +kernel)
def codes1 : List Jvm.Cond := [Jvm.Cond.code x code maxLocals ret, Jvm.Cond.code ({ cls := "com/example/dogged_dispatch/doggeddispatch/model/DeliveryStatus", name := "isFinal", desc := "()Z" } : Jvm.MethodName) prog_15_method_4_code (1 : Nat) (Option.some Jvm.ClassFile.FieldType.boolean)]
set_option maxRecDepth 65536 in
theorem codes_eq : words1.filter isCode = codes1 := rfl
theorem w_codes : ∀ c ∈ words1.filter isCode, c.before args0 about1 = true := by
  rw [codes_eq]
  intro c hc
  simp only [codes1, List.mem_cons, List.not_mem_nil, or_false] at hc
  rcases hc with rfl | rfl
  · exact w_c0
  · exact w_c1
set_option maxRecDepth 65536 in
theorem w_t1 : words1.all (fun c => isCode c || c.before args0 about1) = true := by decide +kernel
theorem w_tables : (allAtoms (Jvm.Cond.code x code maxLocals ret :: tables_1)).before args0 about1 = true := by
  rw [allAtoms_all]
  show words1.all (fun c => c.before args0 about1) = true
  refine all_split ?_ w_codes
  rw [w_t1]
set_option maxRecDepth 65536 in
theorem w_case : (Jvm.Cond.and given_1 narrow_1).before args0 about1 = true := by decide +kernel
theorem w_applies : (headSpec (Jvm.Cond.code x code maxLocals ret :: tables_1) room_1).applies x e0.platform about1 = true :=
  (Spec.applies_iff w_frames).mpr ⟨w_running, w_runnable, w_alone, w_named, w_hears, w_ripe, w_room, w_tables⟩
theorem atStart : AtStart classFile x code maxLocals ret World_1 tables_1 room_1 Calls_1 rest_1 Pre_1 launch0 p0 e0 about1 theMethod args0 below0 :=
  ⟨lists_1, trivial, launch0.admits_env _ _ _, launch0.least_env, fairChoices_fair.cas, fairChoices_fair.clock, w_frames, w_args, w_heap, w_applies, trivial, trivial, w_case⟩
end start1
theorem witness_1 : WitnessClaimed_1 := ⟨start1.p0, start1.e0, start1.about1, start1.theMethod, start1.args0, start1.below0, start1.atStart⟩
end Jvm.Pilot.@@N@@
