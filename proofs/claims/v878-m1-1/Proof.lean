import JvmDerived
import JvmDerived.Pilot.@@N@@Statement
import JvmDerived.Pilot.@@N@@Code
set_option linter.unusedVariables false
set_option linter.unusedSimpArgs false
namespace Jvm.RoadKit
open Sem ClassFile Op Lib Jvm.Stand Jvm.Free Jvm.LawKit
section New
variable {p : Program} {l : Launch} {e : Env} {R : Room} {s : State} {m : MethodId} {args : Array Value} {below : List Frame} {meth : Method} {c : Code} {T : State} {locs : List Loc} {cells slots : Nat}
theorem retI (X : Stand p l e R s m args below meth c T locs cells slots) (hx : p.tables.exec = Jvm.exec) {pc : Nat} {Ls : Array Slot} {z : Int32} {rest : List Value} (hret : meth.sig.returnType = some .int) (hd : decode c.code pc = .ok (.ireturn, 1)) {fs : List Frame}
    (hl : ∀ (f : JFrame) (acts : List Action), f.method = m → f.locked = none → f.entered = [] → (doReturn e (T.setTop f) acts (some (.int z))).1 = T.setFrames fs) : Steps p.tables e below (T.setTop (mkF m pc Ls (.int z :: rest))) (T.setFrames fs) := by
  have hm' : T.vm.method? m = some meth := X.method'
  have hn : narrow .int (.int z) = .int z := rfl
  show Steps p.tables e below (T.setTop { method := m, pc := pc, locals := Ls, stack := _ :: rest, locked := none }) _
  jvm_step X.here [X.here.top, hx, hd, hm', hret, hn]
  first | (intro acts; rw [hl _ acts rfl rfl rfl]) | rw [hl _ _ rfl rfl rfl]
  exact Steps.refl _
/-- from S the run comes to an end of which P holds -/
def Goes (p : Program) (e : Env) (below : List Frame) (P : State → Outcome → Prop) (S : State) : Prop := ∃ t o, Steps p.tables e below S t ∧ t.status = .running ∧ Ended t below o ∧ P t o
theorem Goes.step {P : State → Outcome → Prop} {S S' : State} (h : ∀ t, Steps p.tables e below S' t → Steps p.tables e below S t) (k : Goes p e below P S') : Goes p e below P S := by
  obtain ⟨t, o, h1, h2⟩ := k
  exact ⟨t, o, h t h1, h2⟩
/-- what a contract says of its end -/
def Pq (Q : Option Value → Heap → List Loc → Prop) (s : State) (kc ks : Nat) (t : State) (o : Outcome) : Prop := ∃ v L, o = .returned v ∧ Q v t.heap L ∧ FrameEnd s o t L kc ks
theorem Goes.leave {Q : Option Value → Heap → List Loc → Prop} {kc ks : Nat} {g : JFrame} {v : Option Value} {h : Heap} (X : Stand p l e R s m args below meth c T locs cells slots) (hlk : meth.locks = false) (hv : meth.sig.returnType = none → v = none)
    (st : ∀ fs, (∀ (f : JFrame) (acts : List Action), f.method = m → f.locked = none → f.entered = [] → (doReturn e (T.setTop f) acts v).1 = T.setFrames fs) → Steps p.tables e below (T.setTop g) (T.setFrames fs))
    (eT : T.heap = h) (hQ : Q v h locs) (hc : cells ≤ kc) (hs : slots ≤ ks) : Goes p e below (Pq Q s kc ks) (T.setTop g) := by
  obtain ⟨fs, hr, hrun, hended, hW, hsame⟩ := X.leave (v := v) hv hlk
  exact ⟨_, _, st fs hr, hrun, hended, v, locs, rfl, eT ▸ hQ, ⟨_, rfl⟩, hW, hsame.mono hc hs⟩
theorem own_eqI {args : Array Value} {first s : State} {o : Option Outcome} {idx : List Nat} {t : Term} {k : Int32} (h : (Cond.eq t (.int k)).value args first o s idx = some true) : t.eval args first o idx s = some (.int k) := by
  simp only [Cond.value, Term.eval] at h
  cases ht : t.eval args first o idx s with
  | none => simp [ht] at h
  | some x => cases x <;> simp [ht] at h ⊢; exact h
theorem own_stakeep {Z : State} {h h' : Heap} {ws : List Addr} {C n d : String} {w : Value} (F : Sta Z h C n d w) (K : Keep h h' ws) (q : ∀ x ∈ ws, ∀ cell : Cell, h[x]? = some cell → cell.vm.isStatics = false) : Sta Z h' C n d w := by
  obtain ⟨cf, i, k, f, st, cell, h1, h2, h3, h4, h5, h6, h7⟩ := F
  exact ⟨cf, i, k, f, st, cell, h1, h2, h3, h4, K.2.1 st cell h5 (fun hm => by rw [q st hm cell h5] at h6; cases h6), h6, h7⟩
theorem own_selP {s : State} {args : Array Value} {y : MethodName} {k : Nat} (w1 : (Cond.instanceMethod y).before args s = true) (w2 : (Cond.privateMethod y).before args s = true) (w3 : (Cond.instantiable y.cls k).before args s = true)
    (hy : y.cls ≠ "java/lang/invoke/MethodHandle" ∧ y.cls ≠ "java/lang/invoke/VarHandle") : (Cond.selects y.cls y y).before args s = true := by
  obtain ⟨mk, meth, hn, hm, -, -⟩ := Cond.instanceMethod_spec w1
  have hp := Cond.privateMethod_at w2 mk meth hn hm
  have hf := State.methodFound?_of_named hn hy
  have hc := findClass_of_methodNamed hn
  obtain ⟨c2, k2, i1, i2, -, i4, -⟩ := Cond.instantiable_spec w3
  cases hc.symm.trans i1
  simp only [Bool.or_eq_false_iff] at i4
  simp [Cond.before, Cond.holds, Cond.value, hc, hf, hn, selectMethod_private hm hp, i2, i4.1]
theorem own_neVV {Z : State} {h : Heap} {a b : Addr} {k1 k2 : ClassId} {t1 t2 : FieldType} {z1 z2 : Int32} {v1 v2 : List Value} {d1 d2 : Value} (A : Arv Z h a k1 t1 z1 v1 d1) (B : Arv Z h b k2 t2 z2 v2 d2) (q : t1 ≠ t2) : a ≠ b := fun e => by
  subst e
  obtain ⟨c1, A1, -⟩ := A
  obtain ⟨c2, B1, -⟩ := B
  cases A1.1.symm.trans B1.1
  obtain ⟨-, k, g1, comp, g2⟩ := A1.2.1
  obtain ⟨-, k', g1', comp', g2'⟩ := B1.2.1
  cases g1.symm.trans g1'
  rw [g2] at g2'
  cases g2'
  exact q rfl
end New
end Jvm.RoadKit
namespace Jvm.Pilot.@@N@@
open Jvm Jvm.ClassFile Sem Op Lib Jvm.Free Jvm.Stand Jvm.LawKit Jvm.RoadKit Bundle Jvm.Pilot.@@N@@.Jvm.D
abbrev rom0 : Room := { frames := 0, cells := 0, slots := 0, locals := 0 }
theorem pnm0 : plainName "com/example/supplant/supplant/core/Player" = true := by first | (simp [plainName, overriddenIn]; done) | decide +kernel
theorem pnm1 : plainName "com/example/supplant/supplant/core/PlayerOpponentPinLaw" = true := by first | (simp [plainName, overriddenIn]; done) | decide +kernel
abbrev mth0 : MethodName := ⟨"com/example/supplant/supplant/core/Player", "opponent", "()Lcom/example/supplant/supplant/core/Player;"⟩
theorem d_prog_12_method_4_code_0 : decode prog_12_method_4_code 0 = .ok (.aload_n 0, 1) := by decide +kernel
theorem d_prog_12_method_4_code_1 : decode prog_12_method_4_code 1 = .ok (.getstatic 3, 3) := by decide +kernel
theorem d_prog_12_method_4_code_4 : decode prog_12_method_4_code 4 = .ok (.if_acmp .ne 9, 3) := by decide +kernel
theorem d_prog_12_method_4_code_7 : decode prog_12_method_4_code 7 = .ok (.getstatic 7, 3) := by decide +kernel
theorem d_prog_12_method_4_code_10 : decode prog_12_method_4_code 10 = .ok (.goto 6, 3) := by decide +kernel
theorem d_prog_12_method_4_code_16 : decode prog_12_method_4_code 16 = .ok (.areturn, 1) := by decide +kernel
theorem d_prog_12_method_4_code_13 : decode prog_12_method_4_code 13 = .ok (.getstatic 3, 3) := by decide +kernel
theorem pd_Lcom_example_supplant_supplant_core_Player : parseMethodDescriptor "()Lcom/example/supplant/supplant/core/Player;" = some ⟨[], some (.object "com/example/supplant/supplant/core/Player")⟩ := by decide +kernel
theorem ef_opp_t (m : MethodId) (x0 : Addr) : entryFrame m #[(.ref x0)] 1 = mkF m 0 #[.val (.ref x0)] [] := by first | (simp [entryFrame, mkF, argsToLocals, Value.category]; done) | rfl
def Q_opp_t (Z : State) (w_P1 : Addr) (w_P2 : Addr) (h0 : Heap) (n0 : Nat) (v : Option Value) (h : Heap) (L : List Loc) : Prop := v = some (.ref w_P2) ∧ Fr n0 L ∧ h = h0
set_option maxRecDepth 65536 in
set_option maxHeartbeats 40000000 in
theorem opp_t (l : Launch) (Z : State) (a0 : Array Value) (hw : ∀ d ∈ tables_1, d.before a0 Z = true) (ws : List Jvm.Cond) (w_P1 : Addr) (w_P2 : Addr) (h0 : Heap) (n0 : Nat) (Z0 : n0 ≤ h0.size) (S1 : Sta Z h0 "com/example/supplant/supplant/core/Player" "P1" "Lcom/example/supplant/supplant/core/Player;" (.ref w_P1)) (S2 : Sta Z h0 "com/example/supplant/supplant/core/Player" "P2" "Lcom/example/supplant/supplant/core/Player;" (.ref w_P2)) :
    MetFree l mth0 (head1 (Jvm.Cond.code mth0 prog_12_method_4_code 1 (some (.object "com/example/supplant/supplant/core/Player")) :: ws) rom0) (fun a U => a = #[(.ref w_P1)] ∧ Z.Warmed39 U.vm ∧ U.heap = h0) (fun _ _ _ _ _ => True) (fun _ U o U' => ∃ v L, o = .returned v ∧ Q_opp_t Z w_P1 w_P2 h0 n0 v U'.heap L ∧ FrameEnd U o U' L rom0.cells rom0.slots) := by
  refine MetFree.of_bodySF (plainFor_of_name pnm0) hisR ?_
  intro p e s m args below meth c s₁ Bd hml0 hP hK
  obtain ⟨rfl, hZ, hh⟩ := hP
  have hx := Bd.exec
  have hby := Bd.bytes
  have hml : c.maxLocals = 1 := hml0
  have hown : s.vm.findClass "com/example/supplant/supplant/core/Player" = some m.cls := findClass_of_methodNamed Bd.named
  have hnm := (name_of_methodNamed Bd.named Bd.method).1
  have X0 : Stand p l e rom0 s m #[(.ref w_P1)] below meth c s₁ [] 0 0 := Stand.of_body Bd
  have e0 : s₁.heap = h0 := by rw [← hh, Bd.state]; rfl
  have N0 := Fr.nil n0
  have tw10 := hw _ (List.mem_of_getElem? (i := 10) rfl)
  have tw11 := hw _ (List.mem_of_getElem? (i := 11) rfl)
  show Goes p e below (Pq (Q_opp_t Z w_P1 w_P2 h0 n0) s rom0.cells rom0.slots) (s₁.setTop (entryFrame m #[(.ref w_P1)] 1))
  refine Goes.step (S' := s₁.setTop (mkF m 0 #[.val (.ref w_P1)] [])) (fun t k => castTop (ef_opp_t m w_P1) k) ?_
  refine Goes.step (S' := s₁.setTop (mkF m 1 #[.val (.ref w_P1)] [(.ref w_P1)])) (fun t k => XS.aloadN X0.here hx rfl (hb hby d_prog_12_method_4_code_0) rfl rfl k) ?_
  obtain ⟨T1, X1, e1, st1⟩ := getS2 X0 hx hZ hown (host := "") (Or.inl tw10) Via.refl e0 S1 (g := (mkF m 1 #[.val (.ref w_P1)] [(.ref w_P1)])) rfl (hb hby d_prog_12_method_4_code_1)
  refine Goes.step (S' := T1.setTop (mkF m 7 #[.val (.ref w_P1)] [])) (fun t k => st1 _ (Jvm.RoadKit.acmp (g := (mkF m 4 #[.val (.ref w_P1)] [(.ref w_P1), (.ref w_P1)])) X1 hx rfl rfl rfl (pc0 := 4) (pc' := 7) (same := true) rfl (hb hby d_prog_12_method_4_code_4) rfl (decide_eq_true rfl) (by decide) (by decide) k)) ?_
  obtain ⟨T2, X2, e2, st2⟩ := getS2 X1 hx hZ hown (host := "") (Or.inl tw11) Via.refl e1 S2 (g := (mkF m 7 #[.val (.ref w_P1)] [])) rfl (hb hby d_prog_12_method_4_code_7)
  refine Goes.step (S' := T2.setTop (mkF m 16 #[.val (.ref w_P1)] [(.ref w_P2)])) (fun t k => st2 _ (XS.goto X2.here hx rfl (pc0 := 10) (pc' := 16) rfl (hb hby d_prog_12_method_4_code_10) (by decide) (by decide) k)) ?_
  refine Goes.leave (g := (mkF m 16 #[.val (.ref w_P1)] [(.ref w_P2)])) X2 Bd.notSynchronized (v := (some (.ref w_P2))) (fun h => by rw [Bd.returns] at h; cases h) (fun fs hr => by jvm_step X2.here [X2.here.top, hx, (hb hby d_prog_12_method_4_code_16), X2.method', Bd.returns, Value.isRef, FieldType.isReference]; (first | (intro acts; rw [hr _ acts rfl rfl rfl]) | rw [hr _ _ rfl rfl rfl]); exact Steps.refl _) e2 ?_ (by decide) (by decide)
  exact ⟨rfl, N0, rfl⟩

theorem ef_opp_f (m : MethodId) (x0 : Addr) : entryFrame m #[(.ref x0)] 1 = mkF m 0 #[.val (.ref x0)] [] := by first | (simp [entryFrame, mkF, argsToLocals, Value.category]; done) | rfl
def Q_opp_f (Z : State) (a1 : Addr) (w_P1 : Addr) (w_P2 : Addr) (h0 : Heap) (n0 : Nat) (v : Option Value) (h : Heap) (L : List Loc) : Prop := v = some (.ref w_P1) ∧ Fr n0 L ∧ h = h0
set_option maxRecDepth 65536 in
set_option maxHeartbeats 40000000 in
theorem opp_f (l : Launch) (Z : State) (a0 : Array Value) (hw : ∀ d ∈ tables_1, d.before a0 Z = true) (ws : List Jvm.Cond) (a1 : Addr) (w_P1 : Addr) (w_P2 : Addr) (h0 : Heap) (n0 : Nat) (Z0 : n0 ≤ h0.size) (S1 : Sta Z h0 "com/example/supplant/supplant/core/Player" "P1" "Lcom/example/supplant/supplant/core/Player;" (.ref w_P1)) (S2 : Sta Z h0 "com/example/supplant/supplant/core/Player" "P2" "Lcom/example/supplant/supplant/core/Player;" (.ref w_P2)) (Hne : a1 ≠ w_P1) :
    MetFree l mth0 (head1 (Jvm.Cond.code mth0 prog_12_method_4_code 1 (some (.object "com/example/supplant/supplant/core/Player")) :: ws) rom0) (fun a U => a = #[(.ref a1)] ∧ Z.Warmed39 U.vm ∧ U.heap = h0) (fun _ _ _ _ _ => True) (fun _ U o U' => ∃ v L, o = .returned v ∧ Q_opp_f Z a1 w_P1 w_P2 h0 n0 v U'.heap L ∧ FrameEnd U o U' L rom0.cells rom0.slots) := by
  refine MetFree.of_bodySF (plainFor_of_name pnm0) hisR ?_
  intro p e s m args below meth c s₁ Bd hml0 hP hK
  obtain ⟨rfl, hZ, hh⟩ := hP
  have hx := Bd.exec
  have hby := Bd.bytes
  have hml : c.maxLocals = 1 := hml0
  have hown : s.vm.findClass "com/example/supplant/supplant/core/Player" = some m.cls := findClass_of_methodNamed Bd.named
  have hnm := (name_of_methodNamed Bd.named Bd.method).1
  have X0 : Stand p l e rom0 s m #[(.ref a1)] below meth c s₁ [] 0 0 := Stand.of_body Bd
  have e0 : s₁.heap = h0 := by rw [← hh, Bd.state]; rfl
  have N0 := Fr.nil n0
  have tw10 := hw _ (List.mem_of_getElem? (i := 10) rfl)
  show Goes p e below (Pq (Q_opp_f Z a1 w_P1 w_P2 h0 n0) s rom0.cells rom0.slots) (s₁.setTop (entryFrame m #[(.ref a1)] 1))
  refine Goes.step (S' := s₁.setTop (mkF m 0 #[.val (.ref a1)] [])) (fun t k => castTop (ef_opp_f m a1) k) ?_
  refine Goes.step (S' := s₁.setTop (mkF m 1 #[.val (.ref a1)] [(.ref a1)])) (fun t k => XS.aloadN X0.here hx rfl (hb hby d_prog_12_method_4_code_0) rfl rfl k) ?_
  obtain ⟨T1, X1, e1, st1⟩ := getS2 X0 hx hZ hown (host := "") (Or.inl tw10) Via.refl e0 S1 (g := (mkF m 1 #[.val (.ref a1)] [(.ref a1)])) rfl (hb hby d_prog_12_method_4_code_1)
  refine Goes.step (S' := T1.setTop (mkF m 13 #[.val (.ref a1)] [])) (fun t k => st1 _ (Jvm.RoadKit.acmp (g := (mkF m 4 #[.val (.ref a1)] [(.ref w_P1), (.ref a1)])) X1 hx rfl rfl rfl (pc0 := 4) (pc' := 13) (same := false) rfl (hb hby d_prog_12_method_4_code_4) rfl (decide_eq_false fun q => Hne (Value.ref.inj q)) (by decide) (by decide) k)) ?_
  obtain ⟨T2, X2, e2, st2⟩ := getS2 X1 hx hZ hown (host := "") (Or.inl tw10) Via.refl e1 S1 (g := (mkF m 13 #[.val (.ref a1)] [])) rfl (hb hby d_prog_12_method_4_code_13)
  refine Goes.step (S' := T2.setTop (mkF m 16 #[.val (.ref a1)] [(.ref w_P1)])) (fun t k => st2 _ k) ?_
  refine Goes.leave (g := (mkF m 16 #[.val (.ref a1)] [(.ref w_P1)])) X2 Bd.notSynchronized (v := (some (.ref w_P1))) (fun h => by rw [Bd.returns] at h; cases h) (fun fs hr => by jvm_step X2.here [X2.here.top, hx, (hb hby d_prog_12_method_4_code_16), X2.method', Bd.returns, Value.isRef, FieldType.isReference]; (first | (intro acts; rw [hr _ acts rfl rfl rfl]) | rw [hr _ _ rfl rfl rfl]); exact Steps.refl _) e2 ?_ (by decide) (by decide)
  exact ⟨rfl, N0, rfl⟩

theorem ef_law (m : MethodId) (x0 : Int32) : entryFrame m #[(.int x0)] maxLocals = mkF m 0 #[.val (.int x0), .unset, .unset, .unset, .unset] [] := by first | (simp [entryFrame, mkF, argsToLocals, Value.category, maxLocals]; done) | rfl
def Q_law (Z : State) (p0 : Int32) (w_P1 : Addr) (w_P2 : Addr) (h0 : Heap) (n0 : Nat) (v : Option Value) (h : Heap) (L : List Loc) : Prop := v = some (.int (1 : Int32)) ∧ Fr n0 L
set_option maxRecDepth 65536 in
set_option maxHeartbeats 40000000 in
theorem law (l : Launch) (Z : State) (a0 : Array Value) (hw : ∀ d ∈ tables_1, d.before a0 Z = true) (ws : List Jvm.Cond) (p0 : Int32) (w_P1 : Addr) (w_P2 : Addr) (h0 : Heap) (n0 : Nat) (Z0 : n0 ≤ h0.size) (S1 : Sta Z h0 "com/example/supplant/supplant/core/Player" "P1" "Lcom/example/supplant/supplant/core/Player;" (.ref w_P1)) (S2 : Sta Z h0 "com/example/supplant/supplant/core/Player" "P2" "Lcom/example/supplant/supplant/core/Player;" (.ref w_P2)) (E1 : Exa Z h0 w_P1 "com/example/supplant/supplant/core/Player") (E2 : Exa Z h0 w_P2 "com/example/supplant/supplant/core/Player") (Hne : w_P2 ≠ w_P1) :
    MetFree l x (head1 (Jvm.Cond.code x code maxLocals ret :: ws) room_1) (fun a U => a = #[(.int p0)] ∧ Z.Warmed39 U.vm ∧ U.heap = h0) (fun _ _ _ _ _ => True) (fun _ U o U' => ∃ v L, o = .returned v ∧ Q_law Z p0 w_P1 w_P2 h0 n0 v U'.heap L ∧ FrameEnd U o U' L room_1.cells room_1.slots) := by
  refine MetFree.of_bodySF (plainFor_of_name pnm1) hisR ?_
  intro p e s m args below meth c s₁ Bd hml0 hP hK
  obtain ⟨rfl, hZ, hh⟩ := hP
  have hx := Bd.exec
  have hby := Bd.bytes
  have hml : c.maxLocals = 5 := hml0
  have hown : s.vm.findClass "com/example/supplant/supplant/core/PlayerOpponentPinLaw" = some m.cls := findClass_of_methodNamed Bd.named
  have hnm := (name_of_methodNamed Bd.named Bd.method).1
  have X0 : Stand p l e room_1 s m #[(.int p0)] below meth c s₁ [] 0 0 := Stand.of_body Bd
  have e0 : s₁.heap = h0 := by rw [← hh, Bd.state]; rfl
  have N0 := Fr.nil n0
  have tw0 := hw _ (List.mem_of_getElem? (i := 0) rfl)
  have tw1 := hw _ (List.mem_of_getElem? (i := 1) rfl)
  have tw3 := hw _ (List.mem_of_getElem? (i := 3) rfl)
  have tw5 := hw _ (List.mem_of_getElem? (i := 5) rfl)
  have tw6 := hw _ (List.mem_of_getElem? (i := 6) rfl)
  have tw7 := hw _ (List.mem_of_getElem? (i := 7) rfl)
  have tw8 := hw _ (List.mem_of_getElem? (i := 8) rfl)
  have tw9 := hw _ (List.mem_of_getElem? (i := 9) rfl)
  show Goes p e below (Pq (Q_law Z p0 w_P1 w_P2 h0 n0) s room_1.cells room_1.slots) (s₁.setTop (entryFrame m #[(.int p0)] maxLocals))
  refine Goes.step (S' := s₁.setTop (mkF m 0 #[.val (.int p0), .unset, .unset, .unset, .unset] [])) (fun t k => castTop (ef_law m p0) k) ?_
  refine Goes.step (S' := s₁.setTop (mkF m 3 #[.val (.int p0), .unset, .unset, .unset, .unset] [(.int (p0 &&& (1 : Int32)))])) (fun t k => XS.iloadN X0.here hx rfl (hb hby at_0) rfl (XS.iconst X0.here hx rfl (hb hby at_1) (XS.iand X0.here hx rfl (hb hby at_2) rfl k))) ?_
  by_cases hc1 : (p0 &&& (1 : Int32)) = (0 : Int32)
  case pos =>
    refine Goes.step (S' := s₁.setTop (mkF m 16 #[.val (.int p0), .val (.int (1 : Int32)), .unset, .unset, .unset] [])) (fun t k => XS.ifNo X0.here hx rfl (hb hby at_3) rfl ((if0 _ _).trans (teq hc1).2) (XS.iconst X0.here hx rfl (hb hby at_6) (XS.goto X0.here hx rfl (pc0 := 7) (pc' := 11) rfl (hb hby at_7) (by decide) (by decide) (XS.istoreN X0.here hx rfl (hb hby at_11) rfl (l' := #[.val (.int p0), .val (.int (1 : Int32)), .unset, .unset, .unset]) rfl (XS.iloadN X0.here hx rfl (hb hby at_12) rfl (XS.ifNo X0.here hx rfl (hb hby at_13) rfl ((if0 _ _).trans (feq ((by decide) : ¬ ((1 : Int32) = (0 : Int32)))).1) k)))))) ?_
    obtain ⟨T2, X2, e2, st2⟩ := getS2 X0 hx hZ hown (host := "") (Or.inl tw0) Via.refl e0 S1 (g := (mkF m 16 #[.val (.int p0), .val (.int (1 : Int32)), .unset, .unset, .unset] [])) rfl (hb hby at_16)
    refine Goes.step (S' := T2.setTop (mkF m 30 #[.val (.int p0), .val (.int (1 : Int32)), .val (.ref w_P1), .unset, .unset] [])) (fun t k => st2 _ (XS.goto X2.here hx rfl (pc0 := 19) (pc' := 25) rfl (hb hby at_19) (by decide) (by decide) (XS.astoreN X2.here hx rfl (hb hby at_25) rfl rfl (l' := #[.val (.int p0), .val (.int (1 : Int32)), .val (.ref w_P1), .unset, .unset]) rfl (XS.iloadN X2.here hx rfl (hb hby at_26) rfl (XS.ifNo X2.here hx rfl (hb hby at_27) rfl ((if0 _ _).trans (feq ((by decide) : ¬ ((1 : Int32) = (0 : Int32)))).1) k))))) ?_
    obtain ⟨T3, X3, e3, st3⟩ := getS2 X2 hx hZ hown (host := "") (Or.inl tw3) Via.refl e2 S2 (g := (mkF m 30 #[.val (.int p0), .val (.int (1 : Int32)), .val (.ref w_P1), .unset, .unset] [])) rfl (hb hby at_30)
    refine Goes.step (S' := T3.setTop (mkF m 41 #[.val (.int p0), .val (.int (1 : Int32)), .val (.ref w_P1), .val (.ref w_P2), .unset] [(.ref w_P1)])) (fun t k => st3 _ (XS.goto X3.here hx rfl (pc0 := 33) (pc' := 39) rfl (hb hby at_33) (by decide) (by decide) (XS.astoreN X3.here hx rfl (hb hby at_39) rfl rfl (l' := #[.val (.int p0), .val (.int (1 : Int32)), .val (.ref w_P1), .val (.ref w_P2), .unset]) rfl (XS.aloadN X3.here hx rfl (hb hby at_40) rfl rfl k)))) ?_
    obtain ⟨cq4, kq4, q4a, q4b, q4c⟩ := isOf hZ e3 E1
    obtain ⟨_, _, ⟨T4, L4, k4, n4⟩, -, X4, ⟨Lc4, hQ4, l4, y4, z4⟩, st4⟩ := X3.virtualBack hx (y := mth0) (z := mth0) hown (mvT hZ tw5) (mvT hZ tw6) (notFace_of_selects (args := #[]) (mvT hZ tw8)) (mvT hZ tw8) (mvT hZ tw7) (by decide) (backOf (W := 0) (opp_t l Z a0 hw [] w_P1 w_P2 h0 n0 Z0 S1 S2) hZ tw9 tw1 (by decide) (by decide)) q4a q4c (g := (mkF m 41 #[.val (.int p0), .val (.int (1 : Int32)), .val (.ref w_P1), .val (.ref w_P2), .unset] [(.ref w_P1)])) rfl (by rw [hml]; rfl) (Steps.refl _) (argsL := []) (rest := []) (lenOf pd_Lcom_example_supplant_supplant_core_Player rfl) rfl (Nat.le_of_eq rfl) (hb hby at_41) (fun _ _ => ⟨rfl, e3, (by decide : 0 + 0 ≤ _), (by decide : 0 + 0 ≤ _)⟩)
    dsimp only [Pt.U, Pt.locs, Pt.cells, Pt.slots] at X4 l4 y4 z4 st4 hQ4
    subst l4 y4 z4
    obtain ⟨rfl, Nq4, q4_0⟩ := hQ4
    have N4 := Fr.app N0 Nq4
    refine Goes.step (S' := T4.setTop (mkF m 63 #[.val (.int p0), .val (.int (1 : Int32)), .val (.ref w_P1), .val (.ref w_P2), .val (.ref w_P2)] [(.ref w_P2)])) (fun t k => st4.trans (XS.astore X4.here hx rfl (hb hby at_44) rfl rfl (l' := #[.val (.int p0), .val (.int (1 : Int32)), .val (.ref w_P1), .val (.ref w_P2), .val (.ref w_P2)]) rfl (XS.aload X4.here hx rfl (hb hby at_46) rfl rfl (XS.ifnonnullYes X4.here hx rfl (pc0 := 48) (pc' := 53) rfl (hb hby at_48) rfl (by decide) (by decide) (XS.aload X4.here hx rfl (hb hby at_53) rfl rfl (XS.aloadN X4.here hx rfl (hb hby at_55) rfl rfl (Jvm.RoadKit.acmp (g := (mkF m 56 #[.val (.int p0), .val (.int (1 : Int32)), .val (.ref w_P1), .val (.ref w_P2), .val (.ref w_P2)] [(.ref w_P1), (.ref w_P2)])) X4 hx rfl rfl rfl (pc0 := 56) (pc' := 61) (same := false) rfl (hb hby at_56) rfl (decide_eq_false fun q => Hne (Value.ref.inj q)) (by decide) (by decide) (XS.aload X4.here hx rfl (hb hby at_61) rfl rfl k)))))))) ?_
    refine Goes.step (S' := T4.setTop (mkF m 71 #[.val (.int p0), .val (.int (1 : Int32)), .val (.ref w_P1), .val (.ref w_P2), .val (.ref w_P2)] [(.ref w_P2)])) (fun t k => XS.aloadN X4.here hx rfl (hb hby at_63) rfl rfl (Jvm.RoadKit.acmp (g := (mkF m 64 #[.val (.int p0), .val (.int (1 : Int32)), .val (.ref w_P1), .val (.ref w_P2), .val (.ref w_P2)] [(.ref w_P2), (.ref w_P2)])) X4 hx rfl rfl rfl (pc0 := 64) (pc' := 69) (same := true) rfl (hb hby at_64) rfl (decide_eq_true rfl) (by decide) (by decide) (XS.aload X4.here hx rfl (hb hby at_69) rfl rfl k))) ?_
    obtain ⟨cq5, kq5, q5a, q5b, q5c⟩ := isOf hZ q4_0 E2
    obtain ⟨_, _, ⟨T5, L5, k5, n5⟩, -, X5, ⟨Lc5, hQ5, l5, y5, z5⟩, st5⟩ := X4.virtualBack hx (y := mth0) (z := mth0) hown (mvT hZ tw5) (mvT hZ tw6) (notFace_of_selects (args := #[]) (mvT hZ tw8)) (mvT hZ tw8) (mvT hZ tw7) (by decide) (backOf (W := 0) (opp_f l Z a0 hw [] w_P2 w_P1 w_P2 h0 n0 Z0 S1 S2 Hne) hZ tw9 tw1 (by decide) (by decide)) q5a q5c (g := (mkF m 71 #[.val (.int p0), .val (.int (1 : Int32)), .val (.ref w_P1), .val (.ref w_P2), .val (.ref w_P2)] [(.ref w_P2)])) rfl (by rw [hml]; rfl) (Steps.refl _) (argsL := []) (rest := []) (lenOf pd_Lcom_example_supplant_supplant_core_Player rfl) rfl (Nat.le_of_eq rfl) (hb hby at_71) (fun _ _ => ⟨rfl, q4_0, (by decide : 0 + 0 ≤ _), (by decide : 0 + 0 ≤ _)⟩)
    dsimp only [Pt.U, Pt.locs, Pt.cells, Pt.slots] at X5 l5 y5 z5 st5 hQ5
    subst l5 y5 z5
    obtain ⟨rfl, Nq5, q5_0⟩ := hQ5
    have N5 := Fr.app N4 Nq5
    refine Goes.step (S' := T5.setTop (mkF m 83 #[.val (.int p0), .val (.int (1 : Int32)), .val (.ref w_P1), .val (.ref w_P2), .val (.ref w_P2)] [(.int (1 : Int32))])) (fun t k => st5.trans (XS.aloadN X5.here hx rfl (hb hby at_74) rfl rfl (Jvm.RoadKit.acmp (g := (mkF m 75 #[.val (.int p0), .val (.int (1 : Int32)), .val (.ref w_P1), .val (.ref w_P2), .val (.ref w_P2)] [(.ref w_P1), (.ref w_P1)])) X5 hx rfl rfl rfl (pc0 := 75) (pc' := 78) (same := true) rfl (hb hby at_75) rfl (decide_eq_true rfl) (by decide) (by decide) (XS.iconst X5.here hx rfl (hb hby at_78) (XS.goto X5.here hx rfl (pc0 := 79) (pc' := 83) rfl (hb hby at_79) (by decide) (by decide) k))))) ?_
    refine Goes.leave (g := (mkF m 83 #[.val (.int p0), .val (.int (1 : Int32)), .val (.ref w_P1), .val (.ref w_P2), .val (.ref w_P2)] [(.int (1 : Int32))])) X5 Bd.notSynchronized (v := (some (.int (1 : Int32)))) (fun h => by rw [Bd.returns] at h; cases h) (fun fs hr => retN X5 hx (t := .boolean) Bd.returns (by simp) (hb hby at_83) hr) q5_0 ?_ (by decide) (by decide)
    exact ⟨rfl, N5⟩
  case neg =>
    refine Goes.step (S' := s₁.setTop (mkF m 22 #[.val (.int p0), .val (.int (0 : Int32)), .unset, .unset, .unset] [])) (fun t k => XS.ifYes X0.here hx rfl (pc0 := 3) (pc' := 10) rfl (hb hby at_3) rfl ((if0 _ _).trans (feq hc1).2) (by decide) (by decide) (XS.iconst X0.here hx rfl (hb hby at_10) (XS.istoreN X0.here hx rfl (hb hby at_11) rfl (l' := #[.val (.int p0), .val (.int (0 : Int32)), .unset, .unset, .unset]) rfl (XS.iloadN X0.here hx rfl (hb hby at_12) rfl (XS.ifYes X0.here hx rfl (pc0 := 13) (pc' := 22) rfl (hb hby at_13) rfl ((if0 _ _).trans (teq ((by decide) : (0 : Int32) = (0 : Int32))).1) (by decide) (by decide) k))))) ?_
    obtain ⟨T6, X6, e6, st6⟩ := getS2 X0 hx hZ hown (host := "") (Or.inl tw3) Via.refl e0 S2 (g := (mkF m 22 #[.val (.int p0), .val (.int (0 : Int32)), .unset, .unset, .unset] [])) rfl (hb hby at_22)
    refine Goes.step (S' := T6.setTop (mkF m 36 #[.val (.int p0), .val (.int (0 : Int32)), .val (.ref w_P2), .unset, .unset] [])) (fun t k => st6 _ (XS.astoreN X6.here hx rfl (hb hby at_25) rfl rfl (l' := #[.val (.int p0), .val (.int (0 : Int32)), .val (.ref w_P2), .unset, .unset]) rfl (XS.iloadN X6.here hx rfl (hb hby at_26) rfl (XS.ifYes X6.here hx rfl (pc0 := 27) (pc' := 36) rfl (hb hby at_27) rfl ((if0 _ _).trans (teq ((by decide) : (0 : Int32) = (0 : Int32))).1) (by decide) (by decide) k)))) ?_
    obtain ⟨T7, X7, e7, st7⟩ := getS2 X6 hx hZ hown (host := "") (Or.inl tw0) Via.refl e6 S1 (g := (mkF m 36 #[.val (.int p0), .val (.int (0 : Int32)), .val (.ref w_P2), .unset, .unset] [])) rfl (hb hby at_36)
    refine Goes.step (S' := T7.setTop (mkF m 41 #[.val (.int p0), .val (.int (0 : Int32)), .val (.ref w_P2), .val (.ref w_P1), .unset] [(.ref w_P2)])) (fun t k => st7 _ (XS.astoreN X7.here hx rfl (hb hby at_39) rfl rfl (l' := #[.val (.int p0), .val (.int (0 : Int32)), .val (.ref w_P2), .val (.ref w_P1), .unset]) rfl (XS.aloadN X7.here hx rfl (hb hby at_40) rfl rfl k))) ?_
    obtain ⟨cq8, kq8, q8a, q8b, q8c⟩ := isOf hZ e7 E2
    obtain ⟨_, _, ⟨T8, L8, k8, n8⟩, -, X8, ⟨Lc8, hQ8, l8, y8, z8⟩, st8⟩ := X7.virtualBack hx (y := mth0) (z := mth0) hown (mvT hZ tw5) (mvT hZ tw6) (notFace_of_selects (args := #[]) (mvT hZ tw8)) (mvT hZ tw8) (mvT hZ tw7) (by decide) (backOf (W := 0) (opp_f l Z a0 hw [] w_P2 w_P1 w_P2 h0 n0 Z0 S1 S2 Hne) hZ tw9 tw1 (by decide) (by decide)) q8a q8c (g := (mkF m 41 #[.val (.int p0), .val (.int (0 : Int32)), .val (.ref w_P2), .val (.ref w_P1), .unset] [(.ref w_P2)])) rfl (by rw [hml]; rfl) (Steps.refl _) (argsL := []) (rest := []) (lenOf pd_Lcom_example_supplant_supplant_core_Player rfl) rfl (Nat.le_of_eq rfl) (hb hby at_41) (fun _ _ => ⟨rfl, e7, (by decide : 0 + 0 ≤ _), (by decide : 0 + 0 ≤ _)⟩)
    dsimp only [Pt.U, Pt.locs, Pt.cells, Pt.slots] at X8 l8 y8 z8 st8 hQ8
    subst l8 y8 z8
    obtain ⟨rfl, Nq8, q8_0⟩ := hQ8
    have N8 := Fr.app N0 Nq8
    refine Goes.step (S' := T8.setTop (mkF m 63 #[.val (.int p0), .val (.int (0 : Int32)), .val (.ref w_P2), .val (.ref w_P1), .val (.ref w_P1)] [(.ref w_P1)])) (fun t k => st8.trans (XS.astore X8.here hx rfl (hb hby at_44) rfl rfl (l' := #[.val (.int p0), .val (.int (0 : Int32)), .val (.ref w_P2), .val (.ref w_P1), .val (.ref w_P1)]) rfl (XS.aload X8.here hx rfl (hb hby at_46) rfl rfl (XS.ifnonnullYes X8.here hx rfl (pc0 := 48) (pc' := 53) rfl (hb hby at_48) rfl (by decide) (by decide) (XS.aload X8.here hx rfl (hb hby at_53) rfl rfl (XS.aloadN X8.here hx rfl (hb hby at_55) rfl rfl (Jvm.RoadKit.acmp (g := (mkF m 56 #[.val (.int p0), .val (.int (0 : Int32)), .val (.ref w_P2), .val (.ref w_P1), .val (.ref w_P1)] [(.ref w_P2), (.ref w_P1)])) X8 hx rfl rfl rfl (pc0 := 56) (pc' := 61) (same := false) rfl (hb hby at_56) rfl (decide_eq_false fun q => (Ne.symm Hne) (Value.ref.inj q)) (by decide) (by decide) (XS.aload X8.here hx rfl (hb hby at_61) rfl rfl k)))))))) ?_
    refine Goes.step (S' := T8.setTop (mkF m 71 #[.val (.int p0), .val (.int (0 : Int32)), .val (.ref w_P2), .val (.ref w_P1), .val (.ref w_P1)] [(.ref w_P1)])) (fun t k => XS.aloadN X8.here hx rfl (hb hby at_63) rfl rfl (Jvm.RoadKit.acmp (g := (mkF m 64 #[.val (.int p0), .val (.int (0 : Int32)), .val (.ref w_P2), .val (.ref w_P1), .val (.ref w_P1)] [(.ref w_P1), (.ref w_P1)])) X8 hx rfl rfl rfl (pc0 := 64) (pc' := 69) (same := true) rfl (hb hby at_64) rfl (decide_eq_true rfl) (by decide) (by decide) (XS.aload X8.here hx rfl (hb hby at_69) rfl rfl k))) ?_
    obtain ⟨cq9, kq9, q9a, q9b, q9c⟩ := isOf hZ q8_0 E1
    obtain ⟨_, _, ⟨T9, L9, k9, n9⟩, -, X9, ⟨Lc9, hQ9, l9, y9, z9⟩, st9⟩ := X8.virtualBack hx (y := mth0) (z := mth0) hown (mvT hZ tw5) (mvT hZ tw6) (notFace_of_selects (args := #[]) (mvT hZ tw8)) (mvT hZ tw8) (mvT hZ tw7) (by decide) (backOf (W := 0) (opp_t l Z a0 hw [] w_P1 w_P2 h0 n0 Z0 S1 S2) hZ tw9 tw1 (by decide) (by decide)) q9a q9c (g := (mkF m 71 #[.val (.int p0), .val (.int (0 : Int32)), .val (.ref w_P2), .val (.ref w_P1), .val (.ref w_P1)] [(.ref w_P1)])) rfl (by rw [hml]; rfl) (Steps.refl _) (argsL := []) (rest := []) (lenOf pd_Lcom_example_supplant_supplant_core_Player rfl) rfl (Nat.le_of_eq rfl) (hb hby at_71) (fun _ _ => ⟨rfl, q8_0, (by decide : 0 + 0 ≤ _), (by decide : 0 + 0 ≤ _)⟩)
    dsimp only [Pt.U, Pt.locs, Pt.cells, Pt.slots] at X9 l9 y9 z9 st9 hQ9
    subst l9 y9 z9
    obtain ⟨rfl, Nq9, q9_0⟩ := hQ9
    have N9 := Fr.app N8 Nq9
    refine Goes.step (S' := T9.setTop (mkF m 83 #[.val (.int p0), .val (.int (0 : Int32)), .val (.ref w_P2), .val (.ref w_P1), .val (.ref w_P1)] [(.int (1 : Int32))])) (fun t k => st9.trans (XS.aloadN X9.here hx rfl (hb hby at_74) rfl rfl (Jvm.RoadKit.acmp (g := (mkF m 75 #[.val (.int p0), .val (.int (0 : Int32)), .val (.ref w_P2), .val (.ref w_P1), .val (.ref w_P1)] [(.ref w_P2), (.ref w_P2)])) X9 hx rfl rfl rfl (pc0 := 75) (pc' := 78) (same := true) rfl (hb hby at_75) rfl (decide_eq_true rfl) (by decide) (by decide) (XS.iconst X9.here hx rfl (hb hby at_78) (XS.goto X9.here hx rfl (pc0 := 79) (pc' := 83) rfl (hb hby at_79) (by decide) (by decide) k))))) ?_
    refine Goes.leave (g := (mkF m 83 #[.val (.int p0), .val (.int (0 : Int32)), .val (.ref w_P2), .val (.ref w_P1), .val (.ref w_P1)] [(.int (1 : Int32))])) X9 Bd.notSynchronized (v := (some (.int (1 : Int32)))) (fun h => by rw [Bd.returns] at h; cases h) (fun fs hr => retN X9 hx (t := .boolean) Bd.returns (by simp) (hb hby at_83) hr) q9_0 ?_ (by decide) (by decide)
    exact ⟨rfl, N9⟩

set_option maxRecDepth 65536 in
set_option maxHeartbeats 40000000 in
theorem comes_1 {Post : Tables → Env → Array Value → State → Outcome → State → Prop} (hpost : ∀ tb e args s v u, (limb_1_1.after args s (.returned v) u = true ∧ limb_1_2.after args s (.returned v) u = true ∧ True) → FrameEnd s (.returned v) u (Jvm.fieldLocs frame_1_writes args s ++ Jvm.arrayLocs frame_1_arrays args s ++ Jvm.staticLocs frame_1_statics s) 0 0 → Post tb e args s (.returned v) u) :
    ArmFor flags0 classFile x code maxLocals ret World_1 tables_1 room_1 Calls_1 rest_1 Pre_1 Post := by
  intro l hfl _ _ p e ha hc hk s m args below hf hA hF happ hP
  obtain ⟨hcalls, hrest, hpre⟩ := hP
  obtain ⟨-, -, -, hnamed, -, -, -, hat⟩ := (Spec.applies_iff hf).mp happ
  obtain ⟨hg, hn⟩ := and_e (Cond.before_iff.mp (show (Jvm.Cond.and given_1 narrow_1).before args s = true from hpre))
  obtain ⟨g1, g2⟩ := and_e hg
  obtain ⟨g3, g4⟩ := and_e hn
  obtain ⟨g5, g6⟩ := and_e g4
  obtain ⟨g7, g8⟩ := and_e g6
  obtain ⟨w0, rfl⟩ : ∃ w0 : Value, args = #[w0] := by
    have hs : args.size = 1 := by simpa [Cond.value, given_1] using g1
    obtain ⟨L⟩ := args
    match L, hs with
    | [w0], _ => exact ⟨w0, rfl⟩
  have hw := fun d (hd : d ∈ tables_1) => atoms_spec (ws := Jvm.Cond.code x code maxLocals ret :: tables_1) hat d (List.mem_cons_of_mem _ hd)
  have hfit : Fit s := fun {y c} hc i hi => by
    obtain ⟨ha, rfl⟩ := Array.getElem?_eq_some_iff.mp hc
    have q := List.all_eq_true.mp ((Array.all_eq_true_iff_forall_mem.mp hF) _ (Array.getElem_mem ha)) i (List.mem_range.mpr hi)
    simpa [Array.getElem?_eq_getElem hi] using q
  obtain ⟨i0, ei0⟩ := is_v g2
  obtain rfl : w0 = (.int i0) := Option.some.inj ei0
  obtain ⟨w_P1, ev_P1⟩ := exa_v g3
  have E_w_P1 : Exa s s.heap w_P1 "com/example/supplant/supplant/core/Player" := Exa.start ev_P1 g3
  have S_w_P1 : Sta s s.heap "com/example/supplant/supplant/core/Player" "P1" "Lcom/example/supplant/supplant/core/Player;" (.ref w_P1) := Sta.start ev_P1 (Or.inr ⟨(hw _ (List.mem_of_getElem? (i := 1) rfl)), (hw _ (List.mem_of_getElem? (i := 2) rfl))⟩)
  obtain ⟨w_P2, ev_P2⟩ := exa_v g5
  have E_w_P2 : Exa s s.heap w_P2 "com/example/supplant/supplant/core/Player" := Exa.start ev_P2 g5
  have S_w_P2 : Sta s s.heap "com/example/supplant/supplant/core/Player" "P2" "Lcom/example/supplant/supplant/core/Player;" (.ref w_P2) := Sta.start ev_P2 (Or.inr ⟨(hw _ (List.mem_of_getElem? (i := 1) rfl)), (hw _ (List.mem_of_getElem? (i := 4) rfl))⟩)
  have F_w_P2 : Fld s s.heap w_P2 "java/lang/Enum" "ordinal" "I" (.int (1 : Int32)) := Fld.start ((fld_at ev_P2).symm.trans (own_eqI g7))
  have F_w_P1 : Fld s s.heap w_P1 "java/lang/Enum" "ordinal" "I" (.int (0 : Int32)) := Fld.start ((fld_at ev_P1).symm.trans (own_eqI g8))
  obtain ⟨n, o, h1, h2, h3, _, L, rfl, ⟨rfl, N⟩, hq⟩ := law l s _ hw tables_1 i0 w_P1 w_P2 s.heap s.heap.size (Nat.le_refl _) S_w_P1 S_w_P2 E_w_P1 E_w_P2 (Fld.ne F_w_P2 F_w_P1 (by simp)) p e ha hc hk s m _ below hf ((Spec.applies_iff_loose hf).mp happ).1 ⟨rfl, State.Warmed39.refl s, rfl⟩ trivial
  refine ⟨n, _, h1, h2, h3, hpost _ _ _ _ _ _ ⟨Cond.after_iff.mpr rfl, Cond.after_iff.mpr (eq_i res_at (Term.int_eval (1)) rfl), trivial⟩ ⟨hq.1, hq.2.1, (hq.2.2.sift fun y hy => Or.inr (N y hy)).mono (by decide) (by decide)⟩⟩
theorem main_1_1 : Claimed_1_1 := comes_1 fun _ _ _ _ _ _ h hF => ⟨h.1, hF⟩
theorem main_1_2 : Claimed_1_2 := comes_1 fun _ _ _ _ _ _ h hF => ⟨h.2.1, hF⟩
end Jvm.Pilot.@@N@@
namespace Jvm.Pilot.@@N@@
open Jvm Jvm.ClassFile Sem Op Lib Jvm.Free Jvm.Stand Jvm.Pilot.@@N@@.Jvm.D
/-! MADE BY PROGRAM (witnessworld.py) out of the Statement's table words and the real class files: 10 classes; the members and pool entries that the words name. The judged class is class 1, her method 1. -/
namespace start1
open Jvm.ClassFile
def u (s : String) : CpInfo := .utf8 (stringToUtf16 s)
/-- a pool by its gaps: so many unusable entries, then the entry; so many at the end -/
def gap : Nat → List CpInfo → List CpInfo
  | 0, r => r
  | n + 1, r => .unusable :: gap n r
def poolList (es : List (Nat × CpInfo)) (last : Nat) : List CpInfo := es.foldr (fun e r => gap e.1 (e.2 :: r)) (gap last [])
def pool (es : List (Nat × CpInfo)) (last : Nat) : Array CpInfo := ⟨poolList es last⟩
def fileOf (pool : Array CpInfo) (this : Nat) (attrs : Array Attribute := #[]) (ms : Array MethodInfo := #[]) (fl : Nat := 33) (sup : Nat := 0) (ifs : Array Nat := #[]) (fds : Array FieldInfo := #[]) : ClassFile where
  minorVersion := 0
  majorVersion := 65
  constantPool := pool
  accessFlags := fl
  thisClass := this
  superClass := sup
  interfaces := ifs
  fields := fds
  methods := ms
  attributes := attrs
def plain (name : String) (sup : Option ClassId) : Class where
  name := name
  kind := .ordinary
  loader := none
  accessFlags := 33
  super := sup
  interfaces := #[]
  cf := none
  fields := #[]
  methods := #[]
  instanceTypes := #[]
  staticTypes := #[]
  resolved := #[]
  callSites := []
  init := .initialized
  statics := none
  mirror := none

def pool0 : Array CpInfo := pool [(5, u "<init>"), (0, u "()V"), (1, .class_ 10), (1, u "java/lang/Object")] 113

def k0m0 : Method := { name := "<init>", desc := "()V", sig := { parameters := [], returnType := none }, accessFlags := 1, code := none }
/-- java/lang/Object -/
def k0 : Class := { plain "java/lang/Object" none with
  accessFlags := 33
  interfaces := #[]
  cf := some (fileOf pool0 8 #[] #[{ accessFlags := 1, nameIndex := 5, descriptorIndex := 6, attributes := #[] }] 33 0 #[] #[])
  fields := #[]
  methods := #[k0m0]
  instanceTypes := #[]
  staticTypes := #[]
  resolved := Array.replicate 124 none
  statics := none }

def pool1 : Array CpInfo := pool [(2, .class_ 4), (1, u "java/lang/Object"), (0, u "<init>"), (0, u "()V"), (0, .fieldref 8 9), (0, .class_ 10), (0, .nameAndType 11 12), (0, u "com/example/supplant/supplant/core/Player"), (0, u "P1"), (0, u "Lcom/example/supplant/supplant/core/Player;"), (0, .fieldref 8 14), (0, .nameAndType 15 12), (0, u "P2"), (0, .methodref 8 17), (0, .nameAndType 18 19), (0, u "opponent"), (0, u "()Lcom/example/supplant/supplant/core/Player;"), (0, .class_ 21), (0, u "com/example/supplant/supplant/core/PlayerOpponentPinLaw"), (2, u "law"), (0, u "(I)Z")] 3

def k1m0 : Method := { name := "<init>", desc := "()V", sig := { parameters := [], returnType := none }, accessFlags := 1, code := none }
def k1c1 : Code := { maxStack := 2, maxLocals := 5, code := code, exceptionTable := #[], attributes := #[] }
def k1m1 : Method := { name := "law", desc := "(I)Z", sig := { parameters := [.int], returnType := some .boolean }, accessFlags := 9, code := some k1c1 }
/-- com/example/supplant/supplant/core/PlayerOpponentPinLaw -/
def k1 : Class := { plain "com/example/supplant/supplant/core/PlayerOpponentPinLaw" (some 0) with
  accessFlags := 49
  interfaces := #[]
  cf := some (fileOf pool1 20 #[] #[{ accessFlags := 1, nameIndex := 5, descriptorIndex := 6, attributes := #[] }, { accessFlags := 9, nameIndex := 24, descriptorIndex := 25, attributes := #[] }] 49 2 #[] #[])
  fields := #[]
  methods := #[k1m0, k1m1]
  instanceTypes := #[]
  staticTypes := #[]
  resolved := Array.replicate 29 none
  statics := none }

def pool2 : Array CpInfo := pool [(1, .class_ 2), (0, u "java/lang/constant/Constable"), (0, .class_ 4), (0, u "java/lang/Object")] 6

/-- java/lang/constant/Constable -/
def k2 : Class := { plain "java/lang/constant/Constable" (some 0) with
  accessFlags := 1537
  interfaces := #[]
  cf := some (fileOf pool2 1 #[] #[] 1537 3 #[] #[])
  fields := #[]
  methods := #[]
  instanceTypes := #[]
  staticTypes := #[]
  resolved := Array.replicate 11 none
  statics := none }

def pool3 : Array CpInfo := pool [(1, .class_ 2), (0, u "java/lang/Comparable"), (0, .class_ 4), (0, u "java/lang/Object")] 7

/-- java/lang/Comparable -/
def k3 : Class := { plain "java/lang/Comparable" (some 0) with
  accessFlags := 1537
  interfaces := #[]
  cf := some (fileOf pool3 1 #[] #[] 1537 3 #[] #[])
  fields := #[]
  methods := #[]
  instanceTypes := #[]
  staticTypes := #[]
  resolved := Array.replicate 12 none
  statics := none }

def pool4 : Array CpInfo := pool [(1, .class_ 2), (0, u "java/io/Serializable"), (0, .class_ 4), (0, u "java/lang/Object")] 2

/-- java/io/Serializable -/
def k4 : Class := { plain "java/io/Serializable" (some 0) with
  accessFlags := 1537
  interfaces := #[]
  cf := some (fileOf pool4 1 #[] #[] 1537 3 #[] #[])
  fields := #[]
  methods := #[]
  instanceTypes := #[]
  staticTypes := #[]
  resolved := Array.replicate 7 none
  statics := none }

def pool5 : Array CpInfo := pool [(2, .class_ 4), (1, u "java/lang/Enum"), (0, u "name"), (0, u "Ljava/lang/String;"), (2, u "ordinal"), (0, u "I"), (1, .class_ 14), (1, u "java/lang/Object"), (4, u "hash"), (86, .class_ 108), (1, u "java/lang/Enum$EnumDesc"), (2, .class_ 112), (0, u "java/lang/constant/Constable"), (0, .class_ 114), (0, u "java/lang/Comparable"), (0, .class_ 116), (0, u "java/io/Serializable")] 87

/-- java/lang/Enum -/
def k5 : Class := { plain "java/lang/Enum" (some 0) with
  accessFlags := 1057
  interfaces := #[2, 3, 4]
  cf := some (fileOf pool5 2 #[.nestMembers #[106]] #[] 1057 12 #[111, 113, 115] #[{ accessFlags := 18, nameIndex := 5, descriptorIndex := 6, attributes := #[] }, { accessFlags := 18, nameIndex := 9, descriptorIndex := 10, attributes := #[] }, { accessFlags := 2, nameIndex := 19, descriptorIndex := 10, attributes := #[] }])
  fields := #[{ name := "name", type := (.object "java/lang/String"), accessFlags := 18, slot := 0, constantValue := 0 }, { name := "ordinal", type := .int, accessFlags := 18, slot := 1, constantValue := 0 }, { name := "hash", type := .int, accessFlags := 2, slot := 2, constantValue := 0 }]
  methods := #[]
  instanceTypes := #[(.object "java/lang/String"), .int, .int]
  staticTypes := #[]
  resolved := Array.replicate 204 none
  statics := none }

def pool6 : Array CpInfo := pool [(1, .class_ 2), (0, u "com/example/supplant/supplant/core/Player"), (0, .fieldref 1 4), (0, .nameAndType 5 6), (0, u "P1"), (0, u "Lcom/example/supplant/supplant/core/Player;"), (0, .fieldref 1 8), (0, .nameAndType 9 6), (0, u "P2"), (2, u "$VALUES"), (0, u "[Lcom/example/supplant/supplant/core/Player;"), (6, .class_ 22), (1, u "java/lang/Enum"), (20, u "opponent"), (0, u "()Lcom/example/supplant/supplant/core/Player;")] 5

def k6c0 : Code := { maxStack := 2, maxLocals := 1, code := prog_12_method_4_code, exceptionTable := #[], attributes := #[] }
def k6m0 : Method := { name := "opponent", desc := "()Lcom/example/supplant/supplant/core/Player;", sig := { parameters := [], returnType := some (.object "com/example/supplant/supplant/core/Player") }, accessFlags := 1, code := some k6c0 }
/-- com/example/supplant/supplant/core/Player -/
def k6 : Class := { plain "com/example/supplant/supplant/core/Player" (some 5) with
  accessFlags := 16433
  interfaces := #[]
  cf := some (fileOf pool6 1 #[] #[{ accessFlags := 1, nameIndex := 43, descriptorIndex := 44, attributes := #[] }] 16433 20 #[] #[{ accessFlags := 16409, nameIndex := 5, descriptorIndex := 6, attributes := #[] }, { accessFlags := 16409, nameIndex := 9, descriptorIndex := 6, attributes := #[] }, { accessFlags := 4122, nameIndex := 12, descriptorIndex := 13, attributes := #[] }])
  fields := #[{ name := "P1", type := (.object "com/example/supplant/supplant/core/Player"), accessFlags := 16409, slot := 0, constantValue := 0 }, { name := "P2", type := (.object "com/example/supplant/supplant/core/Player"), accessFlags := 16409, slot := 1, constantValue := 0 }, { name := "$VALUES", type := (.array (.object "com/example/supplant/supplant/core/Player")), accessFlags := 4122, slot := 2, constantValue := 0 }]
  methods := #[k6m0]
  instanceTypes := #[(.object "java/lang/String"), .int, .int]
  staticTypes := #[(.object "com/example/supplant/supplant/core/Player"), (.object "com/example/supplant/supplant/core/Player"), (.array (.object "com/example/supplant/supplant/core/Player"))]
  resolved := Array.replicate 50 none
  statics := some 0 }

def pool7 : Array CpInfo := pool [(1, u "java/lang/Cloneable"), (0, .class_ 1), (0, u "java/lang/Object"), (0, .class_ 3)] 3

/-- java/lang/Cloneable -/
def k7 : Class := { plain "java/lang/Cloneable" (some 0) with
  accessFlags := 1537
  interfaces := #[]
  cf := some (fileOf pool7 2 #[] #[] 1537 4 #[] #[])
  fields := #[]
  methods := #[]
  instanceTypes := #[]
  staticTypes := #[]
  resolved := Array.replicate 8 none
  statics := none }

/-- the primitive byte -/
def k8 : Class := { plain "byte" none with kind := .primitive 'B', accessFlags := 0x411 }
/-- [B -/
def k9 : Class := { plain "[B" (some 0) with kind := .array 8 .byte, interfaces := #[7, 4], accessFlags := 1041 }

def heap : Heap := #[{ cls := 6, slots := #[.ref 1, .ref 2, .null], vm := .statics 6 },
  { cls := 6, slots := #[.null, .int 0, .int 0], vm := .none },
  { cls := 6, slots := #[.null, .int 1, .int 0], vm := .none }]
def classes : Array Class := #[k0, k1, k2, k3, k4, k5, k6, k7, k8, k9]
def interned : List (Array UInt16 × Addr) := []
def slotsUsed : Nat := 9
def theMethod : MethodId := ⟨1, 1⟩
def args0 : Array Value := #[.int 5]
def aboutOver (below : List Frame) : State where
  vm := { classes := classes, interned := interned.toArray }
  heap := heap
  slotsUsed := slotsUsed
  threads := #[{ frames := .invoking theMethod args0 :: below }]
def below0 : List Frame := [.native { method := ⟨0, 0⟩, args := #[] }]
def about1 : State := aboutOver below0
def p0 : Program := .bare "" "" ""
def e0 : Env := launch0.env 0 0 0
theorem w_frames : about1.frames = Frame.invoking theMethod args0 :: below0 := rfl
set_option maxRecDepth 65536 in
theorem w_args : argsFit about1.vm theMethod args0 = true := by decide +kernel
set_option maxRecDepth 65536 in
theorem w_heap : heapFits about1 = true := by decide +kernel
set_option maxRecDepth 65536 in
theorem w_runnable : about1.curStatus? = some .runnable := by decide +kernel
set_option maxRecDepth 65536 in
theorem w_alone : about1.alone = true := by decide +kernel
set_option maxRecDepth 65536 in
theorem w_named : about1.methodNamed? x = some theMethod := by decide +kernel
set_option maxRecDepth 65536 in
theorem w_hears : about1.hears theMethod below0 = true := by decide +kernel
set_option maxRecDepth 65536 in
theorem w_ripe : about1.ripe theMethod args0 below0 = true := by decide +kernel
theorem w_running : about1.status = .running := rfl
set_option maxRecDepth 65536 in
theorem w_room : about1.hasRoom e0.platform room_1 = true :=
  launch0.hasRoom_least _ room_1 (by decide +kernel) (by decide +kernel) (by decide +kernel) (by decide +kernel) (by decide +kernel) (by decide +kernel)
theorem allAtoms_all (ts : List Jvm.Cond) (a : Array Jvm.Value) (st : Jvm.State) : (allAtoms ts).before a st = ts.all (fun c => c.before a st) := by
  induction ts with
  | nil => rfl
  | cons c t ih =>
    show (Jvm.Cond.and c (allAtoms t)).before a st = _
    rw [Jvm.Cond.before_and, ih, List.all_cons]
def words1 : List Jvm.Cond := Jvm.Cond.code x code maxLocals ret :: tables_1
/-- a 'code' word, met by the world's own term for the bytes: nothing is compared byte by byte -/
theorem code_word {y : MethodName} {bytes : ByteArray} {mx : Nat} {rt : Option FieldType} {a : Array Value} {s : State} {m : MethodId} {meth : Method} {c : Code} (h1 : s.methodNamed? y = some m) (h2 : s.vm.method? m = some meth) (h3 : meth.code = some c) (h4 : c.code = bytes)
    (h5 : (c.maxLocals == mx && c.exceptionTable.isEmpty && decide (c.maxStack ≤ mostOperands) && decide (meth.sig.returnType = rt) && !meth.locks && decide (parseMethodDescriptor y.desc = some meth.sig)) = true) : (Jvm.Cond.code y bytes mx rt).before a s = true := by
  simp only [Bool.and_eq_true, beq_iff_eq, Bool.not_eq_true', decide_eq_true_eq] at h5
  obtain ⟨⟨⟨⟨⟨g1, g2⟩, g3⟩, g4⟩, g5⟩, g6⟩ := h5
  simp [Cond.before, Cond.holds, Cond.value, h1, h2, h3, h4, g1, g2, g3, g4, g5, g6]
def isCode : Jvm.Cond → Bool
  | .code _ _ _ _ => true
  | _ => false
theorem all_split {L : List Jvm.Cond} {P : Jvm.Cond → Bool} (h1 : L.all (fun c => isCode c || P c) = true) (h2 : ∀ c ∈ L.filter isCode, P c = true) : L.all P = true := by
  refine List.all_eq_true.mpr fun c hc => ?_
  have h := List.all_eq_true.mp h1 c hc
  rcases Bool.eq_false_or_eq_true (isCode c) with hi | hi
  · exact h2 c (List.mem_filter.mpr ⟨hc, hi⟩)
  · simpa [hi] using h
set_option maxRecDepth 65536 in
theorem w_c0 : (Jvm.Cond.code x code maxLocals ret).before args0 about1 = true := code_word (m := ⟨1, 1⟩) (meth := k1m1) (c := k1c1) (by decide +kernel) rfl rfl rfl (by decide +kernel)
set_option maxRecDepth 65536 in
theorem w_c1 : (Jvm.Cond.code ({ cls := "com/example/supplant/supplant/core/Player", name := "opponent", desc := "()Lcom/example/supplant/supplant/core/Player;" } : Jvm.MethodName) prog_12_method_4_code (1 : Nat) (Option.some (Jvm.ClassFile.FieldType.object "com/example/supplant/supplant/core/Player"))).before args0 about1 = true := code_word (m := ⟨6, 0⟩) (meth := k6m0) (c := k6c0) (by decide +kernel) rfl rfl rfl (by decide +kernel)
def codes1 : List Jvm.Cond := [Jvm.Cond.code x code maxLocals ret, Jvm.Cond.code ({ cls := "com/example/supplant/supplant/core/Player", name := "opponent", desc := "()Lcom/example/supplant/supplant/core/Player;" } : Jvm.MethodName) prog_12_method_4_code (1 : Nat) (Option.some (Jvm.ClassFile.FieldType.object "com/example/supplant/supplant/core/Player"))]
set_option maxRecDepth 65536 in
theorem codes_eq : words1.filter isCode = codes1 := rfl
theorem w_codes : ∀ c ∈ words1.filter isCode, c.before args0 about1 = true := by
  rw [codes_eq]
  intro c hc
  simp only [codes1, List.mem_cons, List.not_mem_nil, or_false] at hc
  rcases hc with rfl | rfl
  · exact w_c0
  · exact w_c1
set_option maxRecDepth 65536 in
theorem w_t1 : words1.all (fun c => isCode c || c.before args0 about1) = true := by decide +kernel
theorem w_tables : (allAtoms (Jvm.Cond.code x code maxLocals ret :: tables_1)).before args0 about1 = true := by
  rw [allAtoms_all]
  show words1.all (fun c => c.before args0 about1) = true
  refine all_split ?_ w_codes
  rw [w_t1]
set_option maxRecDepth 65536 in
theorem w_case : (Jvm.Cond.and given_1 narrow_1).before args0 about1 = true := by decide +kernel
theorem w_applies : (headSpec (Jvm.Cond.code x code maxLocals ret :: tables_1) room_1).applies x e0.platform about1 = true :=
  (Spec.applies_iff w_frames).mpr ⟨w_running, w_runnable, w_alone, w_named, w_hears, w_ripe, w_room, w_tables⟩
theorem atStart : AtStart classFile x code maxLocals ret World_1 tables_1 room_1 Calls_1 rest_1 Pre_1 launch0 p0 e0 about1 theMethod args0 below0 :=
  ⟨lists_1, trivial, launch0.admits_env _ _ _, launch0.least_env, fairChoices_fair.cas, fairChoices_fair.clock, w_frames, w_args, w_heap, w_applies, trivial, trivial, w_case⟩
end start1
theorem witness_1 : WitnessClaimed_1 := ⟨start1.p0, start1.e0, start1.about1, start1.theMethod, start1.args0, start1.below0, start1.atStart⟩
end Jvm.Pilot.@@N@@
