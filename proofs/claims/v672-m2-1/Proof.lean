import JvmDerived
import JvmDerived.Pilot.@@N@@Statement
import JvmDerived.Pilot.@@N@@Code
set_option linter.unusedVariables false
set_option linter.unusedSimpArgs false
namespace Jvm.RoadKit
open Sem ClassFile Op Lib Jvm.Stand Jvm.Free Jvm.LawKit
section New
variable {p : Program} {l : Launch} {e : Env} {R : Room} {s : State} {m : MethodId} {args : Array Value} {below : List Frame} {meth : Method} {c : Code} {T : State} {locs : List Loc} {cells slots : Nat}
theorem retI (X : Stand p l e R s m args below meth c T locs cells slots) (hx : p.tables.exec = Jvm.exec) {pc : Nat} {Ls : Array Slot} {z : Int32} {rest : List Value} (hret : meth.sig.returnType = some .int) (hd : decode c.code pc = .ok (.ireturn, 1)) {fs : List Frame}
    (hl : ∀ (f : JFrame) (acts : List Action), f.method = m → f.locked = none → f.entered = [] → (doReturn e (T.setTop f) acts (some (.int z))).1 = T.setFrames fs) : Steps p.tables e below (T.setTop (mkF m pc Ls (.int z :: rest))) (T.setFrames fs) := by
  have hm' : T.vm.method? m = some meth := X.method'
  have hn : narrow .int (.int z) = .int z := rfl
  show Steps p.tables e below (T.setTop { method := m, pc := pc, locals := Ls, stack := _ :: rest, locked := none }) _
  jvm_step X.here [X.here.top, hx, hd, hm', hret, hn]
  first | (intro acts; rw [hl _ acts rfl rfl rfl]) | rw [hl _ _ rfl rfl rfl]
  exact Steps.refl _
/-- from S the run comes to an end of which P holds -/
def Goes (p : Program) (e : Env) (below : List Frame) (P : State → Outcome → Prop) (S : State) : Prop := ∃ t o, Steps p.tables e below S t ∧ t.status = .running ∧ Ended t below o ∧ P t o
theorem Goes.step {P : State → Outcome → Prop} {S S' : State} (h : ∀ t, Steps p.tables e below S' t → Steps p.tables e below S t) (k : Goes p e below P S') : Goes p e below P S := by
  obtain ⟨t, o, h1, h2⟩ := k
  exact ⟨t, o, h t h1, h2⟩
/-- what a contract says of its end -/
def Pq (Q : Option Value → Heap → List Loc → Prop) (s : State) (kc ks : Nat) (t : State) (o : Outcome) : Prop := ∃ v L, o = .returned v ∧ Q v t.heap L ∧ FrameEnd s o t L kc ks
theorem Goes.leave {Q : Option Value → Heap → List Loc → Prop} {kc ks : Nat} {g : JFrame} {v : Option Value} {h : Heap} (X : Stand p l e R s m args below meth c T locs cells slots) (hlk : meth.locks = false) (hv : meth.sig.returnType = none → v = none)
    (st : ∀ fs, (∀ (f : JFrame) (acts : List Action), f.method = m → f.locked = none → f.entered = [] → (doReturn e (T.setTop f) acts v).1 = T.setFrames fs) → Steps p.tables e below (T.setTop g) (T.setFrames fs))
    (eT : T.heap = h) (hQ : Q v h locs) (hc : cells ≤ kc) (hs : slots ≤ ks) : Goes p e below (Pq Q s kc ks) (T.setTop g) := by
  obtain ⟨fs, hr, hrun, hended, hW, hsame⟩ := X.leave (v := v) hv hlk
  exact ⟨_, _, st fs hr, hrun, hended, v, locs, rfl, eT ▸ hQ, ⟨_, rfl⟩, hW, hsame.mono hc hs⟩
theorem own_eqI {args : Array Value} {first s : State} {o : Option Outcome} {idx : List Nat} {t : Term} {k : Int32} (h : (Cond.eq t (.int k)).value args first o s idx = some true) : t.eval args first o idx s = some (.int k) := by
  simp only [Cond.value, Term.eval] at h
  cases ht : t.eval args first o idx s with
  | none => simp [ht] at h
  | some x => cases x <;> simp [ht] at h ⊢; exact h
theorem own_stakeep {Z : State} {h h' : Heap} {ws : List Addr} {C n d : String} {w : Value} (F : Sta Z h C n d w) (K : Keep h h' ws) (q : ∀ x ∈ ws, ∀ cell : Cell, h[x]? = some cell → cell.vm.isStatics = false) : Sta Z h' C n d w := by
  obtain ⟨cf, i, k, f, st, cell, h1, h2, h3, h4, h5, h6, h7⟩ := F
  exact ⟨cf, i, k, f, st, cell, h1, h2, h3, h4, K.2.1 st cell h5 (fun hm => by rw [q st hm cell h5] at h6; cases h6), h6, h7⟩
theorem own_selP {s : State} {args : Array Value} {y : MethodName} {k : Nat} (w1 : (Cond.instanceMethod y).before args s = true) (w2 : (Cond.privateMethod y).before args s = true) (w3 : (Cond.instantiable y.cls k).before args s = true)
    (hy : y.cls ≠ "java/lang/invoke/MethodHandle" ∧ y.cls ≠ "java/lang/invoke/VarHandle") : (Cond.selects y.cls y y).before args s = true := by
  obtain ⟨mk, meth, hn, hm, -, -⟩ := Cond.instanceMethod_spec w1
  have hp := Cond.privateMethod_at w2 mk meth hn hm
  have hf := State.methodFound?_of_named hn hy
  have hc := findClass_of_methodNamed hn
  obtain ⟨c2, k2, i1, i2, -, i4, -⟩ := Cond.instantiable_spec w3
  cases hc.symm.trans i1
  simp only [Bool.or_eq_false_iff] at i4
  simp [Cond.before, Cond.holds, Cond.value, hc, hf, hn, selectMethod_private hm hp, i2, i4.1]
theorem own_neVV {Z : State} {h : Heap} {a b : Addr} {k1 k2 : ClassId} {t1 t2 : FieldType} {z1 z2 : Int32} {v1 v2 : List Value} {d1 d2 : Value} (A : Arv Z h a k1 t1 z1 v1 d1) (B : Arv Z h b k2 t2 z2 v2 d2) (q : t1 ≠ t2) : a ≠ b := fun e => by
  subst e
  obtain ⟨c1, A1, -⟩ := A
  obtain ⟨c2, B1, -⟩ := B
  cases A1.1.symm.trans B1.1
  obtain ⟨-, k, g1, comp, g2⟩ := A1.2.1
  obtain ⟨-, k', g1', comp', g2'⟩ := B1.2.1
  cases g1.symm.trans g1'
  rw [g2] at g2'
  cases g2'
  exact q rfl
end New
end Jvm.RoadKit
namespace Jvm.Pilot.@@N@@
open Jvm Jvm.ClassFile Sem Op Lib Jvm.Free Jvm.Stand Jvm.LawKit Jvm.RoadKit Bundle Jvm.Pilot.@@N@@.Jvm.D
abbrev rom0 : Room := { frames := 0, cells := 0, slots := 0, locals := 0 }
abbrev rom1 : Room := { frames := 1, cells := 0, slots := 0, locals := 12 }
set_option maxRecDepth 65536 in
theorem pnm0 : plainName "com/example/pampulha/pampulha/site/LinkSyntaxReversedPinLaw" = true := by first | (simp [plainName, overriddenIn]; done) | decide +kernel
set_option maxRecDepth 65536 in
theorem pnm1 : plainName "java/lang/Enum" = true := by first | (simp [plainName, overriddenIn]; done) | decide +kernel
set_option maxRecDepth 65536 in
theorem pnm2 : plainName "com/example/pampulha/pampulha/site/LinkSyntax" = true := by first | (simp [plainName, overriddenIn]; done) | decide +kernel
abbrev mth0 : MethodName := ⟨"com/example/pampulha/pampulha/site/LinkSyntaxReversedPinLaw", "pick", "(I)Lcom/example/pampulha/pampulha/site/LinkSyntax;"⟩
abbrev mth1 : MethodName := ⟨"java/lang/Enum", "ordinal", "()I"⟩
abbrev mth2 : MethodName := ⟨"com/example/pampulha/pampulha/site/LinkSyntax", "ordinal", "()I"⟩
abbrev mth3 : MethodName := ⟨"com/example/pampulha/pampulha/site/LinkSyntax", "reversed", "()Lcom/example/pampulha/pampulha/site/LinkSyntax;"⟩
theorem d_method_2_code_0 : decode method_2_code 0 = .ok (.iload_n 0, 1) := by decide +kernel
theorem d_method_2_code_1 : decode method_2_code 1 = .ok (.ifCond .ne 7, 3) := by decide +kernel
theorem d_method_2_code_4 : decode method_2_code 4 = .ok (.getstatic 7, 3) := by decide +kernel
theorem d_method_2_code_7 : decode method_2_code 7 = .ok (.areturn, 1) := by decide +kernel
theorem d_method_2_code_8 : decode method_2_code 8 = .ok (.iload_n 0, 1) := by decide +kernel
theorem d_method_2_code_9 : decode method_2_code 9 = .ok (.iconst 1, 1) := by decide +kernel
theorem d_method_2_code_10 : decode method_2_code 10 = .ok (.if_icmp .ne 7, 3) := by decide +kernel
theorem d_method_2_code_13 : decode method_2_code 13 = .ok (.getstatic 13, 3) := by decide +kernel
theorem d_method_2_code_16 : decode method_2_code 16 = .ok (.areturn, 1) := by decide +kernel
theorem d_method_2_code_17 : decode method_2_code 17 = .ok (.iload_n 0, 1) := by decide +kernel
theorem d_method_2_code_18 : decode method_2_code 18 = .ok (.iconst 2, 1) := by decide +kernel
theorem d_method_2_code_19 : decode method_2_code 19 = .ok (.if_icmp .ne 7, 3) := by decide +kernel
theorem d_method_2_code_22 : decode method_2_code 22 = .ok (.getstatic 16, 3) := by decide +kernel
theorem d_method_2_code_25 : decode method_2_code 25 = .ok (.areturn, 1) := by decide +kernel
theorem d_method_2_code_26 : decode method_2_code 26 = .ok (.iload_n 0, 1) := by decide +kernel
theorem d_method_2_code_27 : decode method_2_code 27 = .ok (.iconst 3, 1) := by decide +kernel
theorem d_method_2_code_28 : decode method_2_code 28 = .ok (.if_icmp .ne 7, 3) := by decide +kernel
theorem d_method_2_code_31 : decode method_2_code 31 = .ok (.getstatic 19, 3) := by decide +kernel
theorem d_method_2_code_34 : decode method_2_code 34 = .ok (.areturn, 1) := by decide +kernel
theorem d_method_2_code_35 : decode method_2_code 35 = .ok (.iload_n 0, 1) := by decide +kernel
theorem d_method_2_code_36 : decode method_2_code 36 = .ok (.iconst 4, 1) := by decide +kernel
theorem d_method_2_code_37 : decode method_2_code 37 = .ok (.if_icmp .ne 7, 3) := by decide +kernel
theorem d_method_2_code_40 : decode method_2_code 40 = .ok (.getstatic 22, 3) := by decide +kernel
theorem d_method_2_code_43 : decode method_2_code 43 = .ok (.areturn, 1) := by decide +kernel
theorem d_method_2_code_44 : decode method_2_code 44 = .ok (.getstatic 25, 3) := by decide +kernel
theorem d_method_2_code_47 : decode method_2_code 47 = .ok (.areturn, 1) := by decide +kernel
theorem d_jdk_37_method_2_code_0 : decode jdk_37_method_2_code 0 = .ok (.aload_n 0, 1) := by decide +kernel
theorem d_jdk_37_method_2_code_1 : decode jdk_37_method_2_code 1 = .ok (.getfield 7, 3) := by decide +kernel
theorem d_jdk_37_method_2_code_4 : decode jdk_37_method_2_code 4 = .ok (.ireturn, 1) := by decide +kernel
theorem d_prog_17_method_7_code_0 : decode prog_17_method_7_code 0 = .ok (.aload_n 0, 1) := by decide +kernel
theorem d_prog_17_method_7_code_1 : decode prog_17_method_7_code 1 = .ok (.invokevirtual 76, 3) := by decide +kernel
theorem d_prog_17_method_7_code_4 : decode prog_17_method_7_code 4 = .ok (.lookupswitch 40 #[(2, 28), (3, 34)], 28) := by decide +kernel
theorem d_prog_17_method_7_code_44 : decode prog_17_method_7_code 44 = .ok (.aload_n 0, 1) := by decide +kernel
theorem d_prog_17_method_7_code_45 : decode prog_17_method_7_code 45 = .ok (.areturn, 1) := by decide +kernel
theorem d_prog_17_method_7_code_32 : decode prog_17_method_7_code 32 = .ok (.getstatic 13, 3) := by decide +kernel
theorem d_prog_17_method_7_code_35 : decode prog_17_method_7_code 35 = .ok (.goto 10, 3) := by decide +kernel
theorem d_prog_17_method_7_code_38 : decode prog_17_method_7_code 38 = .ok (.getstatic 10, 3) := by decide +kernel
theorem d_prog_17_method_7_code_41 : decode prog_17_method_7_code 41 = .ok (.goto 4, 3) := by decide +kernel
theorem pd_I : parseMethodDescriptor "()I" = some ⟨[], some .int⟩ := by decide +kernel
theorem pd_I_Lcom_example_pampulha_pampulha_site_LinkSyntax : parseMethodDescriptor "(I)Lcom/example/pampulha/pampulha/site/LinkSyntax;" = some ⟨[.int], some (.object "com/example/pampulha/pampulha/site/LinkSyntax")⟩ := by decide +kernel
theorem pd_Lcom_example_pampulha_pampulha_site_LinkSyntax : parseMethodDescriptor "()Lcom/example/pampulha/pampulha/site/LinkSyntax;" = some ⟨[], some (.object "com/example/pampulha/pampulha/site/LinkSyntax")⟩ := by decide +kernel
theorem ef_pick_0 (m : MethodId) (x0 : Int32) : entryFrame m #[(.int x0)] 1 = mkF m 0 #[.val (.int x0)] [] := by first | (simp [entryFrame, mkF, argsToLocals, Value.category]; done) | rfl
def Q_pick_0 (Z : State) (p1 : Int32) (w_SAME_PAGE : Addr) (w_HORIZONTAL : Addr) (w_UP : Addr) (w_DOWN : Addr) (w_TRANSVERSAL : Addr) (w_INTER_HOST : Addr) (h0 : Heap) (n0 : Nat) (v : Option Value) (h : Heap) (L : List Loc) : Prop := v = some (.ref w_SAME_PAGE) ∧ Fr n0 L ∧ h = h0
set_option maxRecDepth 65536 in
set_option maxHeartbeats 40000000 in
theorem pick_0 (l : Launch) (Z : State) (a0 : Array Value) (hw : ∀ d ∈ tables_1, d.before a0 Z = true) (ws : List Jvm.Cond) (p1 : Int32) (w_SAME_PAGE : Addr) (w_HORIZONTAL : Addr) (w_UP : Addr) (w_DOWN : Addr) (w_TRANSVERSAL : Addr) (w_INTER_HOST : Addr) (h0 : Heap) (n0 : Nat) (Z0 : n0 ≤ h0.size) (S_SAME_PAGE : Sta Z h0 "com/example/pampulha/pampulha/site/LinkSyntax" "SAME_PAGE" "Lcom/example/pampulha/pampulha/site/LinkSyntax;" (.ref w_SAME_PAGE)) (S_HORIZONTAL : Sta Z h0 "com/example/pampulha/pampulha/site/LinkSyntax" "HORIZONTAL" "Lcom/example/pampulha/pampulha/site/LinkSyntax;" (.ref w_HORIZONTAL)) (S_UP : Sta Z h0 "com/example/pampulha/pampulha/site/LinkSyntax" "UP" "Lcom/example/pampulha/pampulha/site/LinkSyntax;" (.ref w_UP)) (S_DOWN : Sta Z h0 "com/example/pampulha/pampulha/site/LinkSyntax" "DOWN" "Lcom/example/pampulha/pampulha/site/LinkSyntax;" (.ref w_DOWN)) (S_TRANSVERSAL : Sta Z h0 "com/example/pampulha/pampulha/site/LinkSyntax" "TRANSVERSAL" "Lcom/example/pampulha/pampulha/site/LinkSyntax;" (.ref w_TRANSVERSAL)) (S_INTER_HOST : Sta Z h0 "com/example/pampulha/pampulha/site/LinkSyntax" "INTER_HOST" "Lcom/example/pampulha/pampulha/site/LinkSyntax;" (.ref w_INTER_HOST)) (Hp : p1 = (0 : Int32)) :
    MetFree l mth0 (head1 (Jvm.Cond.code mth0 method_2_code 1 (some (.object "com/example/pampulha/pampulha/site/LinkSyntax")) :: ws) rom0) (fun a U => a = #[(.int p1)] ∧ Z.Warmed39 U.vm ∧ U.heap = h0) (fun _ _ _ _ _ => True) (fun _ U o U' => ∃ v L, o = .returned v ∧ Q_pick_0 Z p1 w_SAME_PAGE w_HORIZONTAL w_UP w_DOWN w_TRANSVERSAL w_INTER_HOST h0 n0 v U'.heap L ∧ FrameEnd U o U' L rom0.cells rom0.slots) := by
  refine MetFree.of_bodySF (plainFor_of_name pnm0) hisR ?_
  intro p e s m args below meth c s₁ Bd hml0 hP hK
  obtain ⟨rfl, hZ, hh⟩ := hP
  have hx := Bd.exec
  have hby := Bd.bytes
  have hml : c.maxLocals = 1 := hml0
  have hown : s.vm.findClass "com/example/pampulha/pampulha/site/LinkSyntaxReversedPinLaw" = some m.cls := findClass_of_methodNamed Bd.named
  have hnm := (name_of_methodNamed Bd.named Bd.method).1
  have X0 : Stand p l e rom0 s m #[(.int p1)] below meth c s₁ [] 0 0 := Stand.of_body Bd
  have e0 : s₁.heap = h0 := by rw [← hh, Bd.state]; rfl
  have N0 := Fr.nil n0
  have tw5 := hw _ (List.mem_of_getElem? (i := 5) rfl)
  show Goes p e below (Pq (Q_pick_0 Z p1 w_SAME_PAGE w_HORIZONTAL w_UP w_DOWN w_TRANSVERSAL w_INTER_HOST h0 n0) s rom0.cells rom0.slots) (s₁.setTop (entryFrame m #[(.int p1)] 1))
  refine Goes.step (S' := s₁.setTop (mkF m 0 #[.val (.int p1)] [])) (fun t k => castTop (ef_pick_0 m p1) k) ?_
  refine Goes.step (S' := s₁.setTop (mkF m 4 #[.val (.int p1)] [])) (fun t k => XS.iloadN X0.here hx rfl (hb hby d_method_2_code_0) rfl (XS.ifNo X0.here hx rfl (hb hby d_method_2_code_1) rfl ((if0 _ _).trans (teq (Hp : p1 = (0 : Int32))).2) k)) ?_
  obtain ⟨T101, X101, e101, st101⟩ := getS2 X0 hx hZ hown (host := "") (Or.inl tw5) Via.refl e0 S_SAME_PAGE (g := (mkF m 4 #[.val (.int p1)] [])) rfl (hb hby d_method_2_code_4)
  refine Goes.step (S' := T101.setTop (mkF m 7 #[.val (.int p1)] [(.ref w_SAME_PAGE)])) (fun t k => st101 _ k) ?_
  refine Goes.leave (g := (mkF m 7 #[.val (.int p1)] [(.ref w_SAME_PAGE)])) X101 Bd.notSynchronized (v := (some (.ref w_SAME_PAGE))) (fun h => by rw [Bd.returns] at h; cases h) (fun fs hr => by jvm_step X101.here [X101.here.top, hx, (hb hby d_method_2_code_7), X101.method', Bd.returns, Value.isRef, FieldType.isReference]; (first | (intro acts; rw [hr _ acts rfl rfl rfl]) | rw [hr _ _ rfl rfl rfl]); exact Steps.refl _) e101 ?_ (by decide) (by decide)
  exact ⟨rfl, N0, rfl⟩

theorem ef_pick_1 (m : MethodId) (x0 : Int32) : entryFrame m #[(.int x0)] 1 = mkF m 0 #[.val (.int x0)] [] := by first | (simp [entryFrame, mkF, argsToLocals, Value.category]; done) | rfl
def Q_pick_1 (Z : State) (p1 : Int32) (w_SAME_PAGE : Addr) (w_HORIZONTAL : Addr) (w_UP : Addr) (w_DOWN : Addr) (w_TRANSVERSAL : Addr) (w_INTER_HOST : Addr) (h0 : Heap) (n0 : Nat) (v : Option Value) (h : Heap) (L : List Loc) : Prop := v = some (.ref w_HORIZONTAL) ∧ Fr n0 L ∧ h = h0
set_option maxRecDepth 65536 in
set_option maxHeartbeats 40000000 in
theorem pick_1 (l : Launch) (Z : State) (a0 : Array Value) (hw : ∀ d ∈ tables_1, d.before a0 Z = true) (ws : List Jvm.Cond) (p1 : Int32) (w_SAME_PAGE : Addr) (w_HORIZONTAL : Addr) (w_UP : Addr) (w_DOWN : Addr) (w_TRANSVERSAL : Addr) (w_INTER_HOST : Addr) (h0 : Heap) (n0 : Nat) (Z0 : n0 ≤ h0.size) (S_SAME_PAGE : Sta Z h0 "com/example/pampulha/pampulha/site/LinkSyntax" "SAME_PAGE" "Lcom/example/pampulha/pampulha/site/LinkSyntax;" (.ref w_SAME_PAGE)) (S_HORIZONTAL : Sta Z h0 "com/example/pampulha/pampulha/site/LinkSyntax" "HORIZONTAL" "Lcom/example/pampulha/pampulha/site/LinkSyntax;" (.ref w_HORIZONTAL)) (S_UP : Sta Z h0 "com/example/pampulha/pampulha/site/LinkSyntax" "UP" "Lcom/example/pampulha/pampulha/site/LinkSyntax;" (.ref w_UP)) (S_DOWN : Sta Z h0 "com/example/pampulha/pampulha/site/LinkSyntax" "DOWN" "Lcom/example/pampulha/pampulha/site/LinkSyntax;" (.ref w_DOWN)) (S_TRANSVERSAL : Sta Z h0 "com/example/pampulha/pampulha/site/LinkSyntax" "TRANSVERSAL" "Lcom/example/pampulha/pampulha/site/LinkSyntax;" (.ref w_TRANSVERSAL)) (S_INTER_HOST : Sta Z h0 "com/example/pampulha/pampulha/site/LinkSyntax" "INTER_HOST" "Lcom/example/pampulha/pampulha/site/LinkSyntax;" (.ref w_INTER_HOST)) (Hp : p1 = (1 : Int32)) :
    MetFree l mth0 (head1 (Jvm.Cond.code mth0 method_2_code 1 (some (.object "com/example/pampulha/pampulha/site/LinkSyntax")) :: ws) rom0) (fun a U => a = #[(.int p1)] ∧ Z.Warmed39 U.vm ∧ U.heap = h0) (fun _ _ _ _ _ => True) (fun _ U o U' => ∃ v L, o = .returned v ∧ Q_pick_1 Z p1 w_SAME_PAGE w_HORIZONTAL w_UP w_DOWN w_TRANSVERSAL w_INTER_HOST h0 n0 v U'.heap L ∧ FrameEnd U o U' L rom0.cells rom0.slots) := by
  refine MetFree.of_bodySF (plainFor_of_name pnm0) hisR ?_
  intro p e s m args below meth c s₁ Bd hml0 hP hK
  obtain ⟨rfl, hZ, hh⟩ := hP
  have hx := Bd.exec
  have hby := Bd.bytes
  have hml : c.maxLocals = 1 := hml0
  have hown : s.vm.findClass "com/example/pampulha/pampulha/site/LinkSyntaxReversedPinLaw" = some m.cls := findClass_of_methodNamed Bd.named
  have hnm := (name_of_methodNamed Bd.named Bd.method).1
  have X0 : Stand p l e rom0 s m #[(.int p1)] below meth c s₁ [] 0 0 := Stand.of_body Bd
  have e0 : s₁.heap = h0 := by rw [← hh, Bd.state]; rfl
  have N0 := Fr.nil n0
  have tw28 := hw _ (List.mem_of_getElem? (i := 28) rfl)
  show Goes p e below (Pq (Q_pick_1 Z p1 w_SAME_PAGE w_HORIZONTAL w_UP w_DOWN w_TRANSVERSAL w_INTER_HOST h0 n0) s rom0.cells rom0.slots) (s₁.setTop (entryFrame m #[(.int p1)] 1))
  refine Goes.step (S' := s₁.setTop (mkF m 0 #[.val (.int p1)] [])) (fun t k => castTop (ef_pick_1 m p1) k) ?_
  refine Goes.step (S' := s₁.setTop (mkF m 13 #[.val (.int p1)] [])) (fun t k => XS.iloadN X0.here hx rfl (hb hby d_method_2_code_0) rfl (XS.ifYes X0.here hx rfl (pc0 := 1) (pc' := 8) rfl (hb hby d_method_2_code_1) rfl ((if0 _ _).trans (feq ((by rw [Hp]; decide) : ¬ (p1 = (0 : Int32)))).2) (by decide) (by decide) (XS.iloadN X0.here hx rfl (hb hby d_method_2_code_8) rfl (XS.iconst X0.here hx rfl (hb hby d_method_2_code_9) (XS.icmpNo X0.here hx rfl (hb hby d_method_2_code_10) rfl (teq (Hp : p1 = (1 : Int32))).2 k))))) ?_
  obtain ⟨T101, X101, e101, st101⟩ := getS2 X0 hx hZ hown (host := "") (Or.inl tw28) Via.refl e0 S_HORIZONTAL (g := (mkF m 13 #[.val (.int p1)] [])) rfl (hb hby d_method_2_code_13)
  refine Goes.step (S' := T101.setTop (mkF m 16 #[.val (.int p1)] [(.ref w_HORIZONTAL)])) (fun t k => st101 _ k) ?_
  refine Goes.leave (g := (mkF m 16 #[.val (.int p1)] [(.ref w_HORIZONTAL)])) X101 Bd.notSynchronized (v := (some (.ref w_HORIZONTAL))) (fun h => by rw [Bd.returns] at h; cases h) (fun fs hr => by jvm_step X101.here [X101.here.top, hx, (hb hby d_method_2_code_16), X101.method', Bd.returns, Value.isRef, FieldType.isReference]; (first | (intro acts; rw [hr _ acts rfl rfl rfl]) | rw [hr _ _ rfl rfl rfl]); exact Steps.refl _) e101 ?_ (by decide) (by decide)
  exact ⟨rfl, N0, rfl⟩

theorem ef_pick_2 (m : MethodId) (x0 : Int32) : entryFrame m #[(.int x0)] 1 = mkF m 0 #[.val (.int x0)] [] := by first | (simp [entryFrame, mkF, argsToLocals, Value.category]; done) | rfl
def Q_pick_2 (Z : State) (p1 : Int32) (w_SAME_PAGE : Addr) (w_HORIZONTAL : Addr) (w_UP : Addr) (w_DOWN : Addr) (w_TRANSVERSAL : Addr) (w_INTER_HOST : Addr) (h0 : Heap) (n0 : Nat) (v : Option Value) (h : Heap) (L : List Loc) : Prop := v = some (.ref w_UP) ∧ Fr n0 L ∧ h = h0
set_option maxRecDepth 65536 in
set_option maxHeartbeats 40000000 in
theorem pick_2 (l : Launch) (Z : State) (a0 : Array Value) (hw : ∀ d ∈ tables_1, d.before a0 Z = true) (ws : List Jvm.Cond) (p1 : Int32) (w_SAME_PAGE : Addr) (w_HORIZONTAL : Addr) (w_UP : Addr) (w_DOWN : Addr) (w_TRANSVERSAL : Addr) (w_INTER_HOST : Addr) (h0 : Heap) (n0 : Nat) (Z0 : n0 ≤ h0.size) (S_SAME_PAGE : Sta Z h0 "com/example/pampulha/pampulha/site/LinkSyntax" "SAME_PAGE" "Lcom/example/pampulha/pampulha/site/LinkSyntax;" (.ref w_SAME_PAGE)) (S_HORIZONTAL : Sta Z h0 "com/example/pampulha/pampulha/site/LinkSyntax" "HORIZONTAL" "Lcom/example/pampulha/pampulha/site/LinkSyntax;" (.ref w_HORIZONTAL)) (S_UP : Sta Z h0 "com/example/pampulha/pampulha/site/LinkSyntax" "UP" "Lcom/example/pampulha/pampulha/site/LinkSyntax;" (.ref w_UP)) (S_DOWN : Sta Z h0 "com/example/pampulha/pampulha/site/LinkSyntax" "DOWN" "Lcom/example/pampulha/pampulha/site/LinkSyntax;" (.ref w_DOWN)) (S_TRANSVERSAL : Sta Z h0 "com/example/pampulha/pampulha/site/LinkSyntax" "TRANSVERSAL" "Lcom/example/pampulha/pampulha/site/LinkSyntax;" (.ref w_TRANSVERSAL)) (S_INTER_HOST : Sta Z h0 "com/example/pampulha/pampulha/site/LinkSyntax" "INTER_HOST" "Lcom/example/pampulha/pampulha/site/LinkSyntax;" (.ref w_INTER_HOST)) (Hp : p1 = (2 : Int32)) :
    MetFree l mth0 (head1 (Jvm.Cond.code mth0 method_2_code 1 (some (.object "com/example/pampulha/pampulha/site/LinkSyntax")) :: ws) rom0) (fun a U => a = #[(.int p1)] ∧ Z.Warmed39 U.vm ∧ U.heap = h0) (fun _ _ _ _ _ => True) (fun _ U o U' => ∃ v L, o = .returned v ∧ Q_pick_2 Z p1 w_SAME_PAGE w_HORIZONTAL w_UP w_DOWN w_TRANSVERSAL w_INTER_HOST h0 n0 v U'.heap L ∧ FrameEnd U o U' L rom0.cells rom0.slots) := by
  refine MetFree.of_bodySF (plainFor_of_name pnm0) hisR ?_
  intro p e s m args below meth c s₁ Bd hml0 hP hK
  obtain ⟨rfl, hZ, hh⟩ := hP
  have hx := Bd.exec
  have hby := Bd.bytes
  have hml : c.maxLocals = 1 := hml0
  have hown : s.vm.findClass "com/example/pampulha/pampulha/site/LinkSyntaxReversedPinLaw" = some m.cls := findClass_of_methodNamed Bd.named
  have hnm := (name_of_methodNamed Bd.named Bd.method).1
  have X0 : Stand p l e rom0 s m #[(.int p1)] below meth c s₁ [] 0 0 := Stand.of_body Bd
  have e0 : s₁.heap = h0 := by rw [← hh, Bd.state]; rfl
  have N0 := Fr.nil n0
  have tw24 := hw _ (List.mem_of_getElem? (i := 24) rfl)
  show Goes p e below (Pq (Q_pick_2 Z p1 w_SAME_PAGE w_HORIZONTAL w_UP w_DOWN w_TRANSVERSAL w_INTER_HOST h0 n0) s rom0.cells rom0.slots) (s₁.setTop (entryFrame m #[(.int p1)] 1))
  refine Goes.step (S' := s₁.setTop (mkF m 0 #[.val (.int p1)] [])) (fun t k => castTop (ef_pick_2 m p1) k) ?_
  refine Goes.step (S' := s₁.setTop (mkF m 22 #[.val (.int p1)] [])) (fun t k => XS.iloadN X0.here hx rfl (hb hby d_method_2_code_0) rfl (XS.ifYes X0.here hx rfl (pc0 := 1) (pc' := 8) rfl (hb hby d_method_2_code_1) rfl ((if0 _ _).trans (feq ((by rw [Hp]; decide) : ¬ (p1 = (0 : Int32)))).2) (by decide) (by decide) (XS.iloadN X0.here hx rfl (hb hby d_method_2_code_8) rfl (XS.iconst X0.here hx rfl (hb hby d_method_2_code_9) (XS.icmpYes X0.here hx rfl (pc0 := 10) (pc' := 17) rfl (hb hby d_method_2_code_10) rfl (feq ((by rw [Hp]; decide) : ¬ (p1 = (1 : Int32)))).2 (by decide) (by decide) (XS.iloadN X0.here hx rfl (hb hby d_method_2_code_17) rfl (XS.iconst X0.here hx rfl (hb hby d_method_2_code_18) (XS.icmpNo X0.here hx rfl (hb hby d_method_2_code_19) rfl (teq (Hp : p1 = (2 : Int32))).2 k)))))))) ?_
  obtain ⟨T101, X101, e101, st101⟩ := getS2 X0 hx hZ hown (host := "") (Or.inl tw24) Via.refl e0 S_UP (g := (mkF m 22 #[.val (.int p1)] [])) rfl (hb hby d_method_2_code_22)
  refine Goes.step (S' := T101.setTop (mkF m 25 #[.val (.int p1)] [(.ref w_UP)])) (fun t k => st101 _ k) ?_
  refine Goes.leave (g := (mkF m 25 #[.val (.int p1)] [(.ref w_UP)])) X101 Bd.notSynchronized (v := (some (.ref w_UP))) (fun h => by rw [Bd.returns] at h; cases h) (fun fs hr => by jvm_step X101.here [X101.here.top, hx, (hb hby d_method_2_code_25), X101.method', Bd.returns, Value.isRef, FieldType.isReference]; (first | (intro acts; rw [hr _ acts rfl rfl rfl]) | rw [hr _ _ rfl rfl rfl]); exact Steps.refl _) e101 ?_ (by decide) (by decide)
  exact ⟨rfl, N0, rfl⟩

theorem ef_pick_3 (m : MethodId) (x0 : Int32) : entryFrame m #[(.int x0)] 1 = mkF m 0 #[.val (.int x0)] [] := by first | (simp [entryFrame, mkF, argsToLocals, Value.category]; done) | rfl
def Q_pick_3 (Z : State) (p1 : Int32) (w_SAME_PAGE : Addr) (w_HORIZONTAL : Addr) (w_UP : Addr) (w_DOWN : Addr) (w_TRANSVERSAL : Addr) (w_INTER_HOST : Addr) (h0 : Heap) (n0 : Nat) (v : Option Value) (h : Heap) (L : List Loc) : Prop := v = some (.ref w_DOWN) ∧ Fr n0 L ∧ h = h0
set_option maxRecDepth 65536 in
set_option maxHeartbeats 40000000 in
theorem pick_3 (l : Launch) (Z : State) (a0 : Array Value) (hw : ∀ d ∈ tables_1, d.before a0 Z = true) (ws : List Jvm.Cond) (p1 : Int32) (w_SAME_PAGE : Addr) (w_HORIZONTAL : Addr) (w_UP : Addr) (w_DOWN : Addr) (w_TRANSVERSAL : Addr) (w_INTER_HOST : Addr) (h0 : Heap) (n0 : Nat) (Z0 : n0 ≤ h0.size) (S_SAME_PAGE : Sta Z h0 "com/example/pampulha/pampulha/site/LinkSyntax" "SAME_PAGE" "Lcom/example/pampulha/pampulha/site/LinkSyntax;" (.ref w_SAME_PAGE)) (S_HORIZONTAL : Sta Z h0 "com/example/pampulha/pampulha/site/LinkSyntax" "HORIZONTAL" "Lcom/example/pampulha/pampulha/site/LinkSyntax;" (.ref w_HORIZONTAL)) (S_UP : Sta Z h0 "com/example/pampulha/pampulha/site/LinkSyntax" "UP" "Lcom/example/pampulha/pampulha/site/LinkSyntax;" (.ref w_UP)) (S_DOWN : Sta Z h0 "com/example/pampulha/pampulha/site/LinkSyntax" "DOWN" "Lcom/example/pampulha/pampulha/site/LinkSyntax;" (.ref w_DOWN)) (S_TRANSVERSAL : Sta Z h0 "com/example/pampulha/pampulha/site/LinkSyntax" "TRANSVERSAL" "Lcom/example/pampulha/pampulha/site/LinkSyntax;" (.ref w_TRANSVERSAL)) (S_INTER_HOST : Sta Z h0 "com/example/pampulha/pampulha/site/LinkSyntax" "INTER_HOST" "Lcom/example/pampulha/pampulha/site/LinkSyntax;" (.ref w_INTER_HOST)) (Hp : p1 = (3 : Int32)) :
    MetFree l mth0 (head1 (Jvm.Cond.code mth0 method_2_code 1 (some (.object "com/example/pampulha/pampulha/site/LinkSyntax")) :: ws) rom0) (fun a U => a = #[(.int p1)] ∧ Z.Warmed39 U.vm ∧ U.heap = h0) (fun _ _ _ _ _ => True) (fun _ U o U' => ∃ v L, o = .returned v ∧ Q_pick_3 Z p1 w_SAME_PAGE w_HORIZONTAL w_UP w_DOWN w_TRANSVERSAL w_INTER_HOST h0 n0 v U'.heap L ∧ FrameEnd U o U' L rom0.cells rom0.slots) := by
  refine MetFree.of_bodySF (plainFor_of_name pnm0) hisR ?_
  intro p e s m args below meth c s₁ Bd hml0 hP hK
  obtain ⟨rfl, hZ, hh⟩ := hP
  have hx := Bd.exec
  have hby := Bd.bytes
  have hml : c.maxLocals = 1 := hml0
  have hown : s.vm.findClass "com/example/pampulha/pampulha/site/LinkSyntaxReversedPinLaw" = some m.cls := findClass_of_methodNamed Bd.named
  have hnm := (name_of_methodNamed Bd.named Bd.method).1
  have X0 : Stand p l e rom0 s m #[(.int p1)] below meth c s₁ [] 0 0 := Stand.of_body Bd
  have e0 : s₁.heap = h0 := by rw [← hh, Bd.state]; rfl
  have N0 := Fr.nil n0
  have tw22 := hw _ (List.mem_of_getElem? (i := 22) rfl)
  show Goes p e below (Pq (Q_pick_3 Z p1 w_SAME_PAGE w_HORIZONTAL w_UP w_DOWN w_TRANSVERSAL w_INTER_HOST h0 n0) s rom0.cells rom0.slots) (s₁.setTop (entryFrame m #[(.int p1)] 1))
  refine Goes.step (S' := s₁.setTop (mkF m 0 #[.val (.int p1)] [])) (fun t k => castTop (ef_pick_3 m p1) k) ?_
  refine Goes.step (S' := s₁.setTop (mkF m 26 #[.val (.int p1)] [])) (fun t k => XS.iloadN X0.here hx rfl (hb hby d_method_2_code_0) rfl (XS.ifYes X0.here hx rfl (pc0 := 1) (pc' := 8) rfl (hb hby d_method_2_code_1) rfl ((if0 _ _).trans (feq ((by rw [Hp]; decide) : ¬ (p1 = (0 : Int32)))).2) (by decide) (by decide) (XS.iloadN X0.here hx rfl (hb hby d_method_2_code_8) rfl (XS.iconst X0.here hx rfl (hb hby d_method_2_code_9) (XS.icmpYes X0.here hx rfl (pc0 := 10) (pc' := 17) rfl (hb hby d_method_2_code_10) rfl (feq ((by rw [Hp]; decide) : ¬ (p1 = (1 : Int32)))).2 (by decide) (by decide) (XS.iloadN X0.here hx rfl (hb hby d_method_2_code_17) rfl (XS.iconst X0.here hx rfl (hb hby d_method_2_code_18) (XS.icmpYes X0.here hx rfl (pc0 := 19) (pc' := 26) rfl (hb hby d_method_2_code_19) rfl (feq ((by rw [Hp]; decide) : ¬ (p1 = (2 : Int32)))).2 (by decide) (by decide) k)))))))) ?_
  refine Goes.step (S' := s₁.setTop (mkF m 31 #[.val (.int p1)] [])) (fun t k => XS.iloadN X0.here hx rfl (hb hby d_method_2_code_26) rfl (XS.iconst X0.here hx rfl (hb hby d_method_2_code_27) (XS.icmpNo X0.here hx rfl (hb hby d_method_2_code_28) rfl (teq (Hp : p1 = (3 : Int32))).2 k))) ?_
  obtain ⟨T101, X101, e101, st101⟩ := getS2 X0 hx hZ hown (host := "") (Or.inl tw22) Via.refl e0 S_DOWN (g := (mkF m 31 #[.val (.int p1)] [])) rfl (hb hby d_method_2_code_31)
  refine Goes.step (S' := T101.setTop (mkF m 34 #[.val (.int p1)] [(.ref w_DOWN)])) (fun t k => st101 _ k) ?_
  refine Goes.leave (g := (mkF m 34 #[.val (.int p1)] [(.ref w_DOWN)])) X101 Bd.notSynchronized (v := (some (.ref w_DOWN))) (fun h => by rw [Bd.returns] at h; cases h) (fun fs hr => by jvm_step X101.here [X101.here.top, hx, (hb hby d_method_2_code_34), X101.method', Bd.returns, Value.isRef, FieldType.isReference]; (first | (intro acts; rw [hr _ acts rfl rfl rfl]) | rw [hr _ _ rfl rfl rfl]); exact Steps.refl _) e101 ?_ (by decide) (by decide)
  exact ⟨rfl, N0, rfl⟩

theorem ef_pick_4 (m : MethodId) (x0 : Int32) : entryFrame m #[(.int x0)] 1 = mkF m 0 #[.val (.int x0)] [] := by first | (simp [entryFrame, mkF, argsToLocals, Value.category]; done) | rfl
def Q_pick_4 (Z : State) (p1 : Int32) (w_SAME_PAGE : Addr) (w_HORIZONTAL : Addr) (w_UP : Addr) (w_DOWN : Addr) (w_TRANSVERSAL : Addr) (w_INTER_HOST : Addr) (h0 : Heap) (n0 : Nat) (v : Option Value) (h : Heap) (L : List Loc) : Prop := v = some (.ref w_TRANSVERSAL) ∧ Fr n0 L ∧ h = h0
set_option maxRecDepth 65536 in
set_option maxHeartbeats 40000000 in
theorem pick_4 (l : Launch) (Z : State) (a0 : Array Value) (hw : ∀ d ∈ tables_1, d.before a0 Z = true) (ws : List Jvm.Cond) (p1 : Int32) (w_SAME_PAGE : Addr) (w_HORIZONTAL : Addr) (w_UP : Addr) (w_DOWN : Addr) (w_TRANSVERSAL : Addr) (w_INTER_HOST : Addr) (h0 : Heap) (n0 : Nat) (Z0 : n0 ≤ h0.size) (S_SAME_PAGE : Sta Z h0 "com/example/pampulha/pampulha/site/LinkSyntax" "SAME_PAGE" "Lcom/example/pampulha/pampulha/site/LinkSyntax;" (.ref w_SAME_PAGE)) (S_HORIZONTAL : Sta Z h0 "com/example/pampulha/pampulha/site/LinkSyntax" "HORIZONTAL" "Lcom/example/pampulha/pampulha/site/LinkSyntax;" (.ref w_HORIZONTAL)) (S_UP : Sta Z h0 "com/example/pampulha/pampulha/site/LinkSyntax" "UP" "Lcom/example/pampulha/pampulha/site/LinkSyntax;" (.ref w_UP)) (S_DOWN : Sta Z h0 "com/example/pampulha/pampulha/site/LinkSyntax" "DOWN" "Lcom/example/pampulha/pampulha/site/LinkSyntax;" (.ref w_DOWN)) (S_TRANSVERSAL : Sta Z h0 "com/example/pampulha/pampulha/site/LinkSyntax" "TRANSVERSAL" "Lcom/example/pampulha/pampulha/site/LinkSyntax;" (.ref w_TRANSVERSAL)) (S_INTER_HOST : Sta Z h0 "com/example/pampulha/pampulha/site/LinkSyntax" "INTER_HOST" "Lcom/example/pampulha/pampulha/site/LinkSyntax;" (.ref w_INTER_HOST)) (Hp : p1 = (4 : Int32)) :
    MetFree l mth0 (head1 (Jvm.Cond.code mth0 method_2_code 1 (some (.object "com/example/pampulha/pampulha/site/LinkSyntax")) :: ws) rom0) (fun a U => a = #[(.int p1)] ∧ Z.Warmed39 U.vm ∧ U.heap = h0) (fun _ _ _ _ _ => True) (fun _ U o U' => ∃ v L, o = .returned v ∧ Q_pick_4 Z p1 w_SAME_PAGE w_HORIZONTAL w_UP w_DOWN w_TRANSVERSAL w_INTER_HOST h0 n0 v U'.heap L ∧ FrameEnd U o U' L rom0.cells rom0.slots) := by
  refine MetFree.of_bodySF (plainFor_of_name pnm0) hisR ?_
  intro p e s m args below meth c s₁ Bd hml0 hP hK
  obtain ⟨rfl, hZ, hh⟩ := hP
  have hx := Bd.exec
  have hby := Bd.bytes
  have hml : c.maxLocals = 1 := hml0
  have hown : s.vm.findClass "com/example/pampulha/pampulha/site/LinkSyntaxReversedPinLaw" = some m.cls := findClass_of_methodNamed Bd.named
  have hnm := (name_of_methodNamed Bd.named Bd.method).1
  have X0 : Stand p l e rom0 s m #[(.int p1)] below meth c s₁ [] 0 0 := Stand.of_body Bd
  have e0 : s₁.heap = h0 := by rw [← hh, Bd.state]; rfl
  have N0 := Fr.nil n0
  have tw32 := hw _ (List.mem_of_getElem? (i := 32) rfl)
  show Goes p e below (Pq (Q_pick_4 Z p1 w_SAME_PAGE w_HORIZONTAL w_UP w_DOWN w_TRANSVERSAL w_INTER_HOST h0 n0) s rom0.cells rom0.slots) (s₁.setTop (entryFrame m #[(.int p1)] 1))
  refine Goes.step (S' := s₁.setTop (mkF m 0 #[.val (.int p1)] [])) (fun t k => castTop (ef_pick_4 m p1) k) ?_
  refine Goes.step (S' := s₁.setTop (mkF m 26 #[.val (.int p1)] [])) (fun t k => XS.iloadN X0.here hx rfl (hb hby d_method_2_code_0) rfl (XS.ifYes X0.here hx rfl (pc0 := 1) (pc' := 8) rfl (hb hby d_method_2_code_1) rfl ((if0 _ _).trans (feq ((by rw [Hp]; decide) : ¬ (p1 = (0 : Int32)))).2) (by decide) (by decide) (XS.iloadN X0.here hx rfl (hb hby d_method_2_code_8) rfl (XS.iconst X0.here hx rfl (hb hby d_method_2_code_9) (XS.icmpYes X0.here hx rfl (pc0 := 10) (pc' := 17) rfl (hb hby d_method_2_code_10) rfl (feq ((by rw [Hp]; decide) : ¬ (p1 = (1 : Int32)))).2 (by decide) (by decide) (XS.iloadN X0.here hx rfl (hb hby d_method_2_code_17) rfl (XS.iconst X0.here hx rfl (hb hby d_method_2_code_18) (XS.icmpYes X0.here hx rfl (pc0 := 19) (pc' := 26) rfl (hb hby d_method_2_code_19) rfl (feq ((by rw [Hp]; decide) : ¬ (p1 = (2 : Int32)))).2 (by decide) (by decide) k)))))))) ?_
  refine Goes.step (S' := s₁.setTop (mkF m 40 #[.val (.int p1)] [])) (fun t k => XS.iloadN X0.here hx rfl (hb hby d_method_2_code_26) rfl (XS.iconst X0.here hx rfl (hb hby d_method_2_code_27) (XS.icmpYes X0.here hx rfl (pc0 := 28) (pc' := 35) rfl (hb hby d_method_2_code_28) rfl (feq ((by rw [Hp]; decide) : ¬ (p1 = (3 : Int32)))).2 (by decide) (by decide) (XS.iloadN X0.here hx rfl (hb hby d_method_2_code_35) rfl (XS.iconst X0.here hx rfl (hb hby d_method_2_code_36) (XS.icmpNo X0.here hx rfl (hb hby d_method_2_code_37) rfl (teq (Hp : p1 = (4 : Int32))).2 k)))))) ?_
  obtain ⟨T101, X101, e101, st101⟩ := getS2 X0 hx hZ hown (host := "") (Or.inl tw32) Via.refl e0 S_TRANSVERSAL (g := (mkF m 40 #[.val (.int p1)] [])) rfl (hb hby d_method_2_code_40)
  refine Goes.step (S' := T101.setTop (mkF m 43 #[.val (.int p1)] [(.ref w_TRANSVERSAL)])) (fun t k => st101 _ k) ?_
  refine Goes.leave (g := (mkF m 43 #[.val (.int p1)] [(.ref w_TRANSVERSAL)])) X101 Bd.notSynchronized (v := (some (.ref w_TRANSVERSAL))) (fun h => by rw [Bd.returns] at h; cases h) (fun fs hr => by jvm_step X101.here [X101.here.top, hx, (hb hby d_method_2_code_43), X101.method', Bd.returns, Value.isRef, FieldType.isReference]; (first | (intro acts; rw [hr _ acts rfl rfl rfl]) | rw [hr _ _ rfl rfl rfl]); exact Steps.refl _) e101 ?_ (by decide) (by decide)
  exact ⟨rfl, N0, rfl⟩

theorem ef_pick_5 (m : MethodId) (x0 : Int32) : entryFrame m #[(.int x0)] 1 = mkF m 0 #[.val (.int x0)] [] := by first | (simp [entryFrame, mkF, argsToLocals, Value.category]; done) | rfl
def Q_pick_5 (Z : State) (p1 : Int32) (w_SAME_PAGE : Addr) (w_HORIZONTAL : Addr) (w_UP : Addr) (w_DOWN : Addr) (w_TRANSVERSAL : Addr) (w_INTER_HOST : Addr) (h0 : Heap) (n0 : Nat) (v : Option Value) (h : Heap) (L : List Loc) : Prop := v = some (.ref w_INTER_HOST) ∧ Fr n0 L ∧ h = h0
set_option maxRecDepth 65536 in
set_option maxHeartbeats 40000000 in
theorem pick_5 (l : Launch) (Z : State) (a0 : Array Value) (hw : ∀ d ∈ tables_1, d.before a0 Z = true) (ws : List Jvm.Cond) (p1 : Int32) (w_SAME_PAGE : Addr) (w_HORIZONTAL : Addr) (w_UP : Addr) (w_DOWN : Addr) (w_TRANSVERSAL : Addr) (w_INTER_HOST : Addr) (h0 : Heap) (n0 : Nat) (Z0 : n0 ≤ h0.size) (S_SAME_PAGE : Sta Z h0 "com/example/pampulha/pampulha/site/LinkSyntax" "SAME_PAGE" "Lcom/example/pampulha/pampulha/site/LinkSyntax;" (.ref w_SAME_PAGE)) (S_HORIZONTAL : Sta Z h0 "com/example/pampulha/pampulha/site/LinkSyntax" "HORIZONTAL" "Lcom/example/pampulha/pampulha/site/LinkSyntax;" (.ref w_HORIZONTAL)) (S_UP : Sta Z h0 "com/example/pampulha/pampulha/site/LinkSyntax" "UP" "Lcom/example/pampulha/pampulha/site/LinkSyntax;" (.ref w_UP)) (S_DOWN : Sta Z h0 "com/example/pampulha/pampulha/site/LinkSyntax" "DOWN" "Lcom/example/pampulha/pampulha/site/LinkSyntax;" (.ref w_DOWN)) (S_TRANSVERSAL : Sta Z h0 "com/example/pampulha/pampulha/site/LinkSyntax" "TRANSVERSAL" "Lcom/example/pampulha/pampulha/site/LinkSyntax;" (.ref w_TRANSVERSAL)) (S_INTER_HOST : Sta Z h0 "com/example/pampulha/pampulha/site/LinkSyntax" "INTER_HOST" "Lcom/example/pampulha/pampulha/site/LinkSyntax;" (.ref w_INTER_HOST)) (Hp0 : ¬ (p1 = (0 : Int32))) (Hp1 : ¬ (p1 = (1 : Int32))) (Hp2 : ¬ (p1 = (2 : Int32))) (Hp3 : ¬ (p1 = (3 : Int32))) (Hp4 : ¬ (p1 = (4 : Int32))) :
    MetFree l mth0 (head1 (Jvm.Cond.code mth0 method_2_code 1 (some (.object "com/example/pampulha/pampulha/site/LinkSyntax")) :: ws) rom0) (fun a U => a = #[(.int p1)] ∧ Z.Warmed39 U.vm ∧ U.heap = h0) (fun _ _ _ _ _ => True) (fun _ U o U' => ∃ v L, o = .returned v ∧ Q_pick_5 Z p1 w_SAME_PAGE w_HORIZONTAL w_UP w_DOWN w_TRANSVERSAL w_INTER_HOST h0 n0 v U'.heap L ∧ FrameEnd U o U' L rom0.cells rom0.slots) := by
  refine MetFree.of_bodySF (plainFor_of_name pnm0) hisR ?_
  intro p e s m args below meth c s₁ Bd hml0 hP hK
  obtain ⟨rfl, hZ, hh⟩ := hP
  have hx := Bd.exec
  have hby := Bd.bytes
  have hml : c.maxLocals = 1 := hml0
  have hown : s.vm.findClass "com/example/pampulha/pampulha/site/LinkSyntaxReversedPinLaw" = some m.cls := findClass_of_methodNamed Bd.named
  have hnm := (name_of_methodNamed Bd.named Bd.method).1
  have X0 : Stand p l e rom0 s m #[(.int p1)] below meth c s₁ [] 0 0 := Stand.of_body Bd
  have e0 : s₁.heap = h0 := by rw [← hh, Bd.state]; rfl
  have N0 := Fr.nil n0
  have tw30 := hw _ (List.mem_of_getElem? (i := 30) rfl)
  show Goes p e below (Pq (Q_pick_5 Z p1 w_SAME_PAGE w_HORIZONTAL w_UP w_DOWN w_TRANSVERSAL w_INTER_HOST h0 n0) s rom0.cells rom0.slots) (s₁.setTop (entryFrame m #[(.int p1)] 1))
  refine Goes.step (S' := s₁.setTop (mkF m 0 #[.val (.int p1)] [])) (fun t k => castTop (ef_pick_5 m p1) k) ?_
  refine Goes.step (S' := s₁.setTop (mkF m 26 #[.val (.int p1)] [])) (fun t k => XS.iloadN X0.here hx rfl (hb hby d_method_2_code_0) rfl (XS.ifYes X0.here hx rfl (pc0 := 1) (pc' := 8) rfl (hb hby d_method_2_code_1) rfl ((if0 _ _).trans (feq (Hp0 : ¬ (p1 = (0 : Int32)))).2) (by decide) (by decide) (XS.iloadN X0.here hx rfl (hb hby d_method_2_code_8) rfl (XS.iconst X0.here hx rfl (hb hby d_method_2_code_9) (XS.icmpYes X0.here hx rfl (pc0 := 10) (pc' := 17) rfl (hb hby d_method_2_code_10) rfl (feq (Hp1 : ¬ (p1 = (1 : Int32)))).2 (by decide) (by decide) (XS.iloadN X0.here hx rfl (hb hby d_method_2_code_17) rfl (XS.iconst X0.here hx rfl (hb hby d_method_2_code_18) (XS.icmpYes X0.here hx rfl (pc0 := 19) (pc' := 26) rfl (hb hby d_method_2_code_19) rfl (feq (Hp2 : ¬ (p1 = (2 : Int32)))).2 (by decide) (by decide) k)))))))) ?_
  refine Goes.step (S' := s₁.setTop (mkF m 44 #[.val (.int p1)] [])) (fun t k => XS.iloadN X0.here hx rfl (hb hby d_method_2_code_26) rfl (XS.iconst X0.here hx rfl (hb hby d_method_2_code_27) (XS.icmpYes X0.here hx rfl (pc0 := 28) (pc' := 35) rfl (hb hby d_method_2_code_28) rfl (feq (Hp3 : ¬ (p1 = (3 : Int32)))).2 (by decide) (by decide) (XS.iloadN X0.here hx rfl (hb hby d_method_2_code_35) rfl (XS.iconst X0.here hx rfl (hb hby d_method_2_code_36) (XS.icmpYes X0.here hx rfl (pc0 := 37) (pc' := 44) rfl (hb hby d_method_2_code_37) rfl (feq (Hp4 : ¬ (p1 = (4 : Int32)))).2 (by decide) (by decide) k)))))) ?_
  obtain ⟨T101, X101, e101, st101⟩ := getS2 X0 hx hZ hown (host := "") (Or.inl tw30) Via.refl e0 S_INTER_HOST (g := (mkF m 44 #[.val (.int p1)] [])) rfl (hb hby d_method_2_code_44)
  refine Goes.step (S' := T101.setTop (mkF m 47 #[.val (.int p1)] [(.ref w_INTER_HOST)])) (fun t k => st101 _ k) ?_
  refine Goes.leave (g := (mkF m 47 #[.val (.int p1)] [(.ref w_INTER_HOST)])) X101 Bd.notSynchronized (v := (some (.ref w_INTER_HOST))) (fun h => by rw [Bd.returns] at h; cases h) (fun fs hr => by jvm_step X101.here [X101.here.top, hx, (hb hby d_method_2_code_47), X101.method', Bd.returns, Value.isRef, FieldType.isReference]; (first | (intro acts; rw [hr _ acts rfl rfl rfl]) | rw [hr _ _ rfl rfl rfl]); exact Steps.refl _) e101 ?_ (by decide) (by decide)
  exact ⟨rfl, N0, rfl⟩

theorem ef_ordi (m : MethodId) (x0 : Addr) : entryFrame m #[(.ref x0)] 1 = mkF m 0 #[.val (.ref x0)] [] := by first | (simp [entryFrame, mkF, argsToLocals, Value.category]; done) | rfl
def Q_ordi (Z : State) (a1 : Addr) (p1 : Int32) (h0 : Heap) (n0 : Nat) (v : Option Value) (h : Heap) (L : List Loc) : Prop := v = some (.int p1) ∧ Fr n0 L ∧ h = h0
set_option maxRecDepth 65536 in
set_option maxHeartbeats 40000000 in
theorem ordi (l : Launch) (Z : State) (a0 : Array Value) (hw : ∀ d ∈ tables_1, d.before a0 Z = true) (ws : List Jvm.Cond) (a1 : Addr) (p1 : Int32) (h0 : Heap) (n0 : Nat) (Z0 : n0 ≤ h0.size) (F1 : Fld Z h0 a1 "java/lang/Enum" "ordinal" "I" (.int p1)) :
    MetFree l mth1 (head1 (Jvm.Cond.code mth1 jdk_37_method_2_code 1 (some .int) :: ws) rom0) (fun a U => a = #[(.ref a1)] ∧ Z.Warmed39 U.vm ∧ U.heap = h0) (fun _ _ _ _ _ => True) (fun _ U o U' => ∃ v L, o = .returned v ∧ Q_ordi Z a1 p1 h0 n0 v U'.heap L ∧ FrameEnd U o U' L rom0.cells rom0.slots) := by
  refine MetFree.of_bodySF (plainFor_of_name pnm1) hisR ?_
  intro p e s m args below meth c s₁ Bd hml0 hP hK
  obtain ⟨rfl, hZ, hh⟩ := hP
  have hx := Bd.exec
  have hby := Bd.bytes
  have hml : c.maxLocals = 1 := hml0
  have hown : s.vm.findClass "java/lang/Enum" = some m.cls := findClass_of_methodNamed Bd.named
  have hnm := (name_of_methodNamed Bd.named Bd.method).1
  have X0 : Stand p l e rom0 s m #[(.ref a1)] below meth c s₁ [] 0 0 := Stand.of_body Bd
  have e0 : s₁.heap = h0 := by rw [← hh, Bd.state]; rfl
  have N0 := Fr.nil n0
  have tw20 := hw _ (List.mem_of_getElem? (i := 20) rfl)
  show Goes p e below (Pq (Q_ordi Z a1 p1 h0 n0) s rom0.cells rom0.slots) (s₁.setTop (entryFrame m #[(.ref a1)] 1))
  refine Goes.step (S' := s₁.setTop (mkF m 0 #[.val (.ref a1)] [])) (fun t k => castTop (ef_ordi m a1) k) ?_
  refine Goes.step (S' := s₁.setTop (mkF m 1 #[.val (.ref a1)] [(.ref a1)])) (fun t k => XS.aloadN X0.here hx rfl (hb hby d_jdk_37_method_2_code_0) rfl rfl k) ?_
  obtain ⟨T101, X101, e101, st101⟩ := getF X0 hx hZ hown (host := "") (Or.inl tw20) Via.refl e0 F1 (g := (mkF m 1 #[.val (.ref a1)] [(.ref a1)])) rfl rfl (hb hby d_jdk_37_method_2_code_1)
  refine Goes.step (S' := T101.setTop (mkF m 4 #[.val (.ref a1)] [(.int p1)])) (fun t k => st101 _ k) ?_
  refine Goes.leave (g := (mkF m 4 #[.val (.ref a1)] [(.int p1)])) X101 Bd.notSynchronized (v := (some (.int p1))) (fun h => by rw [Bd.returns] at h; cases h) (fun fs hr => retI X101 hx Bd.returns (hb hby d_jdk_37_method_2_code_4) hr) e101 ?_ (by decide) (by decide)
  exact ⟨rfl, N0, rfl⟩

theorem ef_rev_0 (m : MethodId) (x0 : Addr) : entryFrame m #[(.ref x0)] 1 = mkF m 0 #[.val (.ref x0)] [] := by first | (simp [entryFrame, mkF, argsToLocals, Value.category]; done) | rfl
def Q_rev_0 (Z : State) (a1 : Addr) (w_UP : Addr) (w_DOWN : Addr) (h0 : Heap) (n0 : Nat) (v : Option Value) (h : Heap) (L : List Loc) : Prop := v = some (.ref a1) ∧ Fr n0 L ∧ h = h0
set_option maxRecDepth 65536 in
set_option maxHeartbeats 40000000 in
theorem rev_0 (l : Launch) (Z : State) (a0 : Array Value) (hw : ∀ d ∈ tables_1, d.before a0 Z = true) (ws : List Jvm.Cond) (a1 : Addr) (w_UP : Addr) (w_DOWN : Addr) (h0 : Heap) (n0 : Nat) (Z0 : n0 ≤ h0.size) (E1 : Exa Z h0 a1 "com/example/pampulha/pampulha/site/LinkSyntax") (F1 : Fld Z h0 a1 "java/lang/Enum" "ordinal" "I" (.int (0 : Int32))) (S_UP : Sta Z h0 "com/example/pampulha/pampulha/site/LinkSyntax" "UP" "Lcom/example/pampulha/pampulha/site/LinkSyntax;" (.ref w_UP)) (S_DOWN : Sta Z h0 "com/example/pampulha/pampulha/site/LinkSyntax" "DOWN" "Lcom/example/pampulha/pampulha/site/LinkSyntax;" (.ref w_DOWN)) :
    MetFree l mth3 (head1 (Jvm.Cond.code mth3 prog_17_method_7_code 1 (some (.object "com/example/pampulha/pampulha/site/LinkSyntax")) :: ws) rom1) (fun a U => a = #[(.ref a1)] ∧ Z.Warmed39 U.vm ∧ U.heap = h0) (fun _ _ _ _ _ => True) (fun _ U o U' => ∃ v L, o = .returned v ∧ Q_rev_0 Z a1 w_UP w_DOWN h0 n0 v U'.heap L ∧ FrameEnd U o U' L rom1.cells rom1.slots) := by
  refine MetFree.of_bodySF (plainFor_of_name pnm2) hisR ?_
  intro p e s m args below meth c s₁ Bd hml0 hP hK
  obtain ⟨rfl, hZ, hh⟩ := hP
  have hx := Bd.exec
  have hby := Bd.bytes
  have hml : c.maxLocals = 1 := hml0
  have hown : s.vm.findClass "com/example/pampulha/pampulha/site/LinkSyntax" = some m.cls := findClass_of_methodNamed Bd.named
  have hnm := (name_of_methodNamed Bd.named Bd.method).1
  have X0 : Stand p l e rom1 s m #[(.ref a1)] below meth c s₁ [] 0 0 := Stand.of_body Bd
  have e0 : s₁.heap = h0 := by rw [← hh, Bd.state]; rfl
  have N0 := Fr.nil n0
  have tw13 := hw _ (List.mem_of_getElem? (i := 13) rfl)
  have tw14 := hw _ (List.mem_of_getElem? (i := 14) rfl)
  have tw15 := hw _ (List.mem_of_getElem? (i := 15) rfl)
  have tw16 := hw _ (List.mem_of_getElem? (i := 16) rfl)
  have tw17 := hw _ (List.mem_of_getElem? (i := 17) rfl)
  have tw18 := hw _ (List.mem_of_getElem? (i := 18) rfl)
  have tw19 := hw _ (List.mem_of_getElem? (i := 19) rfl)
  show Goes p e below (Pq (Q_rev_0 Z a1 w_UP w_DOWN h0 n0) s rom1.cells rom1.slots) (s₁.setTop (entryFrame m #[(.ref a1)] 1))
  refine Goes.step (S' := s₁.setTop (mkF m 0 #[.val (.ref a1)] [])) (fun t k => castTop (ef_rev_0 m a1) k) ?_
  refine Goes.step (S' := s₁.setTop (mkF m 1 #[.val (.ref a1)] [(.ref a1)])) (fun t k => XS.aloadN X0.here hx rfl (hb hby d_prog_17_method_7_code_0) rfl rfl k) ?_
  obtain ⟨cq101, kq101, q101a, q101b, q101c⟩ := isOf hZ e0 E1
  obtain ⟨_, _, ⟨T101, L101, k101, n101⟩, -, X101, ⟨Lc101, hQ101, l101, y101, z101⟩, st101⟩ := X0.virtualBackUp hx (x := mth2) (y := mth1) hown (mvT hZ tw13) (mvT hZ tw14) (mvT hZ tw15) (by decide) (mvT hZ tw17) (mvT hZ tw16) (backOf (W := 0) (ordi l Z a0 hw [] a1 (0 : Int32) h0 n0 Z0 F1) hZ tw19 tw18 (by decide) (by decide)) q101a q101c (g := (mkF m 1 #[.val (.ref a1)] [(.ref a1)])) rfl (by rw [hml]; rfl) (Steps.refl _) (argsL := []) (rest := []) (lenOf pd_I rfl) rfl (Nat.le_of_eq rfl) (hb hby d_prog_17_method_7_code_1) (fun _ _ => ⟨rfl, e0, (by decide : 0 + 0 ≤ _), (by decide : 0 + 0 ≤ _)⟩)
  dsimp only [Pt.U, Pt.locs, Pt.cells, Pt.slots] at X101 l101 y101 z101 st101 hQ101
  subst l101 y101 z101
  obtain ⟨rfl, Nq101, q101_0⟩ := hQ101
  have N101 := Fr.app N0 Nq101
  refine Goes.step (S' := T101.setTop (mkF m 45 #[.val (.ref a1)] [(.ref a1)])) (fun t k => st101.trans (X101.lookupswitchMiss hx (g := (mkF m 4 #[.val (.ref a1)] [(.int (0 : Int32))])) rfl rfl (hb hby d_prog_17_method_7_code_4) (by decide) (by decide) (by show (0 : Int) ≤ (4 : Int) + (40); decide) t (XS.aloadN X101.here hx rfl (hb hby d_prog_17_method_7_code_44) rfl rfl k))) ?_
  refine Goes.leave (g := (mkF m 45 #[.val (.ref a1)] [(.ref a1)])) X101 Bd.notSynchronized (v := (some (.ref a1))) (fun h => by rw [Bd.returns] at h; cases h) (fun fs hr => by jvm_step X101.here [X101.here.top, hx, (hb hby d_prog_17_method_7_code_45), X101.method', Bd.returns, Value.isRef, FieldType.isReference]; (first | (intro acts; rw [hr _ acts rfl rfl rfl]) | rw [hr _ _ rfl rfl rfl]); exact Steps.refl _) q101_0 ?_ (by decide) (by decide)
  exact ⟨rfl, N101, rfl⟩

theorem ef_rev_1 (m : MethodId) (x0 : Addr) : entryFrame m #[(.ref x0)] 1 = mkF m 0 #[.val (.ref x0)] [] := by first | (simp [entryFrame, mkF, argsToLocals, Value.category]; done) | rfl
def Q_rev_1 (Z : State) (a1 : Addr) (w_UP : Addr) (w_DOWN : Addr) (h0 : Heap) (n0 : Nat) (v : Option Value) (h : Heap) (L : List Loc) : Prop := v = some (.ref a1) ∧ Fr n0 L ∧ h = h0
set_option maxRecDepth 65536 in
set_option maxHeartbeats 40000000 in
theorem rev_1 (l : Launch) (Z : State) (a0 : Array Value) (hw : ∀ d ∈ tables_1, d.before a0 Z = true) (ws : List Jvm.Cond) (a1 : Addr) (w_UP : Addr) (w_DOWN : Addr) (h0 : Heap) (n0 : Nat) (Z0 : n0 ≤ h0.size) (E1 : Exa Z h0 a1 "com/example/pampulha/pampulha/site/LinkSyntax") (F1 : Fld Z h0 a1 "java/lang/Enum" "ordinal" "I" (.int (1 : Int32))) (S_UP : Sta Z h0 "com/example/pampulha/pampulha/site/LinkSyntax" "UP" "Lcom/example/pampulha/pampulha/site/LinkSyntax;" (.ref w_UP)) (S_DOWN : Sta Z h0 "com/example/pampulha/pampulha/site/LinkSyntax" "DOWN" "Lcom/example/pampulha/pampulha/site/LinkSyntax;" (.ref w_DOWN)) :
    MetFree l mth3 (head1 (Jvm.Cond.code mth3 prog_17_method_7_code 1 (some (.object "com/example/pampulha/pampulha/site/LinkSyntax")) :: ws) rom1) (fun a U => a = #[(.ref a1)] ∧ Z.Warmed39 U.vm ∧ U.heap = h0) (fun _ _ _ _ _ => True) (fun _ U o U' => ∃ v L, o = .returned v ∧ Q_rev_1 Z a1 w_UP w_DOWN h0 n0 v U'.heap L ∧ FrameEnd U o U' L rom1.cells rom1.slots) := by
  refine MetFree.of_bodySF (plainFor_of_name pnm2) hisR ?_
  intro p e s m args below meth c s₁ Bd hml0 hP hK
  obtain ⟨rfl, hZ, hh⟩ := hP
  have hx := Bd.exec
  have hby := Bd.bytes
  have hml : c.maxLocals = 1 := hml0
  have hown : s.vm.findClass "com/example/pampulha/pampulha/site/LinkSyntax" = some m.cls := findClass_of_methodNamed Bd.named
  have hnm := (name_of_methodNamed Bd.named Bd.method).1
  have X0 : Stand p l e rom1 s m #[(.ref a1)] below meth c s₁ [] 0 0 := Stand.of_body Bd
  have e0 : s₁.heap = h0 := by rw [← hh, Bd.state]; rfl
  have N0 := Fr.nil n0
  have tw13 := hw _ (List.mem_of_getElem? (i := 13) rfl)
  have tw14 := hw _ (List.mem_of_getElem? (i := 14) rfl)
  have tw15 := hw _ (List.mem_of_getElem? (i := 15) rfl)
  have tw16 := hw _ (List.mem_of_getElem? (i := 16) rfl)
  have tw17 := hw _ (List.mem_of_getElem? (i := 17) rfl)
  have tw18 := hw _ (List.mem_of_getElem? (i := 18) rfl)
  have tw19 := hw _ (List.mem_of_getElem? (i := 19) rfl)
  show Goes p e below (Pq (Q_rev_1 Z a1 w_UP w_DOWN h0 n0) s rom1.cells rom1.slots) (s₁.setTop (entryFrame m #[(.ref a1)] 1))
  refine Goes.step (S' := s₁.setTop (mkF m 0 #[.val (.ref a1)] [])) (fun t k => castTop (ef_rev_1 m a1) k) ?_
  refine Goes.step (S' := s₁.setTop (mkF m 1 #[.val (.ref a1)] [(.ref a1)])) (fun t k => XS.aloadN X0.here hx rfl (hb hby d_prog_17_method_7_code_0) rfl rfl k) ?_
  obtain ⟨cq101, kq101, q101a, q101b, q101c⟩ := isOf hZ e0 E1
  obtain ⟨_, _, ⟨T101, L101, k101, n101⟩, -, X101, ⟨Lc101, hQ101, l101, y101, z101⟩, st101⟩ := X0.virtualBackUp hx (x := mth2) (y := mth1) hown (mvT hZ tw13) (mvT hZ tw14) (mvT hZ tw15) (by decide) (mvT hZ tw17) (mvT hZ tw16) (backOf (W := 0) (ordi l Z a0 hw [] a1 (1 : Int32) h0 n0 Z0 F1) hZ tw19 tw18 (by decide) (by decide)) q101a q101c (g := (mkF m 1 #[.val (.ref a1)] [(.ref a1)])) rfl (by rw [hml]; rfl) (Steps.refl _) (argsL := []) (rest := []) (lenOf pd_I rfl) rfl (Nat.le_of_eq rfl) (hb hby d_prog_17_method_7_code_1) (fun _ _ => ⟨rfl, e0, (by decide : 0 + 0 ≤ _), (by decide : 0 + 0 ≤ _)⟩)
  dsimp only [Pt.U, Pt.locs, Pt.cells, Pt.slots] at X101 l101 y101 z101 st101 hQ101
  subst l101 y101 z101
  obtain ⟨rfl, Nq101, q101_0⟩ := hQ101
  have N101 := Fr.app N0 Nq101
  refine Goes.step (S' := T101.setTop (mkF m 45 #[.val (.ref a1)] [(.ref a1)])) (fun t k => st101.trans (X101.lookupswitchMiss hx (g := (mkF m 4 #[.val (.ref a1)] [(.int (1 : Int32))])) rfl rfl (hb hby d_prog_17_method_7_code_4) (by decide) (by decide) (by show (0 : Int) ≤ (4 : Int) + (40); decide) t (XS.aloadN X101.here hx rfl (hb hby d_prog_17_method_7_code_44) rfl rfl k))) ?_
  refine Goes.leave (g := (mkF m 45 #[.val (.ref a1)] [(.ref a1)])) X101 Bd.notSynchronized (v := (some (.ref a1))) (fun h => by rw [Bd.returns] at h; cases h) (fun fs hr => by jvm_step X101.here [X101.here.top, hx, (hb hby d_prog_17_method_7_code_45), X101.method', Bd.returns, Value.isRef, FieldType.isReference]; (first | (intro acts; rw [hr _ acts rfl rfl rfl]) | rw [hr _ _ rfl rfl rfl]); exact Steps.refl _) q101_0 ?_ (by decide) (by decide)
  exact ⟨rfl, N101, rfl⟩

theorem ef_rev_2 (m : MethodId) (x0 : Addr) : entryFrame m #[(.ref x0)] 1 = mkF m 0 #[.val (.ref x0)] [] := by first | (simp [entryFrame, mkF, argsToLocals, Value.category]; done) | rfl
def Q_rev_2 (Z : State) (a1 : Addr) (w_UP : Addr) (w_DOWN : Addr) (h0 : Heap) (n0 : Nat) (v : Option Value) (h : Heap) (L : List Loc) : Prop := v = some (.ref w_DOWN) ∧ Fr n0 L ∧ h = h0
set_option maxRecDepth 65536 in
set_option maxHeartbeats 40000000 in
theorem rev_2 (l : Launch) (Z : State) (a0 : Array Value) (hw : ∀ d ∈ tables_1, d.before a0 Z = true) (ws : List Jvm.Cond) (a1 : Addr) (w_UP : Addr) (w_DOWN : Addr) (h0 : Heap) (n0 : Nat) (Z0 : n0 ≤ h0.size) (E1 : Exa Z h0 a1 "com/example/pampulha/pampulha/site/LinkSyntax") (F1 : Fld Z h0 a1 "java/lang/Enum" "ordinal" "I" (.int (2 : Int32))) (S_UP : Sta Z h0 "com/example/pampulha/pampulha/site/LinkSyntax" "UP" "Lcom/example/pampulha/pampulha/site/LinkSyntax;" (.ref w_UP)) (S_DOWN : Sta Z h0 "com/example/pampulha/pampulha/site/LinkSyntax" "DOWN" "Lcom/example/pampulha/pampulha/site/LinkSyntax;" (.ref w_DOWN)) :
    MetFree l mth3 (head1 (Jvm.Cond.code mth3 prog_17_method_7_code 1 (some (.object "com/example/pampulha/pampulha/site/LinkSyntax")) :: ws) rom1) (fun a U => a = #[(.ref a1)] ∧ Z.Warmed39 U.vm ∧ U.heap = h0) (fun _ _ _ _ _ => True) (fun _ U o U' => ∃ v L, o = .returned v ∧ Q_rev_2 Z a1 w_UP w_DOWN h0 n0 v U'.heap L ∧ FrameEnd U o U' L rom1.cells rom1.slots) := by
  refine MetFree.of_bodySF (plainFor_of_name pnm2) hisR ?_
  intro p e s m args below meth c s₁ Bd hml0 hP hK
  obtain ⟨rfl, hZ, hh⟩ := hP
  have hx := Bd.exec
  have hby := Bd.bytes
  have hml : c.maxLocals = 1 := hml0
  have hown : s.vm.findClass "com/example/pampulha/pampulha/site/LinkSyntax" = some m.cls := findClass_of_methodNamed Bd.named
  have hnm := (name_of_methodNamed Bd.named Bd.method).1
  have X0 : Stand p l e rom1 s m #[(.ref a1)] below meth c s₁ [] 0 0 := Stand.of_body Bd
  have e0 : s₁.heap = h0 := by rw [← hh, Bd.state]; rfl
  have N0 := Fr.nil n0
  have tw13 := hw _ (List.mem_of_getElem? (i := 13) rfl)
  have tw14 := hw _ (List.mem_of_getElem? (i := 14) rfl)
  have tw15 := hw _ (List.mem_of_getElem? (i := 15) rfl)
  have tw16 := hw _ (List.mem_of_getElem? (i := 16) rfl)
  have tw17 := hw _ (List.mem_of_getElem? (i := 17) rfl)
  have tw18 := hw _ (List.mem_of_getElem? (i := 18) rfl)
  have tw19 := hw _ (List.mem_of_getElem? (i := 19) rfl)
  have tw27 := hw _ (List.mem_of_getElem? (i := 27) rfl)
  show Goes p e below (Pq (Q_rev_2 Z a1 w_UP w_DOWN h0 n0) s rom1.cells rom1.slots) (s₁.setTop (entryFrame m #[(.ref a1)] 1))
  refine Goes.step (S' := s₁.setTop (mkF m 0 #[.val (.ref a1)] [])) (fun t k => castTop (ef_rev_2 m a1) k) ?_
  refine Goes.step (S' := s₁.setTop (mkF m 1 #[.val (.ref a1)] [(.ref a1)])) (fun t k => XS.aloadN X0.here hx rfl (hb hby d_prog_17_method_7_code_0) rfl rfl k) ?_
  obtain ⟨cq101, kq101, q101a, q101b, q101c⟩ := isOf hZ e0 E1
  obtain ⟨_, _, ⟨T101, L101, k101, n101⟩, -, X101, ⟨Lc101, hQ101, l101, y101, z101⟩, st101⟩ := X0.virtualBackUp hx (x := mth2) (y := mth1) hown (mvT hZ tw13) (mvT hZ tw14) (mvT hZ tw15) (by decide) (mvT hZ tw17) (mvT hZ tw16) (backOf (W := 0) (ordi l Z a0 hw [] a1 (2 : Int32) h0 n0 Z0 F1) hZ tw19 tw18 (by decide) (by decide)) q101a q101c (g := (mkF m 1 #[.val (.ref a1)] [(.ref a1)])) rfl (by rw [hml]; rfl) (Steps.refl _) (argsL := []) (rest := []) (lenOf pd_I rfl) rfl (Nat.le_of_eq rfl) (hb hby d_prog_17_method_7_code_1) (fun _ _ => ⟨rfl, e0, (by decide : 0 + 0 ≤ _), (by decide : 0 + 0 ≤ _)⟩)
  dsimp only [Pt.U, Pt.locs, Pt.cells, Pt.slots] at X101 l101 y101 z101 st101 hQ101
  subst l101 y101 z101
  obtain ⟨rfl, Nq101, q101_0⟩ := hQ101
  have N101 := Fr.app N0 Nq101
  refine Goes.step (S' := T101.setTop (mkF m 32 #[.val (.ref a1)] [])) (fun t k => st101.trans (X101.lookupswitchHit hx (g := (mkF m 4 #[.val (.ref a1)] [(.int (2 : Int32))])) rfl rfl (hb hby d_prog_17_method_7_code_4) (by decide) (a := 2) (off := 28) (by decide) (by show (0 : Int) ≤ (4 : Int) + (28); decide) t k)) ?_
  obtain ⟨T102, X102, e102, st102⟩ := getS2 X101 hx hZ hown (host := "") (Or.inl tw27) Via.refl q101_0 S_DOWN (g := (mkF m 32 #[.val (.ref a1)] [])) rfl (hb hby d_prog_17_method_7_code_32)
  refine Goes.step (S' := T102.setTop (mkF m 45 #[.val (.ref a1)] [(.ref w_DOWN)])) (fun t k => st102 _ (XS.goto X102.here hx rfl (pc0 := 35) (pc' := 45) rfl (hb hby d_prog_17_method_7_code_35) (by decide) (by decide) k)) ?_
  refine Goes.leave (g := (mkF m 45 #[.val (.ref a1)] [(.ref w_DOWN)])) X102 Bd.notSynchronized (v := (some (.ref w_DOWN))) (fun h => by rw [Bd.returns] at h; cases h) (fun fs hr => by jvm_step X102.here [X102.here.top, hx, (hb hby d_prog_17_method_7_code_45), X102.method', Bd.returns, Value.isRef, FieldType.isReference]; (first | (intro acts; rw [hr _ acts rfl rfl rfl]) | rw [hr _ _ rfl rfl rfl]); exact Steps.refl _) e102 ?_ (by decide) (by decide)
  exact ⟨rfl, N101, rfl⟩

theorem ef_rev_3 (m : MethodId) (x0 : Addr) : entryFrame m #[(.ref x0)] 1 = mkF m 0 #[.val (.ref x0)] [] := by first | (simp [entryFrame, mkF, argsToLocals, Value.category]; done) | rfl
def Q_rev_3 (Z : State) (a1 : Addr) (w_UP : Addr) (w_DOWN : Addr) (h0 : Heap) (n0 : Nat) (v : Option Value) (h : Heap) (L : List Loc) : Prop := v = some (.ref w_UP) ∧ Fr n0 L ∧ h = h0
set_option maxRecDepth 65536 in
set_option maxHeartbeats 40000000 in
theorem rev_3 (l : Launch) (Z : State) (a0 : Array Value) (hw : ∀ d ∈ tables_1, d.before a0 Z = true) (ws : List Jvm.Cond) (a1 : Addr) (w_UP : Addr) (w_DOWN : Addr) (h0 : Heap) (n0 : Nat) (Z0 : n0 ≤ h0.size) (E1 : Exa Z h0 a1 "com/example/pampulha/pampulha/site/LinkSyntax") (F1 : Fld Z h0 a1 "java/lang/Enum" "ordinal" "I" (.int (3 : Int32))) (S_UP : Sta Z h0 "com/example/pampulha/pampulha/site/LinkSyntax" "UP" "Lcom/example/pampulha/pampulha/site/LinkSyntax;" (.ref w_UP)) (S_DOWN : Sta Z h0 "com/example/pampulha/pampulha/site/LinkSyntax" "DOWN" "Lcom/example/pampulha/pampulha/site/LinkSyntax;" (.ref w_DOWN)) :
    MetFree l mth3 (head1 (Jvm.Cond.code mth3 prog_17_method_7_code 1 (some (.object "com/example/pampulha/pampulha/site/LinkSyntax")) :: ws) rom1) (fun a U => a = #[(.ref a1)] ∧ Z.Warmed39 U.vm ∧ U.heap = h0) (fun _ _ _ _ _ => True) (fun _ U o U' => ∃ v L, o = .returned v ∧ Q_rev_3 Z a1 w_UP w_DOWN h0 n0 v U'.heap L ∧ FrameEnd U o U' L rom1.cells rom1.slots) := by
  refine MetFree.of_bodySF (plainFor_of_name pnm2) hisR ?_
  intro p e s m args below meth c s₁ Bd hml0 hP hK
  obtain ⟨rfl, hZ, hh⟩ := hP
  have hx := Bd.exec
  have hby := Bd.bytes
  have hml : c.maxLocals = 1 := hml0
  have hown : s.vm.findClass "com/example/pampulha/pampulha/site/LinkSyntax" = some m.cls := findClass_of_methodNamed Bd.named
  have hnm := (name_of_methodNamed Bd.named Bd.method).1
  have X0 : Stand p l e rom1 s m #[(.ref a1)] below meth c s₁ [] 0 0 := Stand.of_body Bd
  have e0 : s₁.heap = h0 := by rw [← hh, Bd.state]; rfl
  have N0 := Fr.nil n0
  have tw13 := hw _ (List.mem_of_getElem? (i := 13) rfl)
  have tw14 := hw _ (List.mem_of_getElem? (i := 14) rfl)
  have tw15 := hw _ (List.mem_of_getElem? (i := 15) rfl)
  have tw16 := hw _ (List.mem_of_getElem? (i := 16) rfl)
  have tw17 := hw _ (List.mem_of_getElem? (i := 17) rfl)
  have tw18 := hw _ (List.mem_of_getElem? (i := 18) rfl)
  have tw19 := hw _ (List.mem_of_getElem? (i := 19) rfl)
  have tw26 := hw _ (List.mem_of_getElem? (i := 26) rfl)
  show Goes p e below (Pq (Q_rev_3 Z a1 w_UP w_DOWN h0 n0) s rom1.cells rom1.slots) (s₁.setTop (entryFrame m #[(.ref a1)] 1))
  refine Goes.step (S' := s₁.setTop (mkF m 0 #[.val (.ref a1)] [])) (fun t k => castTop (ef_rev_3 m a1) k) ?_
  refine Goes.step (S' := s₁.setTop (mkF m 1 #[.val (.ref a1)] [(.ref a1)])) (fun t k => XS.aloadN X0.here hx rfl (hb hby d_prog_17_method_7_code_0) rfl rfl k) ?_
  obtain ⟨cq101, kq101, q101a, q101b, q101c⟩ := isOf hZ e0 E1
  obtain ⟨_, _, ⟨T101, L101, k101, n101⟩, -, X101, ⟨Lc101, hQ101, l101, y101, z101⟩, st101⟩ := X0.virtualBackUp hx (x := mth2) (y := mth1) hown (mvT hZ tw13) (mvT hZ tw14) (mvT hZ tw15) (by decide) (mvT hZ tw17) (mvT hZ tw16) (backOf (W := 0) (ordi l Z a0 hw [] a1 (3 : Int32) h0 n0 Z0 F1) hZ tw19 tw18 (by decide) (by decide)) q101a q101c (g := (mkF m 1 #[.val (.ref a1)] [(.ref a1)])) rfl (by rw [hml]; rfl) (Steps.refl _) (argsL := []) (rest := []) (lenOf pd_I rfl) rfl (Nat.le_of_eq rfl) (hb hby d_prog_17_method_7_code_1) (fun _ _ => ⟨rfl, e0, (by decide : 0 + 0 ≤ _), (by decide : 0 + 0 ≤ _)⟩)
  dsimp only [Pt.U, Pt.locs, Pt.cells, Pt.slots] at X101 l101 y101 z101 st101 hQ101
  subst l101 y101 z101
  obtain ⟨rfl, Nq101, q101_0⟩ := hQ101
  have N101 := Fr.app N0 Nq101
  refine Goes.step (S' := T101.setTop (mkF m 38 #[.val (.ref a1)] [])) (fun t k => st101.trans (X101.lookupswitchHit hx (g := (mkF m 4 #[.val (.ref a1)] [(.int (3 : Int32))])) rfl rfl (hb hby d_prog_17_method_7_code_4) (by decide) (a := 3) (off := 34) (by decide) (by show (0 : Int) ≤ (4 : Int) + (34); decide) t k)) ?_
  obtain ⟨T102, X102, e102, st102⟩ := getS2 X101 hx hZ hown (host := "") (Or.inl tw26) Via.refl q101_0 S_UP (g := (mkF m 38 #[.val (.ref a1)] [])) rfl (hb hby d_prog_17_method_7_code_38)
  refine Goes.step (S' := T102.setTop (mkF m 45 #[.val (.ref a1)] [(.ref w_UP)])) (fun t k => st102 _ (XS.goto X102.here hx rfl (pc0 := 41) (pc' := 45) rfl (hb hby d_prog_17_method_7_code_41) (by decide) (by decide) k)) ?_
  refine Goes.leave (g := (mkF m 45 #[.val (.ref a1)] [(.ref w_UP)])) X102 Bd.notSynchronized (v := (some (.ref w_UP))) (fun h => by rw [Bd.returns] at h; cases h) (fun fs hr => by jvm_step X102.here [X102.here.top, hx, (hb hby d_prog_17_method_7_code_45), X102.method', Bd.returns, Value.isRef, FieldType.isReference]; (first | (intro acts; rw [hr _ acts rfl rfl rfl]) | rw [hr _ _ rfl rfl rfl]); exact Steps.refl _) e102 ?_ (by decide) (by decide)
  exact ⟨rfl, N101, rfl⟩

theorem ef_rev_4 (m : MethodId) (x0 : Addr) : entryFrame m #[(.ref x0)] 1 = mkF m 0 #[.val (.ref x0)] [] := by first | (simp [entryFrame, mkF, argsToLocals, Value.category]; done) | rfl
def Q_rev_4 (Z : State) (a1 : Addr) (w_UP : Addr) (w_DOWN : Addr) (h0 : Heap) (n0 : Nat) (v : Option Value) (h : Heap) (L : List Loc) : Prop := v = some (.ref a1) ∧ Fr n0 L ∧ h = h0
set_option maxRecDepth 65536 in
set_option maxHeartbeats 40000000 in
theorem rev_4 (l : Launch) (Z : State) (a0 : Array Value) (hw : ∀ d ∈ tables_1, d.before a0 Z = true) (ws : List Jvm.Cond) (a1 : Addr) (w_UP : Addr) (w_DOWN : Addr) (h0 : Heap) (n0 : Nat) (Z0 : n0 ≤ h0.size) (E1 : Exa Z h0 a1 "com/example/pampulha/pampulha/site/LinkSyntax") (F1 : Fld Z h0 a1 "java/lang/Enum" "ordinal" "I" (.int (4 : Int32))) (S_UP : Sta Z h0 "com/example/pampulha/pampulha/site/LinkSyntax" "UP" "Lcom/example/pampulha/pampulha/site/LinkSyntax;" (.ref w_UP)) (S_DOWN : Sta Z h0 "com/example/pampulha/pampulha/site/LinkSyntax" "DOWN" "Lcom/example/pampulha/pampulha/site/LinkSyntax;" (.ref w_DOWN)) :
    MetFree l mth3 (head1 (Jvm.Cond.code mth3 prog_17_method_7_code 1 (some (.object "com/example/pampulha/pampulha/site/LinkSyntax")) :: ws) rom1) (fun a U => a = #[(.ref a1)] ∧ Z.Warmed39 U.vm ∧ U.heap = h0) (fun _ _ _ _ _ => True) (fun _ U o U' => ∃ v L, o = .returned v ∧ Q_rev_4 Z a1 w_UP w_DOWN h0 n0 v U'.heap L ∧ FrameEnd U o U' L rom1.cells rom1.slots) := by
  refine MetFree.of_bodySF (plainFor_of_name pnm2) hisR ?_
  intro p e s m args below meth c s₁ Bd hml0 hP hK
  obtain ⟨rfl, hZ, hh⟩ := hP
  have hx := Bd.exec
  have hby := Bd.bytes
  have hml : c.maxLocals = 1 := hml0
  have hown : s.vm.findClass "com/example/pampulha/pampulha/site/LinkSyntax" = some m.cls := findClass_of_methodNamed Bd.named
  have hnm := (name_of_methodNamed Bd.named Bd.method).1
  have X0 : Stand p l e rom1 s m #[(.ref a1)] below meth c s₁ [] 0 0 := Stand.of_body Bd
  have e0 : s₁.heap = h0 := by rw [← hh, Bd.state]; rfl
  have N0 := Fr.nil n0
  have tw13 := hw _ (List.mem_of_getElem? (i := 13) rfl)
  have tw14 := hw _ (List.mem_of_getElem? (i := 14) rfl)
  have tw15 := hw _ (List.mem_of_getElem? (i := 15) rfl)
  have tw16 := hw _ (List.mem_of_getElem? (i := 16) rfl)
  have tw17 := hw _ (List.mem_of_getElem? (i := 17) rfl)
  have tw18 := hw _ (List.mem_of_getElem? (i := 18) rfl)
  have tw19 := hw _ (List.mem_of_getElem? (i := 19) rfl)
  show Goes p e below (Pq (Q_rev_4 Z a1 w_UP w_DOWN h0 n0) s rom1.cells rom1.slots) (s₁.setTop (entryFrame m #[(.ref a1)] 1))
  refine Goes.step (S' := s₁.setTop (mkF m 0 #[.val (.ref a1)] [])) (fun t k => castTop (ef_rev_4 m a1) k) ?_
  refine Goes.step (S' := s₁.setTop (mkF m 1 #[.val (.ref a1)] [(.ref a1)])) (fun t k => XS.aloadN X0.here hx rfl (hb hby d_prog_17_method_7_code_0) rfl rfl k) ?_
  obtain ⟨cq101, kq101, q101a, q101b, q101c⟩ := isOf hZ e0 E1
  obtain ⟨_, _, ⟨T101, L101, k101, n101⟩, -, X101, ⟨Lc101, hQ101, l101, y101, z101⟩, st101⟩ := X0.virtualBackUp hx (x := mth2) (y := mth1) hown (mvT hZ tw13) (mvT hZ tw14) (mvT hZ tw15) (by decide) (mvT hZ tw17) (mvT hZ tw16) (backOf (W := 0) (ordi l Z a0 hw [] a1 (4 : Int32) h0 n0 Z0 F1) hZ tw19 tw18 (by decide) (by decide)) q101a q101c (g := (mkF m 1 #[.val (.ref a1)] [(.ref a1)])) rfl (by rw [hml]; rfl) (Steps.refl _) (argsL := []) (rest := []) (lenOf pd_I rfl) rfl (Nat.le_of_eq rfl) (hb hby d_prog_17_method_7_code_1) (fun _ _ => ⟨rfl, e0, (by decide : 0 + 0 ≤ _), (by decide : 0 + 0 ≤ _)⟩)
  dsimp only [Pt.U, Pt.locs, Pt.cells, Pt.slots] at X101 l101 y101 z101 st101 hQ101
  subst l101 y101 z101
  obtain ⟨rfl, Nq101, q101_0⟩ := hQ101
  have N101 := Fr.app N0 Nq101
  refine Goes.step (S' := T101.setTop (mkF m 45 #[.val (.ref a1)] [(.ref a1)])) (fun t k => st101.trans (X101.lookupswitchMiss hx (g := (mkF m 4 #[.val (.ref a1)] [(.int (4 : Int32))])) rfl rfl (hb hby d_prog_17_method_7_code_4) (by decide) (by decide) (by show (0 : Int) ≤ (4 : Int) + (40); decide) t (XS.aloadN X101.here hx rfl (hb hby d_prog_17_method_7_code_44) rfl rfl k))) ?_
  refine Goes.leave (g := (mkF m 45 #[.val (.ref a1)] [(.ref a1)])) X101 Bd.notSynchronized (v := (some (.ref a1))) (fun h => by rw [Bd.returns] at h; cases h) (fun fs hr => by jvm_step X101.here [X101.here.top, hx, (hb hby d_prog_17_method_7_code_45), X101.method', Bd.returns, Value.isRef, FieldType.isReference]; (first | (intro acts; rw [hr _ acts rfl rfl rfl]) | rw [hr _ _ rfl rfl rfl]); exact Steps.refl _) q101_0 ?_ (by decide) (by decide)
  exact ⟨rfl, N101, rfl⟩

theorem ef_rev_5 (m : MethodId) (x0 : Addr) : entryFrame m #[(.ref x0)] 1 = mkF m 0 #[.val (.ref x0)] [] := by first | (simp [entryFrame, mkF, argsToLocals, Value.category]; done) | rfl
def Q_rev_5 (Z : State) (a1 : Addr) (w_UP : Addr) (w_DOWN : Addr) (h0 : Heap) (n0 : Nat) (v : Option Value) (h : Heap) (L : List Loc) : Prop := v = some (.ref a1) ∧ Fr n0 L ∧ h = h0
set_option maxRecDepth 65536 in
set_option maxHeartbeats 40000000 in
theorem rev_5 (l : Launch) (Z : State) (a0 : Array Value) (hw : ∀ d ∈ tables_1, d.before a0 Z = true) (ws : List Jvm.Cond) (a1 : Addr) (w_UP : Addr) (w_DOWN : Addr) (h0 : Heap) (n0 : Nat) (Z0 : n0 ≤ h0.size) (E1 : Exa Z h0 a1 "com/example/pampulha/pampulha/site/LinkSyntax") (F1 : Fld Z h0 a1 "java/lang/Enum" "ordinal" "I" (.int (5 : Int32))) (S_UP : Sta Z h0 "com/example/pampulha/pampulha/site/LinkSyntax" "UP" "Lcom/example/pampulha/pampulha/site/LinkSyntax;" (.ref w_UP)) (S_DOWN : Sta Z h0 "com/example/pampulha/pampulha/site/LinkSyntax" "DOWN" "Lcom/example/pampulha/pampulha/site/LinkSyntax;" (.ref w_DOWN)) :
    MetFree l mth3 (head1 (Jvm.Cond.code mth3 prog_17_method_7_code 1 (some (.object "com/example/pampulha/pampulha/site/LinkSyntax")) :: ws) rom1) (fun a U => a = #[(.ref a1)] ∧ Z.Warmed39 U.vm ∧ U.heap = h0) (fun _ _ _ _ _ => True) (fun _ U o U' => ∃ v L, o = .returned v ∧ Q_rev_5 Z a1 w_UP w_DOWN h0 n0 v U'.heap L ∧ FrameEnd U o U' L rom1.cells rom1.slots) := by
  refine MetFree.of_bodySF (plainFor_of_name pnm2) hisR ?_
  intro p e s m args below meth c s₁ Bd hml0 hP hK
  obtain ⟨rfl, hZ, hh⟩ := hP
  have hx := Bd.exec
  have hby := Bd.bytes
  have hml : c.maxLocals = 1 := hml0
  have hown : s.vm.findClass "com/example/pampulha/pampulha/site/LinkSyntax" = some m.cls := findClass_of_methodNamed Bd.named
  have hnm := (name_of_methodNamed Bd.named Bd.method).1
  have X0 : Stand p l e rom1 s m #[(.ref a1)] below meth c s₁ [] 0 0 := Stand.of_body Bd
  have e0 : s₁.heap = h0 := by rw [← hh, Bd.state]; rfl
  have N0 := Fr.nil n0
  have tw13 := hw _ (List.mem_of_getElem? (i := 13) rfl)
  have tw14 := hw _ (List.mem_of_getElem? (i := 14) rfl)
  have tw15 := hw _ (List.mem_of_getElem? (i := 15) rfl)
  have tw16 := hw _ (List.mem_of_getElem? (i := 16) rfl)
  have tw17 := hw _ (List.mem_of_getElem? (i := 17) rfl)
  have tw18 := hw _ (List.mem_of_getElem? (i := 18) rfl)
  have tw19 := hw _ (List.mem_of_getElem? (i := 19) rfl)
  show Goes p e below (Pq (Q_rev_5 Z a1 w_UP w_DOWN h0 n0) s rom1.cells rom1.slots) (s₁.setTop (entryFrame m #[(.ref a1)] 1))
  refine Goes.step (S' := s₁.setTop (mkF m 0 #[.val (.ref a1)] [])) (fun t k => castTop (ef_rev_5 m a1) k) ?_
  refine Goes.step (S' := s₁.setTop (mkF m 1 #[.val (.ref a1)] [(.ref a1)])) (fun t k => XS.aloadN X0.here hx rfl (hb hby d_prog_17_method_7_code_0) rfl rfl k) ?_
  obtain ⟨cq101, kq101, q101a, q101b, q101c⟩ := isOf hZ e0 E1
  obtain ⟨_, _, ⟨T101, L101, k101, n101⟩, -, X101, ⟨Lc101, hQ101, l101, y101, z101⟩, st101⟩ := X0.virtualBackUp hx (x := mth2) (y := mth1) hown (mvT hZ tw13) (mvT hZ tw14) (mvT hZ tw15) (by decide) (mvT hZ tw17) (mvT hZ tw16) (backOf (W := 0) (ordi l Z a0 hw [] a1 (5 : Int32) h0 n0 Z0 F1) hZ tw19 tw18 (by decide) (by decide)) q101a q101c (g := (mkF m 1 #[.val (.ref a1)] [(.ref a1)])) rfl (by rw [hml]; rfl) (Steps.refl _) (argsL := []) (rest := []) (lenOf pd_I rfl) rfl (Nat.le_of_eq rfl) (hb hby d_prog_17_method_7_code_1) (fun _ _ => ⟨rfl, e0, (by decide : 0 + 0 ≤ _), (by decide : 0 + 0 ≤ _)⟩)
  dsimp only [Pt.U, Pt.locs, Pt.cells, Pt.slots] at X101 l101 y101 z101 st101 hQ101
  subst l101 y101 z101
  obtain ⟨rfl, Nq101, q101_0⟩ := hQ101
  have N101 := Fr.app N0 Nq101
  refine Goes.step (S' := T101.setTop (mkF m 45 #[.val (.ref a1)] [(.ref a1)])) (fun t k => st101.trans (X101.lookupswitchMiss hx (g := (mkF m 4 #[.val (.ref a1)] [(.int (5 : Int32))])) rfl rfl (hb hby d_prog_17_method_7_code_4) (by decide) (by decide) (by show (0 : Int) ≤ (4 : Int) + (40); decide) t (XS.aloadN X101.here hx rfl (hb hby d_prog_17_method_7_code_44) rfl rfl k))) ?_
  refine Goes.leave (g := (mkF m 45 #[.val (.ref a1)] [(.ref a1)])) X101 Bd.notSynchronized (v := (some (.ref a1))) (fun h => by rw [Bd.returns] at h; cases h) (fun fs hr => by jvm_step X101.here [X101.here.top, hx, (hb hby d_prog_17_method_7_code_45), X101.method', Bd.returns, Value.isRef, FieldType.isReference]; (first | (intro acts; rw [hr _ acts rfl rfl rfl]) | rw [hr _ _ rfl rfl rfl]); exact Steps.refl _) q101_0 ?_ (by decide) (by decide)
  exact ⟨rfl, N101, rfl⟩

theorem ef_law (m : MethodId) (x0 : Int32) : entryFrame m #[(.int x0)] maxLocals = mkF m 0 #[.val (.int x0), .unset, .unset, .unset, .unset, .unset] [] := by first | (simp [entryFrame, mkF, argsToLocals, Value.category, maxLocals]; done) | rfl
def Q_law (Z : State) (p0 : Int32) (w_SAME_PAGE : Addr) (w_HORIZONTAL : Addr) (w_UP : Addr) (w_DOWN : Addr) (w_TRANSVERSAL : Addr) (w_INTER_HOST : Addr) (h0 : Heap) (n0 : Nat) (v : Option Value) (h : Heap) (L : List Loc) : Prop := v = some (.int (1 : Int32)) ∧ Fr n0 L
set_option maxRecDepth 65536 in
set_option maxHeartbeats 40000000 in
theorem law (l : Launch) (Z : State) (a0 : Array Value) (hw : ∀ d ∈ tables_1, d.before a0 Z = true) (ws : List Jvm.Cond) (p0 : Int32) (w_SAME_PAGE : Addr) (w_HORIZONTAL : Addr) (w_UP : Addr) (w_DOWN : Addr) (w_TRANSVERSAL : Addr) (w_INTER_HOST : Addr) (h0 : Heap) (n0 : Nat) (Z0 : n0 ≤ h0.size) (S_SAME_PAGE : Sta Z h0 "com/example/pampulha/pampulha/site/LinkSyntax" "SAME_PAGE" "Lcom/example/pampulha/pampulha/site/LinkSyntax;" (.ref w_SAME_PAGE)) (S_HORIZONTAL : Sta Z h0 "com/example/pampulha/pampulha/site/LinkSyntax" "HORIZONTAL" "Lcom/example/pampulha/pampulha/site/LinkSyntax;" (.ref w_HORIZONTAL)) (S_UP : Sta Z h0 "com/example/pampulha/pampulha/site/LinkSyntax" "UP" "Lcom/example/pampulha/pampulha/site/LinkSyntax;" (.ref w_UP)) (S_DOWN : Sta Z h0 "com/example/pampulha/pampulha/site/LinkSyntax" "DOWN" "Lcom/example/pampulha/pampulha/site/LinkSyntax;" (.ref w_DOWN)) (S_TRANSVERSAL : Sta Z h0 "com/example/pampulha/pampulha/site/LinkSyntax" "TRANSVERSAL" "Lcom/example/pampulha/pampulha/site/LinkSyntax;" (.ref w_TRANSVERSAL)) (S_INTER_HOST : Sta Z h0 "com/example/pampulha/pampulha/site/LinkSyntax" "INTER_HOST" "Lcom/example/pampulha/pampulha/site/LinkSyntax;" (.ref w_INTER_HOST)) (E_SAME_PAGE : Exa Z h0 w_SAME_PAGE "com/example/pampulha/pampulha/site/LinkSyntax") (E_HORIZONTAL : Exa Z h0 w_HORIZONTAL "com/example/pampulha/pampulha/site/LinkSyntax") (E_UP : Exa Z h0 w_UP "com/example/pampulha/pampulha/site/LinkSyntax") (E_DOWN : Exa Z h0 w_DOWN "com/example/pampulha/pampulha/site/LinkSyntax") (E_TRANSVERSAL : Exa Z h0 w_TRANSVERSAL "com/example/pampulha/pampulha/site/LinkSyntax") (E_INTER_HOST : Exa Z h0 w_INTER_HOST "com/example/pampulha/pampulha/site/LinkSyntax") (F_SAME_PAGE : Fld Z h0 w_SAME_PAGE "java/lang/Enum" "ordinal" "I" (.int (0 : Int32))) (F_HORIZONTAL : Fld Z h0 w_HORIZONTAL "java/lang/Enum" "ordinal" "I" (.int (1 : Int32))) (F_UP : Fld Z h0 w_UP "java/lang/Enum" "ordinal" "I" (.int (2 : Int32))) (F_DOWN : Fld Z h0 w_DOWN "java/lang/Enum" "ordinal" "I" (.int (3 : Int32))) (F_TRANSVERSAL : Fld Z h0 w_TRANSVERSAL "java/lang/Enum" "ordinal" "I" (.int (4 : Int32))) (F_INTER_HOST : Fld Z h0 w_INTER_HOST "java/lang/Enum" "ordinal" "I" (.int (5 : Int32))) :
    MetFree l x (head1 (Jvm.Cond.code x code maxLocals ret :: ws) room_1) (fun a U => a = #[(.int p0)] ∧ Z.Warmed39 U.vm ∧ U.heap = h0) (fun _ _ _ _ _ => True) (fun _ U o U' => ∃ v L, o = .returned v ∧ Q_law Z p0 w_SAME_PAGE w_HORIZONTAL w_UP w_DOWN w_TRANSVERSAL w_INTER_HOST h0 n0 v U'.heap L ∧ FrameEnd U o U' L room_1.cells room_1.slots) := by
  refine MetFree.of_bodySF (plainFor_of_name pnm0) hisR ?_
  intro p e s m args below meth c s₁ Bd hml0 hP hK
  obtain ⟨rfl, hZ, hh⟩ := hP
  have hx := Bd.exec
  have hby := Bd.bytes
  have hml : c.maxLocals = 6 := hml0
  have hown : s.vm.findClass "com/example/pampulha/pampulha/site/LinkSyntaxReversedPinLaw" = some m.cls := findClass_of_methodNamed Bd.named
  have hnm := (name_of_methodNamed Bd.named Bd.method).1
  have X0 : Stand p l e room_1 s m #[(.int p0)] below meth c s₁ [] 0 0 := Stand.of_body Bd
  have e0 : s₁.heap = h0 := by rw [← hh, Bd.state]; rfl
  have N0 := Fr.nil n0
  have tw0 := hw _ (List.mem_of_getElem? (i := 0) rfl)
  have tw1 := hw _ (List.mem_of_getElem? (i := 1) rfl)
  have tw2 := hw _ (List.mem_of_getElem? (i := 2) rfl)
  have tw3 := hw _ (List.mem_of_getElem? (i := 3) rfl)
  have tw4 := hw _ (List.mem_of_getElem? (i := 4) rfl)
  have tw6 := hw _ (List.mem_of_getElem? (i := 6) rfl)
  have tw8 := hw _ (List.mem_of_getElem? (i := 8) rfl)
  have tw9 := hw _ (List.mem_of_getElem? (i := 9) rfl)
  have tw10 := hw _ (List.mem_of_getElem? (i := 10) rfl)
  have tw11 := hw _ (List.mem_of_getElem? (i := 11) rfl)
  have tw12 := hw _ (List.mem_of_getElem? (i := 12) rfl)
  show Goes p e below (Pq (Q_law Z p0 w_SAME_PAGE w_HORIZONTAL w_UP w_DOWN w_TRANSVERSAL w_INTER_HOST h0 n0) s room_1.cells room_1.slots) (s₁.setTop (entryFrame m #[(.int p0)] maxLocals))
  refine Goes.step (S' := s₁.setTop (mkF m 0 #[.val (.int p0), .unset, .unset, .unset, .unset, .unset] [])) (fun t k => castTop (ef_law m p0) k) ?_
  refine Goes.step (S' := s₁.setTop (mkF m 9 #[.val (.int p0), .val (.int ((p0 &&& (2147483647 : Int32)) % (6 : Int32))), .unset, .unset, .unset, .unset] [(.int ((p0 &&& (2147483647 : Int32)) % (6 : Int32)))])) (fun t k => XS.iloadN X0.here hx rfl (hb hby at_0) rfl (X0.ldcInt hx hown (mvT hZ tw0) (g := (mkF m 1 #[.val (.int p0), .unset, .unset, .unset, .unset, .unset] [(.int p0)])) rfl (hb hby at_1) _ (XS.iand X0.here hx rfl (hb hby at_3) rfl (XS.bipush X0.here hx rfl (hb hby at_4) (iremM X0 hx rfl (hb hby at_6) rfl (by decide) (XS.istoreN X0.here hx rfl (hb hby at_7) rfl (l' := #[.val (.int p0), .val (.int ((p0 &&& (2147483647 : Int32)) % (6 : Int32))), .unset, .unset, .unset, .unset]) rfl (XS.iloadN X0.here hx rfl (hb hby at_8) rfl k))))))) ?_
  by_cases hc101 : ((p0 &&& (2147483647 : Int32)) % (6 : Int32)) = (0 : Int32)
  case pos =>
    obtain ⟨_, _, ⟨T102, L102, k102, n102⟩, -, X102, ⟨Lc102, hQ102, l102, y102, z102⟩, st102⟩ := Jvm.LawKit.callS X0 hx (y := mth0) hown (mvT hZ tw1) (mvT hZ tw2) (mvT hZ tw3) (mvT hZ tw4) (by decide) (backOf (W := 0) (pick_0 l Z a0 hw [] ((p0 &&& (2147483647 : Int32)) % (6 : Int32)) w_SAME_PAGE w_HORIZONTAL w_UP w_DOWN w_TRANSVERSAL w_INTER_HOST h0 n0 Z0 S_SAME_PAGE S_HORIZONTAL S_UP S_DOWN S_TRANSVERSAL S_INTER_HOST (hc101 : ((p0 &&& (2147483647 : Int32)) % (6 : Int32)) = (0 : Int32))) hZ tw4 tw3 (by decide) (by decide)) (g := (mkF m 9 #[.val (.int p0), .val (.int ((p0 &&& (2147483647 : Int32)) % (6 : Int32))), .unset, .unset, .unset, .unset] [(.int ((p0 &&& (2147483647 : Int32)) % (6 : Int32)))])) rfl (by rw [hml]; rfl) (argsL := [(.int ((p0 &&& (2147483647 : Int32)) % (6 : Int32)))]) (rest := []) (lenOf pd_I_Lcom_example_pampulha_pampulha_site_LinkSyntax rfl) rfl (Nat.le_of_eq rfl) (hb hby at_9) (fun _ _ => ⟨rfl, e0, (by decide : 0 + 0 ≤ _), (by decide : 0 + 0 ≤ _)⟩)
    dsimp only [Pt.U, Pt.locs, Pt.cells, Pt.slots] at X102 l102 y102 z102 st102 hQ102
    subst l102 y102 z102
    obtain ⟨rfl, Nq102, q102_0⟩ := hQ102
    have N102 := Fr.app N0 Nq102
    refine Goes.step (S' := T102.setTop (mkF m 31 #[.val (.int p0), .val (.int ((p0 &&& (2147483647 : Int32)) % (6 : Int32))), .val (.ref w_SAME_PAGE), .unset, .unset, .unset] [])) (fun t k => st102 _ (XS.astoreN X102.here hx rfl (hb hby at_12) rfl rfl (l' := #[.val (.int p0), .val (.int ((p0 &&& (2147483647 : Int32)) % (6 : Int32))), .val (.ref w_SAME_PAGE), .unset, .unset, .unset]) rfl (XS.iloadN X102.here hx rfl (hb hby at_13) rfl (XS.iconst X102.here hx rfl (hb hby at_14) (XS.icmpYes X102.here hx rfl (pc0 := 15) (pc' := 22) rfl (hb hby at_15) rfl (feq ((by rw [hc101]; decide) : ¬ (((p0 &&& (2147483647 : Int32)) % (6 : Int32)) = (2 : Int32)))).2 (by decide) (by decide) (XS.iloadN X102.here hx rfl (hb hby at_22) rfl (XS.iconst X102.here hx rfl (hb hby at_23) (XS.icmpYes X102.here hx rfl (pc0 := 24) (pc' := 31) rfl (hb hby at_24) rfl (feq ((by rw [hc101]; decide) : ¬ (((p0 &&& (2147483647 : Int32)) % (6 : Int32)) = (3 : Int32)))).2 (by decide) (by decide) k)))))))) ?_
    refine Goes.step (S' := T102.setTop (mkF m 34 #[.val (.int p0), .val (.int ((p0 &&& (2147483647 : Int32)) % (6 : Int32))), .val (.ref w_SAME_PAGE), .val (.int ((p0 &&& (2147483647 : Int32)) % (6 : Int32))), .unset, .unset] [(.int ((p0 &&& (2147483647 : Int32)) % (6 : Int32)))])) (fun t k => XS.iloadN X102.here hx rfl (hb hby at_31) rfl (XS.istoreN X102.here hx rfl (hb hby at_32) rfl (l' := #[.val (.int p0), .val (.int ((p0 &&& (2147483647 : Int32)) % (6 : Int32))), .val (.ref w_SAME_PAGE), .val (.int ((p0 &&& (2147483647 : Int32)) % (6 : Int32))), .unset, .unset]) rfl (XS.iloadN X102.here hx rfl (hb hby at_33) rfl k))) ?_
    obtain ⟨_, _, ⟨T103, L103, k103, n103⟩, -, X103, ⟨Lc103, hQ103, l103, y103, z103⟩, st103⟩ := Jvm.LawKit.callS X102 hx (y := mth0) hown (mvT hZ tw1) (mvT hZ tw2) (mvT hZ tw3) (mvT hZ tw4) (by decide) (backOf (W := 0) (pick_0 l Z a0 hw [] ((p0 &&& (2147483647 : Int32)) % (6 : Int32)) w_SAME_PAGE w_HORIZONTAL w_UP w_DOWN w_TRANSVERSAL w_INTER_HOST h0 n0 Z0 S_SAME_PAGE S_HORIZONTAL S_UP S_DOWN S_TRANSVERSAL S_INTER_HOST (hc101 : ((p0 &&& (2147483647 : Int32)) % (6 : Int32)) = (0 : Int32))) hZ tw4 tw3 (by decide) (by decide)) (g := (mkF m 34 #[.val (.int p0), .val (.int ((p0 &&& (2147483647 : Int32)) % (6 : Int32))), .val (.ref w_SAME_PAGE), .val (.int ((p0 &&& (2147483647 : Int32)) % (6 : Int32))), .unset, .unset] [(.int ((p0 &&& (2147483647 : Int32)) % (6 : Int32)))])) rfl (by rw [hml]; rfl) (argsL := [(.int ((p0 &&& (2147483647 : Int32)) % (6 : Int32)))]) (rest := []) (lenOf pd_I_Lcom_example_pampulha_pampulha_site_LinkSyntax rfl) rfl (Nat.le_of_eq rfl) (hb hby at_34) (fun _ _ => ⟨rfl, q102_0, (by decide : 0 + 0 ≤ _), (by decide : 0 + 0 ≤ _)⟩)
    dsimp only [Pt.U, Pt.locs, Pt.cells, Pt.slots] at X103 l103 y103 z103 st103 hQ103
    subst l103 y103 z103
    obtain ⟨rfl, Nq103, q103_0⟩ := hQ103
    have N103 := Fr.app N102 Nq103
    refine Goes.step (S' := T103.setTop (mkF m 40 #[.val (.int p0), .val (.int ((p0 &&& (2147483647 : Int32)) % (6 : Int32))), .val (.ref w_SAME_PAGE), .val (.int ((p0 &&& (2147483647 : Int32)) % (6 : Int32))), .val (.ref w_SAME_PAGE), .unset] [(.ref w_SAME_PAGE)])) (fun t k => st103 _ (XS.astore X103.here hx rfl (hb hby at_37) rfl rfl (l' := #[.val (.int p0), .val (.int ((p0 &&& (2147483647 : Int32)) % (6 : Int32))), .val (.ref w_SAME_PAGE), .val (.int ((p0 &&& (2147483647 : Int32)) % (6 : Int32))), .val (.ref w_SAME_PAGE), .unset]) rfl (XS.aloadN X103.here hx rfl (hb hby at_39) rfl rfl k))) ?_
    obtain ⟨cq104, kq104, q104a, q104b, q104c⟩ := isOf hZ q103_0 E_SAME_PAGE
    obtain ⟨_, _, ⟨T104, L104, k104, n104⟩, -, X104, ⟨Lc104, hQ104, l104, y104, z104⟩, st104⟩ := X103.virtualBack hx (y := mth3) (z := mth3) hown (mvT hZ tw8) (mvT hZ tw9) (notFace_of_selects (args := #[]) (mvT hZ tw11)) (mvT hZ tw11) (mvT hZ tw10) (by decide) (backOf (W := 0) (rev_0 l Z a0 hw [] w_SAME_PAGE w_UP w_DOWN h0 n0 Z0 E_SAME_PAGE F_SAME_PAGE S_UP S_DOWN) hZ tw12 tw6 (by decide) (by decide)) q104a q104c (g := (mkF m 40 #[.val (.int p0), .val (.int ((p0 &&& (2147483647 : Int32)) % (6 : Int32))), .val (.ref w_SAME_PAGE), .val (.int ((p0 &&& (2147483647 : Int32)) % (6 : Int32))), .val (.ref w_SAME_PAGE), .unset] [(.ref w_SAME_PAGE)])) rfl (by rw [hml]; rfl) (Steps.refl _) (argsL := []) (rest := []) (lenOf pd_Lcom_example_pampulha_pampulha_site_LinkSyntax rfl) rfl (Nat.le_of_eq rfl) (hb hby at_40) (fun _ _ => ⟨rfl, q103_0, (by decide : 0 + 0 ≤ _), (by decide : 0 + 0 ≤ _)⟩)
    dsimp only [Pt.U, Pt.locs, Pt.cells, Pt.slots] at X104 l104 y104 z104 st104 hQ104
    subst l104 y104 z104
    obtain ⟨rfl, Nq104, q104_0⟩ := hQ104
    have N104 := Fr.app N103 Nq104
    refine Goes.step (S' := T104.setTop (mkF m 56 #[.val (.int p0), .val (.int ((p0 &&& (2147483647 : Int32)) % (6 : Int32))), .val (.ref w_SAME_PAGE), .val (.int ((p0 &&& (2147483647 : Int32)) % (6 : Int32))), .val (.ref w_SAME_PAGE), .val (.ref w_SAME_PAGE)] [(.ref w_SAME_PAGE)])) (fun t k => st104.trans (XS.astore X104.here hx rfl (hb hby at_43) rfl rfl (l' := #[.val (.int p0), .val (.int ((p0 &&& (2147483647 : Int32)) % (6 : Int32))), .val (.ref w_SAME_PAGE), .val (.int ((p0 &&& (2147483647 : Int32)) % (6 : Int32))), .val (.ref w_SAME_PAGE), .val (.ref w_SAME_PAGE)]) rfl (XS.aload X104.here hx rfl (hb hby at_45) rfl rfl (XS.aload X104.here hx rfl (hb hby at_47) rfl rfl (Jvm.RoadKit.acmp (g := (mkF m 49 #[.val (.int p0), .val (.int ((p0 &&& (2147483647 : Int32)) % (6 : Int32))), .val (.ref w_SAME_PAGE), .val (.int ((p0 &&& (2147483647 : Int32)) % (6 : Int32))), .val (.ref w_SAME_PAGE), .val (.ref w_SAME_PAGE)] [(.ref w_SAME_PAGE), (.ref w_SAME_PAGE)])) X104 hx rfl rfl rfl (pc0 := 49) (pc' := 54) (same := true) rfl (hb hby at_49) rfl (decide_eq_true rfl) (by decide) (by decide) (XS.aload X104.here hx rfl (hb hby at_54) rfl rfl k)))))) ?_
    obtain ⟨cq105, kq105, q105a, q105b, q105c⟩ := isOf hZ q104_0 E_SAME_PAGE
    obtain ⟨_, _, ⟨T105, L105, k105, n105⟩, -, X105, ⟨Lc105, hQ105, l105, y105, z105⟩, st105⟩ := X104.virtualBack hx (y := mth3) (z := mth3) hown (mvT hZ tw8) (mvT hZ tw9) (notFace_of_selects (args := #[]) (mvT hZ tw11)) (mvT hZ tw11) (mvT hZ tw10) (by decide) (backOf (W := 0) (rev_0 l Z a0 hw [] w_SAME_PAGE w_UP w_DOWN h0 n0 Z0 E_SAME_PAGE F_SAME_PAGE S_UP S_DOWN) hZ tw12 tw6 (by decide) (by decide)) q105a q105c (g := (mkF m 56 #[.val (.int p0), .val (.int ((p0 &&& (2147483647 : Int32)) % (6 : Int32))), .val (.ref w_SAME_PAGE), .val (.int ((p0 &&& (2147483647 : Int32)) % (6 : Int32))), .val (.ref w_SAME_PAGE), .val (.ref w_SAME_PAGE)] [(.ref w_SAME_PAGE)])) rfl (by rw [hml]; rfl) (Steps.refl _) (argsL := []) (rest := []) (lenOf pd_Lcom_example_pampulha_pampulha_site_LinkSyntax rfl) rfl (Nat.le_of_eq rfl) (hb hby at_56) (fun _ _ => ⟨rfl, q104_0, (by decide : 0 + 0 ≤ _), (by decide : 0 + 0 ≤ _)⟩)
    dsimp only [Pt.U, Pt.locs, Pt.cells, Pt.slots] at X105 l105 y105 z105 st105 hQ105
    subst l105 y105 z105
    obtain ⟨rfl, Nq105, q105_0⟩ := hQ105
    have N105 := Fr.app N104 Nq105
    refine Goes.step (S' := T105.setTop (mkF m 68 #[.val (.int p0), .val (.int ((p0 &&& (2147483647 : Int32)) % (6 : Int32))), .val (.ref w_SAME_PAGE), .val (.int ((p0 &&& (2147483647 : Int32)) % (6 : Int32))), .val (.ref w_SAME_PAGE), .val (.ref w_SAME_PAGE)] [(.int (1 : Int32))])) (fun t k => st105.trans (XS.aloadN X105.here hx rfl (hb hby at_59) rfl rfl (Jvm.RoadKit.acmp (g := (mkF m 60 #[.val (.int p0), .val (.int ((p0 &&& (2147483647 : Int32)) % (6 : Int32))), .val (.ref w_SAME_PAGE), .val (.int ((p0 &&& (2147483647 : Int32)) % (6 : Int32))), .val (.ref w_SAME_PAGE), .val (.ref w_SAME_PAGE)] [(.ref w_SAME_PAGE), (.ref w_SAME_PAGE)])) X105 hx rfl rfl rfl (pc0 := 60) (pc' := 63) (same := true) rfl (hb hby at_60) rfl (decide_eq_true rfl) (by decide) (by decide) (XS.iconst X105.here hx rfl (hb hby at_63) (XS.goto X105.here hx rfl (pc0 := 64) (pc' := 68) rfl (hb hby at_64) (by decide) (by decide) k))))) ?_
    refine Goes.leave (g := (mkF m 68 #[.val (.int p0), .val (.int ((p0 &&& (2147483647 : Int32)) % (6 : Int32))), .val (.ref w_SAME_PAGE), .val (.int ((p0 &&& (2147483647 : Int32)) % (6 : Int32))), .val (.ref w_SAME_PAGE), .val (.ref w_SAME_PAGE)] [(.int (1 : Int32))])) X105 Bd.notSynchronized (v := (some (.int (1 : Int32)))) (fun h => by rw [Bd.returns] at h; cases h) (fun fs hr => retN X105 hx (t := .boolean) Bd.returns (by simp) (hb hby at_68) hr) q105_0 ?_ (by decide) (by decide)
    exact ⟨rfl, N105⟩
  case neg =>
    by_cases hc106 : ((p0 &&& (2147483647 : Int32)) % (6 : Int32)) = (1 : Int32)
    case pos =>
      obtain ⟨_, _, ⟨T107, L107, k107, n107⟩, -, X107, ⟨Lc107, hQ107, l107, y107, z107⟩, st107⟩ := Jvm.LawKit.callS X0 hx (y := mth0) hown (mvT hZ tw1) (mvT hZ tw2) (mvT hZ tw3) (mvT hZ tw4) (by decide) (backOf (W := 0) (pick_1 l Z a0 hw [] ((p0 &&& (2147483647 : Int32)) % (6 : Int32)) w_SAME_PAGE w_HORIZONTAL w_UP w_DOWN w_TRANSVERSAL w_INTER_HOST h0 n0 Z0 S_SAME_PAGE S_HORIZONTAL S_UP S_DOWN S_TRANSVERSAL S_INTER_HOST (hc106 : ((p0 &&& (2147483647 : Int32)) % (6 : Int32)) = (1 : Int32))) hZ tw4 tw3 (by decide) (by decide)) (g := (mkF m 9 #[.val (.int p0), .val (.int ((p0 &&& (2147483647 : Int32)) % (6 : Int32))), .unset, .unset, .unset, .unset] [(.int ((p0 &&& (2147483647 : Int32)) % (6 : Int32)))])) rfl (by rw [hml]; rfl) (argsL := [(.int ((p0 &&& (2147483647 : Int32)) % (6 : Int32)))]) (rest := []) (lenOf pd_I_Lcom_example_pampulha_pampulha_site_LinkSyntax rfl) rfl (Nat.le_of_eq rfl) (hb hby at_9) (fun _ _ => ⟨rfl, e0, (by decide : 0 + 0 ≤ _), (by decide : 0 + 0 ≤ _)⟩)
      dsimp only [Pt.U, Pt.locs, Pt.cells, Pt.slots] at X107 l107 y107 z107 st107 hQ107
      subst l107 y107 z107
      obtain ⟨rfl, Nq107, q107_0⟩ := hQ107
      have N107 := Fr.app N0 Nq107
      refine Goes.step (S' := T107.setTop (mkF m 31 #[.val (.int p0), .val (.int ((p0 &&& (2147483647 : Int32)) % (6 : Int32))), .val (.ref w_HORIZONTAL), .unset, .unset, .unset] [])) (fun t k => st107 _ (XS.astoreN X107.here hx rfl (hb hby at_12) rfl rfl (l' := #[.val (.int p0), .val (.int ((p0 &&& (2147483647 : Int32)) % (6 : Int32))), .val (.ref w_HORIZONTAL), .unset, .unset, .unset]) rfl (XS.iloadN X107.here hx rfl (hb hby at_13) rfl (XS.iconst X107.here hx rfl (hb hby at_14) (XS.icmpYes X107.here hx rfl (pc0 := 15) (pc' := 22) rfl (hb hby at_15) rfl (feq ((by rw [hc106]; decide) : ¬ (((p0 &&& (2147483647 : Int32)) % (6 : Int32)) = (2 : Int32)))).2 (by decide) (by decide) (XS.iloadN X107.here hx rfl (hb hby at_22) rfl (XS.iconst X107.here hx rfl (hb hby at_23) (XS.icmpYes X107.here hx rfl (pc0 := 24) (pc' := 31) rfl (hb hby at_24) rfl (feq ((by rw [hc106]; decide) : ¬ (((p0 &&& (2147483647 : Int32)) % (6 : Int32)) = (3 : Int32)))).2 (by decide) (by decide) k)))))))) ?_
      refine Goes.step (S' := T107.setTop (mkF m 34 #[.val (.int p0), .val (.int ((p0 &&& (2147483647 : Int32)) % (6 : Int32))), .val (.ref w_HORIZONTAL), .val (.int ((p0 &&& (2147483647 : Int32)) % (6 : Int32))), .unset, .unset] [(.int ((p0 &&& (2147483647 : Int32)) % (6 : Int32)))])) (fun t k => XS.iloadN X107.here hx rfl (hb hby at_31) rfl (XS.istoreN X107.here hx rfl (hb hby at_32) rfl (l' := #[.val (.int p0), .val (.int ((p0 &&& (2147483647 : Int32)) % (6 : Int32))), .val (.ref w_HORIZONTAL), .val (.int ((p0 &&& (2147483647 : Int32)) % (6 : Int32))), .unset, .unset]) rfl (XS.iloadN X107.here hx rfl (hb hby at_33) rfl k))) ?_
      obtain ⟨_, _, ⟨T108, L108, k108, n108⟩, -, X108, ⟨Lc108, hQ108, l108, y108, z108⟩, st108⟩ := Jvm.LawKit.callS X107 hx (y := mth0) hown (mvT hZ tw1) (mvT hZ tw2) (mvT hZ tw3) (mvT hZ tw4) (by decide) (backOf (W := 0) (pick_1 l Z a0 hw [] ((p0 &&& (2147483647 : Int32)) % (6 : Int32)) w_SAME_PAGE w_HORIZONTAL w_UP w_DOWN w_TRANSVERSAL w_INTER_HOST h0 n0 Z0 S_SAME_PAGE S_HORIZONTAL S_UP S_DOWN S_TRANSVERSAL S_INTER_HOST (hc106 : ((p0 &&& (2147483647 : Int32)) % (6 : Int32)) = (1 : Int32))) hZ tw4 tw3 (by decide) (by decide)) (g := (mkF m 34 #[.val (.int p0), .val (.int ((p0 &&& (2147483647 : Int32)) % (6 : Int32))), .val (.ref w_HORIZONTAL), .val (.int ((p0 &&& (2147483647 : Int32)) % (6 : Int32))), .unset, .unset] [(.int ((p0 &&& (2147483647 : Int32)) % (6 : Int32)))])) rfl (by rw [hml]; rfl) (argsL := [(.int ((p0 &&& (2147483647 : Int32)) % (6 : Int32)))]) (rest := []) (lenOf pd_I_Lcom_example_pampulha_pampulha_site_LinkSyntax rfl) rfl (Nat.le_of_eq rfl) (hb hby at_34) (fun _ _ => ⟨rfl, q107_0, (by decide : 0 + 0 ≤ _), (by decide : 0 + 0 ≤ _)⟩)
      dsimp only [Pt.U, Pt.locs, Pt.cells, Pt.slots] at X108 l108 y108 z108 st108 hQ108
      subst l108 y108 z108
      obtain ⟨rfl, Nq108, q108_0⟩ := hQ108
      have N108 := Fr.app N107 Nq108
      refine Goes.step (S' := T108.setTop (mkF m 40 #[.val (.int p0), .val (.int ((p0 &&& (2147483647 : Int32)) % (6 : Int32))), .val (.ref w_HORIZONTAL), .val (.int ((p0 &&& (2147483647 : Int32)) % (6 : Int32))), .val (.ref w_HORIZONTAL), .unset] [(.ref w_HORIZONTAL)])) (fun t k => st108 _ (XS.astore X108.here hx rfl (hb hby at_37) rfl rfl (l' := #[.val (.int p0), .val (.int ((p0 &&& (2147483647 : Int32)) % (6 : Int32))), .val (.ref w_HORIZONTAL), .val (.int ((p0 &&& (2147483647 : Int32)) % (6 : Int32))), .val (.ref w_HORIZONTAL), .unset]) rfl (XS.aloadN X108.here hx rfl (hb hby at_39) rfl rfl k))) ?_
      obtain ⟨cq109, kq109, q109a, q109b, q109c⟩ := isOf hZ q108_0 E_HORIZONTAL
      obtain ⟨_, _, ⟨T109, L109, k109, n109⟩, -, X109, ⟨Lc109, hQ109, l109, y109, z109⟩, st109⟩ := X108.virtualBack hx (y := mth3) (z := mth3) hown (mvT hZ tw8) (mvT hZ tw9) (notFace_of_selects (args := #[]) (mvT hZ tw11)) (mvT hZ tw11) (mvT hZ tw10) (by decide) (backOf (W := 0) (rev_1 l Z a0 hw [] w_HORIZONTAL w_UP w_DOWN h0 n0 Z0 E_HORIZONTAL F_HORIZONTAL S_UP S_DOWN) hZ tw12 tw6 (by decide) (by decide)) q109a q109c (g := (mkF m 40 #[.val (.int p0), .val (.int ((p0 &&& (2147483647 : Int32)) % (6 : Int32))), .val (.ref w_HORIZONTAL), .val (.int ((p0 &&& (2147483647 : Int32)) % (6 : Int32))), .val (.ref w_HORIZONTAL), .unset] [(.ref w_HORIZONTAL)])) rfl (by rw [hml]; rfl) (Steps.refl _) (argsL := []) (rest := []) (lenOf pd_Lcom_example_pampulha_pampulha_site_LinkSyntax rfl) rfl (Nat.le_of_eq rfl) (hb hby at_40) (fun _ _ => ⟨rfl, q108_0, (by decide : 0 + 0 ≤ _), (by decide : 0 + 0 ≤ _)⟩)
      dsimp only [Pt.U, Pt.locs, Pt.cells, Pt.slots] at X109 l109 y109 z109 st109 hQ109
      subst l109 y109 z109
      obtain ⟨rfl, Nq109, q109_0⟩ := hQ109
      have N109 := Fr.app N108 Nq109
      refine Goes.step (S' := T109.setTop (mkF m 56 #[.val (.int p0), .val (.int ((p0 &&& (2147483647 : Int32)) % (6 : Int32))), .val (.ref w_HORIZONTAL), .val (.int ((p0 &&& (2147483647 : Int32)) % (6 : Int32))), .val (.ref w_HORIZONTAL), .val (.ref w_HORIZONTAL)] [(.ref w_HORIZONTAL)])) (fun t k => st109.trans (XS.astore X109.here hx rfl (hb hby at_43) rfl rfl (l' := #[.val (.int p0), .val (.int ((p0 &&& (2147483647 : Int32)) % (6 : Int32))), .val (.ref w_HORIZONTAL), .val (.int ((p0 &&& (2147483647 : Int32)) % (6 : Int32))), .val (.ref w_HORIZONTAL), .val (.ref w_HORIZONTAL)]) rfl (XS.aload X109.here hx rfl (hb hby at_45) rfl rfl (XS.aload X109.here hx rfl (hb hby at_47) rfl rfl (Jvm.RoadKit.acmp (g := (mkF m 49 #[.val (.int p0), .val (.int ((p0 &&& (2147483647 : Int32)) % (6 : Int32))), .val (.ref w_HORIZONTAL), .val (.int ((p0 &&& (2147483647 : Int32)) % (6 : Int32))), .val (.ref w_HORIZONTAL), .val (.ref w_HORIZONTAL)] [(.ref w_HORIZONTAL), (.ref w_HORIZONTAL)])) X109 hx rfl rfl rfl (pc0 := 49) (pc' := 54) (same := true) rfl (hb hby at_49) rfl (decide_eq_true rfl) (by decide) (by decide) (XS.aload X109.here hx rfl (hb hby at_54) rfl rfl k)))))) ?_
      obtain ⟨cq110, kq110, q110a, q110b, q110c⟩ := isOf hZ q109_0 E_HORIZONTAL
      obtain ⟨_, _, ⟨T110, L110, k110, n110⟩, -, X110, ⟨Lc110, hQ110, l110, y110, z110⟩, st110⟩ := X109.virtualBack hx (y := mth3) (z := mth3) hown (mvT hZ tw8) (mvT hZ tw9) (notFace_of_selects (args := #[]) (mvT hZ tw11)) (mvT hZ tw11) (mvT hZ tw10) (by decide) (backOf (W := 0) (rev_1 l Z a0 hw [] w_HORIZONTAL w_UP w_DOWN h0 n0 Z0 E_HORIZONTAL F_HORIZONTAL S_UP S_DOWN) hZ tw12 tw6 (by decide) (by decide)) q110a q110c (g := (mkF m 56 #[.val (.int p0), .val (.int ((p0 &&& (2147483647 : Int32)) % (6 : Int32))), .val (.ref w_HORIZONTAL), .val (.int ((p0 &&& (2147483647 : Int32)) % (6 : Int32))), .val (.ref w_HORIZONTAL), .val (.ref w_HORIZONTAL)] [(.ref w_HORIZONTAL)])) rfl (by rw [hml]; rfl) (Steps.refl _) (argsL := []) (rest := []) (lenOf pd_Lcom_example_pampulha_pampulha_site_LinkSyntax rfl) rfl (Nat.le_of_eq rfl) (hb hby at_56) (fun _ _ => ⟨rfl, q109_0, (by decide : 0 + 0 ≤ _), (by decide : 0 + 0 ≤ _)⟩)
      dsimp only [Pt.U, Pt.locs, Pt.cells, Pt.slots] at X110 l110 y110 z110 st110 hQ110
      subst l110 y110 z110
      obtain ⟨rfl, Nq110, q110_0⟩ := hQ110
      have N110 := Fr.app N109 Nq110
      refine Goes.step (S' := T110.setTop (mkF m 68 #[.val (.int p0), .val (.int ((p0 &&& (2147483647 : Int32)) % (6 : Int32))), .val (.ref w_HORIZONTAL), .val (.int ((p0 &&& (2147483647 : Int32)) % (6 : Int32))), .val (.ref w_HORIZONTAL), .val (.ref w_HORIZONTAL)] [(.int (1 : Int32))])) (fun t k => st110.trans (XS.aloadN X110.here hx rfl (hb hby at_59) rfl rfl (Jvm.RoadKit.acmp (g := (mkF m 60 #[.val (.int p0), .val (.int ((p0 &&& (2147483647 : Int32)) % (6 : Int32))), .val (.ref w_HORIZONTAL), .val (.int ((p0 &&& (2147483647 : Int32)) % (6 : Int32))), .val (.ref w_HORIZONTAL), .val (.ref w_HORIZONTAL)] [(.ref w_HORIZONTAL), (.ref w_HORIZONTAL)])) X110 hx rfl rfl rfl (pc0 := 60) (pc' := 63) (same := true) rfl (hb hby at_60) rfl (decide_eq_true rfl) (by decide) (by decide) (XS.iconst X110.here hx rfl (hb hby at_63) (XS.goto X110.here hx rfl (pc0 := 64) (pc' := 68) rfl (hb hby at_64) (by decide) (by decide) k))))) ?_
      refine Goes.leave (g := (mkF m 68 #[.val (.int p0), .val (.int ((p0 &&& (2147483647 : Int32)) % (6 : Int32))), .val (.ref w_HORIZONTAL), .val (.int ((p0 &&& (2147483647 : Int32)) % (6 : Int32))), .val (.ref w_HORIZONTAL), .val (.ref w_HORIZONTAL)] [(.int (1 : Int32))])) X110 Bd.notSynchronized (v := (some (.int (1 : Int32)))) (fun h => by rw [Bd.returns] at h; cases h) (fun fs hr => retN X110 hx (t := .boolean) Bd.returns (by simp) (hb hby at_68) hr) q110_0 ?_ (by decide) (by decide)
      exact ⟨rfl, N110⟩
    case neg =>
      by_cases hc111 : ((p0 &&& (2147483647 : Int32)) % (6 : Int32)) = (2 : Int32)
      case pos =>
        obtain ⟨_, _, ⟨T112, L112, k112, n112⟩, -, X112, ⟨Lc112, hQ112, l112, y112, z112⟩, st112⟩ := Jvm.LawKit.callS X0 hx (y := mth0) hown (mvT hZ tw1) (mvT hZ tw2) (mvT hZ tw3) (mvT hZ tw4) (by decide) (backOf (W := 0) (pick_2 l Z a0 hw [] ((p0 &&& (2147483647 : Int32)) % (6 : Int32)) w_SAME_PAGE w_HORIZONTAL w_UP w_DOWN w_TRANSVERSAL w_INTER_HOST h0 n0 Z0 S_SAME_PAGE S_HORIZONTAL S_UP S_DOWN S_TRANSVERSAL S_INTER_HOST (hc111 : ((p0 &&& (2147483647 : Int32)) % (6 : Int32)) = (2 : Int32))) hZ tw4 tw3 (by decide) (by decide)) (g := (mkF m 9 #[.val (.int p0), .val (.int ((p0 &&& (2147483647 : Int32)) % (6 : Int32))), .unset, .unset, .unset, .unset] [(.int ((p0 &&& (2147483647 : Int32)) % (6 : Int32)))])) rfl (by rw [hml]; rfl) (argsL := [(.int ((p0 &&& (2147483647 : Int32)) % (6 : Int32)))]) (rest := []) (lenOf pd_I_Lcom_example_pampulha_pampulha_site_LinkSyntax rfl) rfl (Nat.le_of_eq rfl) (hb hby at_9) (fun _ _ => ⟨rfl, e0, (by decide : 0 + 0 ≤ _), (by decide : 0 + 0 ≤ _)⟩)
        dsimp only [Pt.U, Pt.locs, Pt.cells, Pt.slots] at X112 l112 y112 z112 st112 hQ112
        subst l112 y112 z112
        obtain ⟨rfl, Nq112, q112_0⟩ := hQ112
        have N112 := Fr.app N0 Nq112
        refine Goes.step (S' := T112.setTop (mkF m 33 #[.val (.int p0), .val (.int ((p0 &&& (2147483647 : Int32)) % (6 : Int32))), .val (.ref w_UP), .val (.int (3 : Int32)), .unset, .unset] [])) (fun t k => st112 _ (XS.astoreN X112.here hx rfl (hb hby at_12) rfl rfl (l' := #[.val (.int p0), .val (.int ((p0 &&& (2147483647 : Int32)) % (6 : Int32))), .val (.ref w_UP), .unset, .unset, .unset]) rfl (XS.iloadN X112.here hx rfl (hb hby at_13) rfl (XS.iconst X112.here hx rfl (hb hby at_14) (XS.icmpNo X112.here hx rfl (hb hby at_15) rfl (teq (hc111 : ((p0 &&& (2147483647 : Int32)) % (6 : Int32)) = (2 : Int32))).2 (XS.iconst X112.here hx rfl (hb hby at_18) (XS.goto X112.here hx rfl (pc0 := 19) (pc' := 32) rfl (hb hby at_19) (by decide) (by decide) (XS.istoreN X112.here hx rfl (hb hby at_32) rfl (l' := #[.val (.int p0), .val (.int ((p0 &&& (2147483647 : Int32)) % (6 : Int32))), .val (.ref w_UP), .val (.int (3 : Int32)), .unset, .unset]) rfl k)))))))) ?_
        refine Goes.step (S' := T112.setTop (mkF m 34 #[.val (.int p0), .val (.int ((p0 &&& (2147483647 : Int32)) % (6 : Int32))), .val (.ref w_UP), .val (.int (3 : Int32)), .unset, .unset] [(.int (3 : Int32))])) (fun t k => XS.iloadN X112.here hx rfl (hb hby at_33) rfl k) ?_
        obtain ⟨_, _, ⟨T113, L113, k113, n113⟩, -, X113, ⟨Lc113, hQ113, l113, y113, z113⟩, st113⟩ := Jvm.LawKit.callS X112 hx (y := mth0) hown (mvT hZ tw1) (mvT hZ tw2) (mvT hZ tw3) (mvT hZ tw4) (by decide) (backOf (W := 0) (pick_3 l Z a0 hw [] (3 : Int32) w_SAME_PAGE w_HORIZONTAL w_UP w_DOWN w_TRANSVERSAL w_INTER_HOST h0 n0 Z0 S_SAME_PAGE S_HORIZONTAL S_UP S_DOWN S_TRANSVERSAL S_INTER_HOST ((by decide) : (3 : Int32) = (3 : Int32))) hZ tw4 tw3 (by decide) (by decide)) (g := (mkF m 34 #[.val (.int p0), .val (.int ((p0 &&& (2147483647 : Int32)) % (6 : Int32))), .val (.ref w_UP), .val (.int (3 : Int32)), .unset, .unset] [(.int (3 : Int32))])) rfl (by rw [hml]; rfl) (argsL := [(.int (3 : Int32))]) (rest := []) (lenOf pd_I_Lcom_example_pampulha_pampulha_site_LinkSyntax rfl) rfl (Nat.le_of_eq rfl) (hb hby at_34) (fun _ _ => ⟨rfl, q112_0, (by decide : 0 + 0 ≤ _), (by decide : 0 + 0 ≤ _)⟩)
        dsimp only [Pt.U, Pt.locs, Pt.cells, Pt.slots] at X113 l113 y113 z113 st113 hQ113
        subst l113 y113 z113
        obtain ⟨rfl, Nq113, q113_0⟩ := hQ113
        have N113 := Fr.app N112 Nq113
        refine Goes.step (S' := T113.setTop (mkF m 40 #[.val (.int p0), .val (.int ((p0 &&& (2147483647 : Int32)) % (6 : Int32))), .val (.ref w_UP), .val (.int (3 : Int32)), .val (.ref w_DOWN), .unset] [(.ref w_UP)])) (fun t k => st113 _ (XS.astore X113.here hx rfl (hb hby at_37) rfl rfl (l' := #[.val (.int p0), .val (.int ((p0 &&& (2147483647 : Int32)) % (6 : Int32))), .val (.ref w_UP), .val (.int (3 : Int32)), .val (.ref w_DOWN), .unset]) rfl (XS.aloadN X113.here hx rfl (hb hby at_39) rfl rfl k))) ?_
        obtain ⟨cq114, kq114, q114a, q114b, q114c⟩ := isOf hZ q113_0 E_UP
        obtain ⟨_, _, ⟨T114, L114, k114, n114⟩, -, X114, ⟨Lc114, hQ114, l114, y114, z114⟩, st114⟩ := X113.virtualBack hx (y := mth3) (z := mth3) hown (mvT hZ tw8) (mvT hZ tw9) (notFace_of_selects (args := #[]) (mvT hZ tw11)) (mvT hZ tw11) (mvT hZ tw10) (by decide) (backOf (W := 0) (rev_2 l Z a0 hw [] w_UP w_UP w_DOWN h0 n0 Z0 E_UP F_UP S_UP S_DOWN) hZ tw12 tw6 (by decide) (by decide)) q114a q114c (g := (mkF m 40 #[.val (.int p0), .val (.int ((p0 &&& (2147483647 : Int32)) % (6 : Int32))), .val (.ref w_UP), .val (.int (3 : Int32)), .val (.ref w_DOWN), .unset] [(.ref w_UP)])) rfl (by rw [hml]; rfl) (Steps.refl _) (argsL := []) (rest := []) (lenOf pd_Lcom_example_pampulha_pampulha_site_LinkSyntax rfl) rfl (Nat.le_of_eq rfl) (hb hby at_40) (fun _ _ => ⟨rfl, q113_0, (by decide : 0 + 0 ≤ _), (by decide : 0 + 0 ≤ _)⟩)
        dsimp only [Pt.U, Pt.locs, Pt.cells, Pt.slots] at X114 l114 y114 z114 st114 hQ114
        subst l114 y114 z114
        obtain ⟨rfl, Nq114, q114_0⟩ := hQ114
        have N114 := Fr.app N113 Nq114
        refine Goes.step (S' := T114.setTop (mkF m 56 #[.val (.int p0), .val (.int ((p0 &&& (2147483647 : Int32)) % (6 : Int32))), .val (.ref w_UP), .val (.int (3 : Int32)), .val (.ref w_DOWN), .val (.ref w_DOWN)] [(.ref w_DOWN)])) (fun t k => st114.trans (XS.astore X114.here hx rfl (hb hby at_43) rfl rfl (l' := #[.val (.int p0), .val (.int ((p0 &&& (2147483647 : Int32)) % (6 : Int32))), .val (.ref w_UP), .val (.int (3 : Int32)), .val (.ref w_DOWN), .val (.ref w_DOWN)]) rfl (XS.aload X114.here hx rfl (hb hby at_45) rfl rfl (XS.aload X114.here hx rfl (hb hby at_47) rfl rfl (Jvm.RoadKit.acmp (g := (mkF m 49 #[.val (.int p0), .val (.int ((p0 &&& (2147483647 : Int32)) % (6 : Int32))), .val (.ref w_UP), .val (.int (3 : Int32)), .val (.ref w_DOWN), .val (.ref w_DOWN)] [(.ref w_DOWN), (.ref w_DOWN)])) X114 hx rfl rfl rfl (pc0 := 49) (pc' := 54) (same := true) rfl (hb hby at_49) rfl (decide_eq_true rfl) (by decide) (by decide) (XS.aload X114.here hx rfl (hb hby at_54) rfl rfl k)))))) ?_
        obtain ⟨cq115, kq115, q115a, q115b, q115c⟩ := isOf hZ q114_0 E_DOWN
        obtain ⟨_, _, ⟨T115, L115, k115, n115⟩, -, X115, ⟨Lc115, hQ115, l115, y115, z115⟩, st115⟩ := X114.virtualBack hx (y := mth3) (z := mth3) hown (mvT hZ tw8) (mvT hZ tw9) (notFace_of_selects (args := #[]) (mvT hZ tw11)) (mvT hZ tw11) (mvT hZ tw10) (by decide) (backOf (W := 0) (rev_3 l Z a0 hw [] w_DOWN w_UP w_DOWN h0 n0 Z0 E_DOWN F_DOWN S_UP S_DOWN) hZ tw12 tw6 (by decide) (by decide)) q115a q115c (g := (mkF m 56 #[.val (.int p0), .val (.int ((p0 &&& (2147483647 : Int32)) % (6 : Int32))), .val (.ref w_UP), .val (.int (3 : Int32)), .val (.ref w_DOWN), .val (.ref w_DOWN)] [(.ref w_DOWN)])) rfl (by rw [hml]; rfl) (Steps.refl _) (argsL := []) (rest := []) (lenOf pd_Lcom_example_pampulha_pampulha_site_LinkSyntax rfl) rfl (Nat.le_of_eq rfl) (hb hby at_56) (fun _ _ => ⟨rfl, q114_0, (by decide : 0 + 0 ≤ _), (by decide : 0 + 0 ≤ _)⟩)
        dsimp only [Pt.U, Pt.locs, Pt.cells, Pt.slots] at X115 l115 y115 z115 st115 hQ115
        subst l115 y115 z115
        obtain ⟨rfl, Nq115, q115_0⟩ := hQ115
        have N115 := Fr.app N114 Nq115
        refine Goes.step (S' := T115.setTop (mkF m 68 #[.val (.int p0), .val (.int ((p0 &&& (2147483647 : Int32)) % (6 : Int32))), .val (.ref w_UP), .val (.int (3 : Int32)), .val (.ref w_DOWN), .val (.ref w_DOWN)] [(.int (1 : Int32))])) (fun t k => st115.trans (XS.aloadN X115.here hx rfl (hb hby at_59) rfl rfl (Jvm.RoadKit.acmp (g := (mkF m 60 #[.val (.int p0), .val (.int ((p0 &&& (2147483647 : Int32)) % (6 : Int32))), .val (.ref w_UP), .val (.int (3 : Int32)), .val (.ref w_DOWN), .val (.ref w_DOWN)] [(.ref w_UP), (.ref w_UP)])) X115 hx rfl rfl rfl (pc0 := 60) (pc' := 63) (same := true) rfl (hb hby at_60) rfl (decide_eq_true rfl) (by decide) (by decide) (XS.iconst X115.here hx rfl (hb hby at_63) (XS.goto X115.here hx rfl (pc0 := 64) (pc' := 68) rfl (hb hby at_64) (by decide) (by decide) k))))) ?_
        refine Goes.leave (g := (mkF m 68 #[.val (.int p0), .val (.int ((p0 &&& (2147483647 : Int32)) % (6 : Int32))), .val (.ref w_UP), .val (.int (3 : Int32)), .val (.ref w_DOWN), .val (.ref w_DOWN)] [(.int (1 : Int32))])) X115 Bd.notSynchronized (v := (some (.int (1 : Int32)))) (fun h => by rw [Bd.returns] at h; cases h) (fun fs hr => retN X115 hx (t := .boolean) Bd.returns (by simp) (hb hby at_68) hr) q115_0 ?_ (by decide) (by decide)
        exact ⟨rfl, N115⟩
      case neg =>
        by_cases hc116 : ((p0 &&& (2147483647 : Int32)) % (6 : Int32)) = (3 : Int32)
        case pos =>
          obtain ⟨_, _, ⟨T117, L117, k117, n117⟩, -, X117, ⟨Lc117, hQ117, l117, y117, z117⟩, st117⟩ := Jvm.LawKit.callS X0 hx (y := mth0) hown (mvT hZ tw1) (mvT hZ tw2) (mvT hZ tw3) (mvT hZ tw4) (by decide) (backOf (W := 0) (pick_3 l Z a0 hw [] ((p0 &&& (2147483647 : Int32)) % (6 : Int32)) w_SAME_PAGE w_HORIZONTAL w_UP w_DOWN w_TRANSVERSAL w_INTER_HOST h0 n0 Z0 S_SAME_PAGE S_HORIZONTAL S_UP S_DOWN S_TRANSVERSAL S_INTER_HOST (hc116 : ((p0 &&& (2147483647 : Int32)) % (6 : Int32)) = (3 : Int32))) hZ tw4 tw3 (by decide) (by decide)) (g := (mkF m 9 #[.val (.int p0), .val (.int ((p0 &&& (2147483647 : Int32)) % (6 : Int32))), .unset, .unset, .unset, .unset] [(.int ((p0 &&& (2147483647 : Int32)) % (6 : Int32)))])) rfl (by rw [hml]; rfl) (argsL := [(.int ((p0 &&& (2147483647 : Int32)) % (6 : Int32)))]) (rest := []) (lenOf pd_I_Lcom_example_pampulha_pampulha_site_LinkSyntax rfl) rfl (Nat.le_of_eq rfl) (hb hby at_9) (fun _ _ => ⟨rfl, e0, (by decide : 0 + 0 ≤ _), (by decide : 0 + 0 ≤ _)⟩)
          dsimp only [Pt.U, Pt.locs, Pt.cells, Pt.slots] at X117 l117 y117 z117 st117 hQ117
          subst l117 y117 z117
          obtain ⟨rfl, Nq117, q117_0⟩ := hQ117
          have N117 := Fr.app N0 Nq117
          refine Goes.step (S' := T117.setTop (mkF m 27 #[.val (.int p0), .val (.int ((p0 &&& (2147483647 : Int32)) % (6 : Int32))), .val (.ref w_DOWN), .unset, .unset, .unset] [])) (fun t k => st117 _ (XS.astoreN X117.here hx rfl (hb hby at_12) rfl rfl (l' := #[.val (.int p0), .val (.int ((p0 &&& (2147483647 : Int32)) % (6 : Int32))), .val (.ref w_DOWN), .unset, .unset, .unset]) rfl (XS.iloadN X117.here hx rfl (hb hby at_13) rfl (XS.iconst X117.here hx rfl (hb hby at_14) (XS.icmpYes X117.here hx rfl (pc0 := 15) (pc' := 22) rfl (hb hby at_15) rfl (feq (hc111 : ¬ (((p0 &&& (2147483647 : Int32)) % (6 : Int32)) = (2 : Int32)))).2 (by decide) (by decide) (XS.iloadN X117.here hx rfl (hb hby at_22) rfl (XS.iconst X117.here hx rfl (hb hby at_23) (XS.icmpNo X117.here hx rfl (hb hby at_24) rfl (teq (hc116 : ((p0 &&& (2147483647 : Int32)) % (6 : Int32)) = (3 : Int32))).2 k)))))))) ?_
          refine Goes.step (S' := T117.setTop (mkF m 34 #[.val (.int p0), .val (.int ((p0 &&& (2147483647 : Int32)) % (6 : Int32))), .val (.ref w_DOWN), .val (.int (2 : Int32)), .unset, .unset] [(.int (2 : Int32))])) (fun t k => XS.iconst X117.here hx rfl (hb hby at_27) (XS.goto X117.here hx rfl (pc0 := 28) (pc' := 32) rfl (hb hby at_28) (by decide) (by decide) (XS.istoreN X117.here hx rfl (hb hby at_32) rfl (l' := #[.val (.int p0), .val (.int ((p0 &&& (2147483647 : Int32)) % (6 : Int32))), .val (.ref w_DOWN), .val (.int (2 : Int32)), .unset, .unset]) rfl (XS.iloadN X117.here hx rfl (hb hby at_33) rfl k)))) ?_
          obtain ⟨_, _, ⟨T118, L118, k118, n118⟩, -, X118, ⟨Lc118, hQ118, l118, y118, z118⟩, st118⟩ := Jvm.LawKit.callS X117 hx (y := mth0) hown (mvT hZ tw1) (mvT hZ tw2) (mvT hZ tw3) (mvT hZ tw4) (by decide) (backOf (W := 0) (pick_2 l Z a0 hw [] (2 : Int32) w_SAME_PAGE w_HORIZONTAL w_UP w_DOWN w_TRANSVERSAL w_INTER_HOST h0 n0 Z0 S_SAME_PAGE S_HORIZONTAL S_UP S_DOWN S_TRANSVERSAL S_INTER_HOST ((by decide) : (2 : Int32) = (2 : Int32))) hZ tw4 tw3 (by decide) (by decide)) (g := (mkF m 34 #[.val (.int p0), .val (.int ((p0 &&& (2147483647 : Int32)) % (6 : Int32))), .val (.ref w_DOWN), .val (.int (2 : Int32)), .unset, .unset] [(.int (2 : Int32))])) rfl (by rw [hml]; rfl) (argsL := [(.int (2 : Int32))]) (rest := []) (lenOf pd_I_Lcom_example_pampulha_pampulha_site_LinkSyntax rfl) rfl (Nat.le_of_eq rfl) (hb hby at_34) (fun _ _ => ⟨rfl, q117_0, (by decide : 0 + 0 ≤ _), (by decide : 0 + 0 ≤ _)⟩)
          dsimp only [Pt.U, Pt.locs, Pt.cells, Pt.slots] at X118 l118 y118 z118 st118 hQ118
          subst l118 y118 z118
          obtain ⟨rfl, Nq118, q118_0⟩ := hQ118
          have N118 := Fr.app N117 Nq118
          refine Goes.step (S' := T118.setTop (mkF m 40 #[.val (.int p0), .val (.int ((p0 &&& (2147483647 : Int32)) % (6 : Int32))), .val (.ref w_DOWN), .val (.int (2 : Int32)), .val (.ref w_UP), .unset] [(.ref w_DOWN)])) (fun t k => st118 _ (XS.astore X118.here hx rfl (hb hby at_37) rfl rfl (l' := #[.val (.int p0), .val (.int ((p0 &&& (2147483647 : Int32)) % (6 : Int32))), .val (.ref w_DOWN), .val (.int (2 : Int32)), .val (.ref w_UP), .unset]) rfl (XS.aloadN X118.here hx rfl (hb hby at_39) rfl rfl k))) ?_
          obtain ⟨cq119, kq119, q119a, q119b, q119c⟩ := isOf hZ q118_0 E_DOWN
          obtain ⟨_, _, ⟨T119, L119, k119, n119⟩, -, X119, ⟨Lc119, hQ119, l119, y119, z119⟩, st119⟩ := X118.virtualBack hx (y := mth3) (z := mth3) hown (mvT hZ tw8) (mvT hZ tw9) (notFace_of_selects (args := #[]) (mvT hZ tw11)) (mvT hZ tw11) (mvT hZ tw10) (by decide) (backOf (W := 0) (rev_3 l Z a0 hw [] w_DOWN w_UP w_DOWN h0 n0 Z0 E_DOWN F_DOWN S_UP S_DOWN) hZ tw12 tw6 (by decide) (by decide)) q119a q119c (g := (mkF m 40 #[.val (.int p0), .val (.int ((p0 &&& (2147483647 : Int32)) % (6 : Int32))), .val (.ref w_DOWN), .val (.int (2 : Int32)), .val (.ref w_UP), .unset] [(.ref w_DOWN)])) rfl (by rw [hml]; rfl) (Steps.refl _) (argsL := []) (rest := []) (lenOf pd_Lcom_example_pampulha_pampulha_site_LinkSyntax rfl) rfl (Nat.le_of_eq rfl) (hb hby at_40) (fun _ _ => ⟨rfl, q118_0, (by decide : 0 + 0 ≤ _), (by decide : 0 + 0 ≤ _)⟩)
          dsimp only [Pt.U, Pt.locs, Pt.cells, Pt.slots] at X119 l119 y119 z119 st119 hQ119
          subst l119 y119 z119
          obtain ⟨rfl, Nq119, q119_0⟩ := hQ119
          have N119 := Fr.app N118 Nq119
          refine Goes.step (S' := T119.setTop (mkF m 56 #[.val (.int p0), .val (.int ((p0 &&& (2147483647 : Int32)) % (6 : Int32))), .val (.ref w_DOWN), .val (.int (2 : Int32)), .val (.ref w_UP), .val (.ref w_UP)] [(.ref w_UP)])) (fun t k => st119.trans (XS.astore X119.here hx rfl (hb hby at_43) rfl rfl (l' := #[.val (.int p0), .val (.int ((p0 &&& (2147483647 : Int32)) % (6 : Int32))), .val (.ref w_DOWN), .val (.int (2 : Int32)), .val (.ref w_UP), .val (.ref w_UP)]) rfl (XS.aload X119.here hx rfl (hb hby at_45) rfl rfl (XS.aload X119.here hx rfl (hb hby at_47) rfl rfl (Jvm.RoadKit.acmp (g := (mkF m 49 #[.val (.int p0), .val (.int ((p0 &&& (2147483647 : Int32)) % (6 : Int32))), .val (.ref w_DOWN), .val (.int (2 : Int32)), .val (.ref w_UP), .val (.ref w_UP)] [(.ref w_UP), (.ref w_UP)])) X119 hx rfl rfl rfl (pc0 := 49) (pc' := 54) (same := true) rfl (hb hby at_49) rfl (decide_eq_true rfl) (by decide) (by decide) (XS.aload X119.here hx rfl (hb hby at_54) rfl rfl k)))))) ?_
          obtain ⟨cq120, kq120, q120a, q120b, q120c⟩ := isOf hZ q119_0 E_UP
          obtain ⟨_, _, ⟨T120, L120, k120, n120⟩, -, X120, ⟨Lc120, hQ120, l120, y120, z120⟩, st120⟩ := X119.virtualBack hx (y := mth3) (z := mth3) hown (mvT hZ tw8) (mvT hZ tw9) (notFace_of_selects (args := #[]) (mvT hZ tw11)) (mvT hZ tw11) (mvT hZ tw10) (by decide) (backOf (W := 0) (rev_2 l Z a0 hw [] w_UP w_UP w_DOWN h0 n0 Z0 E_UP F_UP S_UP S_DOWN) hZ tw12 tw6 (by decide) (by decide)) q120a q120c (g := (mkF m 56 #[.val (.int p0), .val (.int ((p0 &&& (2147483647 : Int32)) % (6 : Int32))), .val (.ref w_DOWN), .val (.int (2 : Int32)), .val (.ref w_UP), .val (.ref w_UP)] [(.ref w_UP)])) rfl (by rw [hml]; rfl) (Steps.refl _) (argsL := []) (rest := []) (lenOf pd_Lcom_example_pampulha_pampulha_site_LinkSyntax rfl) rfl (Nat.le_of_eq rfl) (hb hby at_56) (fun _ _ => ⟨rfl, q119_0, (by decide : 0 + 0 ≤ _), (by decide : 0 + 0 ≤ _)⟩)
          dsimp only [Pt.U, Pt.locs, Pt.cells, Pt.slots] at X120 l120 y120 z120 st120 hQ120
          subst l120 y120 z120
          obtain ⟨rfl, Nq120, q120_0⟩ := hQ120
          have N120 := Fr.app N119 Nq120
          refine Goes.step (S' := T120.setTop (mkF m 68 #[.val (.int p0), .val (.int ((p0 &&& (2147483647 : Int32)) % (6 : Int32))), .val (.ref w_DOWN), .val (.int (2 : Int32)), .val (.ref w_UP), .val (.ref w_UP)] [(.int (1 : Int32))])) (fun t k => st120.trans (XS.aloadN X120.here hx rfl (hb hby at_59) rfl rfl (Jvm.RoadKit.acmp (g := (mkF m 60 #[.val (.int p0), .val (.int ((p0 &&& (2147483647 : Int32)) % (6 : Int32))), .val (.ref w_DOWN), .val (.int (2 : Int32)), .val (.ref w_UP), .val (.ref w_UP)] [(.ref w_DOWN), (.ref w_DOWN)])) X120 hx rfl rfl rfl (pc0 := 60) (pc' := 63) (same := true) rfl (hb hby at_60) rfl (decide_eq_true rfl) (by decide) (by decide) (XS.iconst X120.here hx rfl (hb hby at_63) (XS.goto X120.here hx rfl (pc0 := 64) (pc' := 68) rfl (hb hby at_64) (by decide) (by decide) k))))) ?_
          refine Goes.leave (g := (mkF m 68 #[.val (.int p0), .val (.int ((p0 &&& (2147483647 : Int32)) % (6 : Int32))), .val (.ref w_DOWN), .val (.int (2 : Int32)), .val (.ref w_UP), .val (.ref w_UP)] [(.int (1 : Int32))])) X120 Bd.notSynchronized (v := (some (.int (1 : Int32)))) (fun h => by rw [Bd.returns] at h; cases h) (fun fs hr => retN X120 hx (t := .boolean) Bd.returns (by simp) (hb hby at_68) hr) q120_0 ?_ (by decide) (by decide)
          exact ⟨rfl, N120⟩
        case neg =>
          by_cases hc121 : ((p0 &&& (2147483647 : Int32)) % (6 : Int32)) = (4 : Int32)
          case pos =>
            obtain ⟨_, _, ⟨T122, L122, k122, n122⟩, -, X122, ⟨Lc122, hQ122, l122, y122, z122⟩, st122⟩ := Jvm.LawKit.callS X0 hx (y := mth0) hown (mvT hZ tw1) (mvT hZ tw2) (mvT hZ tw3) (mvT hZ tw4) (by decide) (backOf (W := 0) (pick_4 l Z a0 hw [] ((p0 &&& (2147483647 : Int32)) % (6 : Int32)) w_SAME_PAGE w_HORIZONTAL w_UP w_DOWN w_TRANSVERSAL w_INTER_HOST h0 n0 Z0 S_SAME_PAGE S_HORIZONTAL S_UP S_DOWN S_TRANSVERSAL S_INTER_HOST (hc121 : ((p0 &&& (2147483647 : Int32)) % (6 : Int32)) = (4 : Int32))) hZ tw4 tw3 (by decide) (by decide)) (g := (mkF m 9 #[.val (.int p0), .val (.int ((p0 &&& (2147483647 : Int32)) % (6 : Int32))), .unset, .unset, .unset, .unset] [(.int ((p0 &&& (2147483647 : Int32)) % (6 : Int32)))])) rfl (by rw [hml]; rfl) (argsL := [(.int ((p0 &&& (2147483647 : Int32)) % (6 : Int32)))]) (rest := []) (lenOf pd_I_Lcom_example_pampulha_pampulha_site_LinkSyntax rfl) rfl (Nat.le_of_eq rfl) (hb hby at_9) (fun _ _ => ⟨rfl, e0, (by decide : 0 + 0 ≤ _), (by decide : 0 + 0 ≤ _)⟩)
            dsimp only [Pt.U, Pt.locs, Pt.cells, Pt.slots] at X122 l122 y122 z122 st122 hQ122
            subst l122 y122 z122
            obtain ⟨rfl, Nq122, q122_0⟩ := hQ122
            have N122 := Fr.app N0 Nq122
            refine Goes.step (S' := T122.setTop (mkF m 31 #[.val (.int p0), .val (.int ((p0 &&& (2147483647 : Int32)) % (6 : Int32))), .val (.ref w_TRANSVERSAL), .unset, .unset, .unset] [])) (fun t k => st122 _ (XS.astoreN X122.here hx rfl (hb hby at_12) rfl rfl (l' := #[.val (.int p0), .val (.int ((p0 &&& (2147483647 : Int32)) % (6 : Int32))), .val (.ref w_TRANSVERSAL), .unset, .unset, .unset]) rfl (XS.iloadN X122.here hx rfl (hb hby at_13) rfl (XS.iconst X122.here hx rfl (hb hby at_14) (XS.icmpYes X122.here hx rfl (pc0 := 15) (pc' := 22) rfl (hb hby at_15) rfl (feq (hc111 : ¬ (((p0 &&& (2147483647 : Int32)) % (6 : Int32)) = (2 : Int32)))).2 (by decide) (by decide) (XS.iloadN X122.here hx rfl (hb hby at_22) rfl (XS.iconst X122.here hx rfl (hb hby at_23) (XS.icmpYes X122.here hx rfl (pc0 := 24) (pc' := 31) rfl (hb hby at_24) rfl (feq (hc116 : ¬ (((p0 &&& (2147483647 : Int32)) % (6 : Int32)) = (3 : Int32)))).2 (by decide) (by decide) k)))))))) ?_
            refine Goes.step (S' := T122.setTop (mkF m 34 #[.val (.int p0), .val (.int ((p0 &&& (2147483647 : Int32)) % (6 : Int32))), .val (.ref w_TRANSVERSAL), .val (.int ((p0 &&& (2147483647 : Int32)) % (6 : Int32))), .unset, .unset] [(.int ((p0 &&& (2147483647 : Int32)) % (6 : Int32)))])) (fun t k => XS.iloadN X122.here hx rfl (hb hby at_31) rfl (XS.istoreN X122.here hx rfl (hb hby at_32) rfl (l' := #[.val (.int p0), .val (.int ((p0 &&& (2147483647 : Int32)) % (6 : Int32))), .val (.ref w_TRANSVERSAL), .val (.int ((p0 &&& (2147483647 : Int32)) % (6 : Int32))), .unset, .unset]) rfl (XS.iloadN X122.here hx rfl (hb hby at_33) rfl k))) ?_
            obtain ⟨_, _, ⟨T123, L123, k123, n123⟩, -, X123, ⟨Lc123, hQ123, l123, y123, z123⟩, st123⟩ := Jvm.LawKit.callS X122 hx (y := mth0) hown (mvT hZ tw1) (mvT hZ tw2) (mvT hZ tw3) (mvT hZ tw4) (by decide) (backOf (W := 0) (pick_4 l Z a0 hw [] ((p0 &&& (2147483647 : Int32)) % (6 : Int32)) w_SAME_PAGE w_HORIZONTAL w_UP w_DOWN w_TRANSVERSAL w_INTER_HOST h0 n0 Z0 S_SAME_PAGE S_HORIZONTAL S_UP S_DOWN S_TRANSVERSAL S_INTER_HOST (hc121 : ((p0 &&& (2147483647 : Int32)) % (6 : Int32)) = (4 : Int32))) hZ tw4 tw3 (by decide) (by decide)) (g := (mkF m 34 #[.val (.int p0), .val (.int ((p0 &&& (2147483647 : Int32)) % (6 : Int32))), .val (.ref w_TRANSVERSAL), .val (.int ((p0 &&& (2147483647 : Int32)) % (6 : Int32))), .unset, .unset] [(.int ((p0 &&& (2147483647 : Int32)) % (6 : Int32)))])) rfl (by rw [hml]; rfl) (argsL := [(.int ((p0 &&& (2147483647 : Int32)) % (6 : Int32)))]) (rest := []) (lenOf pd_I_Lcom_example_pampulha_pampulha_site_LinkSyntax rfl) rfl (Nat.le_of_eq rfl) (hb hby at_34) (fun _ _ => ⟨rfl, q122_0, (by decide : 0 + 0 ≤ _), (by decide : 0 + 0 ≤ _)⟩)
            dsimp only [Pt.U, Pt.locs, Pt.cells, Pt.slots] at X123 l123 y123 z123 st123 hQ123
            subst l123 y123 z123
            obtain ⟨rfl, Nq123, q123_0⟩ := hQ123
            have N123 := Fr.app N122 Nq123
            refine Goes.step (S' := T123.setTop (mkF m 40 #[.val (.int p0), .val (.int ((p0 &&& (2147483647 : Int32)) % (6 : Int32))), .val (.ref w_TRANSVERSAL), .val (.int ((p0 &&& (2147483647 : Int32)) % (6 : Int32))), .val (.ref w_TRANSVERSAL), .unset] [(.ref w_TRANSVERSAL)])) (fun t k => st123 _ (XS.astore X123.here hx rfl (hb hby at_37) rfl rfl (l' := #[.val (.int p0), .val (.int ((p0 &&& (2147483647 : Int32)) % (6 : Int32))), .val (.ref w_TRANSVERSAL), .val (.int ((p0 &&& (2147483647 : Int32)) % (6 : Int32))), .val (.ref w_TRANSVERSAL), .unset]) rfl (XS.aloadN X123.here hx rfl (hb hby at_39) rfl rfl k))) ?_
            obtain ⟨cq124, kq124, q124a, q124b, q124c⟩ := isOf hZ q123_0 E_TRANSVERSAL
            obtain ⟨_, _, ⟨T124, L124, k124, n124⟩, -, X124, ⟨Lc124, hQ124, l124, y124, z124⟩, st124⟩ := X123.virtualBack hx (y := mth3) (z := mth3) hown (mvT hZ tw8) (mvT hZ tw9) (notFace_of_selects (args := #[]) (mvT hZ tw11)) (mvT hZ tw11) (mvT hZ tw10) (by decide) (backOf (W := 0) (rev_4 l Z a0 hw [] w_TRANSVERSAL w_UP w_DOWN h0 n0 Z0 E_TRANSVERSAL F_TRANSVERSAL S_UP S_DOWN) hZ tw12 tw6 (by decide) (by decide)) q124a q124c (g := (mkF m 40 #[.val (.int p0), .val (.int ((p0 &&& (2147483647 : Int32)) % (6 : Int32))), .val (.ref w_TRANSVERSAL), .val (.int ((p0 &&& (2147483647 : Int32)) % (6 : Int32))), .val (.ref w_TRANSVERSAL), .unset] [(.ref w_TRANSVERSAL)])) rfl (by rw [hml]; rfl) (Steps.refl _) (argsL := []) (rest := []) (lenOf pd_Lcom_example_pampulha_pampulha_site_LinkSyntax rfl) rfl (Nat.le_of_eq rfl) (hb hby at_40) (fun _ _ => ⟨rfl, q123_0, (by decide : 0 + 0 ≤ _), (by decide : 0 + 0 ≤ _)⟩)
            dsimp only [Pt.U, Pt.locs, Pt.cells, Pt.slots] at X124 l124 y124 z124 st124 hQ124
            subst l124 y124 z124
            obtain ⟨rfl, Nq124, q124_0⟩ := hQ124
            have N124 := Fr.app N123 Nq124
            refine Goes.step (S' := T124.setTop (mkF m 56 #[.val (.int p0), .val (.int ((p0 &&& (2147483647 : Int32)) % (6 : Int32))), .val (.ref w_TRANSVERSAL), .val (.int ((p0 &&& (2147483647 : Int32)) % (6 : Int32))), .val (.ref w_TRANSVERSAL), .val (.ref w_TRANSVERSAL)] [(.ref w_TRANSVERSAL)])) (fun t k => st124.trans (XS.astore X124.here hx rfl (hb hby at_43) rfl rfl (l' := #[.val (.int p0), .val (.int ((p0 &&& (2147483647 : Int32)) % (6 : Int32))), .val (.ref w_TRANSVERSAL), .val (.int ((p0 &&& (2147483647 : Int32)) % (6 : Int32))), .val (.ref w_TRANSVERSAL), .val (.ref w_TRANSVERSAL)]) rfl (XS.aload X124.here hx rfl (hb hby at_45) rfl rfl (XS.aload X124.here hx rfl (hb hby at_47) rfl rfl (Jvm.RoadKit.acmp (g := (mkF m 49 #[.val (.int p0), .val (.int ((p0 &&& (2147483647 : Int32)) % (6 : Int32))), .val (.ref w_TRANSVERSAL), .val (.int ((p0 &&& (2147483647 : Int32)) % (6 : Int32))), .val (.ref w_TRANSVERSAL), .val (.ref w_TRANSVERSAL)] [(.ref w_TRANSVERSAL), (.ref w_TRANSVERSAL)])) X124 hx rfl rfl rfl (pc0 := 49) (pc' := 54) (same := true) rfl (hb hby at_49) rfl (decide_eq_true rfl) (by decide) (by decide) (XS.aload X124.here hx rfl (hb hby at_54) rfl rfl k)))))) ?_
            obtain ⟨cq125, kq125, q125a, q125b, q125c⟩ := isOf hZ q124_0 E_TRANSVERSAL
            obtain ⟨_, _, ⟨T125, L125, k125, n125⟩, -, X125, ⟨Lc125, hQ125, l125, y125, z125⟩, st125⟩ := X124.virtualBack hx (y := mth3) (z := mth3) hown (mvT hZ tw8) (mvT hZ tw9) (notFace_of_selects (args := #[]) (mvT hZ tw11)) (mvT hZ tw11) (mvT hZ tw10) (by decide) (backOf (W := 0) (rev_4 l Z a0 hw [] w_TRANSVERSAL w_UP w_DOWN h0 n0 Z0 E_TRANSVERSAL F_TRANSVERSAL S_UP S_DOWN) hZ tw12 tw6 (by decide) (by decide)) q125a q125c (g := (mkF m 56 #[.val (.int p0), .val (.int ((p0 &&& (2147483647 : Int32)) % (6 : Int32))), .val (.ref w_TRANSVERSAL), .val (.int ((p0 &&& (2147483647 : Int32)) % (6 : Int32))), .val (.ref w_TRANSVERSAL), .val (.ref w_TRANSVERSAL)] [(.ref w_TRANSVERSAL)])) rfl (by rw [hml]; rfl) (Steps.refl _) (argsL := []) (rest := []) (lenOf pd_Lcom_example_pampulha_pampulha_site_LinkSyntax rfl) rfl (Nat.le_of_eq rfl) (hb hby at_56) (fun _ _ => ⟨rfl, q124_0, (by decide : 0 + 0 ≤ _), (by decide : 0 + 0 ≤ _)⟩)
            dsimp only [Pt.U, Pt.locs, Pt.cells, Pt.slots] at X125 l125 y125 z125 st125 hQ125
            subst l125 y125 z125
            obtain ⟨rfl, Nq125, q125_0⟩ := hQ125
            have N125 := Fr.app N124 Nq125
            refine Goes.step (S' := T125.setTop (mkF m 68 #[.val (.int p0), .val (.int ((p0 &&& (2147483647 : Int32)) % (6 : Int32))), .val (.ref w_TRANSVERSAL), .val (.int ((p0 &&& (2147483647 : Int32)) % (6 : Int32))), .val (.ref w_TRANSVERSAL), .val (.ref w_TRANSVERSAL)] [(.int (1 : Int32))])) (fun t k => st125.trans (XS.aloadN X125.here hx rfl (hb hby at_59) rfl rfl (Jvm.RoadKit.acmp (g := (mkF m 60 #[.val (.int p0), .val (.int ((p0 &&& (2147483647 : Int32)) % (6 : Int32))), .val (.ref w_TRANSVERSAL), .val (.int ((p0 &&& (2147483647 : Int32)) % (6 : Int32))), .val (.ref w_TRANSVERSAL), .val (.ref w_TRANSVERSAL)] [(.ref w_TRANSVERSAL), (.ref w_TRANSVERSAL)])) X125 hx rfl rfl rfl (pc0 := 60) (pc' := 63) (same := true) rfl (hb hby at_60) rfl (decide_eq_true rfl) (by decide) (by decide) (XS.iconst X125.here hx rfl (hb hby at_63) (XS.goto X125.here hx rfl (pc0 := 64) (pc' := 68) rfl (hb hby at_64) (by decide) (by decide) k))))) ?_
            refine Goes.leave (g := (mkF m 68 #[.val (.int p0), .val (.int ((p0 &&& (2147483647 : Int32)) % (6 : Int32))), .val (.ref w_TRANSVERSAL), .val (.int ((p0 &&& (2147483647 : Int32)) % (6 : Int32))), .val (.ref w_TRANSVERSAL), .val (.ref w_TRANSVERSAL)] [(.int (1 : Int32))])) X125 Bd.notSynchronized (v := (some (.int (1 : Int32)))) (fun h => by rw [Bd.returns] at h; cases h) (fun fs hr => retN X125 hx (t := .boolean) Bd.returns (by simp) (hb hby at_68) hr) q125_0 ?_ (by decide) (by decide)
            exact ⟨rfl, N125⟩
          case neg =>
            obtain ⟨_, _, ⟨T126, L126, k126, n126⟩, -, X126, ⟨Lc126, hQ126, l126, y126, z126⟩, st126⟩ := Jvm.LawKit.callS X0 hx (y := mth0) hown (mvT hZ tw1) (mvT hZ tw2) (mvT hZ tw3) (mvT hZ tw4) (by decide) (backOf (W := 0) (pick_5 l Z a0 hw [] ((p0 &&& (2147483647 : Int32)) % (6 : Int32)) w_SAME_PAGE w_HORIZONTAL w_UP w_DOWN w_TRANSVERSAL w_INTER_HOST h0 n0 Z0 S_SAME_PAGE S_HORIZONTAL S_UP S_DOWN S_TRANSVERSAL S_INTER_HOST (hc101 : ¬ (((p0 &&& (2147483647 : Int32)) % (6 : Int32)) = (0 : Int32))) (hc106 : ¬ (((p0 &&& (2147483647 : Int32)) % (6 : Int32)) = (1 : Int32))) (hc111 : ¬ (((p0 &&& (2147483647 : Int32)) % (6 : Int32)) = (2 : Int32))) (hc116 : ¬ (((p0 &&& (2147483647 : Int32)) % (6 : Int32)) = (3 : Int32))) (hc121 : ¬ (((p0 &&& (2147483647 : Int32)) % (6 : Int32)) = (4 : Int32)))) hZ tw4 tw3 (by decide) (by decide)) (g := (mkF m 9 #[.val (.int p0), .val (.int ((p0 &&& (2147483647 : Int32)) % (6 : Int32))), .unset, .unset, .unset, .unset] [(.int ((p0 &&& (2147483647 : Int32)) % (6 : Int32)))])) rfl (by rw [hml]; rfl) (argsL := [(.int ((p0 &&& (2147483647 : Int32)) % (6 : Int32)))]) (rest := []) (lenOf pd_I_Lcom_example_pampulha_pampulha_site_LinkSyntax rfl) rfl (Nat.le_of_eq rfl) (hb hby at_9) (fun _ _ => ⟨rfl, e0, (by decide : 0 + 0 ≤ _), (by decide : 0 + 0 ≤ _)⟩)
            dsimp only [Pt.U, Pt.locs, Pt.cells, Pt.slots] at X126 l126 y126 z126 st126 hQ126
            subst l126 y126 z126
            obtain ⟨rfl, Nq126, q126_0⟩ := hQ126
            have N126 := Fr.app N0 Nq126
            refine Goes.step (S' := T126.setTop (mkF m 31 #[.val (.int p0), .val (.int ((p0 &&& (2147483647 : Int32)) % (6 : Int32))), .val (.ref w_INTER_HOST), .unset, .unset, .unset] [])) (fun t k => st126 _ (XS.astoreN X126.here hx rfl (hb hby at_12) rfl rfl (l' := #[.val (.int p0), .val (.int ((p0 &&& (2147483647 : Int32)) % (6 : Int32))), .val (.ref w_INTER_HOST), .unset, .unset, .unset]) rfl (XS.iloadN X126.here hx rfl (hb hby at_13) rfl (XS.iconst X126.here hx rfl (hb hby at_14) (XS.icmpYes X126.here hx rfl (pc0 := 15) (pc' := 22) rfl (hb hby at_15) rfl (feq (hc111 : ¬ (((p0 &&& (2147483647 : Int32)) % (6 : Int32)) = (2 : Int32)))).2 (by decide) (by decide) (XS.iloadN X126.here hx rfl (hb hby at_22) rfl (XS.iconst X126.here hx rfl (hb hby at_23) (XS.icmpYes X126.here hx rfl (pc0 := 24) (pc' := 31) rfl (hb hby at_24) rfl (feq (hc116 : ¬ (((p0 &&& (2147483647 : Int32)) % (6 : Int32)) = (3 : Int32)))).2 (by decide) (by decide) k)))))))) ?_
            refine Goes.step (S' := T126.setTop (mkF m 34 #[.val (.int p0), .val (.int ((p0 &&& (2147483647 : Int32)) % (6 : Int32))), .val (.ref w_INTER_HOST), .val (.int ((p0 &&& (2147483647 : Int32)) % (6 : Int32))), .unset, .unset] [(.int ((p0 &&& (2147483647 : Int32)) % (6 : Int32)))])) (fun t k => XS.iloadN X126.here hx rfl (hb hby at_31) rfl (XS.istoreN X126.here hx rfl (hb hby at_32) rfl (l' := #[.val (.int p0), .val (.int ((p0 &&& (2147483647 : Int32)) % (6 : Int32))), .val (.ref w_INTER_HOST), .val (.int ((p0 &&& (2147483647 : Int32)) % (6 : Int32))), .unset, .unset]) rfl (XS.iloadN X126.here hx rfl (hb hby at_33) rfl k))) ?_
            obtain ⟨_, _, ⟨T127, L127, k127, n127⟩, -, X127, ⟨Lc127, hQ127, l127, y127, z127⟩, st127⟩ := Jvm.LawKit.callS X126 hx (y := mth0) hown (mvT hZ tw1) (mvT hZ tw2) (mvT hZ tw3) (mvT hZ tw4) (by decide) (backOf (W := 0) (pick_5 l Z a0 hw [] ((p0 &&& (2147483647 : Int32)) % (6 : Int32)) w_SAME_PAGE w_HORIZONTAL w_UP w_DOWN w_TRANSVERSAL w_INTER_HOST h0 n0 Z0 S_SAME_PAGE S_HORIZONTAL S_UP S_DOWN S_TRANSVERSAL S_INTER_HOST (hc101 : ¬ (((p0 &&& (2147483647 : Int32)) % (6 : Int32)) = (0 : Int32))) (hc106 : ¬ (((p0 &&& (2147483647 : Int32)) % (6 : Int32)) = (1 : Int32))) (hc111 : ¬ (((p0 &&& (2147483647 : Int32)) % (6 : Int32)) = (2 : Int32))) (hc116 : ¬ (((p0 &&& (2147483647 : Int32)) % (6 : Int32)) = (3 : Int32))) (hc121 : ¬ (((p0 &&& (2147483647 : Int32)) % (6 : Int32)) = (4 : Int32)))) hZ tw4 tw3 (by decide) (by decide)) (g := (mkF m 34 #[.val (.int p0), .val (.int ((p0 &&& (2147483647 : Int32)) % (6 : Int32))), .val (.ref w_INTER_HOST), .val (.int ((p0 &&& (2147483647 : Int32)) % (6 : Int32))), .unset, .unset] [(.int ((p0 &&& (2147483647 : Int32)) % (6 : Int32)))])) rfl (by rw [hml]; rfl) (argsL := [(.int ((p0 &&& (2147483647 : Int32)) % (6 : Int32)))]) (rest := []) (lenOf pd_I_Lcom_example_pampulha_pampulha_site_LinkSyntax rfl) rfl (Nat.le_of_eq rfl) (hb hby at_34) (fun _ _ => ⟨rfl, q126_0, (by decide : 0 + 0 ≤ _), (by decide : 0 + 0 ≤ _)⟩)
            dsimp only [Pt.U, Pt.locs, Pt.cells, Pt.slots] at X127 l127 y127 z127 st127 hQ127
            subst l127 y127 z127
            obtain ⟨rfl, Nq127, q127_0⟩ := hQ127
            have N127 := Fr.app N126 Nq127
            refine Goes.step (S' := T127.setTop (mkF m 40 #[.val (.int p0), .val (.int ((p0 &&& (2147483647 : Int32)) % (6 : Int32))), .val (.ref w_INTER_HOST), .val (.int ((p0 &&& (2147483647 : Int32)) % (6 : Int32))), .val (.ref w_INTER_HOST), .unset] [(.ref w_INTER_HOST)])) (fun t k => st127 _ (XS.astore X127.here hx rfl (hb hby at_37) rfl rfl (l' := #[.val (.int p0), .val (.int ((p0 &&& (2147483647 : Int32)) % (6 : Int32))), .val (.ref w_INTER_HOST), .val (.int ((p0 &&& (2147483647 : Int32)) % (6 : Int32))), .val (.ref w_INTER_HOST), .unset]) rfl (XS.aloadN X127.here hx rfl (hb hby at_39) rfl rfl k))) ?_
            obtain ⟨cq128, kq128, q128a, q128b, q128c⟩ := isOf hZ q127_0 E_INTER_HOST
            obtain ⟨_, _, ⟨T128, L128, k128, n128⟩, -, X128, ⟨Lc128, hQ128, l128, y128, z128⟩, st128⟩ := X127.virtualBack hx (y := mth3) (z := mth3) hown (mvT hZ tw8) (mvT hZ tw9) (notFace_of_selects (args := #[]) (mvT hZ tw11)) (mvT hZ tw11) (mvT hZ tw10) (by decide) (backOf (W := 0) (rev_5 l Z a0 hw [] w_INTER_HOST w_UP w_DOWN h0 n0 Z0 E_INTER_HOST F_INTER_HOST S_UP S_DOWN) hZ tw12 tw6 (by decide) (by decide)) q128a q128c (g := (mkF m 40 #[.val (.int p0), .val (.int ((p0 &&& (2147483647 : Int32)) % (6 : Int32))), .val (.ref w_INTER_HOST), .val (.int ((p0 &&& (2147483647 : Int32)) % (6 : Int32))), .val (.ref w_INTER_HOST), .unset] [(.ref w_INTER_HOST)])) rfl (by rw [hml]; rfl) (Steps.refl _) (argsL := []) (rest := []) (lenOf pd_Lcom_example_pampulha_pampulha_site_LinkSyntax rfl) rfl (Nat.le_of_eq rfl) (hb hby at_40) (fun _ _ => ⟨rfl, q127_0, (by decide : 0 + 0 ≤ _), (by decide : 0 + 0 ≤ _)⟩)
            dsimp only [Pt.U, Pt.locs, Pt.cells, Pt.slots] at X128 l128 y128 z128 st128 hQ128
            subst l128 y128 z128
            obtain ⟨rfl, Nq128, q128_0⟩ := hQ128
            have N128 := Fr.app N127 Nq128
            refine Goes.step (S' := T128.setTop (mkF m 56 #[.val (.int p0), .val (.int ((p0 &&& (2147483647 : Int32)) % (6 : Int32))), .val (.ref w_INTER_HOST), .val (.int ((p0 &&& (2147483647 : Int32)) % (6 : Int32))), .val (.ref w_INTER_HOST), .val (.ref w_INTER_HOST)] [(.ref w_INTER_HOST)])) (fun t k => st128.trans (XS.astore X128.here hx rfl (hb hby at_43) rfl rfl (l' := #[.val (.int p0), .val (.int ((p0 &&& (2147483647 : Int32)) % (6 : Int32))), .val (.ref w_INTER_HOST), .val (.int ((p0 &&& (2147483647 : Int32)) % (6 : Int32))), .val (.ref w_INTER_HOST), .val (.ref w_INTER_HOST)]) rfl (XS.aload X128.here hx rfl (hb hby at_45) rfl rfl (XS.aload X128.here hx rfl (hb hby at_47) rfl rfl (Jvm.RoadKit.acmp (g := (mkF m 49 #[.val (.int p0), .val (.int ((p0 &&& (2147483647 : Int32)) % (6 : Int32))), .val (.ref w_INTER_HOST), .val (.int ((p0 &&& (2147483647 : Int32)) % (6 : Int32))), .val (.ref w_INTER_HOST), .val (.ref w_INTER_HOST)] [(.ref w_INTER_HOST), (.ref w_INTER_HOST)])) X128 hx rfl rfl rfl (pc0 := 49) (pc' := 54) (same := true) rfl (hb hby at_49) rfl (decide_eq_true rfl) (by decide) (by decide) (XS.aload X128.here hx rfl (hb hby at_54) rfl rfl k)))))) ?_
            obtain ⟨cq129, kq129, q129a, q129b, q129c⟩ := isOf hZ q128_0 E_INTER_HOST
            obtain ⟨_, _, ⟨T129, L129, k129, n129⟩, -, X129, ⟨Lc129, hQ129, l129, y129, z129⟩, st129⟩ := X128.virtualBack hx (y := mth3) (z := mth3) hown (mvT hZ tw8) (mvT hZ tw9) (notFace_of_selects (args := #[]) (mvT hZ tw11)) (mvT hZ tw11) (mvT hZ tw10) (by decide) (backOf (W := 0) (rev_5 l Z a0 hw [] w_INTER_HOST w_UP w_DOWN h0 n0 Z0 E_INTER_HOST F_INTER_HOST S_UP S_DOWN) hZ tw12 tw6 (by decide) (by decide)) q129a q129c (g := (mkF m 56 #[.val (.int p0), .val (.int ((p0 &&& (2147483647 : Int32)) % (6 : Int32))), .val (.ref w_INTER_HOST), .val (.int ((p0 &&& (2147483647 : Int32)) % (6 : Int32))), .val (.ref w_INTER_HOST), .val (.ref w_INTER_HOST)] [(.ref w_INTER_HOST)])) rfl (by rw [hml]; rfl) (Steps.refl _) (argsL := []) (rest := []) (lenOf pd_Lcom_example_pampulha_pampulha_site_LinkSyntax rfl) rfl (Nat.le_of_eq rfl) (hb hby at_56) (fun _ _ => ⟨rfl, q128_0, (by decide : 0 + 0 ≤ _), (by decide : 0 + 0 ≤ _)⟩)
            dsimp only [Pt.U, Pt.locs, Pt.cells, Pt.slots] at X129 l129 y129 z129 st129 hQ129
            subst l129 y129 z129
            obtain ⟨rfl, Nq129, q129_0⟩ := hQ129
            have N129 := Fr.app N128 Nq129
            refine Goes.step (S' := T129.setTop (mkF m 68 #[.val (.int p0), .val (.int ((p0 &&& (2147483647 : Int32)) % (6 : Int32))), .val (.ref w_INTER_HOST), .val (.int ((p0 &&& (2147483647 : Int32)) % (6 : Int32))), .val (.ref w_INTER_HOST), .val (.ref w_INTER_HOST)] [(.int (1 : Int32))])) (fun t k => st129.trans (XS.aloadN X129.here hx rfl (hb hby at_59) rfl rfl (Jvm.RoadKit.acmp (g := (mkF m 60 #[.val (.int p0), .val (.int ((p0 &&& (2147483647 : Int32)) % (6 : Int32))), .val (.ref w_INTER_HOST), .val (.int ((p0 &&& (2147483647 : Int32)) % (6 : Int32))), .val (.ref w_INTER_HOST), .val (.ref w_INTER_HOST)] [(.ref w_INTER_HOST), (.ref w_INTER_HOST)])) X129 hx rfl rfl rfl (pc0 := 60) (pc' := 63) (same := true) rfl (hb hby at_60) rfl (decide_eq_true rfl) (by decide) (by decide) (XS.iconst X129.here hx rfl (hb hby at_63) (XS.goto X129.here hx rfl (pc0 := 64) (pc' := 68) rfl (hb hby at_64) (by decide) (by decide) k))))) ?_
            refine Goes.leave (g := (mkF m 68 #[.val (.int p0), .val (.int ((p0 &&& (2147483647 : Int32)) % (6 : Int32))), .val (.ref w_INTER_HOST), .val (.int ((p0 &&& (2147483647 : Int32)) % (6 : Int32))), .val (.ref w_INTER_HOST), .val (.ref w_INTER_HOST)] [(.int (1 : Int32))])) X129 Bd.notSynchronized (v := (some (.int (1 : Int32)))) (fun h => by rw [Bd.returns] at h; cases h) (fun fs hr => retN X129 hx (t := .boolean) Bd.returns (by simp) (hb hby at_68) hr) q129_0 ?_ (by decide) (by decide)
            exact ⟨rfl, N129⟩

set_option maxRecDepth 65536 in
set_option maxHeartbeats 40000000 in
theorem comes_1 {Post : Tables → Env → Array Value → State → Outcome → State → Prop} (hpost : ∀ tb e args s v u, (limb_1_1.after args s (.returned v) u = true ∧ limb_1_2.after args s (.returned v) u = true ∧ True) → FrameEnd s (.returned v) u (Jvm.fieldLocs frame_1_writes args s ++ Jvm.arrayLocs frame_1_arrays args s ++ Jvm.staticLocs frame_1_statics s) 0 0 → Post tb e args s (.returned v) u) :
    ArmFor flags0 classFile x code maxLocals ret World_1 tables_1 room_1 Calls_1 rest_1 Pre_1 Post := by
  intro l hfl _ _ p e ha hc hk s m args below hf hA hF happ hP
  obtain ⟨hcalls, hrest, hpre⟩ := hP
  obtain ⟨-, -, -, hnamed, -, -, -, hat⟩ := (Spec.applies_iff hf).mp happ
  obtain ⟨hg, hn⟩ := and_e (Cond.before_iff.mp (show (Jvm.Cond.and given_1 narrow_1).before args s = true from hpre))
  obtain ⟨g1, g2⟩ := and_e hg
  obtain ⟨g3, g4⟩ := and_e hn
  obtain ⟨g5, g6⟩ := and_e g4
  obtain ⟨g7, g8⟩ := and_e g6
  obtain ⟨g9, g10⟩ := and_e g8
  obtain ⟨g11, g12⟩ := and_e g10
  obtain ⟨g13, g14⟩ := and_e g12
  obtain ⟨g15, g16⟩ := and_e g14
  obtain ⟨g17, g18⟩ := and_e g16
  obtain ⟨g19, g20⟩ := and_e g18
  obtain ⟨g21, g22⟩ := and_e g20
  obtain ⟨g23, g24⟩ := and_e g22
  obtain ⟨w0, rfl⟩ : ∃ w0 : Value, args = #[w0] := by
    have hs : args.size = 1 := by simpa [Cond.value, given_1] using g1
    obtain ⟨L⟩ := args
    match L, hs with
    | [w0], _ => exact ⟨w0, rfl⟩
  have hw := fun d (hd : d ∈ tables_1) => atoms_spec (ws := Jvm.Cond.code x code maxLocals ret :: tables_1) hat d (List.mem_cons_of_mem _ hd)
  have hfit : Fit s := fun {y c} hc i hi => by
    obtain ⟨ha, rfl⟩ := Array.getElem?_eq_some_iff.mp hc
    have q := List.all_eq_true.mp ((Array.all_eq_true_iff_forall_mem.mp hF) _ (Array.getElem_mem ha)) i (List.mem_range.mpr hi)
    simpa [Array.getElem?_eq_getElem hi] using q
  obtain ⟨i0, ei0⟩ := is_v g2
  obtain rfl : w0 = (.int i0) := Option.some.inj ei0
  obtain ⟨w_SAME_PAGE, ev_SAME_PAGE⟩ := exa_v g3
  have E_w_SAME_PAGE : Exa s s.heap w_SAME_PAGE "com/example/pampulha/pampulha/site/LinkSyntax" := Exa.start ev_SAME_PAGE g3
  have S_w_SAME_PAGE : Sta s s.heap "com/example/pampulha/pampulha/site/LinkSyntax" "SAME_PAGE" "Lcom/example/pampulha/pampulha/site/LinkSyntax;" (.ref w_SAME_PAGE) := Sta.start ev_SAME_PAGE (Or.inr ⟨(hw _ (List.mem_of_getElem? (i := 6) rfl)), (hw _ (List.mem_of_getElem? (i := 7) rfl))⟩)
  have F_w_SAME_PAGE : Fld s s.heap w_SAME_PAGE "java/lang/Enum" "ordinal" "I" (.int (0 : Int32)) := Fld.start ((fld_at ev_SAME_PAGE).symm.trans (own_eqI g5))
  obtain ⟨w_DOWN, ev_DOWN⟩ := exa_v g7
  have E_w_DOWN : Exa s s.heap w_DOWN "com/example/pampulha/pampulha/site/LinkSyntax" := Exa.start ev_DOWN g7
  have S_w_DOWN : Sta s s.heap "com/example/pampulha/pampulha/site/LinkSyntax" "DOWN" "Lcom/example/pampulha/pampulha/site/LinkSyntax;" (.ref w_DOWN) := Sta.start ev_DOWN (Or.inr ⟨(hw _ (List.mem_of_getElem? (i := 6) rfl)), (hw _ (List.mem_of_getElem? (i := 23) rfl))⟩)
  obtain ⟨w_UP, ev_UP⟩ := exa_v g9
  have E_w_UP : Exa s s.heap w_UP "com/example/pampulha/pampulha/site/LinkSyntax" := Exa.start ev_UP g9
  have S_w_UP : Sta s s.heap "com/example/pampulha/pampulha/site/LinkSyntax" "UP" "Lcom/example/pampulha/pampulha/site/LinkSyntax;" (.ref w_UP) := Sta.start ev_UP (Or.inr ⟨(hw _ (List.mem_of_getElem? (i := 6) rfl)), (hw _ (List.mem_of_getElem? (i := 25) rfl))⟩)
  have F_w_DOWN : Fld s s.heap w_DOWN "java/lang/Enum" "ordinal" "I" (.int (3 : Int32)) := Fld.start ((fld_at ev_DOWN).symm.trans (own_eqI g11))
  have F_w_UP : Fld s s.heap w_UP "java/lang/Enum" "ordinal" "I" (.int (2 : Int32)) := Fld.start ((fld_at ev_UP).symm.trans (own_eqI g13))
  obtain ⟨w_HORIZONTAL, ev_HORIZONTAL⟩ := exa_v g15
  have E_w_HORIZONTAL : Exa s s.heap w_HORIZONTAL "com/example/pampulha/pampulha/site/LinkSyntax" := Exa.start ev_HORIZONTAL g15
  have S_w_HORIZONTAL : Sta s s.heap "com/example/pampulha/pampulha/site/LinkSyntax" "HORIZONTAL" "Lcom/example/pampulha/pampulha/site/LinkSyntax;" (.ref w_HORIZONTAL) := Sta.start ev_HORIZONTAL (Or.inr ⟨(hw _ (List.mem_of_getElem? (i := 6) rfl)), (hw _ (List.mem_of_getElem? (i := 29) rfl))⟩)
  have F_w_HORIZONTAL : Fld s s.heap w_HORIZONTAL "java/lang/Enum" "ordinal" "I" (.int (1 : Int32)) := Fld.start ((fld_at ev_HORIZONTAL).symm.trans (own_eqI g17))
  obtain ⟨w_INTER_HOST, ev_INTER_HOST⟩ := exa_v g19
  have E_w_INTER_HOST : Exa s s.heap w_INTER_HOST "com/example/pampulha/pampulha/site/LinkSyntax" := Exa.start ev_INTER_HOST g19
  have S_w_INTER_HOST : Sta s s.heap "com/example/pampulha/pampulha/site/LinkSyntax" "INTER_HOST" "Lcom/example/pampulha/pampulha/site/LinkSyntax;" (.ref w_INTER_HOST) := Sta.start ev_INTER_HOST (Or.inr ⟨(hw _ (List.mem_of_getElem? (i := 6) rfl)), (hw _ (List.mem_of_getElem? (i := 31) rfl))⟩)
  have F_w_INTER_HOST : Fld s s.heap w_INTER_HOST "java/lang/Enum" "ordinal" "I" (.int (5 : Int32)) := Fld.start ((fld_at ev_INTER_HOST).symm.trans (own_eqI g21))
  obtain ⟨w_TRANSVERSAL, ev_TRANSVERSAL⟩ := exa_v g23
  have E_w_TRANSVERSAL : Exa s s.heap w_TRANSVERSAL "com/example/pampulha/pampulha/site/LinkSyntax" := Exa.start ev_TRANSVERSAL g23
  have S_w_TRANSVERSAL : Sta s s.heap "com/example/pampulha/pampulha/site/LinkSyntax" "TRANSVERSAL" "Lcom/example/pampulha/pampulha/site/LinkSyntax;" (.ref w_TRANSVERSAL) := Sta.start ev_TRANSVERSAL (Or.inr ⟨(hw _ (List.mem_of_getElem? (i := 6) rfl)), (hw _ (List.mem_of_getElem? (i := 33) rfl))⟩)
  have F_w_TRANSVERSAL : Fld s s.heap w_TRANSVERSAL "java/lang/Enum" "ordinal" "I" (.int (4 : Int32)) := Fld.start ((fld_at ev_TRANSVERSAL).symm.trans (own_eqI g24))
  obtain ⟨n, o, h1, h2, h3, _, L, rfl, ⟨rfl, N⟩, hq⟩ := law l s _ hw tables_1 i0 w_SAME_PAGE w_HORIZONTAL w_UP w_DOWN w_TRANSVERSAL w_INTER_HOST s.heap s.heap.size (Nat.le_refl _) S_w_SAME_PAGE S_w_HORIZONTAL S_w_UP S_w_DOWN S_w_TRANSVERSAL S_w_INTER_HOST E_w_SAME_PAGE E_w_HORIZONTAL E_w_UP E_w_DOWN E_w_TRANSVERSAL E_w_INTER_HOST F_w_SAME_PAGE F_w_HORIZONTAL F_w_UP F_w_DOWN F_w_TRANSVERSAL F_w_INTER_HOST p e ha hc hk s m _ below hf ((Spec.applies_iff_loose hf).mp happ).1 ⟨rfl, State.Warmed39.refl s, rfl⟩ trivial
  refine ⟨n, _, h1, h2, h3, hpost _ _ _ _ _ _ ⟨Cond.after_iff.mpr rfl, Cond.after_iff.mpr (eq_i res_at (Term.int_eval (1)) rfl), trivial⟩ ⟨hq.1, hq.2.1, (hq.2.2.sift fun y hy => Or.inr (N y hy)).mono (by decide) (by decide)⟩⟩
theorem main_1_1 : Claimed_1_1 := comes_1 fun _ _ _ _ _ _ h hF => ⟨h.1, hF⟩
theorem main_1_2 : Claimed_1_2 := comes_1 fun _ _ _ _ _ _ h hF => ⟨h.2.1, hF⟩
end Jvm.Pilot.@@N@@
namespace Jvm.Pilot.@@N@@
open Jvm Jvm.ClassFile Sem Op Lib Jvm.Free Jvm.Stand Jvm.Pilot.@@N@@.Jvm.D
/-! MADE BY PROGRAM (witnessworld.py) out of the Statement's table words and the real class files: 12 classes; the members and pool entries that the words name. The judged class is class 1, her method 2. -/
namespace start1
open Jvm.ClassFile
def u (s : String) : CpInfo := .utf8 (stringToUtf16 s)
/-- a pool by its gaps: so many unusable entries, then the entry; so many at the end -/
def gap : Nat → List CpInfo → List CpInfo
  | 0, r => r
  | n + 1, r => .unusable :: gap n r
def poolList (es : List (Nat × CpInfo)) (last : Nat) : List CpInfo := es.foldr (fun e r => gap e.1 (e.2 :: r)) (gap last [])
def pool (es : List (Nat × CpInfo)) (last : Nat) : Array CpInfo := ⟨poolList es last⟩
def fileOf (pool : Array CpInfo) (this : Nat) (attrs : Array Attribute := #[]) (ms : Array MethodInfo := #[]) (fl : Nat := 33) (sup : Nat := 0) (ifs : Array Nat := #[]) (fds : Array FieldInfo := #[]) : ClassFile where
  minorVersion := 0
  majorVersion := 65
  constantPool := pool
  accessFlags := fl
  thisClass := this
  superClass := sup
  interfaces := ifs
  fields := fds
  methods := ms
  attributes := attrs
def plain (name : String) (sup : Option ClassId) : Class where
  name := name
  kind := .ordinary
  loader := none
  accessFlags := 33
  super := sup
  interfaces := #[]
  cf := none
  fields := #[]
  methods := #[]
  instanceTypes := #[]
  staticTypes := #[]
  resolved := #[]
  callSites := []
  init := .initialized
  statics := none
  mirror := none

def pool0 : Array CpInfo := pool [(5, u "<init>"), (0, u "()V"), (1, .class_ 10), (1, u "java/lang/Object")] 113

def k0m0 : Method := { name := "<init>", desc := "()V", sig := { parameters := [], returnType := none }, accessFlags := 1, code := none }
/-- java/lang/Object -/
def k0 : Class := { plain "java/lang/Object" none with
  accessFlags := 33
  interfaces := #[]
  cf := some (fileOf pool0 8 #[] #[{ accessFlags := 1, nameIndex := 5, descriptorIndex := 6, attributes := #[] }] 33 0 #[] #[])
  fields := #[]
  methods := #[k0m0]
  instanceTypes := #[]
  staticTypes := #[]
  resolved := Array.replicate 124 none
  statics := none }

def pool1 : Array CpInfo := pool [(2, .class_ 4), (1, u "java/lang/Object"), (0, u "<init>"), (0, u "()V"), (0, .fieldref 8 9), (0, .class_ 10), (0, .nameAndType 11 12), (0, u "com/example/pampulha/pampulha/site/LinkSyntax"), (0, u "SAME_PAGE"), (0, u "Lcom/example/pampulha/pampulha/site/LinkSyntax;"), (0, .fieldref 8 14), (0, .nameAndType 15 12), (0, u "HORIZONTAL"), (0, .fieldref 8 17), (0, .nameAndType 18 12), (0, u "UP"), (0, .fieldref 8 20), (0, .nameAndType 21 12), (0, u "DOWN"), (0, .fieldref 8 23), (0, .nameAndType 24 12), (0, u "TRANSVERSAL"), (0, .fieldref 8 26), (0, .nameAndType 27 12), (0, u "INTER_HOST"), (0, .integer 2147483647), (0, .methodref 30 31), (0, .class_ 32), (0, .nameAndType 33 34), (0, u "com/example/pampulha/pampulha/site/LinkSyntaxReversedPinLaw"), (0, u "pick"), (0, u "(I)Lcom/example/pampulha/pampulha/site/LinkSyntax;"), (0, .methodref 8 36), (0, .nameAndType 37 38), (0, u "reversed"), (0, u "()Lcom/example/pampulha/pampulha/site/LinkSyntax;"), (3, u "law"), (0, u "(I)Z")] 2

def k1m0 : Method := { name := "<init>", desc := "()V", sig := { parameters := [], returnType := none }, accessFlags := 1, code := none }
def k1c1 : Code := { maxStack := 2, maxLocals := 1, code := method_2_code, exceptionTable := #[], attributes := #[] }
def k1m1 : Method := { name := "pick", desc := "(I)Lcom/example/pampulha/pampulha/site/LinkSyntax;", sig := { parameters := [.int], returnType := some (.object "com/example/pampulha/pampulha/site/LinkSyntax") }, accessFlags := 10, code := some k1c1 }
def k1c2 : Code := { maxStack := 2, maxLocals := 6, code := code, exceptionTable := #[], attributes := #[] }
def k1m2 : Method := { name := "law", desc := "(I)Z", sig := { parameters := [.int], returnType := some .boolean }, accessFlags := 9, code := some k1c2 }
/-- com/example/pampulha/pampulha/site/LinkSyntaxReversedPinLaw -/
def k1 : Class := { plain "com/example/pampulha/pampulha/site/LinkSyntaxReversedPinLaw" (some 0) with
  accessFlags := 49
  interfaces := #[]
  cf := some (fileOf pool1 30 #[] #[{ accessFlags := 1, nameIndex := 5, descriptorIndex := 6, attributes := #[] }, { accessFlags := 10, nameIndex := 33, descriptorIndex := 34, attributes := #[] }, { accessFlags := 9, nameIndex := 42, descriptorIndex := 43, attributes := #[] }] 49 2 #[] #[])
  fields := #[]
  methods := #[k1m0, k1m1, k1m2]
  instanceTypes := #[]
  staticTypes := #[]
  resolved := Array.replicate 46 none
  statics := none }

def pool2 : Array CpInfo := pool [(1, .class_ 2), (0, u "java/lang/constant/Constable"), (0, .class_ 4), (0, u "java/lang/Object")] 6

/-- java/lang/constant/Constable -/
def k2 : Class := { plain "java/lang/constant/Constable" (some 0) with
  accessFlags := 1537
  interfaces := #[]
  cf := some (fileOf pool2 1 #[] #[] 1537 3 #[] #[])
  fields := #[]
  methods := #[]
  instanceTypes := #[]
  staticTypes := #[]
  resolved := Array.replicate 11 none
  statics := none }

def pool3 : Array CpInfo := pool [(1, .class_ 2), (0, u "java/lang/Comparable"), (0, .class_ 4), (0, u "java/lang/Object")] 7

/-- java/lang/Comparable -/
def k3 : Class := { plain "java/lang/Comparable" (some 0) with
  accessFlags := 1537
  interfaces := #[]
  cf := some (fileOf pool3 1 #[] #[] 1537 3 #[] #[])
  fields := #[]
  methods := #[]
  instanceTypes := #[]
  staticTypes := #[]
  resolved := Array.replicate 12 none
  statics := none }

def pool4 : Array CpInfo := pool [(1, .class_ 2), (0, u "java/io/Serializable"), (0, .class_ 4), (0, u "java/lang/Object")] 2

/-- java/io/Serializable -/
def k4 : Class := { plain "java/io/Serializable" (some 0) with
  accessFlags := 1537
  interfaces := #[]
  cf := some (fileOf pool4 1 #[] #[] 1537 3 #[] #[])
  fields := #[]
  methods := #[]
  instanceTypes := #[]
  staticTypes := #[]
  resolved := Array.replicate 7 none
  statics := none }

def pool5 : Array CpInfo := pool [(2, .class_ 4), (1, u "java/lang/Enum"), (0, u "name"), (0, u "Ljava/lang/String;"), (0, .fieldref 2 8), (0, .nameAndType 9 10), (0, u "ordinal"), (0, u "I"), (1, .class_ 14), (1, u "java/lang/Object"), (4, u "hash"), (86, .class_ 108), (1, u "java/lang/Enum$EnumDesc"), (2, .class_ 112), (0, u "java/lang/constant/Constable"), (0, .class_ 114), (0, u "java/lang/Comparable"), (0, .class_ 116), (0, u "java/io/Serializable"), (9, u "()I")] 77

def k5c0 : Code := { maxStack := 1, maxLocals := 1, code := jdk_37_method_2_code, exceptionTable := #[], attributes := #[] }
def k5m0 : Method := { name := "ordinal", desc := "()I", sig := { parameters := [], returnType := some .int }, accessFlags := 17, code := some k5c0 }
/-- java/lang/Enum -/
def k5 : Class := { plain "java/lang/Enum" (some 0) with
  accessFlags := 1057
  interfaces := #[2, 3, 4]
  cf := some (fileOf pool5 2 #[.nestMembers #[106]] #[{ accessFlags := 17, nameIndex := 9, descriptorIndex := 126, attributes := #[] }] 1057 12 #[111, 113, 115] #[{ accessFlags := 18, nameIndex := 5, descriptorIndex := 6, attributes := #[] }, { accessFlags := 18, nameIndex := 9, descriptorIndex := 10, attributes := #[] }, { accessFlags := 2, nameIndex := 19, descriptorIndex := 10, attributes := #[] }])
  fields := #[{ name := "name", type := (.object "java/lang/String"), accessFlags := 18, slot := 0, constantValue := 0 }, { name := "ordinal", type := .int, accessFlags := 18, slot := 1, constantValue := 0 }, { name := "hash", type := .int, accessFlags := 2, slot := 2, constantValue := 0 }]
  methods := #[k5m0]
  instanceTypes := #[(.object "java/lang/String"), .int, .int]
  staticTypes := #[]
  resolved := Array.replicate 204 none
  statics := none }

def pool6 : Array CpInfo := pool [(1, .class_ 2), (0, u "com/example/pampulha/pampulha/site/LinkSyntax"), (2, u "SAME_PAGE"), (0, u "Lcom/example/pampulha/pampulha/site/LinkSyntax;"), (2, u "HORIZONTAL"), (0, .fieldref 1 11), (0, .nameAndType 12 6), (0, u "UP"), (0, .fieldref 1 14), (0, .nameAndType 15 6), (0, u "DOWN"), (2, u "TRANSVERSAL"), (2, u "INTER_HOST"), (2, u "$VALUES"), (0, u "[Lcom/example/pampulha/pampulha/site/LinkSyntax;"), (6, .class_ 34), (1, u "java/lang/Enum"), (8, u "label"), (0, u "Ljava/lang/String;"), (2, u "meaning"), (0, u "Lcom/example/pampulha/pampulha/site/LinkMeaning;"), (27, .methodref 1 77), (0, .nameAndType 78 79), (0, u "ordinal"), (0, u "()I"), (48, u "reversed"), (0, u "()Lcom/example/pampulha/pampulha/site/LinkSyntax;")] 5

def k6c0 : Code := { maxStack := 1, maxLocals := 1, code := prog_17_method_7_code, exceptionTable := #[], attributes := #[] }
def k6m0 : Method := { name := "reversed", desc := "()Lcom/example/pampulha/pampulha/site/LinkSyntax;", sig := { parameters := [], returnType := some (.object "com/example/pampulha/pampulha/site/LinkSyntax") }, accessFlags := 1, code := some k6c0 }
/-- com/example/pampulha/pampulha/site/LinkSyntax -/
def k6 : Class := { plain "com/example/pampulha/pampulha/site/LinkSyntax" (some 5) with
  accessFlags := 16433
  interfaces := #[]
  cf := some (fileOf pool6 1 #[] #[{ accessFlags := 1, nameIndex := 128, descriptorIndex := 129, attributes := #[] }] 16433 32 #[] #[{ accessFlags := 16409, nameIndex := 5, descriptorIndex := 6, attributes := #[] }, { accessFlags := 16409, nameIndex := 9, descriptorIndex := 6, attributes := #[] }, { accessFlags := 16409, nameIndex := 12, descriptorIndex := 6, attributes := #[] }, { accessFlags := 16409, nameIndex := 15, descriptorIndex := 6, attributes := #[] }, { accessFlags := 16409, nameIndex := 18, descriptorIndex := 6, attributes := #[] }, { accessFlags := 16409, nameIndex := 21, descriptorIndex := 6, attributes := #[] }, { accessFlags := 18, nameIndex := 43, descriptorIndex := 44, attributes := #[] }, { accessFlags := 18, nameIndex := 47, descriptorIndex := 48, attributes := #[] }, { accessFlags := 4122, nameIndex := 24, descriptorIndex := 25, attributes := #[] }])
  fields := #[{ name := "SAME_PAGE", type := (.object "com/example/pampulha/pampulha/site/LinkSyntax"), accessFlags := 16409, slot := 0, constantValue := 0 }, { name := "HORIZONTAL", type := (.object "com/example/pampulha/pampulha/site/LinkSyntax"), accessFlags := 16409, slot := 1, constantValue := 0 }, { name := "UP", type := (.object "com/example/pampulha/pampulha/site/LinkSyntax"), accessFlags := 16409, slot := 2, constantValue := 0 }, { name := "DOWN", type := (.object "com/example/pampulha/pampulha/site/LinkSyntax"), accessFlags := 16409, slot := 3, constantValue := 0 }, { name := "TRANSVERSAL", type := (.object "com/example/pampulha/pampulha/site/LinkSyntax"), accessFlags := 16409, slot := 4, constantValue := 0 }, { name := "INTER_HOST", type := (.object "com/example/pampulha/pampulha/site/LinkSyntax"), accessFlags := 16409, slot := 5, constantValue := 0 }, { name := "label", type := (.object "java/lang/String"), accessFlags := 18, slot := 3, constantValue := 0 }, { name := "meaning", type := (.object "com/example/pampulha/pampulha/site/LinkMeaning"), accessFlags := 18, slot := 4, constantValue := 0 }, { name := "$VALUES", type := (.array (.object "com/example/pampulha/pampulha/site/LinkSyntax")), accessFlags := 4122, slot := 6, constantValue := 0 }]
  methods := #[k6m0]
  instanceTypes := #[(.object "java/lang/String"), .int, .int, (.object "java/lang/String"), (.object "com/example/pampulha/pampulha/site/LinkMeaning")]
  staticTypes := #[(.object "com/example/pampulha/pampulha/site/LinkSyntax"), (.object "com/example/pampulha/pampulha/site/LinkSyntax"), (.object "com/example/pampulha/pampulha/site/LinkSyntax"), (.object "com/example/pampulha/pampulha/site/LinkSyntax"), (.object "com/example/pampulha/pampulha/site/LinkSyntax"), (.object "com/example/pampulha/pampulha/site/LinkSyntax"), (.array (.object "com/example/pampulha/pampulha/site/LinkSyntax"))]
  resolved := Array.replicate 135 none
  statics := some 0 }

def pool7 : Array CpInfo := pool [(1, u "java/lang/Cloneable"), (0, .class_ 1), (0, u "java/lang/Object"), (0, .class_ 3)] 3

/-- java/lang/Cloneable -/
def k7 : Class := { plain "java/lang/Cloneable" (some 0) with
  accessFlags := 1537
  interfaces := #[]
  cf := some (fileOf pool7 2 #[] #[] 1537 4 #[] #[])
  fields := #[]
  methods := #[]
  instanceTypes := #[]
  staticTypes := #[]
  resolved := Array.replicate 8 none
  statics := none }

/-- the primitive byte -/
def k8 : Class := { plain "byte" none with kind := .primitive 'B', accessFlags := 0x411 }
/-- [B -/
def k9 : Class := { plain "[B" (some 0) with kind := .array 8 .byte, interfaces := #[7, 4], accessFlags := 1041 }

/-- the primitive int -/
def k10 : Class := { plain "int" none with kind := .primitive 'I', accessFlags := 0x411 }
/-- [I -/
def k11 : Class := { plain "[I" (some 0) with kind := .array 10 .int, interfaces := #[7, 4], accessFlags := 1041 }

def heap : Heap := #[{ cls := 6, slots := #[.ref 1, .ref 2, .ref 3, .ref 4, .ref 5, .ref 6, .null], vm := .statics 6 },
  { cls := 6, slots := #[.null, .int 0, .int 0, .null, .null], vm := .none },
  { cls := 6, slots := #[.null, .int 1, .int 0, .null, .null], vm := .none },
  { cls := 6, slots := #[.null, .int 2, .int 0, .null, .null], vm := .none },
  { cls := 6, slots := #[.null, .int 3, .int 0, .null, .null], vm := .none },
  { cls := 6, slots := #[.null, .int 4, .int 0, .null, .null], vm := .none },
  { cls := 6, slots := #[.null, .int 5, .int 0, .null, .null], vm := .none }]
def classes : Array Class := #[k0, k1, k2, k3, k4, k5, k6, k7, k8, k9, k10, k11]
def interned : List (Array UInt16 × Addr) := []
def slotsUsed : Nat := 37
def theMethod : MethodId := ⟨1, 2⟩
def args0 : Array Value := #[.int 5]
def aboutOver (below : List Frame) : State where
  vm := { classes := classes, interned := interned.toArray }
  heap := heap
  slotsUsed := slotsUsed
  threads := #[{ frames := .invoking theMethod args0 :: below }]
def below0 : List Frame := [.native { method := ⟨0, 0⟩, args := #[] }]
def about1 : State := aboutOver below0
def p0 : Program := .bare "" "" ""
def e0 : Env := launch0.env 0 0 0
theorem w_frames : about1.frames = Frame.invoking theMethod args0 :: below0 := rfl
set_option maxRecDepth 65536 in
theorem w_args : argsFit about1.vm theMethod args0 = true := by decide +kernel
set_option maxRecDepth 65536 in
theorem w_heap : heapFits about1 = true := by decide +kernel
set_option maxRecDepth 65536 in
theorem w_runnable : about1.curStatus? = some .runnable := by decide +kernel
set_option maxRecDepth 65536 in
theorem w_alone : about1.alone = true := by decide +kernel
set_option maxRecDepth 65536 in
theorem w_named : about1.methodNamed? x = some theMethod := by decide +kernel
set_option maxRecDepth 65536 in
theorem w_hears : about1.hears theMethod below0 = true := by decide +kernel
set_option maxRecDepth 65536 in
theorem w_ripe : about1.ripe theMethod args0 below0 = true := by decide +kernel
theorem w_running : about1.status = .running := rfl
set_option maxRecDepth 65536 in
theorem w_room : about1.hasRoom e0.platform room_1 = true :=
  launch0.hasRoom_least _ room_1 (by decide +kernel) (by decide +kernel) (by decide +kernel) (by decide +kernel) (by decide +kernel) (by decide +kernel)
theorem allAtoms_all (ts : List Jvm.Cond) (a : Array Jvm.Value) (st : Jvm.State) : (allAtoms ts).before a st = ts.all (fun c => c.before a st) := by
  induction ts with
  | nil => rfl
  | cons c t ih =>
    show (Jvm.Cond.and c (allAtoms t)).before a st = _
    rw [Jvm.Cond.before_and, ih, List.all_cons]
def words1 : List Jvm.Cond := Jvm.Cond.code x code maxLocals ret :: tables_1
/-- a 'code' word, met by the world's own term for the bytes: nothing is compared byte by byte -/
theorem code_word {y : MethodName} {bytes : ByteArray} {mx : Nat} {rt : Option FieldType} {a : Array Value} {s : State} {m : MethodId} {meth : Method} {c : Code} (h1 : s.methodNamed? y = some m) (h2 : s.vm.method? m = some meth) (h3 : meth.code = some c) (h4 : c.code = bytes)
    (h5 : (c.maxLocals == mx && c.exceptionTable.isEmpty && decide (c.maxStack ≤ mostOperands) && decide (meth.sig.returnType = rt) && !meth.locks && decide (parseMethodDescriptor y.desc = some meth.sig)) = true) : (Jvm.Cond.code y bytes mx rt).before a s = true := by
  simp only [Bool.and_eq_true, beq_iff_eq, Bool.not_eq_true', decide_eq_true_eq] at h5
  obtain ⟨⟨⟨⟨⟨g1, g2⟩, g3⟩, g4⟩, g5⟩, g6⟩ := h5
  simp [Cond.before, Cond.holds, Cond.value, h1, h2, h3, h4, g1, g2, g3, g4, g5, g6]
def isCode : Jvm.Cond → Bool
  | .code _ _ _ _ => true
  | _ => false
theorem all_split {L : List Jvm.Cond} {P : Jvm.Cond → Bool} (h1 : L.all (fun c => isCode c || P c) = true) (h2 : ∀ c ∈ L.filter isCode, P c = true) : L.all P = true := by
  refine List.all_eq_true.mpr fun c hc => ?_
  have h := List.all_eq_true.mp h1 c hc
  rcases Bool.eq_false_or_eq_true (isCode c) with hi | hi
  · exact h2 c (List.mem_filter.mpr ⟨hc, hi⟩)
  · simpa [hi] using h
set_option maxRecDepth 65536 in
theorem w_c0 : (Jvm.Cond.code x code maxLocals ret).before args0 about1 = true := code_word (m := ⟨1, 2⟩) (meth := k1m2) (c := k1c2) (by decide +kernel) rfl rfl rfl (by decide +kernel)
set_option maxRecDepth 65536 in
theorem w_c1 : (Jvm.Cond.code ({ cls := "com/example/pampulha/pampulha/site/LinkSyntaxReversedPinLaw", name := "pick", desc := "(I)Lcom/example/pampulha/pampulha/site/LinkSyntax;" } : Jvm.MethodName) method_2_code (1 : Nat) (Option.some (Jvm.ClassFile.FieldType.object "com/example/pampulha/pampulha/site/LinkSyntax"))).before args0 about1 = true := code_word (m := ⟨1, 1⟩) (meth := k1m1) (c := k1c1) (by decide +kernel) rfl rfl rfl (by decide +kernel)
set_option maxRecDepth 65536 in
theorem w_c2 : (Jvm.Cond.code ({ cls := "com/example/pampulha/pampulha/site/LinkSyntax", name := "reversed", desc := "()Lcom/example/pampulha/pampulha/site/LinkSyntax;" } : Jvm.MethodName) prog_17_method_7_code (1 : Nat) (Option.some (Jvm.ClassFile.FieldType.object "com/example/pampulha/pampulha/site/LinkSyntax"))).before args0 about1 = true := code_word (m := ⟨6, 0⟩) (meth := k6m0) (c := k6c0) (by decide +kernel) rfl rfl rfl (by decide +kernel)
set_option maxRecDepth 65536 in
theorem w_c3 : (Jvm.Cond.code ({ cls := "java/lang/Enum", name := "ordinal", desc := "()I" } : Jvm.MethodName) jdk_37_method_2_code (1 : Nat) (Option.some Jvm.ClassFile.FieldType.int)).before args0 about1 = true := code_word (m := ⟨5, 0⟩) (meth := k5m0) (c := k5c0) (by decide +kernel) rfl rfl rfl (by decide +kernel)
def codes1 : List Jvm.Cond := [Jvm.Cond.code x code maxLocals ret, Jvm.Cond.code ({ cls := "com/example/pampulha/pampulha/site/LinkSyntaxReversedPinLaw", name := "pick", desc := "(I)Lcom/example/pampulha/pampulha/site/LinkSyntax;" } : Jvm.MethodName) method_2_code (1 : Nat) (Option.some (Jvm.ClassFile.FieldType.object "com/example/pampulha/pampulha/site/LinkSyntax")), Jvm.Cond.code ({ cls := "com/example/pampulha/pampulha/site/LinkSyntax", name := "reversed", desc := "()Lcom/example/pampulha/pampulha/site/LinkSyntax;" } : Jvm.MethodName) prog_17_method_7_code (1 : Nat) (Option.some (Jvm.ClassFile.FieldType.object "com/example/pampulha/pampulha/site/LinkSyntax")), Jvm.Cond.code ({ cls := "java/lang/Enum", name := "ordinal", desc := "()I" } : Jvm.MethodName) jdk_37_method_2_code (1 : Nat) (Option.some Jvm.ClassFile.FieldType.int)]
set_option maxRecDepth 65536 in
theorem codes_eq : words1.filter isCode = codes1 := rfl
theorem w_codes : ∀ c ∈ words1.filter isCode, c.before args0 about1 = true := by
  rw [codes_eq]
  intro c hc
  simp only [codes1, List.mem_cons, List.not_mem_nil, or_false] at hc
  rcases hc with rfl | rfl | rfl | rfl
  · exact w_c0
  · exact w_c1
  · exact w_c2
  · exact w_c3
set_option maxRecDepth 65536 in
theorem w_t1 : (words1.take 24).all (fun c => isCode c || c.before args0 about1) = true := by decide +kernel
set_option maxRecDepth 65536 in
theorem w_t2 : (words1.drop 24).all (fun c => isCode c || c.before args0 about1) = true := by decide +kernel
theorem w_tables : (allAtoms (Jvm.Cond.code x code maxLocals ret :: tables_1)).before args0 about1 = true := by
  rw [allAtoms_all]
  show words1.all (fun c => c.before args0 about1) = true
  refine all_split ?_ w_codes
  rw [← List.take_append_drop 24 words1, List.all_append, w_t1, w_t2]
  rfl
set_option maxRecDepth 65536 in
theorem w_case : (Jvm.Cond.and given_1 narrow_1).before args0 about1 = true := by decide +kernel
theorem w_applies : (headSpec (Jvm.Cond.code x code maxLocals ret :: tables_1) room_1).applies x e0.platform about1 = true :=
  (Spec.applies_iff w_frames).mpr ⟨w_running, w_runnable, w_alone, w_named, w_hears, w_ripe, w_room, w_tables⟩
theorem atStart : AtStart classFile x code maxLocals ret World_1 tables_1 room_1 Calls_1 rest_1 Pre_1 launch0 p0 e0 about1 theMethod args0 below0 :=
  ⟨lists_1, trivial, launch0.admits_env _ _ _, launch0.least_env, fairChoices_fair.cas, fairChoices_fair.clock, w_frames, w_args, w_heap, w_applies, trivial, trivial, w_case⟩
end start1
theorem witness_1 : WitnessClaimed_1 := ⟨start1.p0, start1.e0, start1.about1, start1.theMethod, start1.args0, start1.below0, start1.atStart⟩
end Jvm.Pilot.@@N@@
