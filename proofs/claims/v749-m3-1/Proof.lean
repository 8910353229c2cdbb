import JvmDerived
import JvmDerived.Pilot.@@N@@Statement
import JvmDerived.Pilot.@@N@@Code
set_option linter.unusedVariables false
set_option linter.unusedSimpArgs false
namespace Jvm.RoadKit
open Sem ClassFile Op Lib Jvm.Stand Jvm.Free Jvm.LawKit
section New
variable {p : Program} {l : Launch} {e : Env} {R : Room} {s : State} {m : MethodId} {args : Array Value} {below : List Frame} {meth : Method} {c : Code} {T : State} {locs : List Loc} {cells slots : Nat}
theorem retI (X : Stand p l e R s m args below meth c T locs cells slots) (hx : p.tables.exec = Jvm.exec) {pc : Nat} {Ls : Array Slot} {z : Int32} {rest : List Value} (hret : meth.sig.returnType = some .int) (hd : decode c.code pc = .ok (.ireturn, 1)) {fs : List Frame}
    (hl : ∀ (f : JFrame) (acts : List Action), f.method = m → f.locked = none → f.entered = [] → (doReturn e (T.setTop f) acts (some (.int z))).1 = T.setFrames fs) : Steps p.tables e below (T.setTop (mkF m pc Ls (.int z :: rest))) (T.setFrames fs) := by
  have hm' : T.vm.method? m = some meth := X.method'
  have hn : narrow .int (.int z) = .int z := rfl
  show Steps p.tables e below (T.setTop { method := m, pc := pc, locals := Ls, stack := _ :: rest, locked := none }) _
  jvm_step X.here [X.here.top, hx, hd, hm', hret, hn]
  first | (intro acts; rw [hl _ acts rfl rfl rfl]) | rw [hl _ _ rfl rfl rfl]
  exact Steps.refl _
theorem retJ (X : Stand p l e R s m args below meth c T locs cells slots) (hx : p.tables.exec = Jvm.exec) {pc : Nat} {Ls : Array Slot} {z : Int64} {rest : List Value} (hret : meth.sig.returnType = some .long) (hd : decode c.code pc = .ok (.lreturn, 1)) {fs : List Frame}
    (hl : ∀ (f : JFrame) (acts : List Action), f.method = m → f.locked = none → f.entered = [] → (doReturn e (T.setTop f) acts (some (.long z))).1 = T.setFrames fs) : Steps p.tables e below (T.setTop (mkF m pc Ls (.long z :: rest))) (T.setFrames fs) := by
  have hm' : T.vm.method? m = some meth := X.method'
  have hn : narrow .long (.long z) = .long z := rfl
  show Steps p.tables e below (T.setTop { method := m, pc := pc, locals := Ls, stack := _ :: rest, locked := none }) _
  jvm_step X.here [X.here.top, hx, hd, hm', hret, hn]
  first | (intro acts; rw [hl _ acts rfl rfl rfl]) | rw [hl _ _ rfl rfl rfl]
  exact Steps.refl _
/-- from S the run comes to an end of which P holds -/
def Goes (p : Program) (e : Env) (below : List Frame) (P : State → Outcome → Prop) (S : State) : Prop := ∃ t o, Steps p.tables e below S t ∧ t.status = .running ∧ Ended t below o ∧ P t o
theorem Goes.step {P : State → Outcome → Prop} {S S' : State} (h : ∀ t, Steps p.tables e below S' t → Steps p.tables e below S t) (k : Goes p e below P S') : Goes p e below P S := by
  obtain ⟨t, o, h1, h2⟩ := k
  exact ⟨t, o, h t h1, h2⟩
/-- what a contract says of its end -/
def Pq (Q : Option Value → Heap → List Loc → Prop) (s : State) (kc ks : Nat) (t : State) (o : Outcome) : Prop := ∃ v L, o = .returned v ∧ Q v t.heap L ∧ FrameEnd s o t L kc ks
theorem Goes.leave {Q : Option Value → Heap → List Loc → Prop} {kc ks : Nat} {g : JFrame} {v : Option Value} {h : Heap} (X : Stand p l e R s m args below meth c T locs cells slots) (hlk : meth.locks = false) (hv : meth.sig.returnType = none → v = none)
    (st : ∀ fs, (∀ (f : JFrame) (acts : List Action), f.method = m → f.locked = none → f.entered = [] → (doReturn e (T.setTop f) acts v).1 = T.setFrames fs) → Steps p.tables e below (T.setTop g) (T.setFrames fs))
    (eT : T.heap = h) (hQ : Q v h locs) (hc : cells ≤ kc) (hs : slots ≤ ks) : Goes p e below (Pq Q s kc ks) (T.setTop g) := by
  obtain ⟨fs, hr, hrun, hended, hW, hsame⟩ := X.leave (v := v) hv hlk
  exact ⟨_, _, st fs hr, hrun, hended, v, locs, rfl, eT ▸ hQ, ⟨_, rfl⟩, hW, hsame.mono hc hs⟩
theorem own_eqI {args : Array Value} {first s : State} {o : Option Outcome} {idx : List Nat} {t : Term} {k : Int32} (h : (Cond.eq t (.int k)).value args first o s idx = some true) : t.eval args first o idx s = some (.int k) := by
  simp only [Cond.value, Term.eval] at h
  cases ht : t.eval args first o idx s with
  | none => simp [ht] at h
  | some x => cases x <;> simp [ht] at h ⊢; exact h
theorem own_stakeep {Z : State} {h h' : Heap} {ws : List Addr} {C n d : String} {w : Value} (F : Sta Z h C n d w) (K : Keep h h' ws) (q : ∀ x ∈ ws, ∀ cell : Cell, h[x]? = some cell → cell.vm.isStatics = false) : Sta Z h' C n d w := by
  obtain ⟨cf, i, k, f, st, cell, h1, h2, h3, h4, h5, h6, h7⟩ := F
  exact ⟨cf, i, k, f, st, cell, h1, h2, h3, h4, K.2.1 st cell h5 (fun hm => by rw [q st hm cell h5] at h6; cases h6), h6, h7⟩
theorem own_selP {s : State} {args : Array Value} {y : MethodName} {k : Nat} (w1 : (Cond.instanceMethod y).before args s = true) (w2 : (Cond.privateMethod y).before args s = true) (w3 : (Cond.instantiable y.cls k).before args s = true)
    (hy : y.cls ≠ "java/lang/invoke/MethodHandle" ∧ y.cls ≠ "java/lang/invoke/VarHandle") : (Cond.selects y.cls y y).before args s = true := by
  obtain ⟨mk, meth, hn, hm, -, -⟩ := Cond.instanceMethod_spec w1
  have hp := Cond.privateMethod_at w2 mk meth hn hm
  have hf := State.methodFound?_of_named hn hy
  have hc := findClass_of_methodNamed hn
  obtain ⟨c2, k2, i1, i2, -, i4, -⟩ := Cond.instantiable_spec w3
  cases hc.symm.trans i1
  simp only [Bool.or_eq_false_iff] at i4
  simp [Cond.before, Cond.holds, Cond.value, hc, hf, hn, selectMethod_private hm hp, i2, i4.1]
theorem own_neVV {Z : State} {h : Heap} {a b : Addr} {k1 k2 : ClassId} {t1 t2 : FieldType} {z1 z2 : Int32} {v1 v2 : List Value} {d1 d2 : Value} (A : Arv Z h a k1 t1 z1 v1 d1) (B : Arv Z h b k2 t2 z2 v2 d2) (q : t1 ≠ t2) : a ≠ b := fun e => by
  subst e
  obtain ⟨c1, A1, -⟩ := A
  obtain ⟨c2, B1, -⟩ := B
  cases A1.1.symm.trans B1.1
  obtain ⟨-, k, g1, comp, g2⟩ := A1.2.1
  obtain ⟨-, k', g1', comp', g2'⟩ := B1.2.1
  cases g1.symm.trans g1'
  rw [g2] at g2'
  cases g2'
  exact q rfl
end New
end Jvm.RoadKit
namespace Jvm.RoadKit
open Sem ClassFile Op Lib Jvm.Stand Jvm.Free Jvm.LawKit
section NewS
variable {p : Program} {l : Launch} {e : Env} {R : Room} {s : State} {m : MethodId} {args : Array Value} {below : List Frame} {meth : Method} {c : Code} {T : State} {locs : List Loc} {cells slots : Nat} {Z : State} {a0 : Array Value} {h : Heap}
/-- what a contract says of its end, where it may intern -/
def Pw (Q : Option Value → Heap → List Loc → Prop) (s : State) (kc ks : Nat) (t : State) (o : Outcome) : Prop := ∃ v L, o = .returned v ∧ Q v t.heap L ∧ ReturnedEndW s o t L kc ks
theorem Goes.leaveW {Q : Option Value → Heap → List Loc → Prop} {kc ks : Nat} {g : JFrame} {v : Option Value} {h : Heap} {vm₁ : Vm} (X : Stand p l e R (s.setVm vm₁) m args below meth c T locs cells slots) {k0 : Nat} (hS : s.Since vm₁ k0) (hk : k0 ≤ h.size) (hlk : meth.locks = false) (hv : meth.sig.returnType = none → v = none)
    (st : ∀ fs, (∀ (f : JFrame) (acts : List Action), f.method = m → f.locked = none → f.entered = [] → (doReturn e (T.setTop f) acts v).1 = T.setFrames fs) → Steps p.tables e below (T.setTop g) (T.setFrames fs))
    (eT : T.heap = h) (hQ : Q v h locs) (hc : cells ≤ kc) (hs : slots ≤ ks) : Goes p e below (Pw Q s kc ks) (T.setTop g) := by
  subst eT
  obtain ⟨fs, hr, hrun, hended, h1, h2, h3, h4⟩ := X.leaveW hS hk (v := v) hv hlk
  exact ⟨_, _, st fs hr, hrun, hended, v, locs, rfl, hQ, h1, h2, h3, h4.mono hc hs⟩
theorem own_fold {vm₁ vm₂ : Vm} (X : Stand p l e R ((s.setVm vm₁).setVm vm₂) m args below meth c T locs cells slots) : Stand p l e R (s.setVm vm₂) m args below meth c T locs cells slots := X
theorem own_since {own : String} {vm : Vm} {k : Nat} {cid : ClassId} (hZ0 : Z.Warmed39 s.vm) (ho : s.vm.findClass own = some cid) (hS : s.Since vm k) : Z.Warmed39 (s.setVm vm).vm ∧ (s.setVm vm).vm.findClass own = some cid :=
  ⟨State.Warmed39.trans (t := s) hZ0 hS.1, by rw [show (s.setVm vm).vm = vm from rfl, hS.1.alike.findClass]; exact ho⟩
theorem own_s0 (s : State) (k : Nat) : s.Since s.vm k := State.WarmedH.since (State.WarmedH.refl s) k
theorem own_neI {args : Array Value} {first s : State} {o : Option Outcome} {idx : List Nat} {t : Term} {k x : Int32} (h : (Cond.not (Cond.eq t (.int k))).value args first o s idx = some true) (e : t.eval args first o idx s = some (.int x)) : ¬ x = k := by
  intro z; subst z; simp only [Cond.value, e, Term.eval] at h; simp at h
def own_lv : Cond → List Cond
  | .and a b => own_lv a ++ own_lv b
  | .tt => []
  | c => [c]
theorem own_of_lv {args : Array Value} {s : State} (c : Cond) (h : ∀ w ∈ own_lv c, w.before args s = true) : c.before args s = true := by
  induction c with
  | and a b iha ihb => rw [Cond.before_and, Bool.and_eq_true]; exact ⟨iha fun w hw => h w (List.mem_append_left _ hw), ihb fun w hw => h w (List.mem_append_right _ hw)⟩
  | tt => rfl
  | _ => exact h _ (List.mem_singleton.mpr rfl)
end NewS
end Jvm.RoadKit
namespace Jvm.RoadKit
open Sem ClassFile Op Lib Bundle Jvm.Stand Jvm.Free Jvm.LawKit Jvm.Free.SB Jvm.Free.SBG
section NewH
variable {p : Program} {l : Launch} {e : Env} {R : Room} {s : State} {m : MethodId} {args : Array Value} {below : List Frame} {meth : Method} {c : Code} {T : State} {locs : List Loc} {cells slots : Nat} {Z : State} {a0 : Array Value} {h : Heap} {EL : List (String × Nat)} {vm : Vm}
/-- what a contract says of its end, where it may intern and keeps what the constants say -/
def Ph (Z : State) (EL : List (String × Nat)) (Q : Option Value → Heap → List Loc → Prop) (s : State) (kc ks : Nat) (t : State) (o : Outcome) : Prop := ∃ v L, o = .returned v ∧ Q v t.heap L ∧ CHr Z EL s.vm s.heap t.vm t.heap ∧ ReturnedEndW s o t L kc ks
theorem Goes.leaveH {Q : Option Value → Heap → List Loc → Prop} {kc ks : Nat} {g : JFrame} {v : Option Value} {h h0 : Heap} {vm₁ : Vm} (hEL : EW Z a0 EL) (hZ : Z.Warmed39 vm₁) (hh : s.heap = h0) (C : CHr Z EL s.vm h0 vm₁ h) (X : Stand p l e R (s.setVm vm₁) m args below meth c T locs cells slots) {k0 : Nat} (hS : s.Since vm₁ k0) (hk : k0 ≤ h.size) (hlk : meth.locks = false) (hv : meth.sig.returnType = none → v = none)
    (st : ∀ fs, (∀ (f : JFrame) (acts : List Action), f.method = m → f.locked = none → f.entered = [] → (doReturn e (T.setTop f) acts v).1 = T.setFrames fs) → Steps p.tables e below (T.setTop g) (T.setFrames fs))
    (eT : T.heap = h) (hQ : Q v h locs) (hc : cells ≤ kc) (hs : slots ≤ ks) : Goes p e below (Ph Z EL Q s kc ks) (T.setTop g) := by
  subst eT
  subst hh
  obtain ⟨fs, hr, hrun, hended, h1, h2, h3, h4⟩ := X.leaveW hS hk (v := v) hv hlk
  exact ⟨_, _, st fs hr, hrun, hended, v, locs, rfl, hQ, (show CHr Z EL s.vm s.heap T.vm T.heap from C.trans (CHv.at X hZ hEL C.1)), h1, h2, h3, h4.mono hc hs⟩
theorem own_safeNull {x : Addr} (hal : Z.vm.Alike vm) (E : Exa Z h x "java/lang/String") (F : Fld Z h x "java/lang/String" "value" "[B" .null) : Safe Z EL vm h x := fun B => by
  obtain ⟨p, -, u, a, -, q, -, F', rfl | rfl⟩ := B
  · obtain ⟨cell, cf, k, i, f, h1, h2, h3, h4, h5, h6, h7⟩ := F
    cases (show h[q.sa]? = some q.sC from F'.ha).symm.trans h1
    obtain ⟨cS, ⟨⟨s1, s2, s3, ⟨cv, kv, iv, s4, s4'⟩, ⟨cc, kc, ic, s5, s5'⟩, s6, s7, s8, s9, -⟩, hfS, hcS⟩, -⟩ := F'
    obtain ⟨kv', z4⟩ := ff_back (U := Wst Z vm h) hal s4
    cases h2.symm.trans z4
    rw [s8] at h7
    cases h7
  · obtain ⟨cell, k, e1, e2, e3, -, -⟩ := E
    cases (show h[q.sd]? = some q.SA from F'.hd).symm.trans e1
    obtain ⟨cS, -, -, f, -⟩ := F'
    have f' : vm.findClass "[B" = some q.SA.cls := f
    rw [hal.findClass] at f'
    obtain ⟨k1, q1, q2⟩ := Vm.findClass_spec f'
    obtain ⟨k2, q3, q4⟩ := Vm.findClass_spec e2
    cases q1.symm.trans q3
    exact absurd (q2.symm.trans q4) (by decide)
theorem own_getR (X : Stand p l e R s m args below meth c T locs cells slots) (hx : p.tables.exec = Jvm.exec) (hZ : Z.Warmed39 s.vm) {own O n d : String} {index : Nat} (hown : s.vm.findClass own = some m.cls) (w : (Cond.fieldRef own index O n d).before a0 Z = true)
    (eT : T.heap = h) {a : Addr} {v : Value} (F : Fld Z h a O n d v) {g : JFrame} (hg : g.method = m) {rest : List Value} (hs : g.stack = .ref a :: rest) (hd : decode c.code g.pc = .ok (.getfield index, 3)) : ∃ T', Stand p l e R s m args below meth c T' locs cells slots ∧ T'.heap = h ∧ ∀ target, Steps p.tables e below (T'.setTop { g with pc := g.pc + 3, stack := v :: rest }) target → Steps p.tables e below (T.setTop g) target := by
  obtain ⟨cell, cf, k, i, f, h1, h2, h3, h4, -, -, h7⟩ := F
  have hZT : Z.Warmed39 T.vm := wtrans hZ X.warmed
  obtain ⟨k', hi, -⟩ := State.fieldFound?_setVm (s := Z) hZT.alike h2
  obtain ⟨c1, k1, i1, f1, q1, q2⟩ := Cond.fieldRef_spec (s := Z.setVm T.vm) (cur := m.cls) (show T.vm.findClass own = some m.cls by rw [X.warmed.alike.findClass]; exact hown) (Cond.fieldRef_warmed39 hZT w)
  cases hi.symm.trans q1
  exact ⟨T, X, eT, fun target q => (X.getfieldR hx hg q2 h3 hs (by rw [eT]; exact h1) h4 h7 hd (Steps.refl _)).trans q⟩
theorem own_putR (X : Stand p l e R s m args below meth c T locs cells slots) (hx : p.tables.exec = Jvm.exec) (hZ : Z.Warmed39 s.vm) {own O n d C : String} {index kk : Nat} {ty : FieldType} (hown : s.vm.findClass own = some m.cls) (w : (Cond.fieldRef own index O n d).before a0 Z = true)
    (eT : T.heap = h) {a : Addr} {v old : Value} (F : Fld Z h a O n d old) (E : Exa Z h a C) (L : (Cond.lays C O n d).before a0 Z = true ∨ False) (wi : (Cond.instantiable C kk).before a0 Z = true)
    (hty : parseFieldDescriptor d = some ty) (hn : narrow ty v = v) (hf : fits ty v = true) {g : JFrame} (hg : g.method = m) {rest : List Value} (hs : g.stack = v :: .ref a :: rest) (hd : decode c.code g.pc = .ok (.putfield index, 3)) :
    ∃ T' h', Stand p l e R s m args below meth c T' (locs ++ [⟨a, slotOf Z O n d⟩]) cells slots ∧ T'.heap = h' ∧ Wr h h' a (slotOf Z O n d) v ∧ ∀ target, Steps p.tables e below (T'.setTop { g with pc := g.pc + 3, stack := rest }) target → Steps p.tables e below (T.setTop g) target := by
  replace L := L.resolve_right id
  obtain ⟨cell, cf, k, i, f, h1, h2, h3, h4, h5, -, h7⟩ := F
  obtain ⟨cell', kc, e1, e2, e3, -⟩ := E
  cases h1.symm.trans e1
  obtain ⟨c1, k1, cf1, kf1, i1, f1, a1, a2, a3, -, b5, -, a6, -⟩ := Cond.lays_spec L
  cases h2.symm.trans a3
  cases e2.symm.trans a1
  obtain ⟨c2, k2, j1, j2, j3, -⟩ := Cond.instantiable_spec wi
  cases e2.symm.trans j1
  cases a2.symm.trans j2
  have ht := (State.fieldFound?_type h2 hty).2
  have hZT : Z.Warmed39 T.vm := wtrans hZ X.warmed
  have hfit : Z.fitsSlot cell.cls cell.vm f.slot v = true := by
    have q : Z.slotType? cell.cls cell.vm f.slot = some ty := by
      simp only [State.slotType?, a2, Option.bind_eq_bind, Option.bind_some, j3]
      cases hq : cell.vm <;> first | (rw [hq] at h5; exact Bool.noConfusion h5) | (rw [a6, ht])
    simp [State.fitsSlot, q, hf]
  have hfit' : T.fitsSlot cell.cls cell.vm f.slot v = true := by
    show (Z.setVm T.vm).fitsSlot cell.cls cell.vm f.slot v = true
    rw [State.fitsSlot_setVm hZT.alike]; exact hfit
  obtain ⟨k', hi, -⟩ := State.fieldFound?_setVm (s := Z) hZT.alike h2
  obtain ⟨c3, k3, i3, f3, q1, q2⟩ := Cond.fieldRef_spec (s := Z.setVm T.vm) (cur := m.cls) (show T.vm.findClass own = some m.cls by rw [X.warmed.alike.findClass]; exact hown) (Cond.fieldRef_warmed39 hZT w)
  cases hi.symm.trans q1
  have hlt := (Array.getElem?_eq_some_iff.mp h7).1
  have es : slotOf Z O n d = f.slot := by simp [slotOf, h2]
  rw [es]
  obtain ⟨X', st⟩ := X.putfieldReady hx q2 h3 (Or.inl b5) (by rw [eT]; exact h1) h4 hlt (by rw [ht]; exact hn) hfit' hg hs hd
  exact ⟨_, _, X', rfl, ⟨cell, h1, h5, hlt, by rw [← eT]; rfl⟩, st⟩
end NewH
end Jvm.RoadKit
@@BLOCK:TracedD.lean.txt@@
namespace Jvm.RoadKit
open Sem ClassFile Op Lib Jvm.Stand Jvm.Free Jvm.LawKit Bundle Jvm.Free.Exc Jvm.Free.Str
section OwnThr
variable {p : Program} {l : Launch} {e : Env} {R : Room} {s : State} {m : MethodId} {args : Array Value} {below : List Frame} {meth : Method} {c : Code} {T : State} {locs : List Loc} {cells slots : Nat} {Z : State} {a0 : Array Value} {h : Heap}
/-- the words on Throwable, and on the exception rc, of which the filling in of a stack trace is told here (no word on how Throwable itself lays its fields) -/
def own_ta (rc : String) : List Cond := [
  .initialized tN, .superclass tN "java/lang/Object", .instanceMethod tFill, .codeSync tFill LibCode.Throwable.Fill.code 1 (some (.object tN)), .instanceMethod tFill0, .native tFill0,
  .instanceMethod oInit, .code oInit ⟨#[0xb1]⟩ 1 none, .methodLink tN 1 oInit, .methodLink tN 27 tFill, .methodLink tN 202 tFill0,
  .fieldLink tN 7 tN "cause" thD, .fieldLink tN 17 tN "stackTrace" steD, .fieldLink tN 24 tN "suppressedExceptions" listD, .fieldLink tN 198 tN "backtrace" obD,
  .fieldLink tN 13 tN "UNASSIGNED_STACK" steD, .laysStatic tN "UNASSIGNED_STACK" steD, .fieldLink tN 20 tN "SUPPRESSED_SENTINEL" listD, .laysStatic tN "SUPPRESSED_SENTINEL" listD,
  .lays rc tN "cause" thD, .lays rc tN "stackTrace" steD, .lays rc tN "suppressedExceptions" listD, .lays rc tN "detailMessage" msgD, .lays rc tN "backtrace" obD, .lays rc tN "depth" "I",
  .selects rc tFill0 tFill0, .soleField tN "backtrace", .soleField tN "depth", .arrayOver (.object "java/lang/Object")]
/-- what a method's descriptor says of its parameters -/
theorem own_par {d : String} {sg sg' : MethodDescriptor} (h : parseMethodDescriptor d = some sg') (k : parseMethodDescriptor d = some sg) : sg'.parameters = sg.parameters := by
  rw [h] at k; cases k; rfl
theorem own_thr {pl : Platform} (howns : pl.frameOwnsMonitors = true) (hfin : pl.finalization = false) (hpl : pl.magicAccessors = ({} : Platform).magicAccessors) {rc : String} (w : ∀ d ∈ own_ta rc, d.before args s = true) :
    ∃ T : ThrowableC, T.Links pl s ∧ s.vm.findClass tN = some T.cT ∧ s.methodNamed? tFill = some T.fill ∧ s.methodNamed? tFill0 = some T.fill0 ∧
      s.fieldFound? tN "stackTrace" steD = some (T.cT, T.kT, T.i17, T.fStack) ∧ s.fieldFound? tN "UNASSIGNED_STACK" steD = some (T.cT, T.kT, T.i13, T.fUnassigned) ∧
      T.fStack.name = "stackTrace" ∧ T.fStack.type = .array (.object "java/lang/StackTraceElement") ∧ ∃ cell, s.heap[T.aS]? = some cell ∧ cell.vm.isStatics = true := by
  have g : ∀ (i : Nat) (d : Cond), (own_ta rc)[i]? = some d → d.holds args s none s [] = true := fun i d q => w d (List.mem_of_getElem? q)
  -- Throwable itself
  obtain ⟨⟨cT, j0⟩, mN, fN, gN, nat1, nat2, nat3, sgN⟩ := Cond.native_spec (g 5 _ rfl)
  have fT : s.vm.findClass tN = some cT := findClass_of_methodNamed fN
  obtain ⟨kT, kq, kn⟩ := Vm.findClass_spec fT
  obtain ⟨_, kT', _, _, kq', _, _, _, _, nif⟩ := Cond.superclass_spec fT (g 1 _ rfl)
  cases kq.symm.trans kq'
  -- its two methods
  obtain ⟨jF, mF, fF, gF, aF, sF, bF, -, -⟩ := Cond.ownMethod (x := tFill) fT kq (g 2 _ rfl)
  obtain ⟨_, cF, gF', yF1, yF2, yF3, yF4, yF5, -, sgF⟩ := Cond.codeSync_spec fF (g 3 _ rfl)
  cases gF.symm.trans gF'
  obtain ⟨_, _, fN', gN', aN, sN, bN, nmN, dsN⟩ := Cond.ownMethod (x := tFill0) fT kq (g 4 _ rfl)
  cases fN.symm.trans fN'
  cases gN.symm.trans gN'
  -- Object's constructor
  obtain ⟨mo, mO, fO, gO, sO, bO⟩ := Cond.instanceMethod_spec (g 6 _ rfl)
  obtain ⟨_, cO, gO', yO1, yO2, -, -, yO5, -, sgO⟩ := Cond.code_spec fO (g 7 _ rfl)
  cases gO.symm.trans gO'
  obtain ⟨kO, kqO, knO⟩ := Vm.findClass_spec (findClass_of_methodNamed fO)
  obtain ⟨nmO, dsO⟩ := name_of_methodNamed fO gO
  -- the links
  obtain ⟨x1, y1, cf, l1, r1, cfq, p1⟩ := Cond.linkedMethod fT kq fO (g 8 _ rfl) pl hpl
  obtain ⟨x2, y2, _, l2, r2, cfq2, p2⟩ := Cond.linkedMethod fT kq fF (g 9 _ rfl) pl hpl
  obtain ⟨x3, y3, _, l3, r3, cfq3, p3⟩ := Cond.linkedMethod fT kq fN (g 10 _ rfl) pl hpl
  cases cfq.symm.trans cfq2
  cases cfq.symm.trans cfq3
  obtain ⟨u1, i1, f1, v1, z1, t1, o1, d1, -, -, -⟩ := Cond.ownField (t := .object tN) fT kq (by decide +kernel) (g 11 _ rfl) (g 19 _ rfl) pl hpl
  obtain ⟨u2, i2, f2, v2, z2, t2, o2, d2, n2, ty2, ff2⟩ := Cond.ownField (t := .array (.object "java/lang/StackTraceElement")) fT kq (by decide +kernel) (g 12 _ rfl) (g 20 _ rfl) pl hpl
  obtain ⟨u3, i3, f3, v3, z3, t3, o3, d3, n3, -, ff3⟩ := Cond.ownField (t := .object "java/util/List") fT kq (by decide +kernel) (g 13 _ rfl) (g 21 _ rfl) pl hpl
  obtain ⟨u4, i4, f4, aS, cS, v4, z4, t4, o4, -, -, sta, hcS, isS, -, -, ff4⟩ := Cond.ownStatic (t := .array (.object "java/lang/StackTraceElement")) fT kq (by decide +kernel) (g 15 _ rfl) (g 16 _ rfl) pl hpl
  obtain ⟨u5, i5, f5, _, _, v5, z5, t5, o5, -⟩ := Cond.ownStatic (t := .object "java/util/List") fT kq (by decide +kernel) (g 17 _ rfl) (g 18 _ rfl) pl hpl
  obtain ⟨_, _, _, _, _, f6, _, _, _, o6, d6, _⟩ := Cond.lays_spec (g 22 _ rfl)
  have ne23 : f2.slot ≠ f3.slot := Cond.lays_apart (g 20 _ rfl) (g 21 _ rfl) ff2 ff3 (by rw [n2, n3]; decide)
  let T : ThrowableC := { cT := cT, kT := kT, cO := cT, aS := aS, fillIdx := jF, fill0Idx := j0, initSIdx := jF, obj := mo, kObj := kO, methFill := mF, methFill0 := mN, methInitS := mF, methObj := mO, codeFill := cF, codeInitS := cF, codeObj := cO, fBack := f1, fDepth := f1, fStack := f2, fCause := f1, fSupp := f3, fMsg := f6, fUnassigned := f4, fSentinel := f5, cfT := cf, ci1 := x1, n1 := y1, ci27 := x2, n27 := y2, ci202 := x3, n202 := y3, ci7 := u1, i7 := i1, ci13 := u4, i13 := i4, ci17 := u2, i17 := i2, ci20 := u5, i20 := i5, ci24 := u3, i24 := i3 }
  refine ⟨T, ?_, fT, fF, fN, ff2, ff4, n2, ty2, cS, hcS, isS⟩
  constructor
  case owns => exact howns
  case noFinalization => exact hfin
  case cls => exact kq
  case name => exact kn
  case boot => exact Vm.findClass_boot fT kq
  case notInterface => exact nif
  case initialized => exact Cond.initialized_spec fT kq (g 0 _ rfl)
  case fillParams => exact own_par (sg := ⟨[], some (.object tN)⟩) sgF (by decide +kernel)
  case fill0Params => exact own_par (sg := ⟨[.int], some (.object tN)⟩) sgN (by decide +kernel)
  case objParams => exact congrArg List.length (own_par (sg := ⟨[], none⟩) sgO (by decide +kernel))
  case objFound => show lookupSpecial s.vm mo.cls "<init>" mO.desc = .method mo; rw [dsO]; exact lookupSpecial_of_named fO gO sO
  all_goals assumption
/-- what a heap keeps where a cell is laid behind it and one of its cells is written -/
theorem own_keepFill {h : Heap} {a : Addr} {cl cl' x : Cell} (q : h[a]? = some cl) (q1 : cl'.cls = cl.cls) (q2 : cl'.vm = cl.vm) (q3 : cl'.slots.size = cl.slots.size) :
    ((h.push x).setIfInBounds a cl')[a]? = some cl' ∧ Keep h ((h.push x).setIfInBounds a cl') [a] := by
  have lt : a < h.size := (Array.getElem?_eq_some_iff.mp q).1
  have at_ : ((h.push x).setIfInBounds a cl')[a]? = some cl' := by
    rw [Array.getElem?_setIfInBounds]; simp [Nat.lt_succ_of_lt lt]
  have off : ∀ (y : Addr) (cy : Cell), h[y]? = some cy → y ≠ a → ((h.push x).setIfInBounds a cl')[y]? = some cy := fun y cy hy ne => by
    have ly : y < h.size := (Array.getElem?_eq_some_iff.mp hy).1
    rw [Array.getElem?_setIfInBounds_ne (Ne.symm ne), Array.getElem?_push_lt ly, ← hy, Array.getElem?_eq_getElem ly]
  refine ⟨at_, by simp, fun y cy hy hn => off y cy hy (fun z => hn (by rw [z]; exact List.mem_singleton.mpr rfl)), fun y cy hy => ?_⟩
  by_cases z : y = a
  · subst z; cases q.symm.trans hy; exact ⟨cl', at_, q1, q2, q3⟩
  · exact ⟨cy, off y cy hy z, rfl, rfl, rfl⟩
set_option maxHeartbeats 4000000 in
/-- Throwable.fillInStackTrace() on an exception rc that the walk made, in the walk's facts -/
theorem own_fill (X : Stand p l e R s m args below meth c T locs cells slots) (hx : p.tables.exec = Jvm.exec) (hl : l.stackTraces = true) (hZ : Z.Warmed39 s.vm) {rc : String} (w : ∀ d ∈ own_ta rc, d.before a0 Z = true) {k : Nat} (wi : (Cond.instantiable rc k).before a0 Z = true)
    (hT0 : ThS Z s.heap) (hTK : s.vm.MethodsKnown) (hBl : s.vm.FramesKnown below) {n0 : Nat} {a u : Addr} (hn : n0 ≤ a) (TH : ThS Z h) (E : Exa Z h a rc) (N : Unt h a) (B : Fld Z h a tN "backtrace" obD .null) (M : Fld Z h a tN "detailMessage" msgD .null) (F : Fld Z h a tN "stackTrace" steD (.ref u)) (SU : Sta Z h tN "UNASSIGNED_STACK" steD (.ref u))
    {len W : Nat} (hf : 2 < R.frames) (hlo : W + 42 ≤ R.locals) :
    Back l R p e below s args tFill len W (fun A as => as = #[.ref a] ∧ A.U.heap = h ∧ A.cells + 1 ≤ R.cells ∧ A.slots + 2752 ≤ R.slots)
      (fun A _ v B => ∃ L, (v = some (.ref a) ∧ Fr n0 L ∧ Keep h B.U.heap [a] ∧ Exa Z B.U.heap a rc ∧ Unt B.U.heap a ∧ ThS Z B.U.heap ∧ Fld Z B.U.heap a tN "detailMessage" msgD .null) ∧ B.locs = A.locs ++ L ∧ B.cells = A.cells + 1 ∧ B.slots = A.slots + 2752) := by
  have Ws : ∀ d ∈ own_ta rc, d.before args s = true := fun d hd => mvX hT0 hZ (List.all_eq_true.mp (show (own_ta rc).all xOk = true from rfl) d hd) (w d hd)
  have g : ∀ (i : Nat) (d : Cond), (own_ta rc)[i]? = some d → d.holds args s none s [] = true := fun i d q => Ws d (List.mem_of_getElem? q)
  have hpl : e.platform.magicAccessors = ({} : Platform).magicAccessors := by rw [X.admits.platform]
  obtain ⟨Th, LK, fT, fF, fN, ff2, ff4, nm2, ty2, cS, hcS, isS⟩ := own_thr (pl := e.platform) (by rw [X.admits.platform]) (by rw [X.admits.platform]) hpl Ws
  -- the receiver's cell and its class
  obtain ⟨cl, kc, e1, e2, e3, e4, e5⟩ := E
  obtain ⟨_, n1, n2, n3⟩ := N
  cases e1.symm.trans n1
  obtain ⟨_, _, j1, j2, j3, -⟩ := Cond.instantiable_spec wi
  cases e2.symm.trans j1
  cases e3.symm.trans j2
  have hfnd : s.vm.findClass rc = some cl.cls := by rw [hZ.alike.findClass]; exact e2
  obtain ⟨kX, hkX, hek⟩ := hZ.alike.2.2 _ _ e3
  have hord : kX.kind = .ordinary := by rw [hek]; exact j3
  have hsz : cl.slots.size = kX.instanceTypes.size := by rw [hek]; exact e5 j3
  -- its fields
  obtain ⟨ub, ib, fB, vb, zb, tb, ob, -, nb, tyb, ffB⟩ := Cond.ownField (t := .object "java/lang/Object") fT LK.cls (by decide +kernel) (g 14 _ rfl) (g 23 _ rfl) e.platform hpl
  obtain ⟨_, _, cD, kD, iD, fD, -, -, ffD, od, -⟩ := Cond.lays_spec (g 24 _ rfl)
  cases (Cond.lays_declared (g 24 _ rfl) ffD).symm.trans fT
  obtain ⟨kqD, tD⟩ := State.fieldFound?_spec ffD
  cases kqD.symm.trans LK.cls
  obtain ⟨nD, tyD⟩ := State.fieldFound?_type ffD (t := .int) (by decide +kernel)
  have hfb := Cond.soleField_find fT LK.cls (g 26 _ rfl) tb nb ob
  have hfd := Cond.soleField_find fT LK.cls (g 27 _ rfl) tD nD od
  obtain ⟨comp, cO, kO, -, -, hkO, hkindO, hO⟩ := Cond.arrayOver_spec (Ws _ (List.mem_of_getElem? (i := 28) rfl))
  obtain ⟨tS, dS, qS, qS'⟩ := Cond.laysAt hfnd hkX ff2 (g 20 _ rfl)
  obtain ⟨tB, dB, qB, qB'⟩ := Cond.laysAt hfnd hkX ffB (g 23 _ rfl)
  obtain ⟨tDp, dD, qD, qD'⟩ := Cond.laysAt hfnd hkX ffD (g 24 _ rfl)
  have tk : ∀ {f : Field} {v : Value}, kX.instanceTypes[f.slot]? = some f.type → fits f.type v = true → Jvm.Takes s cl f v := fun {f v} h1 h2 => by
    obtain ⟨q1, q2⟩ := Takes.of_laid (v := v) hkX hord h1 h2
    exact ⟨by rw [hsz]; simpa using q1, by rw [n2]; exact q2⟩
  -- what its fields hold
  obtain ⟨_, _, _, _, fb', b1, b2, -, -, -, -, b7⟩ := B
  cases e1.symm.trans b1
  obtain ⟨_, b2', -⟩ := State.fieldFound?_setVm hZ.alike b2
  cases (show s.fieldFound? tN "backtrace" obD = _ from b2').symm.trans ffB
  obtain ⟨_, _, _, _, fs', c1, c2, -, -, -, -, c7⟩ := F
  cases e1.symm.trans c1
  obtain ⟨_, c2', -⟩ := State.fieldFound?_setVm hZ.alike c2
  cases (show s.fieldFound? tN "stackTrace" steD = _ from c2').symm.trans ff2
  obtain ⟨_, cf, kf, iM, fM, m1, m2, m3, m4, m5, m6, m7⟩ := M
  cases e1.symm.trans m1
  obtain ⟨_, m2', -⟩ := State.fieldFound?_setVm hZ.alike m2
  have ffM : s.fieldFound? tN "detailMessage" msgD = _ := m2'
  have nM := (State.fieldFound?_type ffM (t := .object "java/lang/String") (by decide +kernel)).1
  obtain ⟨tM, dM, qM, qM'⟩ := Cond.laysAt hfnd hkX ffM (g 22 _ rfl)
  have mB := Cond.laysApart qM qB qM' qB' (by rw [nM, nb]; decide)
  have mD := Cond.laysApart qM qD qM' qD' (by rw [nM, nD]; decide)
  have mS := Cond.laysApart qM qS qM' qS' (by rw [nM, nm2]; decide)
  -- Throwable's statics
  obtain ⟨_, _, _, fu', st, cst, s1, s2, -, s4, s5, s6, s7⟩ := SU
  obtain ⟨kU, s1', hekU⟩ := State.fieldFound?_setVm hZ.alike s1
  cases (show s.fieldFound? tN "UNASSIGNED_STACK" steD = _ from s1').symm.trans ff4
  have hst : st = Th.aS := by
    have q := LK.statics
    rw [hekU] at q
    exact Option.some.inj (s4.symm.trans q)
  subst hst
  have hneS : Th.aS ≠ a := fun z => by
    rw [z, e1] at s5; cases s5; rw [n2] at s6; cases s6
  have hsel0 : selectMethod e.platform s.vm cl.cls Th.fill0 = .method Th.fill0 := by
    obtain ⟨_, _, _, q1, q2, q3, q4, -⟩ := Cond.selects_spec (g 25 _ rfl)
    cases q1.symm.trans hfnd
    cases q2.symm.trans (State.methodFound?_of_named fN (by decide))
    cases q3.symm.trans fN
    rw [Launch.admits_selectMethod X.admits]; exact q4
  have K := fillPays (l := l) (R := R) (p := p) (e := e) (below := below) (s := s) (sargs := args) (len := len) (W := W) hx (by rw [X.admits.platform]; exact hl) Th LK fF (u0 := ⟨.ref u, rfl⟩) (by show Value.ref u ≠ .null; simp) (self := a) (cell := cl) (cellS := cst)
    (fun _ => by rw [n2]; simp) (by rw [n2]; simp) (by rw [n3]) (by rw [n3]) c7 hsel0 hneS (by intro z; rw [z] at s6; cases s6) s7 (tk tS (by rw [ty2]; rfl))
    ⟨{ ci198 := ub, i198 := ib, fBack := fB }, ⟨vb, zb, tb, ob⟩, b7⟩ hTK hBl fT hO hkO hkindO hfb hfd (fun x => tk tB (by rw [tyb]; rfl)) (fun x => tk tDp (by rw [tyD]; rfl)) hf hlo
  intro m' meth' c' A fr ig mk as X' hg hsize hdg hWd hmk hPre
  obtain ⟨has, hA, hce, hsl⟩ := hPre
  obtain ⟨v, Bp, Y, ⟨hv, vm', lines, hli, hW, hU, hLo, hcB, hsB⟩, stp⟩ := K m' meth' c' A fr ig mk as X' hg hsize hdg hWd hmk ⟨has, hce, hsl, by rw [hA]; exact e1, by rw [hA]; exact s5⟩
  have hheap : Bp.U.heap = (h.push (traceHolder cO lines)).setIfInBounds a (filledOn Th.toThrowableT fB fD cl ⟨.ref u, rfl⟩ h.size lines.length.toInt32) := by
    rw [hU, ← hA]; rfl
  obtain ⟨K1, K2⟩ := own_keepFill (x := traceHolder cO lines) (cl' := filledOn Th.toThrowableT fB fD cl ⟨.ref u, rfl⟩ h.size lines.length.toInt32) e1 rfl rfl (by simp [filledOn, Cell.setSlot])
  rw [← hheap] at K1 K2
  refine ⟨v, ⟨Bp.U, Bp.locs, Bp.cells, A.slots + 2752⟩, ?_, ⟨_, ⟨hv, ?_, K2, ⟨_, kc, K1, e2, e3, e4, fun z => ?_⟩, ⟨_, K1, n2, n3⟩, TH.keep K2 ?_, ?_⟩, hLo, hcB, rfl⟩, stp⟩
  · exact Y.more (Nat.le_refl _) (by rw [hsB]; exact Nat.add_le_add_left (traceHolder_size_le cO hli) _)
  · intro y hy
    simp only [List.mem_cons, List.not_mem_nil, or_false] at hy
    rcases hy with rfl | rfl | rfl <;> exact hn
  · simp only [filledOn, Cell.setSlot, Array.size_setIfInBounds]; exact e5 z
  · intro x hx' cell q
    cases List.mem_singleton.mp hx'
    cases q.symm.trans e1
    rw [n2]; rfl
  · exact ⟨_, cf, kf, iM, fM, K1, m2, m3, m4, m5, m6, by simp [filledOn, Cell.setSlot, Array.getElem?_setIfInBounds, Ne.symm mB, Ne.symm mD, Ne.symm mS, m7]⟩
end OwnThr
end Jvm.RoadKit
namespace Jvm.Pilot.@@N@@
open Jvm Jvm.ClassFile Sem Op Lib Jvm.Free Jvm.Stand Jvm.LawKit Jvm.RoadKit Bundle Jvm.Pilot.@@N@@.Jvm.D
abbrev rom0 : Room := { frames := 0, cells := 0, slots := 0, locals := 0 }
abbrev rom1 : Room := { frames := 1, cells := 1, slots := 1, locals := 18 }
abbrev rom2 : Room := { frames := 2, cells := 1, slots := 1, locals := 35 }
abbrev rom3 : Room := { frames := 3, cells := 1, slots := 1, locals := 52 }
abbrev rom4 : Room := { frames := 1, cells := 1, slots := 2, locals := 18 }
abbrev rom5 : Room := { frames := 2, cells := 1, slots := 2, locals := 35 }
abbrev rom6 : Room := { frames := 3, cells := 1, slots := 2, locals := 52 }
abbrev rom7 : Room := { frames := 1, cells := 1, slots := 3, locals := 18 }
abbrev rom8 : Room := { frames := 2, cells := 1, slots := 3, locals := 35 }
abbrev rom9 : Room := { frames := 3, cells := 1, slots := 3, locals := 52 }
abbrev rom10 : Room := { frames := 1, cells := 4, slots := 8, locals := 12 }
abbrev rom11 : Room := { frames := 2, cells := 4, slots := 8, locals := 29 }
abbrev rom12 : Room := { frames := 3, cells := 1, slots := 2752, locals := 42 }
abbrev rom13 : Room := { frames := 4, cells := 1, slots := 2752, locals := 55 }
abbrev rom14 : Room := { frames := 5, cells := 1, slots := 2752, locals := 68 }
abbrev rom15 : Room := { frames := 6, cells := 2, slots := 2759, locals := 83 }
set_option maxRecDepth 65536 in
theorem pnm0 : plainName "java/lang/StringUTF16" = true := by first | (simp [plainName, overriddenIn]; done) | decide +kernel
set_option maxRecDepth 65536 in
theorem pnm1 : plainName "java/lang/String" = true := by first | (simp [plainName, overriddenIn]; done) | decide +kernel
set_option maxRecDepth 65536 in
theorem pnm2 : plainName "java/lang/Throwable" = true := by first | (simp [plainName, overriddenIn]; done) | decide +kernel
set_option maxRecDepth 65536 in
theorem pnm3 : plainName "java/lang/Exception" = true := by first | (simp [plainName, overriddenIn]; done) | decide +kernel
set_option maxRecDepth 65536 in
theorem pnm4 : plainName "com/example/dogged_dispatch/doggeddispatch/api/ApiException" = true := by first | (simp [plainName, overriddenIn]; done) | decide +kernel
set_option maxRecDepth 65536 in
theorem pnm5 : plainName "com/example/dogged_dispatch/doggeddispatch/api/ApiExceptionBadRequestPinLaw" = true := by first | (simp [plainName, overriddenIn]; done) | decide +kernel
abbrev mth0 : MethodName := ⟨"java/lang/StringUTF16", "compress", "([CI[BII)I"⟩
abbrev mth1 : MethodName := ⟨"java/lang/StringUTF16", "compress", "([CII)[B"⟩
abbrev mth2 : MethodName := ⟨"java/lang/StringUTF16", "coderFromArrayLen", "([BI)B"⟩
abbrev mth3 : MethodName := ⟨"java/lang/String", "<init>", "([CIILjava/lang/Void;)V"⟩
abbrev mth4 : MethodName := ⟨"java/lang/String", "<init>", "([C)V"⟩
abbrev mth5 : MethodName := ⟨"java/lang/Throwable", "fillInStackTrace", "()Ljava/lang/Throwable;"⟩
abbrev mth6 : MethodName := ⟨"java/lang/Throwable", "<init>", "(Ljava/lang/String;)V"⟩
abbrev mth7 : MethodName := ⟨"java/lang/Exception", "<init>", "(Ljava/lang/String;)V"⟩
abbrev mth8 : MethodName := ⟨"com/example/dogged_dispatch/doggeddispatch/api/ApiException", "<init>", "(ILjava/lang/String;)V"⟩
abbrev mth9 : MethodName := ⟨"com/example/dogged_dispatch/doggeddispatch/api/ApiException", "badRequest", "(Ljava/lang/String;)Lcom/example/dogged_dispatch/doggeddispatch/api/ApiException;"⟩
abbrev mth10 : MethodName := ⟨"com/example/dogged_dispatch/doggeddispatch/api/ApiException", "status", "()I"⟩
theorem d_jdk_52_method_21_code_0 : decode jdk_52_method_21_code 0 = .ok (.iconst 0, 1) := by decide +kernel
theorem d_jdk_52_method_21_code_1 : decode jdk_52_method_21_code 1 = .ok (.istore 5, 2) := by decide +kernel
theorem d_jdk_52_method_21_code_3 : decode jdk_52_method_21_code 3 = .ok (.iload 5, 2) := by decide +kernel
theorem d_jdk_52_method_21_code_5 : decode jdk_52_method_21_code 5 = .ok (.iload 4, 2) := by decide +kernel
theorem d_jdk_52_method_21_code_7 : decode jdk_52_method_21_code 7 = .ok (.if_icmp .ge 37, 3) := by decide +kernel
theorem d_jdk_52_method_21_code_10 : decode jdk_52_method_21_code 10 = .ok (.aload_n 0, 1) := by decide +kernel
theorem d_jdk_52_method_21_code_11 : decode jdk_52_method_21_code 11 = .ok (.iload_n 1, 1) := by decide +kernel
theorem d_jdk_52_method_21_code_12 : decode jdk_52_method_21_code 12 = .ok (.caload, 1) := by decide +kernel
theorem d_jdk_52_method_21_code_13 : decode jdk_52_method_21_code 13 = .ok (.istore 6, 2) := by decide +kernel
theorem d_jdk_52_method_21_code_15 : decode jdk_52_method_21_code 15 = .ok (.iload 6, 2) := by decide +kernel
theorem d_jdk_52_method_21_code_17 : decode jdk_52_method_21_code 17 = .ok (.sipush 255, 3) := by decide +kernel
theorem d_jdk_52_method_21_code_20 : decode jdk_52_method_21_code 20 = .ok (.if_icmp .le 6, 3) := by decide +kernel
theorem d_jdk_52_method_21_code_26 : decode jdk_52_method_21_code 26 = .ok (.aload_n 2, 1) := by decide +kernel
theorem d_jdk_52_method_21_code_27 : decode jdk_52_method_21_code 27 = .ok (.iload_n 3, 1) := by decide +kernel
theorem d_jdk_52_method_21_code_28 : decode jdk_52_method_21_code 28 = .ok (.iload 6, 2) := by decide +kernel
theorem d_jdk_52_method_21_code_30 : decode jdk_52_method_21_code 30 = .ok (.i2b, 1) := by decide +kernel
theorem d_jdk_52_method_21_code_31 : decode jdk_52_method_21_code 31 = .ok (.bastore, 1) := by decide +kernel
theorem d_jdk_52_method_21_code_32 : decode jdk_52_method_21_code 32 = .ok (.iinc 1 1, 3) := by decide +kernel
theorem d_jdk_52_method_21_code_35 : decode jdk_52_method_21_code 35 = .ok (.iinc 3 1, 3) := by decide +kernel
theorem d_jdk_52_method_21_code_38 : decode jdk_52_method_21_code 38 = .ok (.iinc 5 1, 3) := by decide +kernel
theorem d_jdk_52_method_21_code_41 : decode jdk_52_method_21_code 41 = .ok (.goto (-38), 3) := by decide +kernel
theorem d_jdk_52_method_21_code_44 : decode jdk_52_method_21_code 44 = .ok (.iload 4, 2) := by decide +kernel
theorem d_jdk_52_method_21_code_46 : decode jdk_52_method_21_code 46 = .ok (.ireturn, 1) := by decide +kernel
theorem d_jdk_52_method_16_code_0 : decode jdk_52_method_16_code 0 = .ok (.iload_n 2, 1) := by decide +kernel
theorem d_jdk_52_method_16_code_1 : decode jdk_52_method_16_code 1 = .ok (.newarray .byte, 2) := by decide +kernel
theorem d_jdk_52_method_16_code_3 : decode jdk_52_method_16_code 3 = .ok (.astore_n 3, 1) := by decide +kernel
theorem d_jdk_52_method_16_code_4 : decode jdk_52_method_16_code 4 = .ok (.aload_n 0, 1) := by decide +kernel
theorem d_jdk_52_method_16_code_5 : decode jdk_52_method_16_code 5 = .ok (.iload_n 1, 1) := by decide +kernel
theorem d_jdk_52_method_16_code_6 : decode jdk_52_method_16_code 6 = .ok (.aload_n 3, 1) := by decide +kernel
theorem d_jdk_52_method_16_code_7 : decode jdk_52_method_16_code 7 = .ok (.iconst 0, 1) := by decide +kernel
theorem d_jdk_52_method_16_code_8 : decode jdk_52_method_16_code 8 = .ok (.iload_n 2, 1) := by decide +kernel
theorem d_jdk_52_method_16_code_9 : decode jdk_52_method_16_code 9 = .ok (.invokestatic 115, 3) := by decide +kernel
theorem d_jdk_52_method_16_code_12 : decode jdk_52_method_16_code 12 = .ok (.istore 4, 2) := by decide +kernel
theorem d_jdk_52_method_16_code_14 : decode jdk_52_method_16_code 14 = .ok (.iload 4, 2) := by decide +kernel
theorem d_jdk_52_method_16_code_16 : decode jdk_52_method_16_code 16 = .ok (.iload_n 2, 1) := by decide +kernel
theorem d_jdk_52_method_16_code_17 : decode jdk_52_method_16_code 17 = .ok (.if_icmp .eq 40, 3) := by decide +kernel
theorem d_jdk_52_method_16_code_57 : decode jdk_52_method_16_code 57 = .ok (.aload_n 3, 1) := by decide +kernel
theorem d_jdk_52_method_16_code_58 : decode jdk_52_method_16_code 58 = .ok (.areturn, 1) := by decide +kernel
theorem d_jdk_52_method_15_code_0 : decode jdk_52_method_15_code 0 = .ok (.iload_n 1, 1) := by decide +kernel
theorem d_jdk_52_method_15_code_1 : decode jdk_52_method_15_code 1 = .ok (.aload_n 0, 1) := by decide +kernel
theorem d_jdk_52_method_15_code_2 : decode jdk_52_method_15_code 2 = .ok (.arraylength, 1) := by decide +kernel
theorem d_jdk_52_method_15_code_3 : decode jdk_52_method_15_code 3 = .ok (.isub, 1) := by decide +kernel
theorem d_jdk_52_method_15_code_4 : decode jdk_52_method_15_code 4 = .ok (.bipush 31, 2) := by decide +kernel
theorem d_jdk_52_method_15_code_6 : decode jdk_52_method_15_code 6 = .ok (.iushr, 1) := by decide +kernel
theorem d_jdk_52_method_15_code_7 : decode jdk_52_method_15_code 7 = .ok (.i2b, 1) := by decide +kernel
theorem d_jdk_52_method_15_code_8 : decode jdk_52_method_15_code 8 = .ok (.ireturn, 1) := by decide +kernel
theorem d_jdk_42_method_149_code_0 : decode jdk_42_method_149_code 0 = .ok (.aload_n 0, 1) := by decide +kernel
theorem d_jdk_42_method_149_code_1 : decode jdk_42_method_149_code 1 = .ok (.invokespecial 1, 3) := by decide +kernel
theorem d_jdk_42_method_149_code_4 : decode jdk_42_method_149_code 4 = .ok (.iload_n 3, 1) := by decide +kernel
theorem d_jdk_42_method_149_code_5 : decode jdk_42_method_149_code 5 = .ok (.ifCond .ne 22, 3) := by decide +kernel
theorem d_jdk_42_method_149_code_27 : decode jdk_42_method_149_code 27 = .ok (.getstatic 38, 3) := by decide +kernel
theorem d_jdk_42_method_149_code_30 : decode jdk_42_method_149_code 30 = .ok (.ifCond .eq 28, 3) := by decide +kernel
theorem d_jdk_42_method_149_code_33 : decode jdk_42_method_149_code 33 = .ok (.aload_n 1, 1) := by decide +kernel
theorem d_jdk_42_method_149_code_34 : decode jdk_42_method_149_code 34 = .ok (.iload_n 2, 1) := by decide +kernel
theorem d_jdk_42_method_149_code_35 : decode jdk_42_method_149_code 35 = .ok (.iload_n 3, 1) := by decide +kernel
theorem d_jdk_42_method_149_code_36 : decode jdk_42_method_149_code 36 = .ok (.invokestatic 177, 3) := by decide +kernel
theorem d_jdk_42_method_149_code_39 : decode jdk_42_method_149_code 39 = .ok (.astore 5, 2) := by decide +kernel
theorem d_jdk_42_method_149_code_41 : decode jdk_42_method_149_code 41 = .ok (.aload_n 0, 1) := by decide +kernel
theorem d_jdk_42_method_149_code_42 : decode jdk_42_method_149_code 42 = .ok (.aload 5, 2) := by decide +kernel
theorem d_jdk_42_method_149_code_44 : decode jdk_42_method_149_code 44 = .ok (.iload_n 3, 1) := by decide +kernel
theorem d_jdk_42_method_149_code_45 : decode jdk_42_method_149_code 45 = .ok (.invokestatic 47, 3) := by decide +kernel
theorem d_jdk_42_method_149_code_48 : decode jdk_42_method_149_code 48 = .ok (.putfield 15, 3) := by decide +kernel
theorem d_jdk_42_method_149_code_51 : decode jdk_42_method_149_code 51 = .ok (.aload_n 0, 1) := by decide +kernel
theorem d_jdk_42_method_149_code_52 : decode jdk_42_method_149_code 52 = .ok (.aload 5, 2) := by decide +kernel
theorem d_jdk_42_method_149_code_54 : decode jdk_42_method_149_code 54 = .ok (.putfield 9, 3) := by decide +kernel
theorem d_jdk_42_method_149_code_57 : decode jdk_42_method_149_code 57 = .ok (.return_, 1) := by decide +kernel
theorem d_jdk_42_method_3_code_0 : decode jdk_42_method_3_code 0 = .ok (.aload_n 0, 1) := by decide +kernel
theorem d_jdk_42_method_3_code_1 : decode jdk_42_method_3_code 1 = .ok (.aload_n 1, 1) := by decide +kernel
theorem d_jdk_42_method_3_code_2 : decode jdk_42_method_3_code 2 = .ok (.iconst 0, 1) := by decide +kernel
theorem d_jdk_42_method_3_code_3 : decode jdk_42_method_3_code 3 = .ok (.aload_n 1, 1) := by decide +kernel
theorem d_jdk_42_method_3_code_4 : decode jdk_42_method_3_code 4 = .ok (.arraylength, 1) := by decide +kernel
theorem d_jdk_42_method_3_code_5 : decode jdk_42_method_3_code 5 = .ok (.aconst_null, 1) := by decide +kernel
theorem d_jdk_42_method_3_code_6 : decode jdk_42_method_3_code 6 = .ok (.invokespecial 27, 3) := by decide +kernel
theorem d_jdk_42_method_3_code_9 : decode jdk_42_method_3_code 9 = .ok (.return_, 1) := by decide +kernel
theorem d_jdk_42_method_149_code_8 : decode jdk_42_method_149_code 8 = .ok (.aload_n 0, 1) := by decide +kernel
theorem d_jdk_42_method_149_code_9 : decode jdk_42_method_149_code 9 = .ok (.ldc 7, 2) := by decide +kernel
theorem d_jdk_42_method_149_code_11 : decode jdk_42_method_149_code 11 = .ok (.getfield 9, 3) := by decide +kernel
theorem d_jdk_42_method_149_code_14 : decode jdk_42_method_149_code 14 = .ok (.putfield 9, 3) := by decide +kernel
theorem d_jdk_42_method_149_code_17 : decode jdk_42_method_149_code 17 = .ok (.aload_n 0, 1) := by decide +kernel
theorem d_jdk_42_method_149_code_18 : decode jdk_42_method_149_code 18 = .ok (.ldc 7, 2) := by decide +kernel
theorem d_jdk_42_method_149_code_20 : decode jdk_42_method_149_code 20 = .ok (.getfield 15, 3) := by decide +kernel
theorem d_jdk_42_method_149_code_23 : decode jdk_42_method_149_code 23 = .ok (.putfield 15, 3) := by decide +kernel
theorem d_jdk_42_method_149_code_26 : decode jdk_42_method_149_code 26 = .ok (.return_, 1) := by decide +kernel
theorem d_jdk_78_method_2_code_0 : decode jdk_78_method_2_code 0 = .ok (.aload_n 0, 1) := by decide +kernel
theorem d_jdk_78_method_2_code_1 : decode jdk_78_method_2_code 1 = .ok (.invokespecial 1, 3) := by decide +kernel
theorem d_jdk_78_method_2_code_4 : decode jdk_78_method_2_code 4 = .ok (.aload_n 0, 1) := by decide +kernel
theorem d_jdk_78_method_2_code_5 : decode jdk_78_method_2_code 5 = .ok (.aload_n 0, 1) := by decide +kernel
theorem d_jdk_78_method_2_code_6 : decode jdk_78_method_2_code 6 = .ok (.putfield 7, 3) := by decide +kernel
theorem d_jdk_78_method_2_code_9 : decode jdk_78_method_2_code 9 = .ok (.aload_n 0, 1) := by decide +kernel
theorem d_jdk_78_method_2_code_10 : decode jdk_78_method_2_code 10 = .ok (.getstatic 13, 3) := by decide +kernel
theorem d_jdk_78_method_2_code_13 : decode jdk_78_method_2_code 13 = .ok (.putfield 17, 3) := by decide +kernel
theorem d_jdk_78_method_2_code_16 : decode jdk_78_method_2_code 16 = .ok (.aload_n 0, 1) := by decide +kernel
theorem d_jdk_78_method_2_code_17 : decode jdk_78_method_2_code 17 = .ok (.getstatic 20, 3) := by decide +kernel
theorem d_jdk_78_method_2_code_20 : decode jdk_78_method_2_code 20 = .ok (.putfield 24, 3) := by decide +kernel
theorem d_jdk_78_method_2_code_23 : decode jdk_78_method_2_code 23 = .ok (.aload_n 0, 1) := by decide +kernel
theorem d_jdk_78_method_2_code_24 : decode jdk_78_method_2_code 24 = .ok (.invokevirtual 27, 3) := by decide +kernel
theorem d_jdk_78_method_2_code_27 : decode jdk_78_method_2_code 27 = .ok (.pop, 1) := by decide +kernel
theorem d_jdk_78_method_2_code_28 : decode jdk_78_method_2_code 28 = .ok (.aload_n 0, 1) := by decide +kernel
theorem d_jdk_78_method_2_code_29 : decode jdk_78_method_2_code 29 = .ok (.aload_n 1, 1) := by decide +kernel
theorem d_jdk_78_method_2_code_30 : decode jdk_78_method_2_code 30 = .ok (.putfield 31, 3) := by decide +kernel
theorem d_jdk_78_method_2_code_33 : decode jdk_78_method_2_code 33 = .ok (.return_, 1) := by decide +kernel
theorem d_jdk_59_method_2_code_0 : decode jdk_59_method_2_code 0 = .ok (.aload_n 0, 1) := by decide +kernel
theorem d_jdk_59_method_2_code_1 : decode jdk_59_method_2_code 1 = .ok (.aload_n 1, 1) := by decide +kernel
theorem d_jdk_59_method_2_code_2 : decode jdk_59_method_2_code 2 = .ok (.invokespecial 7, 3) := by decide +kernel
theorem d_jdk_59_method_2_code_5 : decode jdk_59_method_2_code 5 = .ok (.return_, 1) := by decide +kernel
theorem d_prog_1_method_1_code_0 : decode prog_1_method_1_code 0 = .ok (.aload_n 0, 1) := by decide +kernel
theorem d_prog_1_method_1_code_1 : decode prog_1_method_1_code 1 = .ok (.aload_n 2, 1) := by decide +kernel
theorem d_prog_1_method_1_code_2 : decode prog_1_method_1_code 2 = .ok (.invokespecial 1, 3) := by decide +kernel
theorem d_prog_1_method_1_code_5 : decode prog_1_method_1_code 5 = .ok (.aload_n 0, 1) := by decide +kernel
theorem d_prog_1_method_1_code_6 : decode prog_1_method_1_code 6 = .ok (.iload_n 1, 1) := by decide +kernel
theorem d_prog_1_method_1_code_7 : decode prog_1_method_1_code 7 = .ok (.putfield 7, 3) := by decide +kernel
theorem d_prog_1_method_1_code_10 : decode prog_1_method_1_code 10 = .ok (.return_, 1) := by decide +kernel
theorem d_prog_1_method_3_code_0 : decode prog_1_method_3_code 0 = .ok (.new 8, 3) := by decide +kernel
theorem d_prog_1_method_3_code_3 : decode prog_1_method_3_code 3 = .ok (.dup, 1) := by decide +kernel
theorem d_prog_1_method_3_code_4 : decode prog_1_method_3_code 4 = .ok (.sipush 400, 3) := by decide +kernel
theorem d_prog_1_method_3_code_7 : decode prog_1_method_3_code 7 = .ok (.aload_n 0, 1) := by decide +kernel
theorem d_prog_1_method_3_code_8 : decode prog_1_method_3_code 8 = .ok (.invokespecial 13, 3) := by decide +kernel
theorem d_prog_1_method_3_code_11 : decode prog_1_method_3_code 11 = .ok (.areturn, 1) := by decide +kernel
theorem d_prog_1_method_2_code_0 : decode prog_1_method_2_code 0 = .ok (.aload_n 0, 1) := by decide +kernel
theorem d_prog_1_method_2_code_1 : decode prog_1_method_2_code 1 = .ok (.getfield 7, 3) := by decide +kernel
theorem d_prog_1_method_2_code_4 : decode prog_1_method_2_code 4 = .ok (.ireturn, 1) := by decide +kernel
theorem pd_CI_BII_I : parseMethodDescriptor "([CI[BII)I" = some ⟨[(.array .char), .int, (.array .byte), .int, .int], some .int⟩ := by decide +kernel
theorem pd_CII__B : parseMethodDescriptor "([CII)[B" = some ⟨[(.array .char), .int, .int], some (.array .byte)⟩ := by decide +kernel
theorem pd_BI_B : parseMethodDescriptor "([BI)B" = some ⟨[(.array .byte), .int], some .byte⟩ := by decide +kernel
theorem pd_CIILjava_lang_Void__V : parseMethodDescriptor "([CIILjava/lang/Void;)V" = some ⟨[(.array .char), .int, .int, (.object "java/lang/Void")], none⟩ := by decide +kernel
theorem pd_Ljava_lang_Throwable : parseMethodDescriptor "()Ljava/lang/Throwable;" = some ⟨[], some (.object "java/lang/Throwable")⟩ := by decide +kernel
theorem pd_Ljava_lang_String__V : parseMethodDescriptor "(Ljava/lang/String;)V" = some ⟨[(.object "java/lang/String")], none⟩ := by decide +kernel
theorem pd_ILjava_lang_String__V : parseMethodDescriptor "(ILjava/lang/String;)V" = some ⟨[.int, (.object "java/lang/String")], none⟩ := by decide +kernel
theorem pd_C_V : parseMethodDescriptor "([C)V" = some ⟨[(.array .char)], none⟩ := by decide +kernel
theorem pd_Ljava_lang_String__Lcom_example_dogged_dispatch_doggeddispatch_api_ApiException : parseMethodDescriptor "(Ljava/lang/String;)Lcom/example/dogged_dispatch/doggeddispatch/api/ApiException;" = some ⟨[(.object "java/lang/String")], some (.object "com/example/dogged_dispatch/doggeddispatch/api/ApiException")⟩ := by decide +kernel
theorem pd_I : parseMethodDescriptor "()I" = some ⟨[], some .int⟩ := by decide +kernel
abbrev own_EL : List (String × Nat) := consts_1
theorem own_nc (y : Int32) : ¬ ((255 : Int32) < nar .char ((y &&& (255 : Int32)).toUInt32.toUInt16.toUInt32.toInt32)) := by
  show ¬ ((255 : Int32) < ((y &&& (255 : Int32)).toUInt32.toUInt16.toUInt32.toInt32).toUInt32.toUInt16.toUInt32.toInt32)
  have a := c_i2c (y &&& (255 : Int32))
  have b := c_mask y (255 : Int32) 8 (by decide) (by decide)
  have c := c_i2c ((y &&& (255 : Int32)).toUInt32.toUInt16.toUInt32.toInt32)
  have d := rng32 (y &&& (255 : Int32))
  simp only [Int32.lt_iff_toInt_lt, Int32.reduceToInt] at a b c d ⊢
  omega
theorem own_sin : ∀ w ∈ Bundle.stringAtoms, w ∈ tables_1 := by decide +kernel
theorem own_ew {Z : State} {a0 : Array Value} (hw : ∀ d ∈ tables_1, d.before a0 Z = true) : EW Z a0 own_EL := (EW.cons (hw _ (List.mem_of_getElem? (i := 94) rfl)) (by decide +kernel) EW.nil)
theorem own_arrRef {args : Array Value} {s : State} {t : Term} {ty : FieldType} (h : (Cond.arrayOf t ty).before args s = true) : ∃ a, t.eval args s none [] s = some (.ref a) := by
  simp only [Cond.before, Cond.holds, Cond.value] at h
  cases ht : t.eval args s none [] s with
  | none => simp [ht] at h
  | some v => cases v with
    | ref a => exact ⟨a, rfl⟩
    | _ => simp [ht] at h

open Bundle Jvm.Free.Exc
theorem own_tin : ∀ w ∈ own_ta "com/example/dogged_dispatch/doggeddispatch/api/ApiException", w ∈ tables_1 := by decide +kernel

theorem ef_cmp1 (m : MethodId) (x0 : Addr) (x1 : Int32) (x2 : Addr) (x3 : Int32) (x4 : Int32) : entryFrame m #[(.ref x0), (.int x1), (.ref x2), (.int x3), (.int x4)] 7 = mkF m 0 #[.val (.ref x0), .val (.int x1), .val (.ref x2), .val (.int x3), .val (.int x4), .unset, .unset] [] := by first | (simp [entryFrame, mkF, argsToLocals, Value.category]; done) | rfl
def Q_cmp1 (Z : State) (a1 : Addr) (k1 : ClassId) (a3 : Addr) (k3 : ClassId) (x0 : Int32) (h0 : Heap) (n0 : Nat) (v : Option Value) (h : Heap) (L : List Loc) : Prop := ∃ (y0 : Value), v = some (.int (1 : Int32)) ∧ Fr n0 L ∧ Keep h0 h [a3] ∧ Arv Z h a3 k3 .byte (1 : Int32) [y0] (.int (0 : Int32))
set_option maxRecDepth 65536 in
set_option maxHeartbeats 40000000 in
theorem cmp1 (l : Launch) (Z : State) (a0 : Array Value) (hw : ∀ d ∈ tables_1, d.before a0 Z = true) (ws : List Jvm.Cond) (a1 : Addr) (k1 : ClassId) (a3 : Addr) (k3 : ClassId) (x0 : Int32) (h0 : Heap) (n0 : Nat) (Z0 : n0 ≤ h0.size) (V1 : Arv Z h0 a1 k1 .char (1 : Int32) [(.int x0)] (.int (0 : Int32))) (V3 : Arv Z h0 a3 k3 .byte (1 : Int32) [(.int (0 : Int32))] (.int (0 : Int32))) (G3 : n0 ≤ a3) (NE : a1 ≠ a3) (P0 : ¬ ((255 : Int32) < x0)) :
    MetFree l mth0 (head1 (Jvm.Cond.code mth0 jdk_52_method_21_code 7 (some .int) :: ws) rom0) (fun a U => a = #[(.ref a1), (.int (0 : Int32)), (.ref a3), (.int (0 : Int32)), (.int (1 : Int32))] ∧ Z.Warmed39 U.vm ∧ U.heap = h0) (fun _ _ _ _ _ => True) (fun _ U o U' => ∃ v L, o = .returned v ∧ Q_cmp1 Z a1 k1 a3 k3 x0 h0 n0 v U'.heap L ∧ FrameEnd U o U' L rom0.cells rom0.slots) := by
  refine MetFree.of_bodySF (plainFor_of_name pnm0) hisR ?_
  intro p e s m args below meth c s₁ Bd hml0 hP hK
  obtain ⟨rfl, hZ, hh⟩ := hP
  have hx := Bd.exec
  have hby := Bd.bytes
  have hml : c.maxLocals = 7 := hml0
  have hown : s.vm.findClass "java/lang/StringUTF16" = some m.cls := findClass_of_methodNamed Bd.named
  have hnm := (name_of_methodNamed Bd.named Bd.method).1
  have X0 : Stand p l e rom0 s m #[(.ref a1), (.int (0 : Int32)), (.ref a3), (.int (0 : Int32)), (.int (1 : Int32))] below meth c s₁ [] 0 0 := Stand.of_body Bd
  have eh0 : s₁.heap = h0 := by rw [← hh, Bd.state]; rfl
  have N0 := Fr.nil n0
  show Goes p e below (Pq (Q_cmp1 Z a1 k1 a3 k3 x0 h0 n0) s rom0.cells rom0.slots) (s₁.setTop (entryFrame m #[(.ref a1), (.int (0 : Int32)), (.ref a3), (.int (0 : Int32)), (.int (1 : Int32))] 7))
  refine Goes.step (S' := s₁.setTop (mkF m 0 #[.val (.ref a1), .val (.int (0 : Int32)), .val (.ref a3), .val (.int (0 : Int32)), .val (.int (1 : Int32)), .unset, .unset] [])) (fun t k => castTop (ef_cmp1 m a1 (0 : Int32) a3 (0 : Int32) (1 : Int32)) k) ?_
  refine Goes.step (S' := s₁.setTop (mkF m 12 #[.val (.ref a1), .val (.int (0 : Int32)), .val (.ref a3), .val (.int (0 : Int32)), .val (.int (1 : Int32)), .val (.int (0 : Int32)), .unset] [(.int (0 : Int32)), (.ref a1)])) (fun t k => XS.iconst X0.here hx rfl (hb hby d_jdk_52_method_21_code_0) (XS.istore X0.here hx rfl (hb hby d_jdk_52_method_21_code_1) rfl (l' := #[.val (.ref a1), .val (.int (0 : Int32)), .val (.ref a3), .val (.int (0 : Int32)), .val (.int (1 : Int32)), .val (.int (0 : Int32)), .unset]) rfl (XS.iload X0.here hx rfl (hb hby d_jdk_52_method_21_code_3) rfl (XS.iload X0.here hx rfl (hb hby d_jdk_52_method_21_code_5) rfl (XS.icmpNo X0.here hx rfl (hb hby d_jdk_52_method_21_code_7) rfl (tlt ((by decide) : (0 : Int32) < (1 : Int32))).2.1 (XS.aloadN X0.here hx rfl (hb hby d_jdk_52_method_21_code_10) rfl rfl (XS.iloadN X0.here hx rfl (hb hby d_jdk_52_method_21_code_11) rfl k))))))) ?_
  obtain ⟨cl101, Ar101, qk101, Sz101, Nn101, Hs101, Gs101⟩ := id V1
  have hin101 := (inb_of (j := (0 : Int32)) Sz101 ⟨by decide, by decide⟩)
  refine Goes.step (S' := s₁.setTop (mkF m 30 #[.val (.ref a1), .val (.int (0 : Int32)), .val (.ref a3), .val (.int (0 : Int32)), .val (.int (1 : Int32)), .val (.int (0 : Int32)), .val (.int x0)] [(.int x0), (.int (0 : Int32)), (.ref a3)])) (fun t k => X0.caload hx (j := (0 : Int32)) (v := (.int x0)) (by rw [eh0]; exact Ar101.1) (State.isArrayOf_alike hZ.alike Ar101.2.1) Ar101.2.2 hin101 (Has.at Hs101 hin101 rfl) (g := (mkF m 12 #[.val (.ref a1), .val (.int (0 : Int32)), .val (.ref a3), .val (.int (0 : Int32)), .val (.int (1 : Int32)), .val (.int (0 : Int32)), .unset] [(.int (0 : Int32)), (.ref a1)])) rfl rfl (hb hby d_jdk_52_method_21_code_12) _ (XS.istore X0.here hx rfl (hb hby d_jdk_52_method_21_code_13) rfl (l' := #[.val (.ref a1), .val (.int (0 : Int32)), .val (.ref a3), .val (.int (0 : Int32)), .val (.int (1 : Int32)), .val (.int (0 : Int32)), .val (.int x0)]) rfl (XS.iload X0.here hx rfl (hb hby d_jdk_52_method_21_code_15) rfl (XS.sipush X0.here hx rfl (hb hby d_jdk_52_method_21_code_17) (XS.icmpYes X0.here hx rfl (pc0 := 20) (pc' := 26) rfl (hb hby d_jdk_52_method_21_code_20) rfl (flt (P0 : ¬ ((255 : Int32) < x0))).2.2.2 (by decide) (by decide) (XS.aloadN X0.here hx rfl (hb hby d_jdk_52_method_21_code_26) rfl rfl (XS.iloadN X0.here hx rfl (hb hby d_jdk_52_method_21_code_27) rfl (XS.iload X0.here hx rfl (hb hby d_jdk_52_method_21_code_28) rfl k)))))))) ?_
  refine Goes.step (S' := s₁.setTop (mkF m 31 #[.val (.ref a1), .val (.int (0 : Int32)), .val (.ref a3), .val (.int (0 : Int32)), .val (.int (1 : Int32)), .val (.int (0 : Int32)), .val (.int x0)] [(.int (x0.toInt8.toInt32)), (.int (0 : Int32)), (.ref a3)])) (fun t k => XS.i2b X0.here hx rfl (hb hby d_jdk_52_method_21_code_30) rfl k) ?_
  obtain ⟨cl102, Ar102, qk102, Sz102, Nn102, Hs102, Gs102⟩ := id V3
  obtain ⟨T102, h102, X102, e102, W102, st102⟩ := stB X0 hx hZ eh0 Ar102 (j := (0 : Int32)) (inb_of (j := (0 : Int32)) Sz102 ⟨by decide, by decide⟩) (g := (mkF m 31 #[.val (.ref a1), .val (.int (0 : Int32)), .val (.ref a3), .val (.int (0 : Int32)), .val (.int (1 : Int32)), .val (.int (0 : Int32)), .val (.int x0)] [(.int (x0.toInt8.toInt32)), (.int (0 : Int32)), (.ref a3)])) rfl rfl (hb hby d_jdk_52_method_21_code_31)
  have V102 : Arv Z h102 a3 k3 .byte (1 : Int32) [(.int (x0.toInt8.toInt32).toInt8.toInt32)] (.int (0 : Int32)) := Arv.set Ar102 qk102 Sz102 Nn102 Hs102 Gs102 (fits_nar_byte _) W102 0 rfl (Nat.le_of_ble_eq_true rfl)
  have N102 := Fr.snoc X102 N0 G3
  refine Goes.step (S' := T102.setTop (mkF m 35 #[.val (.ref a1), .val (.int ((0 : Int32) + (1 : Int32))), .val (.ref a3), .val (.int (0 : Int32)), .val (.int (1 : Int32)), .val (.int (0 : Int32)), .val (.int x0)] [])) (fun t k => st102 _ (XS.iinc X102.here hx rfl (hb hby d_jdk_52_method_21_code_32) rfl (l' := #[.val (.ref a1), .val (.int ((0 : Int32) + (1 : Int32))), .val (.ref a3), .val (.int (0 : Int32)), .val (.int (1 : Int32)), .val (.int (0 : Int32)), .val (.int x0)]) rfl k)) ?_
  rw [show ((0 : Int32) + (1 : Int32)) = (1 : Int32) from by decide]
  refine Goes.step (S' := T102.setTop (mkF m 38 #[.val (.ref a1), .val (.int (1 : Int32)), .val (.ref a3), .val (.int ((0 : Int32) + (1 : Int32))), .val (.int (1 : Int32)), .val (.int (0 : Int32)), .val (.int x0)] [])) (fun t k => XS.iinc X102.here hx rfl (hb hby d_jdk_52_method_21_code_35) rfl (l' := #[.val (.ref a1), .val (.int (1 : Int32)), .val (.ref a3), .val (.int ((0 : Int32) + (1 : Int32))), .val (.int (1 : Int32)), .val (.int (0 : Int32)), .val (.int x0)]) rfl k) ?_
  rw [show ((0 : Int32) + (1 : Int32)) = (1 : Int32) from by decide]
  refine Goes.step (S' := T102.setTop (mkF m 41 #[.val (.ref a1), .val (.int (1 : Int32)), .val (.ref a3), .val (.int (1 : Int32)), .val (.int (1 : Int32)), .val (.int ((0 : Int32) + (1 : Int32))), .val (.int x0)] [])) (fun t k => XS.iinc X102.here hx rfl (hb hby d_jdk_52_method_21_code_38) rfl (l' := #[.val (.ref a1), .val (.int (1 : Int32)), .val (.ref a3), .val (.int (1 : Int32)), .val (.int (1 : Int32)), .val (.int ((0 : Int32) + (1 : Int32))), .val (.int x0)]) rfl k) ?_
  rw [show ((0 : Int32) + (1 : Int32)) = (1 : Int32) from by decide]
  refine Goes.step (S' := T102.setTop (mkF m 46 #[.val (.ref a1), .val (.int (1 : Int32)), .val (.ref a3), .val (.int (1 : Int32)), .val (.int (1 : Int32)), .val (.int (1 : Int32)), .val (.int x0)] [(.int (1 : Int32))])) (fun t k => XS.goto X102.here hx rfl (pc0 := 41) (pc' := 3) rfl (hb hby d_jdk_52_method_21_code_41) (by decide) (by decide) (XS.iload X102.here hx rfl (hb hby d_jdk_52_method_21_code_3) rfl (XS.iload X102.here hx rfl (hb hby d_jdk_52_method_21_code_5) rfl (XS.icmpYes X102.here hx rfl (pc0 := 7) (pc' := 44) rfl (hb hby d_jdk_52_method_21_code_7) rfl (flt ((by decide) : ¬ ((1 : Int32) < (1 : Int32)))).2.1 (by decide) (by decide) (XS.iload X102.here hx rfl (hb hby d_jdk_52_method_21_code_44) rfl k))))) ?_
  refine Goes.leave (g := (mkF m 46 #[.val (.ref a1), .val (.int (1 : Int32)), .val (.ref a3), .val (.int (1 : Int32)), .val (.int (1 : Int32)), .val (.int (1 : Int32)), .val (.int x0)] [(.int (1 : Int32))])) X102 Bd.notSynchronized (v := (some (.int (1 : Int32)))) (fun h => by rw [Bd.returns] at h; cases h) (fun fs hr => retI X102 hx Bd.returns (hb hby d_jdk_52_method_21_code_46) hr) e102 ?_ (by decide) (by decide)
  exact ⟨(.int (x0.toInt8.toInt32).toInt8.toInt32), rfl, N102, ((Keep.refl _ [a3]).wr W102 (Or.inl (List.mem_of_getElem? (i := 0) rfl))), V102⟩

theorem ef_cmq1 (m : MethodId) (x0 : Addr) (x1 : Int32) (x2 : Int32) : entryFrame m #[(.ref x0), (.int x1), (.int x2)] 6 = mkF m 0 #[.val (.ref x0), .val (.int x1), .val (.int x2), .unset, .unset, .unset] [] := by first | (simp [entryFrame, mkF, argsToLocals, Value.category]; done) | rfl
def Q_cmq1 (Z : State) (a1 : Addr) (k1 : ClassId) (x0 : Int32) (h0 : Heap) (n0 : Nat) (v : Option Value) (h : Heap) (L : List Loc) : Prop := ∃ (b : Addr) (kb : ClassId) (y0 : Value), v = some (.ref b) ∧ Fr n0 L ∧ Keep h0 h [] ∧ h0.size ≤ b ∧ Exa Z h b "[B" ∧ Arv Z h b kb .byte (1 : Int32) [y0] (.int (0 : Int32))
set_option maxRecDepth 65536 in
set_option maxHeartbeats 40000000 in
theorem cmq1 (l : Launch) (Z : State) (a0 : Array Value) (hw : ∀ d ∈ tables_1, d.before a0 Z = true) (ws : List Jvm.Cond) (a1 : Addr) (k1 : ClassId) (x0 : Int32) (h0 : Heap) (n0 : Nat) (Z0 : n0 ≤ h0.size) (V1 : Arv Z h0 a1 k1 .char (1 : Int32) [(.int x0)] (.int (0 : Int32))) (P0 : ¬ ((255 : Int32) < x0)) :
    MetFree l mth1 (head1 (Jvm.Cond.code mth1 jdk_52_method_16_code 6 (some (.array .byte)) :: ws) rom1) (fun a U => a = #[(.ref a1), (.int (0 : Int32)), (.int (1 : Int32))] ∧ Z.Warmed39 U.vm ∧ U.heap = h0) (fun _ _ _ _ _ => True) (fun _ U o U' => ∃ v L, o = .returned v ∧ Q_cmq1 Z a1 k1 x0 h0 n0 v U'.heap L ∧ FrameEnd U o U' L rom1.cells rom1.slots) := by
  refine MetFree.of_bodySF (plainFor_of_name pnm0) hisR ?_
  intro p e s m args below meth c s₁ Bd hml0 hP hK
  obtain ⟨rfl, hZ, hh⟩ := hP
  have hx := Bd.exec
  have hby := Bd.bytes
  have hml : c.maxLocals = 6 := hml0
  have hown : s.vm.findClass "java/lang/StringUTF16" = some m.cls := findClass_of_methodNamed Bd.named
  have hnm := (name_of_methodNamed Bd.named Bd.method).1
  have X0 : Stand p l e rom1 s m #[(.ref a1), (.int (0 : Int32)), (.int (1 : Int32))] below meth c s₁ [] 0 0 := Stand.of_body Bd
  have eh0 : s₁.heap = h0 := by rw [← hh, Bd.state]; rfl
  have N0 := Fr.nil n0
  have tw17 := hw _ (List.mem_of_getElem? (i := 17) rfl)
  have tw19 := hw _ (List.mem_of_getElem? (i := 19) rfl)
  have tw20 := hw _ (List.mem_of_getElem? (i := 20) rfl)
  have tw21 := hw _ (List.mem_of_getElem? (i := 21) rfl)
  have tw22 := hw _ (List.mem_of_getElem? (i := 22) rfl)
  show Goes p e below (Pq (Q_cmq1 Z a1 k1 x0 h0 n0) s rom1.cells rom1.slots) (s₁.setTop (entryFrame m #[(.ref a1), (.int (0 : Int32)), (.int (1 : Int32))] 6))
  refine Goes.step (S' := s₁.setTop (mkF m 0 #[.val (.ref a1), .val (.int (0 : Int32)), .val (.int (1 : Int32)), .unset, .unset, .unset] [])) (fun t k => castTop (ef_cmq1 m a1 (0 : Int32) (1 : Int32)) k) ?_
  refine Goes.step (S' := s₁.setTop (mkF m 1 #[.val (.ref a1), .val (.int (0 : Int32)), .val (.int (1 : Int32)), .unset, .unset, .unset] [(.int (1 : Int32))])) (fun t k => XS.iloadN X0.here hx rfl (hb hby d_jdk_52_method_16_code_0) rfl k) ?_
  obtain ⟨T101, h101, k101, X101, e101, E101, A101, AE101, st101⟩ := newPE (aty := .byte) X0 hx hZ tw19 eh0 (g := (mkF m 1 #[.val (.ref a1), .val (.int (0 : Int32)), .val (.int (1 : Int32)), .unset, .unset, .unset] [(.int (1 : Int32))])) rfl (hb hby d_jdk_52_method_16_code_1) rfl (by decide) (cap := 1) (by decide) (by decide) (by decide) (by decide) (ad := "[B") rfl
  obtain ⟨b101, g101⟩ : ∃ z, z = h0.size := ⟨_, rfl⟩
  rw [← g101] at A101 AE101 st101
  have V101 : Arv Z h101 b101 k101 .byte (1 : Int32) [(.int (0 : Int32))] (.int (0 : Int32)) := (Arv.new A101 (by decide)).pad (pad_rep [] (.int (0 : Int32)) 1)
  refine Goes.step (S' := T101.setTop (mkF m 9 #[.val (.ref a1), .val (.int (0 : Int32)), .val (.int (1 : Int32)), .val (.ref b101), .unset, .unset] [(.int (1 : Int32)), (.int (0 : Int32)), (.ref b101), (.int (0 : Int32)), (.ref a1)])) (fun t k => st101 _ (XS.astoreN X101.here hx rfl (hb hby d_jdk_52_method_16_code_3) rfl rfl (l' := #[.val (.ref a1), .val (.int (0 : Int32)), .val (.int (1 : Int32)), .val (.ref b101), .unset, .unset]) rfl (XS.aloadN X101.here hx rfl (hb hby d_jdk_52_method_16_code_4) rfl rfl (XS.iloadN X101.here hx rfl (hb hby d_jdk_52_method_16_code_5) rfl (XS.aloadN X101.here hx rfl (hb hby d_jdk_52_method_16_code_6) rfl rfl (XS.iconst X101.here hx rfl (hb hby d_jdk_52_method_16_code_7) (XS.iloadN X101.here hx rfl (hb hby d_jdk_52_method_16_code_8) rfl k))))))) ?_
  obtain ⟨_, _, ⟨T102, L102, k102, n102⟩, -, X102, ⟨Lc102, hQ102, l102, y102, z102⟩, st102⟩ := Jvm.LawKit.callS X101 hx (y := mth0) hown (mvT hZ tw20) (mvT hZ tw21) (mvT hZ tw17) (mvT hZ tw22) (by decide) (backOf (W := 0) (cmp1 l Z a0 hw [] a1 k1 b101 k101 x0 h101 n0 (Nat.le_trans Z0 E101.1) (V1.ext E101) V101 (Nat.le_trans Z0 (Nat.le_of_eq g101.symm)) (Nat.ne_of_lt (Nat.lt_of_lt_of_le V1.lt (Nat.le_of_eq g101.symm))) (P0 : ¬ ((255 : Int32) < x0))) hZ tw22 tw17 (by decide) (by decide)) (g := (mkF m 9 #[.val (.ref a1), .val (.int (0 : Int32)), .val (.int (1 : Int32)), .val (.ref b101), .unset, .unset] [(.int (1 : Int32)), (.int (0 : Int32)), (.ref b101), (.int (0 : Int32)), (.ref a1)])) rfl (by rw [hml]; rfl) (argsL := [(.ref a1), (.int (0 : Int32)), (.ref b101), (.int (0 : Int32)), (.int (1 : Int32))]) (rest := []) (lenOf pd_CI_BII_I rfl) rfl (Nat.le_of_eq rfl) (hb hby d_jdk_52_method_16_code_9) (fun _ _ => ⟨rfl, e101, (by decide : 1 + 0 ≤ _), (by decide : 1 + 0 ≤ _)⟩)
  dsimp only [Pt.U, Pt.locs, Pt.cells, Pt.slots] at X102 l102 y102 z102 st102 hQ102
  subst y102 z102
  obtain ⟨y0_102, rfl, Nq102, q102_0, q102_1⟩ := hQ102
  have N102 : Fr n0 L102 := by rw [l102]; exact Fr.app N0 Nq102
  refine Goes.step (S' := T102.setTop (mkF m 58 #[.val (.ref a1), .val (.int (0 : Int32)), .val (.int (1 : Int32)), .val (.ref b101), .val (.int (1 : Int32)), .unset] [(.ref b101)])) (fun t k => st102 _ (XS.istore X102.here hx rfl (hb hby d_jdk_52_method_16_code_12) rfl (l' := #[.val (.ref a1), .val (.int (0 : Int32)), .val (.int (1 : Int32)), .val (.ref b101), .val (.int (1 : Int32)), .unset]) rfl (XS.iload X102.here hx rfl (hb hby d_jdk_52_method_16_code_14) rfl (XS.iloadN X102.here hx rfl (hb hby d_jdk_52_method_16_code_16) rfl (XS.icmpYes X102.here hx rfl (pc0 := 17) (pc' := 57) rfl (hb hby d_jdk_52_method_16_code_17) rfl (teq ((by decide) : (1 : Int32) = (1 : Int32))).1 (by decide) (by decide) (XS.aloadN X102.here hx rfl (hb hby d_jdk_52_method_16_code_57) rfl rfl k)))))) ?_
  refine Goes.leave (g := (mkF m 58 #[.val (.ref a1), .val (.int (0 : Int32)), .val (.int (1 : Int32)), .val (.ref b101), .val (.int (1 : Int32)), .unset] [(.ref b101)])) X102 Bd.notSynchronized (v := (some (.ref b101))) (fun h => by rw [Bd.returns] at h; cases h) (fun fs hr => by jvm_step X102.here [X102.here.top, hx, (hb hby d_jdk_52_method_16_code_58), X102.method', Bd.returns, Value.isRef, FieldType.isReference]; (first | (intro acts; rw [hr _ acts rfl rfl rfl]) | rw [hr _ _ rfl rfl rfl]); exact Steps.refl _) rfl ?_ (by decide) (by decide)
  exact ⟨b101, k101, y0_102, rfl, N102, (((Keep.refl _ []).ext E101).trans q102_0 (allS (Or.inr (Nat.le_of_eq g101.symm)) all0)), (Nat.le_of_eq g101.symm), (AE101.keep q102_0), q102_1⟩

theorem ef_cfa1 (m : MethodId) (x0 : Addr) (x1 : Int32) : entryFrame m #[(.ref x0), (.int x1)] 2 = mkF m 0 #[.val (.ref x0), .val (.int x1)] [] := by first | (simp [entryFrame, mkF, argsToLocals, Value.category]; done) | rfl
def Q_cfa1 (Z : State) (a1 : Addr) (k1 : ClassId) (y0 : Value) (h0 : Heap) (n0 : Nat) (v : Option Value) (h : Heap) (L : List Loc) : Prop := v = some (.int (0 : Int32)) ∧ Fr n0 L ∧ h = h0
set_option maxRecDepth 65536 in
set_option maxHeartbeats 40000000 in
theorem cfa1 (l : Launch) (Z : State) (a0 : Array Value) (hw : ∀ d ∈ tables_1, d.before a0 Z = true) (ws : List Jvm.Cond) (a1 : Addr) (k1 : ClassId) (y0 : Value) (h0 : Heap) (n0 : Nat) (Z0 : n0 ≤ h0.size) (V1 : Arv Z h0 a1 k1 .byte (1 : Int32) [y0] (.int (0 : Int32))) :
    MetFree l mth2 (head1 (Jvm.Cond.code mth2 jdk_52_method_15_code 2 (some .byte) :: ws) rom0) (fun a U => a = #[(.ref a1), (.int (1 : Int32))] ∧ Z.Warmed39 U.vm ∧ U.heap = h0) (fun _ _ _ _ _ => True) (fun _ U o U' => ∃ v L, o = .returned v ∧ Q_cfa1 Z a1 k1 y0 h0 n0 v U'.heap L ∧ FrameEnd U o U' L rom0.cells rom0.slots) := by
  refine MetFree.of_bodySF (plainFor_of_name pnm0) hisR ?_
  intro p e s m args below meth c s₁ Bd hml0 hP hK
  obtain ⟨rfl, hZ, hh⟩ := hP
  have hx := Bd.exec
  have hby := Bd.bytes
  have hml : c.maxLocals = 2 := hml0
  have hown : s.vm.findClass "java/lang/StringUTF16" = some m.cls := findClass_of_methodNamed Bd.named
  have hnm := (name_of_methodNamed Bd.named Bd.method).1
  have X0 : Stand p l e rom0 s m #[(.ref a1), (.int (1 : Int32))] below meth c s₁ [] 0 0 := Stand.of_body Bd
  have eh0 : s₁.heap = h0 := by rw [← hh, Bd.state]; rfl
  have N0 := Fr.nil n0
  show Goes p e below (Pq (Q_cfa1 Z a1 k1 y0 h0 n0) s rom0.cells rom0.slots) (s₁.setTop (entryFrame m #[(.ref a1), (.int (1 : Int32))] 2))
  refine Goes.step (S' := s₁.setTop (mkF m 0 #[.val (.ref a1), .val (.int (1 : Int32))] [])) (fun t k => castTop (ef_cfa1 m a1 (1 : Int32)) k) ?_
  refine Goes.step (S' := s₁.setTop (mkF m 2 #[.val (.ref a1), .val (.int (1 : Int32))] [(.ref a1), (.int (1 : Int32))])) (fun t k => XS.iloadN X0.here hx rfl (hb hby d_jdk_52_method_15_code_0) rfl (XS.aloadN X0.here hx rfl (hb hby d_jdk_52_method_15_code_1) rfl rfl k)) ?_
  obtain ⟨cl101, Ar101, qk101, Sz101, Nn101, Hs101, Gs101⟩ := id V1
  refine Goes.step (S' := s₁.setTop (mkF m 3 #[.val (.ref a1), .val (.int (1 : Int32))] [(.int (1 : Int32)), (.int (1 : Int32))])) (fun t k => X0.arraylength hx (by rw [eh0]; exact Ar101.1) (State.isArrayOf_alike hZ.alike Ar101.2.1) (g := (mkF m 2 #[.val (.ref a1), .val (.int (1 : Int32))] [(.ref a1), (.int (1 : Int32))])) rfl rfl (hb hby d_jdk_52_method_15_code_2) _ (by rw [len_of Sz101 Nn101]; exact k)) ?_
  refine Goes.step (S' := s₁.setTop (mkF m 4 #[.val (.ref a1), .val (.int (1 : Int32))] [(.int ((1 : Int32) - (1 : Int32)))])) (fun t k => XS.isub X0.here hx rfl (hb hby d_jdk_52_method_15_code_3) rfl k) ?_
  rw [show ((1 : Int32) - (1 : Int32)) = (0 : Int32) from by decide]
  refine Goes.step (S' := s₁.setTop (mkF m 7 #[.val (.ref a1), .val (.int (1 : Int32))] [(.int (((0 : Int32).toUInt32 >>> ((31 : Int32) &&& 31).toUInt32).toInt32))])) (fun t k => XS.bipush X0.here hx rfl (hb hby d_jdk_52_method_15_code_4) (XS.iushr X0.here hx rfl (hb hby d_jdk_52_method_15_code_6) rfl k)) ?_
  rw [show (((0 : Int32).toUInt32 >>> ((31 : Int32) &&& 31).toUInt32).toInt32) = (0 : Int32) from by decide]
  refine Goes.step (S' := s₁.setTop (mkF m 8 #[.val (.ref a1), .val (.int (1 : Int32))] [(.int ((0 : Int32).toInt8.toInt32))])) (fun t k => XS.i2b X0.here hx rfl (hb hby d_jdk_52_method_15_code_7) rfl k) ?_
  rw [show ((0 : Int32).toInt8.toInt32) = (0 : Int32) from by decide]
  refine Goes.leave (g := (mkF m 8 #[.val (.ref a1), .val (.int (1 : Int32))] [(.int (0 : Int32))])) X0 Bd.notSynchronized (v := (some (.int (0 : Int32)))) (fun h => by rw [Bd.returns] at h; cases h) (fun fs hr => retN X0 hx (t := .byte) Bd.returns (by simp) (hb hby d_jdk_52_method_15_code_8) hr) eh0 ?_ (by decide) (by decide)
  exact ⟨rfl, N0, rfl⟩

theorem ef_sif1 (m : MethodId) (x0 : Addr) (x1 : Addr) (x2 : Int32) (x3 : Int32) : entryFrame m #[(.ref x0), (.ref x1), (.int x2), (.int x3), .null] 6 = mkF m 0 #[.val (.ref x0), .val (.ref x1), .val (.int x2), .val (.int x3), .val .null, .unset] [] := by first | (simp [entryFrame, mkF, argsToLocals, Value.category]; done) | rfl
def Q_sif1 (Z : State) (a1 : Addr) (a2 : Addr) (k1 : ClassId) (cs : Int32) (x0 : Int32) (h0 : Heap) (n0 : Nat) (v : Option Value) (h : Heap) (L : List Loc) : Prop := v = none ∧ Fr n0 L ∧ Keep h0 h [a1]
set_option maxRecDepth 65536 in
set_option maxHeartbeats 40000000 in
theorem sif1 (l : Launch) (Z : State) (a0 : Array Value) (hw : ∀ d ∈ tables_1, d.before a0 Z = true) (ws : List Jvm.Cond) (a1 : Addr) (a2 : Addr) (k1 : ClassId) (cs : Int32) (x0 : Int32) (h0 : Heap) (n0 : Nat) (Z0 : n0 ≤ h0.size) (E1 : Exa Z h0 a1 "java/lang/String") (Fv : Fld Z h0 a1 "java/lang/String" "value" "[B" .null) (Fc : Fld Z h0 a1 "java/lang/String" "coder" "B" (.int (0 : Int32))) (G1 : n0 ≤ a1) (SC : Sta Z h0 "java/lang/String" "COMPACT_STRINGS" "Z" (.int cs)) (PC : ¬ (cs = (0 : Int32))) (V1 : Arv Z h0 a2 k1 .char (1 : Int32) [(.int x0)] (.int (0 : Int32))) (P0 : ¬ ((255 : Int32) < x0)) :
    MetFree l mth3 (head1 (Jvm.Cond.code mth3 jdk_42_method_149_code 6 none :: ws) rom2) (fun a U => a = #[(.ref a1), (.ref a2), (.int (0 : Int32)), (.int (1 : Int32)), .null] ∧ Z.Warmed39 U.vm ∧ U.heap = h0) (fun _ _ _ _ _ => True) (fun _ U o U' => ∃ v L, o = .returned v ∧ Q_sif1 Z a1 a2 k1 cs x0 h0 n0 v U'.heap L ∧ FrameEnd U o U' L rom2.cells rom2.slots) := by
  refine MetFree.of_bodySF (plainFor_of_name pnm1) hisR ?_
  intro p e s m args below meth c s₁ Bd hml0 hP hK
  obtain ⟨rfl, hZ, hh⟩ := hP
  have hx := Bd.exec
  have hby := Bd.bytes
  have hml : c.maxLocals = 6 := hml0
  have hown : s.vm.findClass "java/lang/String" = some m.cls := findClass_of_methodNamed Bd.named
  have hnm := (name_of_methodNamed Bd.named Bd.method).1
  have X0 : Stand p l e rom2 s m #[(.ref a1), (.ref a2), (.int (0 : Int32)), (.int (1 : Int32)), .null] below meth c s₁ [] 0 0 := Stand.of_body Bd
  have eh0 : s₁.heap = h0 := by rw [← hh, Bd.state]; rfl
  have N0 := Fr.nil n0
  have tw2 := hw _ (List.mem_of_getElem? (i := 2) rfl)
  have tw11 := hw _ (List.mem_of_getElem? (i := 11) rfl)
  have tw12 := hw _ (List.mem_of_getElem? (i := 12) rfl)
  have tw13 := hw _ (List.mem_of_getElem? (i := 13) rfl)
  have tw14 := hw _ (List.mem_of_getElem? (i := 14) rfl)
  have tw15 := hw _ (List.mem_of_getElem? (i := 15) rfl)
  have tw16 := hw _ (List.mem_of_getElem? (i := 16) rfl)
  have tw17 := hw _ (List.mem_of_getElem? (i := 17) rfl)
  have tw18 := hw _ (List.mem_of_getElem? (i := 18) rfl)
  have tw23 := hw _ (List.mem_of_getElem? (i := 23) rfl)
  have tw24 := hw _ (List.mem_of_getElem? (i := 24) rfl)
  have tw25 := hw _ (List.mem_of_getElem? (i := 25) rfl)
  have tw26 := hw _ (List.mem_of_getElem? (i := 26) rfl)
  have tw27 := hw _ (List.mem_of_getElem? (i := 27) rfl)
  have tw28 := hw _ (List.mem_of_getElem? (i := 28) rfl)
  have tw29 := hw _ (List.mem_of_getElem? (i := 29) rfl)
  show Goes p e below (Pq (Q_sif1 Z a1 a2 k1 cs x0 h0 n0) s rom2.cells rom2.slots) (s₁.setTop (entryFrame m #[(.ref a1), (.ref a2), (.int (0 : Int32)), (.int (1 : Int32)), .null] 6))
  refine Goes.step (S' := s₁.setTop (mkF m 0 #[.val (.ref a1), .val (.ref a2), .val (.int (0 : Int32)), .val (.int (1 : Int32)), .val .null, .unset] [])) (fun t k => castTop (ef_sif1 m a1 a2 (0 : Int32) (1 : Int32)) k) ?_
  refine Goes.step (S' := s₁.setTop (mkF m 1 #[.val (.ref a1), .val (.ref a2), .val (.int (0 : Int32)), .val (.int (1 : Int32)), .val .null, .unset] [(.ref a1)])) (fun t k => XS.aloadN X0.here hx rfl (hb hby d_jdk_42_method_149_code_0) rfl rfl k) ?_
  obtain ⟨T101, X101, e101, st101⟩ := initO X0 hx hZ hown tw11 tw12 tw13 eh0 (g := (mkF m 1 #[.val (.ref a1), .val (.ref a2), .val (.int (0 : Int32)), .val (.int (1 : Int32)), .val .null, .unset] [(.ref a1)])) rfl (by rw [hml]; rfl) rfl (hb hby d_jdk_42_method_149_code_1) (by decide) (W := 0) (Nat.le_of_eq rfl) (by decide)
  refine Goes.step (S' := T101.setTop (mkF m 27 #[.val (.ref a1), .val (.ref a2), .val (.int (0 : Int32)), .val (.int (1 : Int32)), .val .null, .unset] [])) (fun t k => st101 _ (XS.iloadN X101.here hx rfl (hb hby d_jdk_42_method_149_code_4) rfl (XS.ifYes X101.here hx rfl (pc0 := 5) (pc' := 27) rfl (hb hby d_jdk_42_method_149_code_5) rfl ((if0 _ _).trans (feq ((by decide) : ¬ ((1 : Int32) = (0 : Int32)))).2) (by decide) (by decide) k))) ?_
  obtain ⟨T102, X102, e102, st102⟩ := getS2 X101 hx hZ hown (host := "") (Or.inl tw14) Via.refl e101 SC (g := (mkF m 27 #[.val (.ref a1), .val (.ref a2), .val (.int (0 : Int32)), .val (.int (1 : Int32)), .val .null, .unset] [])) rfl (hb hby d_jdk_42_method_149_code_27)
  refine Goes.step (S' := T102.setTop (mkF m 36 #[.val (.ref a1), .val (.ref a2), .val (.int (0 : Int32)), .val (.int (1 : Int32)), .val .null, .unset] [(.int (1 : Int32)), (.int (0 : Int32)), (.ref a2)])) (fun t k => st102 _ (XS.ifNo X102.here hx rfl (hb hby d_jdk_42_method_149_code_30) rfl ((if0 _ _).trans (feq (PC : ¬ (cs = (0 : Int32)))).1) (XS.aloadN X102.here hx rfl (hb hby d_jdk_42_method_149_code_33) rfl rfl (XS.iloadN X102.here hx rfl (hb hby d_jdk_42_method_149_code_34) rfl (XS.iloadN X102.here hx rfl (hb hby d_jdk_42_method_149_code_35) rfl k))))) ?_
  obtain ⟨_, _, ⟨T103, L103, k103, n103⟩, -, X103, ⟨Lc103, hQ103, l103, y103, z103⟩, st103⟩ := Jvm.LawKit.callS X102 hx (y := mth1) hown (mvT hZ tw15) (mvT hZ tw16) (mvT hZ tw17) (mvT hZ tw18) (by decide) (backOf (W := 0) (cmq1 l Z a0 hw [] a2 k1 x0 h0 n0 Z0 V1 (P0 : ¬ ((255 : Int32) < x0))) hZ tw18 tw17 (by decide) (by decide)) (g := (mkF m 36 #[.val (.ref a1), .val (.ref a2), .val (.int (0 : Int32)), .val (.int (1 : Int32)), .val .null, .unset] [(.int (1 : Int32)), (.int (0 : Int32)), (.ref a2)])) rfl (by rw [hml]; rfl) (argsL := [(.ref a2), (.int (0 : Int32)), (.int (1 : Int32))]) (rest := []) (lenOf pd_CII__B rfl) rfl (Nat.le_of_eq rfl) (hb hby d_jdk_42_method_149_code_36) (fun _ _ => ⟨rfl, e102, (by decide : 0 + 1 ≤ _), (by decide : 0 + 1 ≤ _)⟩)
  dsimp only [Pt.U, Pt.locs, Pt.cells, Pt.slots] at X103 l103 y103 z103 st103 hQ103
  subst y103 z103
  obtain ⟨b_103, kb_103, y0_103, rfl, Nq103, q103_0, q103_1, q103_2, q103_3⟩ := hQ103
  have N103 : Fr n0 L103 := by rw [l103]; exact Fr.app N0 Nq103
  refine Goes.step (S' := T103.setTop (mkF m 45 #[.val (.ref a1), .val (.ref a2), .val (.int (0 : Int32)), .val (.int (1 : Int32)), .val .null, .val (.ref b_103)] [(.int (1 : Int32)), (.ref b_103), (.ref a1)])) (fun t k => st103 _ (XS.astore X103.here hx rfl (hb hby d_jdk_42_method_149_code_39) rfl rfl (l' := #[.val (.ref a1), .val (.ref a2), .val (.int (0 : Int32)), .val (.int (1 : Int32)), .val .null, .val (.ref b_103)]) rfl (XS.aloadN X103.here hx rfl (hb hby d_jdk_42_method_149_code_41) rfl rfl (XS.aload X103.here hx rfl (hb hby d_jdk_42_method_149_code_42) rfl rfl (XS.iloadN X103.here hx rfl (hb hby d_jdk_42_method_149_code_44) rfl k))))) ?_
  obtain ⟨_, _, ⟨T104, L104, k104, n104⟩, -, X104, ⟨Lc104, hQ104, l104, y104, z104⟩, st104⟩ := Jvm.LawKit.callS X103 hx (y := mth2) hown (mvT hZ tw23) (mvT hZ tw24) (mvT hZ tw17) (mvT hZ tw25) (by decide) (backOf (W := 1) (cfa1 l Z a0 hw [] b_103 kb_103 y0_103 T103.heap n0 (Nat.le_trans Z0 q103_0.1) q103_3) hZ tw25 tw17 (by decide) (by decide)) (g := (mkF m 45 #[.val (.ref a1), .val (.ref a2), .val (.int (0 : Int32)), .val (.int (1 : Int32)), .val .null, .val (.ref b_103)] [(.int (1 : Int32)), (.ref b_103), (.ref a1)])) rfl (by rw [hml]; rfl) (argsL := [(.ref b_103), (.int (1 : Int32))]) (rest := [(.ref a1)]) (lenOf pd_BI_B rfl) rfl (Nat.le_of_eq rfl) (hb hby d_jdk_42_method_149_code_45) (fun _ _ => ⟨rfl, rfl, (by decide : 1 + 0 ≤ _), (by decide : 1 + 0 ≤ _)⟩)
  dsimp only [Pt.U, Pt.locs, Pt.cells, Pt.slots] at X104 l104 y104 z104 st104 hQ104
  subst y104 z104
  obtain ⟨rfl, Nq104, q104_0⟩ := hQ104
  have N104 : Fr n0 L104 := by rw [l104]; exact Fr.app N103 Nq104
  refine Goes.step (S' := T104.setTop (mkF m 48 #[.val (.ref a1), .val (.ref a2), .val (.int (0 : Int32)), .val (.int (1 : Int32)), .val .null, .val (.ref b_103)] [(.int (0 : Int32)), (.ref a1)])) (fun t k => st104 _ k) ?_
  obtain ⟨T105, h105, X105, e105, W105, st105⟩ := putFN X104 hx hZ hown tw26 Via.refl q104_0 (Fc.keep q103_0 nin0) (E1.keep q103_0) (Or.inr ⟨tw27, rfl, hnm⟩) tw2 (ty := .byte) (v' := (.int (0 : Int32))) (by decide) rfl (by decide) (g := (mkF m 48 #[.val (.ref a1), .val (.ref a2), .val (.int (0 : Int32)), .val (.int (1 : Int32)), .val .null, .val (.ref b_103)] [(.int (0 : Int32)), (.ref a1)])) rfl rfl (hb hby d_jdk_42_method_149_code_48)
  have Fw105 : Fld Z h105 a1 "java/lang/String" "coder" "B" (.int (0 : Int32)) := Fld.same W105 (Fc.keep q103_0 nin0)
  have N105 := Fr.snoc X105 N104 G1
  refine Goes.step (S' := T105.setTop (mkF m 54 #[.val (.ref a1), .val (.ref a2), .val (.int (0 : Int32)), .val (.int (1 : Int32)), .val .null, .val (.ref b_103)] [(.ref b_103), (.ref a1)])) (fun t k => st105 _ (XS.aloadN X105.here hx rfl (hb hby d_jdk_42_method_149_code_51) rfl rfl (XS.aload X105.here hx rfl (hb hby d_jdk_42_method_149_code_52) rfl rfl k))) ?_
  obtain ⟨T106, h106, X106, e106, W106, st106⟩ := putF X105 hx hZ hown (host := "") (Or.inl tw28) Via.refl e105 (Fld.other W105 (Fv.keep q103_0 nin0) (Or.inr (slot_ne (Or.inr tw29) (Or.inr tw27) (by decide) (t := (.array .byte)) (t' := .byte) (by decide) (by decide)))) (Exa.wr W105 (E1.keep q103_0)) (Or.inr ⟨tw29, rfl, hnm⟩) tw2 (ty := (.array .byte)) (by decide) rfl rfl (g := (mkF m 54 #[.val (.ref a1), .val (.ref a2), .val (.int (0 : Int32)), .val (.int (1 : Int32)), .val .null, .val (.ref b_103)] [(.ref b_103), (.ref a1)])) rfl rfl (hb hby d_jdk_42_method_149_code_54)
  have Fw106 : Fld Z h106 a1 "java/lang/String" "value" "[B" (.ref b_103) := Fld.same W106 (Fld.other W105 (Fv.keep q103_0 nin0) (Or.inr (slot_ne (Or.inr tw29) (Or.inr tw27) (by decide) (t := (.array .byte)) (t' := .byte) (by decide) (by decide))))
  have N106 := Fr.snoc X106 N105 G1
  refine Goes.step (S' := T106.setTop (mkF m 57 #[.val (.ref a1), .val (.ref a2), .val (.int (0 : Int32)), .val (.int (1 : Int32)), .val .null, .val (.ref b_103)] [])) (fun t k => st106 _ k) ?_
  refine Goes.leave (g := (mkF m 57 #[.val (.ref a1), .val (.ref a2), .val (.int (0 : Int32)), .val (.int (1 : Int32)), .val .null, .val (.ref b_103)] [])) X106 Bd.notSynchronized (v := none) (fun _ => rfl) (fun fs hr => X106.returnOut hx Bd.returns (hb hby d_jdk_42_method_149_code_57) hr) e106 ?_ (by decide) (by decide)
  exact ⟨rfl, N106, ((((Keep.refl _ [a1]).trans q103_0 all0).wr W105 (Or.inl (List.mem_of_getElem? (i := 0) rfl))).wr W106 (Or.inl (List.mem_of_getElem? (i := 0) rfl)))⟩

theorem ef_sic1 (m : MethodId) (x0 : Addr) (x1 : Addr) : entryFrame m #[(.ref x0), (.ref x1)] 2 = mkF m 0 #[.val (.ref x0), .val (.ref x1)] [] := by first | (simp [entryFrame, mkF, argsToLocals, Value.category]; done) | rfl
def Q_sic1 (Z : State) (a1 : Addr) (a2 : Addr) (k1 : ClassId) (cs : Int32) (x0 : Int32) (h0 : Heap) (n0 : Nat) (v : Option Value) (h : Heap) (L : List Loc) : Prop := v = none ∧ Fr n0 L ∧ Keep h0 h [a1]
set_option maxRecDepth 65536 in
set_option maxHeartbeats 40000000 in
theorem sic1 (l : Launch) (Z : State) (a0 : Array Value) (hw : ∀ d ∈ tables_1, d.before a0 Z = true) (ws : List Jvm.Cond) (a1 : Addr) (a2 : Addr) (k1 : ClassId) (cs : Int32) (x0 : Int32) (h0 : Heap) (n0 : Nat) (Z0 : n0 ≤ h0.size) (E1 : Exa Z h0 a1 "java/lang/String") (Fv : Fld Z h0 a1 "java/lang/String" "value" "[B" .null) (Fc : Fld Z h0 a1 "java/lang/String" "coder" "B" (.int (0 : Int32))) (G1 : n0 ≤ a1) (SC : Sta Z h0 "java/lang/String" "COMPACT_STRINGS" "Z" (.int cs)) (PC : ¬ (cs = (0 : Int32))) (V1 : Arv Z h0 a2 k1 .char (1 : Int32) [(.int x0)] (.int (0 : Int32))) (P0 : ¬ ((255 : Int32) < x0)) :
    MetFree l mth4 (head1 (Jvm.Cond.code mth4 jdk_42_method_3_code 2 none :: ws) rom3) (fun a U => a = #[(.ref a1), (.ref a2)] ∧ Z.Warmed39 U.vm ∧ U.heap = h0) (fun _ _ _ _ _ => True) (fun _ U o U' => ∃ v L, o = .returned v ∧ Q_sic1 Z a1 a2 k1 cs x0 h0 n0 v U'.heap L ∧ FrameEnd U o U' L rom3.cells rom3.slots) := by
  refine MetFree.of_bodySF (plainFor_of_name pnm1) hisR ?_
  intro p e s m args below meth c s₁ Bd hml0 hP hK
  obtain ⟨rfl, hZ, hh⟩ := hP
  have hx := Bd.exec
  have hby := Bd.bytes
  have hml : c.maxLocals = 2 := hml0
  have hown : s.vm.findClass "java/lang/String" = some m.cls := findClass_of_methodNamed Bd.named
  have hnm := (name_of_methodNamed Bd.named Bd.method).1
  have X0 : Stand p l e rom3 s m #[(.ref a1), (.ref a2)] below meth c s₁ [] 0 0 := Stand.of_body Bd
  have eh0 : s₁.heap = h0 := by rw [← hh, Bd.state]; rfl
  have N0 := Fr.nil n0
  have tw3 := hw _ (List.mem_of_getElem? (i := 3) rfl)
  have tw7 := hw _ (List.mem_of_getElem? (i := 7) rfl)
  have tw8 := hw _ (List.mem_of_getElem? (i := 8) rfl)
  have tw10 := hw _ (List.mem_of_getElem? (i := 10) rfl)
  show Goes p e below (Pq (Q_sic1 Z a1 a2 k1 cs x0 h0 n0) s rom3.cells rom3.slots) (s₁.setTop (entryFrame m #[(.ref a1), (.ref a2)] 2))
  refine Goes.step (S' := s₁.setTop (mkF m 0 #[.val (.ref a1), .val (.ref a2)] [])) (fun t k => castTop (ef_sic1 m a1 a2) k) ?_
  refine Goes.step (S' := s₁.setTop (mkF m 4 #[.val (.ref a1), .val (.ref a2)] [(.ref a2), (.int (0 : Int32)), (.ref a2), (.ref a1)])) (fun t k => XS.aloadN X0.here hx rfl (hb hby d_jdk_42_method_3_code_0) rfl rfl (XS.aloadN X0.here hx rfl (hb hby d_jdk_42_method_3_code_1) rfl rfl (XS.iconst X0.here hx rfl (hb hby d_jdk_42_method_3_code_2) (XS.aloadN X0.here hx rfl (hb hby d_jdk_42_method_3_code_3) rfl rfl k)))) ?_
  obtain ⟨cl101, Ar101, qk101, Sz101, Nn101, Hs101, Gs101⟩ := id V1
  refine Goes.step (S' := s₁.setTop (mkF m 5 #[.val (.ref a1), .val (.ref a2)] [(.int (1 : Int32)), (.int (0 : Int32)), (.ref a2), (.ref a1)])) (fun t k => X0.arraylength hx (by rw [eh0]; exact Ar101.1) (State.isArrayOf_alike hZ.alike Ar101.2.1) (g := (mkF m 4 #[.val (.ref a1), .val (.ref a2)] [(.ref a2), (.int (0 : Int32)), (.ref a2), (.ref a1)])) rfl rfl (hb hby d_jdk_42_method_3_code_4) _ (by rw [len_of Sz101 Nn101]; exact k)) ?_
  refine Goes.step (S' := s₁.setTop (mkF m 6 #[.val (.ref a1), .val (.ref a2)] [.null, (.int (1 : Int32)), (.int (0 : Int32)), (.ref a2), (.ref a1)])) (fun t k => XS.aconstNull X0.here hx rfl (hb hby d_jdk_42_method_3_code_5) k) ?_
  obtain ⟨_, _, ⟨T102, L102, k102, n102⟩, -, X102, ⟨Lc102, hQ102, l102, y102, z102⟩, st102⟩ := X0.specialBack hx (y := mth3) rfl hown (mvT hZ tw7) (mvT hZ tw8) (mvT hZ tw10) (by decide) (backOf (W := 0) (sif1 l Z a0 hw [] a1 a2 k1 cs x0 h0 n0 Z0 E1 Fv Fc G1 SC (PC : ¬ (cs = (0 : Int32))) V1 (P0 : ¬ ((255 : Int32) < x0))) hZ tw10 tw3 (by decide) (by decide)) (g := (mkF m 6 #[.val (.ref a1), .val (.ref a2)] [.null, (.int (1 : Int32)), (.int (0 : Int32)), (.ref a2), (.ref a1)])) rfl (by rw [hml]; rfl) (Steps.refl _) (a := a1) (argsL := [(.ref a2), (.int (0 : Int32)), (.int (1 : Int32)), .null]) (rest := []) (lenOf pd_CIILjava_lang_Void__V rfl) rfl (Nat.le_of_eq rfl) (hb hby d_jdk_42_method_3_code_6) (fun _ _ => ⟨rfl, eh0, (by decide : 0 + 1 ≤ _), (by decide : 0 + 1 ≤ _)⟩)
  dsimp only [Pt.U, Pt.locs, Pt.cells, Pt.slots] at X102 l102 y102 z102 st102 hQ102
  subst y102 z102
  obtain ⟨rfl, Nq102, q102_0⟩ := hQ102
  have N102 : Fr n0 L102 := by rw [l102]; exact Fr.app N0 Nq102
  refine Goes.step (S' := T102.setTop (mkF m 9 #[.val (.ref a1), .val (.ref a2)] [])) (fun t k => st102.trans k) ?_
  refine Goes.leave (g := (mkF m 9 #[.val (.ref a1), .val (.ref a2)] [])) X102 Bd.notSynchronized (v := none) (fun _ => rfl) (fun fs hr => X102.returnOut hx Bd.returns (hb hby d_jdk_42_method_3_code_9) hr) rfl ?_ (by decide) (by decide)
  exact ⟨rfl, N102, ((Keep.refl _ [a1]).trans q102_0 (allS (Or.inl (List.mem_of_getElem? (i := 0) rfl)) all0))⟩

theorem ef_cmp2 (m : MethodId) (x0 : Addr) (x1 : Int32) (x2 : Addr) (x3 : Int32) (x4 : Int32) : entryFrame m #[(.ref x0), (.int x1), (.ref x2), (.int x3), (.int x4)] 7 = mkF m 0 #[.val (.ref x0), .val (.int x1), .val (.ref x2), .val (.int x3), .val (.int x4), .unset, .unset] [] := by first | (simp [entryFrame, mkF, argsToLocals, Value.category]; done) | rfl
def Q_cmp2 (Z : State) (a1 : Addr) (k1 : ClassId) (a3 : Addr) (k3 : ClassId) (x0 : Int32) (x1 : Int32) (h0 : Heap) (n0 : Nat) (v : Option Value) (h : Heap) (L : List Loc) : Prop := ∃ (y0 : Value) (y1 : Value), v = some (.int (2 : Int32)) ∧ Fr n0 L ∧ Keep h0 h [a3] ∧ Arv Z h a3 k3 .byte (2 : Int32) [y0, y1] (.int (0 : Int32))
set_option maxRecDepth 65536 in
set_option maxHeartbeats 40000000 in
theorem cmp2 (l : Launch) (Z : State) (a0 : Array Value) (hw : ∀ d ∈ tables_1, d.before a0 Z = true) (ws : List Jvm.Cond) (a1 : Addr) (k1 : ClassId) (a3 : Addr) (k3 : ClassId) (x0 : Int32) (x1 : Int32) (h0 : Heap) (n0 : Nat) (Z0 : n0 ≤ h0.size) (V1 : Arv Z h0 a1 k1 .char (2 : Int32) [(.int x0), (.int x1)] (.int (0 : Int32))) (V3 : Arv Z h0 a3 k3 .byte (2 : Int32) [(.int (0 : Int32)), (.int (0 : Int32))] (.int (0 : Int32))) (G3 : n0 ≤ a3) (NE : a1 ≠ a3) (P0 : ¬ ((255 : Int32) < x0)) (P1 : ¬ ((255 : Int32) < x1)) :
    MetFree l mth0 (head1 (Jvm.Cond.code mth0 jdk_52_method_21_code 7 (some .int) :: ws) rom0) (fun a U => a = #[(.ref a1), (.int (0 : Int32)), (.ref a3), (.int (0 : Int32)), (.int (2 : Int32))] ∧ Z.Warmed39 U.vm ∧ U.heap = h0) (fun _ _ _ _ _ => True) (fun _ U o U' => ∃ v L, o = .returned v ∧ Q_cmp2 Z a1 k1 a3 k3 x0 x1 h0 n0 v U'.heap L ∧ FrameEnd U o U' L rom0.cells rom0.slots) := by
  refine MetFree.of_bodySF (plainFor_of_name pnm0) hisR ?_
  intro p e s m args below meth c s₁ Bd hml0 hP hK
  obtain ⟨rfl, hZ, hh⟩ := hP
  have hx := Bd.exec
  have hby := Bd.bytes
  have hml : c.maxLocals = 7 := hml0
  have hown : s.vm.findClass "java/lang/StringUTF16" = some m.cls := findClass_of_methodNamed Bd.named
  have hnm := (name_of_methodNamed Bd.named Bd.method).1
  have X0 : Stand p l e rom0 s m #[(.ref a1), (.int (0 : Int32)), (.ref a3), (.int (0 : Int32)), (.int (2 : Int32))] below meth c s₁ [] 0 0 := Stand.of_body Bd
  have eh0 : s₁.heap = h0 := by rw [← hh, Bd.state]; rfl
  have N0 := Fr.nil n0
  show Goes p e below (Pq (Q_cmp2 Z a1 k1 a3 k3 x0 x1 h0 n0) s rom0.cells rom0.slots) (s₁.setTop (entryFrame m #[(.ref a1), (.int (0 : Int32)), (.ref a3), (.int (0 : Int32)), (.int (2 : Int32))] 7))
  refine Goes.step (S' := s₁.setTop (mkF m 0 #[.val (.ref a1), .val (.int (0 : Int32)), .val (.ref a3), .val (.int (0 : Int32)), .val (.int (2 : Int32)), .unset, .unset] [])) (fun t k => castTop (ef_cmp2 m a1 (0 : Int32) a3 (0 : Int32) (2 : Int32)) k) ?_
  refine Goes.step (S' := s₁.setTop (mkF m 12 #[.val (.ref a1), .val (.int (0 : Int32)), .val (.ref a3), .val (.int (0 : Int32)), .val (.int (2 : Int32)), .val (.int (0 : Int32)), .unset] [(.int (0 : Int32)), (.ref a1)])) (fun t k => XS.iconst X0.here hx rfl (hb hby d_jdk_52_method_21_code_0) (XS.istore X0.here hx rfl (hb hby d_jdk_52_method_21_code_1) rfl (l' := #[.val (.ref a1), .val (.int (0 : Int32)), .val (.ref a3), .val (.int (0 : Int32)), .val (.int (2 : Int32)), .val (.int (0 : Int32)), .unset]) rfl (XS.iload X0.here hx rfl (hb hby d_jdk_52_method_21_code_3) rfl (XS.iload X0.here hx rfl (hb hby d_jdk_52_method_21_code_5) rfl (XS.icmpNo X0.here hx rfl (hb hby d_jdk_52_method_21_code_7) rfl (tlt ((by decide) : (0 : Int32) < (2 : Int32))).2.1 (XS.aloadN X0.here hx rfl (hb hby d_jdk_52_method_21_code_10) rfl rfl (XS.iloadN X0.here hx rfl (hb hby d_jdk_52_method_21_code_11) rfl k))))))) ?_
  obtain ⟨cl101, Ar101, qk101, Sz101, Nn101, Hs101, Gs101⟩ := id V1
  have hin101 := (inb_of (j := (0 : Int32)) Sz101 ⟨by decide, by decide⟩)
  refine Goes.step (S' := s₁.setTop (mkF m 30 #[.val (.ref a1), .val (.int (0 : Int32)), .val (.ref a3), .val (.int (0 : Int32)), .val (.int (2 : Int32)), .val (.int (0 : Int32)), .val (.int x0)] [(.int x0), (.int (0 : Int32)), (.ref a3)])) (fun t k => X0.caload hx (j := (0 : Int32)) (v := (.int x0)) (by rw [eh0]; exact Ar101.1) (State.isArrayOf_alike hZ.alike Ar101.2.1) Ar101.2.2 hin101 (Has.at Hs101 hin101 rfl) (g := (mkF m 12 #[.val (.ref a1), .val (.int (0 : Int32)), .val (.ref a3), .val (.int (0 : Int32)), .val (.int (2 : Int32)), .val (.int (0 : Int32)), .unset] [(.int (0 : Int32)), (.ref a1)])) rfl rfl (hb hby d_jdk_52_method_21_code_12) _ (XS.istore X0.here hx rfl (hb hby d_jdk_52_method_21_code_13) rfl (l' := #[.val (.ref a1), .val (.int (0 : Int32)), .val (.ref a3), .val (.int (0 : Int32)), .val (.int (2 : Int32)), .val (.int (0 : Int32)), .val (.int x0)]) rfl (XS.iload X0.here hx rfl (hb hby d_jdk_52_method_21_code_15) rfl (XS.sipush X0.here hx rfl (hb hby d_jdk_52_method_21_code_17) (XS.icmpYes X0.here hx rfl (pc0 := 20) (pc' := 26) rfl (hb hby d_jdk_52_method_21_code_20) rfl (flt (P0 : ¬ ((255 : Int32) < x0))).2.2.2 (by decide) (by decide) (XS.aloadN X0.here hx rfl (hb hby d_jdk_52_method_21_code_26) rfl rfl (XS.iloadN X0.here hx rfl (hb hby d_jdk_52_method_21_code_27) rfl (XS.iload X0.here hx rfl (hb hby d_jdk_52_method_21_code_28) rfl k)))))))) ?_
  refine Goes.step (S' := s₁.setTop (mkF m 31 #[.val (.ref a1), .val (.int (0 : Int32)), .val (.ref a3), .val (.int (0 : Int32)), .val (.int (2 : Int32)), .val (.int (0 : Int32)), .val (.int x0)] [(.int (x0.toInt8.toInt32)), (.int (0 : Int32)), (.ref a3)])) (fun t k => XS.i2b X0.here hx rfl (hb hby d_jdk_52_method_21_code_30) rfl k) ?_
  obtain ⟨cl102, Ar102, qk102, Sz102, Nn102, Hs102, Gs102⟩ := id V3
  obtain ⟨T102, h102, X102, e102, W102, st102⟩ := stB X0 hx hZ eh0 Ar102 (j := (0 : Int32)) (inb_of (j := (0 : Int32)) Sz102 ⟨by decide, by decide⟩) (g := (mkF m 31 #[.val (.ref a1), .val (.int (0 : Int32)), .val (.ref a3), .val (.int (0 : Int32)), .val (.int (2 : Int32)), .val (.int (0 : Int32)), .val (.int x0)] [(.int (x0.toInt8.toInt32)), (.int (0 : Int32)), (.ref a3)])) rfl rfl (hb hby d_jdk_52_method_21_code_31)
  have V102 : Arv Z h102 a3 k3 .byte (2 : Int32) [(.int (x0.toInt8.toInt32).toInt8.toInt32), (.int (0 : Int32))] (.int (0 : Int32)) := Arv.set Ar102 qk102 Sz102 Nn102 Hs102 Gs102 (fits_nar_byte _) W102 0 rfl (Nat.le_of_ble_eq_true rfl)
  have N102 := Fr.snoc X102 N0 G3
  refine Goes.step (S' := T102.setTop (mkF m 35 #[.val (.ref a1), .val (.int ((0 : Int32) + (1 : Int32))), .val (.ref a3), .val (.int (0 : Int32)), .val (.int (2 : Int32)), .val (.int (0 : Int32)), .val (.int x0)] [])) (fun t k => st102 _ (XS.iinc X102.here hx rfl (hb hby d_jdk_52_method_21_code_32) rfl (l' := #[.val (.ref a1), .val (.int ((0 : Int32) + (1 : Int32))), .val (.ref a3), .val (.int (0 : Int32)), .val (.int (2 : Int32)), .val (.int (0 : Int32)), .val (.int x0)]) rfl k)) ?_
  rw [show ((0 : Int32) + (1 : Int32)) = (1 : Int32) from by decide]
  refine Goes.step (S' := T102.setTop (mkF m 38 #[.val (.ref a1), .val (.int (1 : Int32)), .val (.ref a3), .val (.int ((0 : Int32) + (1 : Int32))), .val (.int (2 : Int32)), .val (.int (0 : Int32)), .val (.int x0)] [])) (fun t k => XS.iinc X102.here hx rfl (hb hby d_jdk_52_method_21_code_35) rfl (l' := #[.val (.ref a1), .val (.int (1 : Int32)), .val (.ref a3), .val (.int ((0 : Int32) + (1 : Int32))), .val (.int (2 : Int32)), .val (.int (0 : Int32)), .val (.int x0)]) rfl k) ?_
  rw [show ((0 : Int32) + (1 : Int32)) = (1 : Int32) from by decide]
  refine Goes.step (S' := T102.setTop (mkF m 41 #[.val (.ref a1), .val (.int (1 : Int32)), .val (.ref a3), .val (.int (1 : Int32)), .val (.int (2 : Int32)), .val (.int ((0 : Int32) + (1 : Int32))), .val (.int x0)] [])) (fun t k => XS.iinc X102.here hx rfl (hb hby d_jdk_52_method_21_code_38) rfl (l' := #[.val (.ref a1), .val (.int (1 : Int32)), .val (.ref a3), .val (.int (1 : Int32)), .val (.int (2 : Int32)), .val (.int ((0 : Int32) + (1 : Int32))), .val (.int x0)]) rfl k) ?_
  rw [show ((0 : Int32) + (1 : Int32)) = (1 : Int32) from by decide]
  refine Goes.step (S' := T102.setTop (mkF m 12 #[.val (.ref a1), .val (.int (1 : Int32)), .val (.ref a3), .val (.int (1 : Int32)), .val (.int (2 : Int32)), .val (.int (1 : Int32)), .val (.int x0)] [(.int (1 : Int32)), (.ref a1)])) (fun t k => XS.goto X102.here hx rfl (pc0 := 41) (pc' := 3) rfl (hb hby d_jdk_52_method_21_code_41) (by decide) (by decide) (XS.iload X102.here hx rfl (hb hby d_jdk_52_method_21_code_3) rfl (XS.iload X102.here hx rfl (hb hby d_jdk_52_method_21_code_5) rfl (XS.icmpNo X102.here hx rfl (hb hby d_jdk_52_method_21_code_7) rfl (tlt ((by decide) : (1 : Int32) < (2 : Int32))).2.1 (XS.aloadN X102.here hx rfl (hb hby d_jdk_52_method_21_code_10) rfl rfl (XS.iloadN X102.here hx rfl (hb hby d_jdk_52_method_21_code_11) rfl k)))))) ?_
  obtain ⟨cl103, Ar103, qk103, Sz103, Nn103, Hs103, Gs103⟩ := id (V1.other W102 NE)
  have hin103 := (inb_of (j := (1 : Int32)) Sz103 ⟨by decide, by decide⟩)
  refine Goes.step (S' := T102.setTop (mkF m 30 #[.val (.ref a1), .val (.int (1 : Int32)), .val (.ref a3), .val (.int (1 : Int32)), .val (.int (2 : Int32)), .val (.int (1 : Int32)), .val (.int x1)] [(.int x1), (.int (1 : Int32)), (.ref a3)])) (fun t k => X102.caload hx (j := (1 : Int32)) (v := (.int x1)) (by rw [e102]; exact Ar103.1) (State.isArrayOf_alike hZ.alike Ar103.2.1) Ar103.2.2 hin103 (Has.at Hs103 hin103 rfl) (g := (mkF m 12 #[.val (.ref a1), .val (.int (1 : Int32)), .val (.ref a3), .val (.int (1 : Int32)), .val (.int (2 : Int32)), .val (.int (1 : Int32)), .val (.int x0)] [(.int (1 : Int32)), (.ref a1)])) rfl rfl (hb hby d_jdk_52_method_21_code_12) _ (XS.istore X102.here hx rfl (hb hby d_jdk_52_method_21_code_13) rfl (l' := #[.val (.ref a1), .val (.int (1 : Int32)), .val (.ref a3), .val (.int (1 : Int32)), .val (.int (2 : Int32)), .val (.int (1 : Int32)), .val (.int x1)]) rfl (XS.iload X102.here hx rfl (hb hby d_jdk_52_method_21_code_15) rfl (XS.sipush X102.here hx rfl (hb hby d_jdk_52_method_21_code_17) (XS.icmpYes X102.here hx rfl (pc0 := 20) (pc' := 26) rfl (hb hby d_jdk_52_method_21_code_20) rfl (flt (P1 : ¬ ((255 : Int32) < x1))).2.2.2 (by decide) (by decide) (XS.aloadN X102.here hx rfl (hb hby d_jdk_52_method_21_code_26) rfl rfl (XS.iloadN X102.here hx rfl (hb hby d_jdk_52_method_21_code_27) rfl (XS.iload X102.here hx rfl (hb hby d_jdk_52_method_21_code_28) rfl k)))))))) ?_
  refine Goes.step (S' := T102.setTop (mkF m 31 #[.val (.ref a1), .val (.int (1 : Int32)), .val (.ref a3), .val (.int (1 : Int32)), .val (.int (2 : Int32)), .val (.int (1 : Int32)), .val (.int x1)] [(.int (x1.toInt8.toInt32)), (.int (1 : Int32)), (.ref a3)])) (fun t k => XS.i2b X102.here hx rfl (hb hby d_jdk_52_method_21_code_30) rfl k) ?_
  obtain ⟨cl104, Ar104, qk104, Sz104, Nn104, Hs104, Gs104⟩ := id V102
  obtain ⟨T104, h104, X104, e104, W104, st104⟩ := stB X102 hx hZ e102 Ar104 (j := (1 : Int32)) (inb_of (j := (1 : Int32)) Sz104 ⟨by decide, by decide⟩) (g := (mkF m 31 #[.val (.ref a1), .val (.int (1 : Int32)), .val (.ref a3), .val (.int (1 : Int32)), .val (.int (2 : Int32)), .val (.int (1 : Int32)), .val (.int x1)] [(.int (x1.toInt8.toInt32)), (.int (1 : Int32)), (.ref a3)])) rfl rfl (hb hby d_jdk_52_method_21_code_31)
  have V104 : Arv Z h104 a3 k3 .byte (2 : Int32) [(.int (x0.toInt8.toInt32).toInt8.toInt32), (.int (x1.toInt8.toInt32).toInt8.toInt32)] (.int (0 : Int32)) := Arv.set Ar104 qk104 Sz104 Nn104 Hs104 Gs104 (fits_nar_byte _) W104 1 rfl (Nat.le_of_ble_eq_true rfl)
  have N104 := Fr.snoc X104 N102 G3
  refine Goes.step (S' := T104.setTop (mkF m 35 #[.val (.ref a1), .val (.int ((1 : Int32) + (1 : Int32))), .val (.ref a3), .val (.int (1 : Int32)), .val (.int (2 : Int32)), .val (.int (1 : Int32)), .val (.int x1)] [])) (fun t k => st104 _ (XS.iinc X104.here hx rfl (hb hby d_jdk_52_method_21_code_32) rfl (l' := #[.val (.ref a1), .val (.int ((1 : Int32) + (1 : Int32))), .val (.ref a3), .val (.int (1 : Int32)), .val (.int (2 : Int32)), .val (.int (1 : Int32)), .val (.int x1)]) rfl k)) ?_
  rw [show ((1 : Int32) + (1 : Int32)) = (2 : Int32) from by decide]
  refine Goes.step (S' := T104.setTop (mkF m 38 #[.val (.ref a1), .val (.int (2 : Int32)), .val (.ref a3), .val (.int ((1 : Int32) + (1 : Int32))), .val (.int (2 : Int32)), .val (.int (1 : Int32)), .val (.int x1)] [])) (fun t k => XS.iinc X104.here hx rfl (hb hby d_jdk_52_method_21_code_35) rfl (l' := #[.val (.ref a1), .val (.int (2 : Int32)), .val (.ref a3), .val (.int ((1 : Int32) + (1 : Int32))), .val (.int (2 : Int32)), .val (.int (1 : Int32)), .val (.int x1)]) rfl k) ?_
  rw [show ((1 : Int32) + (1 : Int32)) = (2 : Int32) from by decide]
  refine Goes.step (S' := T104.setTop (mkF m 41 #[.val (.ref a1), .val (.int (2 : Int32)), .val (.ref a3), .val (.int (2 : Int32)), .val (.int (2 : Int32)), .val (.int ((1 : Int32) + (1 : Int32))), .val (.int x1)] [])) (fun t k => XS.iinc X104.here hx rfl (hb hby d_jdk_52_method_21_code_38) rfl (l' := #[.val (.ref a1), .val (.int (2 : Int32)), .val (.ref a3), .val (.int (2 : Int32)), .val (.int (2 : Int32)), .val (.int ((1 : Int32) + (1 : Int32))), .val (.int x1)]) rfl k) ?_
  rw [show ((1 : Int32) + (1 : Int32)) = (2 : Int32) from by decide]
  refine Goes.step (S' := T104.setTop (mkF m 46 #[.val (.ref a1), .val (.int (2 : Int32)), .val (.ref a3), .val (.int (2 : Int32)), .val (.int (2 : Int32)), .val (.int (2 : Int32)), .val (.int x1)] [(.int (2 : Int32))])) (fun t k => XS.goto X104.here hx rfl (pc0 := 41) (pc' := 3) rfl (hb hby d_jdk_52_method_21_code_41) (by decide) (by decide) (XS.iload X104.here hx rfl (hb hby d_jdk_52_method_21_code_3) rfl (XS.iload X104.here hx rfl (hb hby d_jdk_52_method_21_code_5) rfl (XS.icmpYes X104.here hx rfl (pc0 := 7) (pc' := 44) rfl (hb hby d_jdk_52_method_21_code_7) rfl (flt ((by decide) : ¬ ((2 : Int32) < (2 : Int32)))).2.1 (by decide) (by decide) (XS.iload X104.here hx rfl (hb hby d_jdk_52_method_21_code_44) rfl k))))) ?_
  refine Goes.leave (g := (mkF m 46 #[.val (.ref a1), .val (.int (2 : Int32)), .val (.ref a3), .val (.int (2 : Int32)), .val (.int (2 : Int32)), .val (.int (2 : Int32)), .val (.int x1)] [(.int (2 : Int32))])) X104 Bd.notSynchronized (v := (some (.int (2 : Int32)))) (fun h => by rw [Bd.returns] at h; cases h) (fun fs hr => retI X104 hx Bd.returns (hb hby d_jdk_52_method_21_code_46) hr) e104 ?_ (by decide) (by decide)
  exact ⟨(.int (x0.toInt8.toInt32).toInt8.toInt32), (.int (x1.toInt8.toInt32).toInt8.toInt32), rfl, N104, (((Keep.refl _ [a3]).wr W102 (Or.inl (List.mem_of_getElem? (i := 0) rfl))).wr W104 (Or.inl (List.mem_of_getElem? (i := 0) rfl))), V104⟩

theorem ef_cmq2 (m : MethodId) (x0 : Addr) (x1 : Int32) (x2 : Int32) : entryFrame m #[(.ref x0), (.int x1), (.int x2)] 6 = mkF m 0 #[.val (.ref x0), .val (.int x1), .val (.int x2), .unset, .unset, .unset] [] := by first | (simp [entryFrame, mkF, argsToLocals, Value.category]; done) | rfl
def Q_cmq2 (Z : State) (a1 : Addr) (k1 : ClassId) (x0 : Int32) (x1 : Int32) (h0 : Heap) (n0 : Nat) (v : Option Value) (h : Heap) (L : List Loc) : Prop := ∃ (b : Addr) (kb : ClassId) (y0 : Value) (y1 : Value), v = some (.ref b) ∧ Fr n0 L ∧ Keep h0 h [] ∧ h0.size ≤ b ∧ Exa Z h b "[B" ∧ Arv Z h b kb .byte (2 : Int32) [y0, y1] (.int (0 : Int32))
set_option maxRecDepth 65536 in
set_option maxHeartbeats 40000000 in
theorem cmq2 (l : Launch) (Z : State) (a0 : Array Value) (hw : ∀ d ∈ tables_1, d.before a0 Z = true) (ws : List Jvm.Cond) (a1 : Addr) (k1 : ClassId) (x0 : Int32) (x1 : Int32) (h0 : Heap) (n0 : Nat) (Z0 : n0 ≤ h0.size) (V1 : Arv Z h0 a1 k1 .char (2 : Int32) [(.int x0), (.int x1)] (.int (0 : Int32))) (P0 : ¬ ((255 : Int32) < x0)) (P1 : ¬ ((255 : Int32) < x1)) :
    MetFree l mth1 (head1 (Jvm.Cond.code mth1 jdk_52_method_16_code 6 (some (.array .byte)) :: ws) rom4) (fun a U => a = #[(.ref a1), (.int (0 : Int32)), (.int (2 : Int32))] ∧ Z.Warmed39 U.vm ∧ U.heap = h0) (fun _ _ _ _ _ => True) (fun _ U o U' => ∃ v L, o = .returned v ∧ Q_cmq2 Z a1 k1 x0 x1 h0 n0 v U'.heap L ∧ FrameEnd U o U' L rom4.cells rom4.slots) := by
  refine MetFree.of_bodySF (plainFor_of_name pnm0) hisR ?_
  intro p e s m args below meth c s₁ Bd hml0 hP hK
  obtain ⟨rfl, hZ, hh⟩ := hP
  have hx := Bd.exec
  have hby := Bd.bytes
  have hml : c.maxLocals = 6 := hml0
  have hown : s.vm.findClass "java/lang/StringUTF16" = some m.cls := findClass_of_methodNamed Bd.named
  have hnm := (name_of_methodNamed Bd.named Bd.method).1
  have X0 : Stand p l e rom4 s m #[(.ref a1), (.int (0 : Int32)), (.int (2 : Int32))] below meth c s₁ [] 0 0 := Stand.of_body Bd
  have eh0 : s₁.heap = h0 := by rw [← hh, Bd.state]; rfl
  have N0 := Fr.nil n0
  have tw17 := hw _ (List.mem_of_getElem? (i := 17) rfl)
  have tw19 := hw _ (List.mem_of_getElem? (i := 19) rfl)
  have tw20 := hw _ (List.mem_of_getElem? (i := 20) rfl)
  have tw21 := hw _ (List.mem_of_getElem? (i := 21) rfl)
  have tw22 := hw _ (List.mem_of_getElem? (i := 22) rfl)
  show Goes p e below (Pq (Q_cmq2 Z a1 k1 x0 x1 h0 n0) s rom4.cells rom4.slots) (s₁.setTop (entryFrame m #[(.ref a1), (.int (0 : Int32)), (.int (2 : Int32))] 6))
  refine Goes.step (S' := s₁.setTop (mkF m 0 #[.val (.ref a1), .val (.int (0 : Int32)), .val (.int (2 : Int32)), .unset, .unset, .unset] [])) (fun t k => castTop (ef_cmq2 m a1 (0 : Int32) (2 : Int32)) k) ?_
  refine Goes.step (S' := s₁.setTop (mkF m 1 #[.val (.ref a1), .val (.int (0 : Int32)), .val (.int (2 : Int32)), .unset, .unset, .unset] [(.int (2 : Int32))])) (fun t k => XS.iloadN X0.here hx rfl (hb hby d_jdk_52_method_16_code_0) rfl k) ?_
  obtain ⟨T101, h101, k101, X101, e101, E101, A101, AE101, st101⟩ := newPE (aty := .byte) X0 hx hZ tw19 eh0 (g := (mkF m 1 #[.val (.ref a1), .val (.int (0 : Int32)), .val (.int (2 : Int32)), .unset, .unset, .unset] [(.int (2 : Int32))])) rfl (hb hby d_jdk_52_method_16_code_1) rfl (by decide) (cap := 2) (by decide) (by decide) (by decide) (by decide) (ad := "[B") rfl
  obtain ⟨b101, g101⟩ : ∃ z, z = h0.size := ⟨_, rfl⟩
  rw [← g101] at A101 AE101 st101
  have V101 : Arv Z h101 b101 k101 .byte (2 : Int32) [(.int (0 : Int32)), (.int (0 : Int32))] (.int (0 : Int32)) := (Arv.new A101 (by decide)).pad (pad_rep [] (.int (0 : Int32)) 2)
  refine Goes.step (S' := T101.setTop (mkF m 9 #[.val (.ref a1), .val (.int (0 : Int32)), .val (.int (2 : Int32)), .val (.ref b101), .unset, .unset] [(.int (2 : Int32)), (.int (0 : Int32)), (.ref b101), (.int (0 : Int32)), (.ref a1)])) (fun t k => st101 _ (XS.astoreN X101.here hx rfl (hb hby d_jdk_52_method_16_code_3) rfl rfl (l' := #[.val (.ref a1), .val (.int (0 : Int32)), .val (.int (2 : Int32)), .val (.ref b101), .unset, .unset]) rfl (XS.aloadN X101.here hx rfl (hb hby d_jdk_52_method_16_code_4) rfl rfl (XS.iloadN X101.here hx rfl (hb hby d_jdk_52_method_16_code_5) rfl (XS.aloadN X101.here hx rfl (hb hby d_jdk_52_method_16_code_6) rfl rfl (XS.iconst X101.here hx rfl (hb hby d_jdk_52_method_16_code_7) (XS.iloadN X101.here hx rfl (hb hby d_jdk_52_method_16_code_8) rfl k))))))) ?_
  obtain ⟨_, _, ⟨T102, L102, k102, n102⟩, -, X102, ⟨Lc102, hQ102, l102, y102, z102⟩, st102⟩ := Jvm.LawKit.callS X101 hx (y := mth0) hown (mvT hZ tw20) (mvT hZ tw21) (mvT hZ tw17) (mvT hZ tw22) (by decide) (backOf (W := 0) (cmp2 l Z a0 hw [] a1 k1 b101 k101 x0 x1 h101 n0 (Nat.le_trans Z0 E101.1) (V1.ext E101) V101 (Nat.le_trans Z0 (Nat.le_of_eq g101.symm)) (Nat.ne_of_lt (Nat.lt_of_lt_of_le V1.lt (Nat.le_of_eq g101.symm))) (P0 : ¬ ((255 : Int32) < x0)) (P1 : ¬ ((255 : Int32) < x1))) hZ tw22 tw17 (by decide) (by decide)) (g := (mkF m 9 #[.val (.ref a1), .val (.int (0 : Int32)), .val (.int (2 : Int32)), .val (.ref b101), .unset, .unset] [(.int (2 : Int32)), (.int (0 : Int32)), (.ref b101), (.int (0 : Int32)), (.ref a1)])) rfl (by rw [hml]; rfl) (argsL := [(.ref a1), (.int (0 : Int32)), (.ref b101), (.int (0 : Int32)), (.int (2 : Int32))]) (rest := []) (lenOf pd_CI_BII_I rfl) rfl (Nat.le_of_eq rfl) (hb hby d_jdk_52_method_16_code_9) (fun _ _ => ⟨rfl, e101, (by decide : 1 + 0 ≤ _), (by decide : 2 + 0 ≤ _)⟩)
  dsimp only [Pt.U, Pt.locs, Pt.cells, Pt.slots] at X102 l102 y102 z102 st102 hQ102
  subst y102 z102
  obtain ⟨y0_102, y1_102, rfl, Nq102, q102_0, q102_1⟩ := hQ102
  have N102 : Fr n0 L102 := by rw [l102]; exact Fr.app N0 Nq102
  refine Goes.step (S' := T102.setTop (mkF m 58 #[.val (.ref a1), .val (.int (0 : Int32)), .val (.int (2 : Int32)), .val (.ref b101), .val (.int (2 : Int32)), .unset] [(.ref b101)])) (fun t k => st102 _ (XS.istore X102.here hx rfl (hb hby d_jdk_52_method_16_code_12) rfl (l' := #[.val (.ref a1), .val (.int (0 : Int32)), .val (.int (2 : Int32)), .val (.ref b101), .val (.int (2 : Int32)), .unset]) rfl (XS.iload X102.here hx rfl (hb hby d_jdk_52_method_16_code_14) rfl (XS.iloadN X102.here hx rfl (hb hby d_jdk_52_method_16_code_16) rfl (XS.icmpYes X102.here hx rfl (pc0 := 17) (pc' := 57) rfl (hb hby d_jdk_52_method_16_code_17) rfl (teq ((by decide) : (2 : Int32) = (2 : Int32))).1 (by decide) (by decide) (XS.aloadN X102.here hx rfl (hb hby d_jdk_52_method_16_code_57) rfl rfl k)))))) ?_
  refine Goes.leave (g := (mkF m 58 #[.val (.ref a1), .val (.int (0 : Int32)), .val (.int (2 : Int32)), .val (.ref b101), .val (.int (2 : Int32)), .unset] [(.ref b101)])) X102 Bd.notSynchronized (v := (some (.ref b101))) (fun h => by rw [Bd.returns] at h; cases h) (fun fs hr => by jvm_step X102.here [X102.here.top, hx, (hb hby d_jdk_52_method_16_code_58), X102.method', Bd.returns, Value.isRef, FieldType.isReference]; (first | (intro acts; rw [hr _ acts rfl rfl rfl]) | rw [hr _ _ rfl rfl rfl]); exact Steps.refl _) rfl ?_ (by decide) (by decide)
  exact ⟨b101, k101, y0_102, y1_102, rfl, N102, (((Keep.refl _ []).ext E101).trans q102_0 (allS (Or.inr (Nat.le_of_eq g101.symm)) all0)), (Nat.le_of_eq g101.symm), (AE101.keep q102_0), q102_1⟩

theorem ef_cfa2 (m : MethodId) (x0 : Addr) (x1 : Int32) : entryFrame m #[(.ref x0), (.int x1)] 2 = mkF m 0 #[.val (.ref x0), .val (.int x1)] [] := by first | (simp [entryFrame, mkF, argsToLocals, Value.category]; done) | rfl
def Q_cfa2 (Z : State) (a1 : Addr) (k1 : ClassId) (y0 : Value) (y1 : Value) (h0 : Heap) (n0 : Nat) (v : Option Value) (h : Heap) (L : List Loc) : Prop := v = some (.int (0 : Int32)) ∧ Fr n0 L ∧ h = h0
set_option maxRecDepth 65536 in
set_option maxHeartbeats 40000000 in
theorem cfa2 (l : Launch) (Z : State) (a0 : Array Value) (hw : ∀ d ∈ tables_1, d.before a0 Z = true) (ws : List Jvm.Cond) (a1 : Addr) (k1 : ClassId) (y0 : Value) (y1 : Value) (h0 : Heap) (n0 : Nat) (Z0 : n0 ≤ h0.size) (V1 : Arv Z h0 a1 k1 .byte (2 : Int32) [y0, y1] (.int (0 : Int32))) :
    MetFree l mth2 (head1 (Jvm.Cond.code mth2 jdk_52_method_15_code 2 (some .byte) :: ws) rom0) (fun a U => a = #[(.ref a1), (.int (2 : Int32))] ∧ Z.Warmed39 U.vm ∧ U.heap = h0) (fun _ _ _ _ _ => True) (fun _ U o U' => ∃ v L, o = .returned v ∧ Q_cfa2 Z a1 k1 y0 y1 h0 n0 v U'.heap L ∧ FrameEnd U o U' L rom0.cells rom0.slots) := by
  refine MetFree.of_bodySF (plainFor_of_name pnm0) hisR ?_
  intro p e s m args below meth c s₁ Bd hml0 hP hK
  obtain ⟨rfl, hZ, hh⟩ := hP
  have hx := Bd.exec
  have hby := Bd.bytes
  have hml : c.maxLocals = 2 := hml0
  have hown : s.vm.findClass "java/lang/StringUTF16" = some m.cls := findClass_of_methodNamed Bd.named
  have hnm := (name_of_methodNamed Bd.named Bd.method).1
  have X0 : Stand p l e rom0 s m #[(.ref a1), (.int (2 : Int32))] below meth c s₁ [] 0 0 := Stand.of_body Bd
  have eh0 : s₁.heap = h0 := by rw [← hh, Bd.state]; rfl
  have N0 := Fr.nil n0
  show Goes p e below (Pq (Q_cfa2 Z a1 k1 y0 y1 h0 n0) s rom0.cells rom0.slots) (s₁.setTop (entryFrame m #[(.ref a1), (.int (2 : Int32))] 2))
  refine Goes.step (S' := s₁.setTop (mkF m 0 #[.val (.ref a1), .val (.int (2 : Int32))] [])) (fun t k => castTop (ef_cfa2 m a1 (2 : Int32)) k) ?_
  refine Goes.step (S' := s₁.setTop (mkF m 2 #[.val (.ref a1), .val (.int (2 : Int32))] [(.ref a1), (.int (2 : Int32))])) (fun t k => XS.iloadN X0.here hx rfl (hb hby d_jdk_52_method_15_code_0) rfl (XS.aloadN X0.here hx rfl (hb hby d_jdk_52_method_15_code_1) rfl rfl k)) ?_
  obtain ⟨cl101, Ar101, qk101, Sz101, Nn101, Hs101, Gs101⟩ := id V1
  refine Goes.step (S' := s₁.setTop (mkF m 3 #[.val (.ref a1), .val (.int (2 : Int32))] [(.int (2 : Int32)), (.int (2 : Int32))])) (fun t k => X0.arraylength hx (by rw [eh0]; exact Ar101.1) (State.isArrayOf_alike hZ.alike Ar101.2.1) (g := (mkF m 2 #[.val (.ref a1), .val (.int (2 : Int32))] [(.ref a1), (.int (2 : Int32))])) rfl rfl (hb hby d_jdk_52_method_15_code_2) _ (by rw [len_of Sz101 Nn101]; exact k)) ?_
  refine Goes.step (S' := s₁.setTop (mkF m 4 #[.val (.ref a1), .val (.int (2 : Int32))] [(.int ((2 : Int32) - (2 : Int32)))])) (fun t k => XS.isub X0.here hx rfl (hb hby d_jdk_52_method_15_code_3) rfl k) ?_
  rw [show ((2 : Int32) - (2 : Int32)) = (0 : Int32) from by decide]
  refine Goes.step (S' := s₁.setTop (mkF m 7 #[.val (.ref a1), .val (.int (2 : Int32))] [(.int (((0 : Int32).toUInt32 >>> ((31 : Int32) &&& 31).toUInt32).toInt32))])) (fun t k => XS.bipush X0.here hx rfl (hb hby d_jdk_52_method_15_code_4) (XS.iushr X0.here hx rfl (hb hby d_jdk_52_method_15_code_6) rfl k)) ?_
  rw [show (((0 : Int32).toUInt32 >>> ((31 : Int32) &&& 31).toUInt32).toInt32) = (0 : Int32) from by decide]
  refine Goes.step (S' := s₁.setTop (mkF m 8 #[.val (.ref a1), .val (.int (2 : Int32))] [(.int ((0 : Int32).toInt8.toInt32))])) (fun t k => XS.i2b X0.here hx rfl (hb hby d_jdk_52_method_15_code_7) rfl k) ?_
  rw [show ((0 : Int32).toInt8.toInt32) = (0 : Int32) from by decide]
  refine Goes.leave (g := (mkF m 8 #[.val (.ref a1), .val (.int (2 : Int32))] [(.int (0 : Int32))])) X0 Bd.notSynchronized (v := (some (.int (0 : Int32)))) (fun h => by rw [Bd.returns] at h; cases h) (fun fs hr => retN X0 hx (t := .byte) Bd.returns (by simp) (hb hby d_jdk_52_method_15_code_8) hr) eh0 ?_ (by decide) (by decide)
  exact ⟨rfl, N0, rfl⟩

theorem ef_sif2 (m : MethodId) (x0 : Addr) (x1 : Addr) (x2 : Int32) (x3 : Int32) : entryFrame m #[(.ref x0), (.ref x1), (.int x2), (.int x3), .null] 6 = mkF m 0 #[.val (.ref x0), .val (.ref x1), .val (.int x2), .val (.int x3), .val .null, .unset] [] := by first | (simp [entryFrame, mkF, argsToLocals, Value.category]; done) | rfl
def Q_sif2 (Z : State) (a1 : Addr) (a2 : Addr) (k1 : ClassId) (cs : Int32) (x0 : Int32) (x1 : Int32) (h0 : Heap) (n0 : Nat) (v : Option Value) (h : Heap) (L : List Loc) : Prop := v = none ∧ Fr n0 L ∧ Keep h0 h [a1]
set_option maxRecDepth 65536 in
set_option maxHeartbeats 40000000 in
theorem sif2 (l : Launch) (Z : State) (a0 : Array Value) (hw : ∀ d ∈ tables_1, d.before a0 Z = true) (ws : List Jvm.Cond) (a1 : Addr) (a2 : Addr) (k1 : ClassId) (cs : Int32) (x0 : Int32) (x1 : Int32) (h0 : Heap) (n0 : Nat) (Z0 : n0 ≤ h0.size) (E1 : Exa Z h0 a1 "java/lang/String") (Fv : Fld Z h0 a1 "java/lang/String" "value" "[B" .null) (Fc : Fld Z h0 a1 "java/lang/String" "coder" "B" (.int (0 : Int32))) (G1 : n0 ≤ a1) (SC : Sta Z h0 "java/lang/String" "COMPACT_STRINGS" "Z" (.int cs)) (PC : ¬ (cs = (0 : Int32))) (V1 : Arv Z h0 a2 k1 .char (2 : Int32) [(.int x0), (.int x1)] (.int (0 : Int32))) (P0 : ¬ ((255 : Int32) < x0)) (P1 : ¬ ((255 : Int32) < x1)) :
    MetFree l mth3 (head1 (Jvm.Cond.code mth3 jdk_42_method_149_code 6 none :: ws) rom5) (fun a U => a = #[(.ref a1), (.ref a2), (.int (0 : Int32)), (.int (2 : Int32)), .null] ∧ Z.Warmed39 U.vm ∧ U.heap = h0) (fun _ _ _ _ _ => True) (fun _ U o U' => ∃ v L, o = .returned v ∧ Q_sif2 Z a1 a2 k1 cs x0 x1 h0 n0 v U'.heap L ∧ FrameEnd U o U' L rom5.cells rom5.slots) := by
  refine MetFree.of_bodySF (plainFor_of_name pnm1) hisR ?_
  intro p e s m args below meth c s₁ Bd hml0 hP hK
  obtain ⟨rfl, hZ, hh⟩ := hP
  have hx := Bd.exec
  have hby := Bd.bytes
  have hml : c.maxLocals = 6 := hml0
  have hown : s.vm.findClass "java/lang/String" = some m.cls := findClass_of_methodNamed Bd.named
  have hnm := (name_of_methodNamed Bd.named Bd.method).1
  have X0 : Stand p l e rom5 s m #[(.ref a1), (.ref a2), (.int (0 : Int32)), (.int (2 : Int32)), .null] below meth c s₁ [] 0 0 := Stand.of_body Bd
  have eh0 : s₁.heap = h0 := by rw [← hh, Bd.state]; rfl
  have N0 := Fr.nil n0
  have tw2 := hw _ (List.mem_of_getElem? (i := 2) rfl)
  have tw11 := hw _ (List.mem_of_getElem? (i := 11) rfl)
  have tw12 := hw _ (List.mem_of_getElem? (i := 12) rfl)
  have tw13 := hw _ (List.mem_of_getElem? (i := 13) rfl)
  have tw14 := hw _ (List.mem_of_getElem? (i := 14) rfl)
  have tw15 := hw _ (List.mem_of_getElem? (i := 15) rfl)
  have tw16 := hw _ (List.mem_of_getElem? (i := 16) rfl)
  have tw17 := hw _ (List.mem_of_getElem? (i := 17) rfl)
  have tw18 := hw _ (List.mem_of_getElem? (i := 18) rfl)
  have tw23 := hw _ (List.mem_of_getElem? (i := 23) rfl)
  have tw24 := hw _ (List.mem_of_getElem? (i := 24) rfl)
  have tw25 := hw _ (List.mem_of_getElem? (i := 25) rfl)
  have tw26 := hw _ (List.mem_of_getElem? (i := 26) rfl)
  have tw27 := hw _ (List.mem_of_getElem? (i := 27) rfl)
  have tw28 := hw _ (List.mem_of_getElem? (i := 28) rfl)
  have tw29 := hw _ (List.mem_of_getElem? (i := 29) rfl)
  show Goes p e below (Pq (Q_sif2 Z a1 a2 k1 cs x0 x1 h0 n0) s rom5.cells rom5.slots) (s₁.setTop (entryFrame m #[(.ref a1), (.ref a2), (.int (0 : Int32)), (.int (2 : Int32)), .null] 6))
  refine Goes.step (S' := s₁.setTop (mkF m 0 #[.val (.ref a1), .val (.ref a2), .val (.int (0 : Int32)), .val (.int (2 : Int32)), .val .null, .unset] [])) (fun t k => castTop (ef_sif2 m a1 a2 (0 : Int32) (2 : Int32)) k) ?_
  refine Goes.step (S' := s₁.setTop (mkF m 1 #[.val (.ref a1), .val (.ref a2), .val (.int (0 : Int32)), .val (.int (2 : Int32)), .val .null, .unset] [(.ref a1)])) (fun t k => XS.aloadN X0.here hx rfl (hb hby d_jdk_42_method_149_code_0) rfl rfl k) ?_
  obtain ⟨T101, X101, e101, st101⟩ := initO X0 hx hZ hown tw11 tw12 tw13 eh0 (g := (mkF m 1 #[.val (.ref a1), .val (.ref a2), .val (.int (0 : Int32)), .val (.int (2 : Int32)), .val .null, .unset] [(.ref a1)])) rfl (by rw [hml]; rfl) rfl (hb hby d_jdk_42_method_149_code_1) (by decide) (W := 0) (Nat.le_of_eq rfl) (by decide)
  refine Goes.step (S' := T101.setTop (mkF m 27 #[.val (.ref a1), .val (.ref a2), .val (.int (0 : Int32)), .val (.int (2 : Int32)), .val .null, .unset] [])) (fun t k => st101 _ (XS.iloadN X101.here hx rfl (hb hby d_jdk_42_method_149_code_4) rfl (XS.ifYes X101.here hx rfl (pc0 := 5) (pc' := 27) rfl (hb hby d_jdk_42_method_149_code_5) rfl ((if0 _ _).trans (feq ((by decide) : ¬ ((2 : Int32) = (0 : Int32)))).2) (by decide) (by decide) k))) ?_
  obtain ⟨T102, X102, e102, st102⟩ := getS2 X101 hx hZ hown (host := "") (Or.inl tw14) Via.refl e101 SC (g := (mkF m 27 #[.val (.ref a1), .val (.ref a2), .val (.int (0 : Int32)), .val (.int (2 : Int32)), .val .null, .unset] [])) rfl (hb hby d_jdk_42_method_149_code_27)
  refine Goes.step (S' := T102.setTop (mkF m 36 #[.val (.ref a1), .val (.ref a2), .val (.int (0 : Int32)), .val (.int (2 : Int32)), .val .null, .unset] [(.int (2 : Int32)), (.int (0 : Int32)), (.ref a2)])) (fun t k => st102 _ (XS.ifNo X102.here hx rfl (hb hby d_jdk_42_method_149_code_30) rfl ((if0 _ _).trans (feq (PC : ¬ (cs = (0 : Int32)))).1) (XS.aloadN X102.here hx rfl (hb hby d_jdk_42_method_149_code_33) rfl rfl (XS.iloadN X102.here hx rfl (hb hby d_jdk_42_method_149_code_34) rfl (XS.iloadN X102.here hx rfl (hb hby d_jdk_42_method_149_code_35) rfl k))))) ?_
  obtain ⟨_, _, ⟨T103, L103, k103, n103⟩, -, X103, ⟨Lc103, hQ103, l103, y103, z103⟩, st103⟩ := Jvm.LawKit.callS X102 hx (y := mth1) hown (mvT hZ tw15) (mvT hZ tw16) (mvT hZ tw17) (mvT hZ tw18) (by decide) (backOf (W := 0) (cmq2 l Z a0 hw [] a2 k1 x0 x1 h0 n0 Z0 V1 (P0 : ¬ ((255 : Int32) < x0)) (P1 : ¬ ((255 : Int32) < x1))) hZ tw18 tw17 (by decide) (by decide)) (g := (mkF m 36 #[.val (.ref a1), .val (.ref a2), .val (.int (0 : Int32)), .val (.int (2 : Int32)), .val .null, .unset] [(.int (2 : Int32)), (.int (0 : Int32)), (.ref a2)])) rfl (by rw [hml]; rfl) (argsL := [(.ref a2), (.int (0 : Int32)), (.int (2 : Int32))]) (rest := []) (lenOf pd_CII__B rfl) rfl (Nat.le_of_eq rfl) (hb hby d_jdk_42_method_149_code_36) (fun _ _ => ⟨rfl, e102, (by decide : 0 + 1 ≤ _), (by decide : 0 + 2 ≤ _)⟩)
  dsimp only [Pt.U, Pt.locs, Pt.cells, Pt.slots] at X103 l103 y103 z103 st103 hQ103
  subst y103 z103
  obtain ⟨b_103, kb_103, y0_103, y1_103, rfl, Nq103, q103_0, q103_1, q103_2, q103_3⟩ := hQ103
  have N103 : Fr n0 L103 := by rw [l103]; exact Fr.app N0 Nq103
  refine Goes.step (S' := T103.setTop (mkF m 45 #[.val (.ref a1), .val (.ref a2), .val (.int (0 : Int32)), .val (.int (2 : Int32)), .val .null, .val (.ref b_103)] [(.int (2 : Int32)), (.ref b_103), (.ref a1)])) (fun t k => st103 _ (XS.astore X103.here hx rfl (hb hby d_jdk_42_method_149_code_39) rfl rfl (l' := #[.val (.ref a1), .val (.ref a2), .val (.int (0 : Int32)), .val (.int (2 : Int32)), .val .null, .val (.ref b_103)]) rfl (XS.aloadN X103.here hx rfl (hb hby d_jdk_42_method_149_code_41) rfl rfl (XS.aload X103.here hx rfl (hb hby d_jdk_42_method_149_code_42) rfl rfl (XS.iloadN X103.here hx rfl (hb hby d_jdk_42_method_149_code_44) rfl k))))) ?_
  obtain ⟨_, _, ⟨T104, L104, k104, n104⟩, -, X104, ⟨Lc104, hQ104, l104, y104, z104⟩, st104⟩ := Jvm.LawKit.callS X103 hx (y := mth2) hown (mvT hZ tw23) (mvT hZ tw24) (mvT hZ tw17) (mvT hZ tw25) (by decide) (backOf (W := 1) (cfa2 l Z a0 hw [] b_103 kb_103 y0_103 y1_103 T103.heap n0 (Nat.le_trans Z0 q103_0.1) q103_3) hZ tw25 tw17 (by decide) (by decide)) (g := (mkF m 45 #[.val (.ref a1), .val (.ref a2), .val (.int (0 : Int32)), .val (.int (2 : Int32)), .val .null, .val (.ref b_103)] [(.int (2 : Int32)), (.ref b_103), (.ref a1)])) rfl (by rw [hml]; rfl) (argsL := [(.ref b_103), (.int (2 : Int32))]) (rest := [(.ref a1)]) (lenOf pd_BI_B rfl) rfl (Nat.le_of_eq rfl) (hb hby d_jdk_42_method_149_code_45) (fun _ _ => ⟨rfl, rfl, (by decide : 1 + 0 ≤ _), (by decide : 2 + 0 ≤ _)⟩)
  dsimp only [Pt.U, Pt.locs, Pt.cells, Pt.slots] at X104 l104 y104 z104 st104 hQ104
  subst y104 z104
  obtain ⟨rfl, Nq104, q104_0⟩ := hQ104
  have N104 : Fr n0 L104 := by rw [l104]; exact Fr.app N103 Nq104
  refine Goes.step (S' := T104.setTop (mkF m 48 #[.val (.ref a1), .val (.ref a2), .val (.int (0 : Int32)), .val (.int (2 : Int32)), .val .null, .val (.ref b_103)] [(.int (0 : Int32)), (.ref a1)])) (fun t k => st104 _ k) ?_
  obtain ⟨T105, h105, X105, e105, W105, st105⟩ := putFN X104 hx hZ hown tw26 Via.refl q104_0 (Fc.keep q103_0 nin0) (E1.keep q103_0) (Or.inr ⟨tw27, rfl, hnm⟩) tw2 (ty := .byte) (v' := (.int (0 : Int32))) (by decide) rfl (by decide) (g := (mkF m 48 #[.val (.ref a1), .val (.ref a2), .val (.int (0 : Int32)), .val (.int (2 : Int32)), .val .null, .val (.ref b_103)] [(.int (0 : Int32)), (.ref a1)])) rfl rfl (hb hby d_jdk_42_method_149_code_48)
  have Fw105 : Fld Z h105 a1 "java/lang/String" "coder" "B" (.int (0 : Int32)) := Fld.same W105 (Fc.keep q103_0 nin0)
  have N105 := Fr.snoc X105 N104 G1
  refine Goes.step (S' := T105.setTop (mkF m 54 #[.val (.ref a1), .val (.ref a2), .val (.int (0 : Int32)), .val (.int (2 : Int32)), .val .null, .val (.ref b_103)] [(.ref b_103), (.ref a1)])) (fun t k => st105 _ (XS.aloadN X105.here hx rfl (hb hby d_jdk_42_method_149_code_51) rfl rfl (XS.aload X105.here hx rfl (hb hby d_jdk_42_method_149_code_52) rfl rfl k))) ?_
  obtain ⟨T106, h106, X106, e106, W106, st106⟩ := putF X105 hx hZ hown (host := "") (Or.inl tw28) Via.refl e105 (Fld.other W105 (Fv.keep q103_0 nin0) (Or.inr (slot_ne (Or.inr tw29) (Or.inr tw27) (by decide) (t := (.array .byte)) (t' := .byte) (by decide) (by decide)))) (Exa.wr W105 (E1.keep q103_0)) (Or.inr ⟨tw29, rfl, hnm⟩) tw2 (ty := (.array .byte)) (by decide) rfl rfl (g := (mkF m 54 #[.val (.ref a1), .val (.ref a2), .val (.int (0 : Int32)), .val (.int (2 : Int32)), .val .null, .val (.ref b_103)] [(.ref b_103), (.ref a1)])) rfl rfl (hb hby d_jdk_42_method_149_code_54)
  have Fw106 : Fld Z h106 a1 "java/lang/String" "value" "[B" (.ref b_103) := Fld.same W106 (Fld.other W105 (Fv.keep q103_0 nin0) (Or.inr (slot_ne (Or.inr tw29) (Or.inr tw27) (by decide) (t := (.array .byte)) (t' := .byte) (by decide) (by decide))))
  have N106 := Fr.snoc X106 N105 G1
  refine Goes.step (S' := T106.setTop (mkF m 57 #[.val (.ref a1), .val (.ref a2), .val (.int (0 : Int32)), .val (.int (2 : Int32)), .val .null, .val (.ref b_103)] [])) (fun t k => st106 _ k) ?_
  refine Goes.leave (g := (mkF m 57 #[.val (.ref a1), .val (.ref a2), .val (.int (0 : Int32)), .val (.int (2 : Int32)), .val .null, .val (.ref b_103)] [])) X106 Bd.notSynchronized (v := none) (fun _ => rfl) (fun fs hr => X106.returnOut hx Bd.returns (hb hby d_jdk_42_method_149_code_57) hr) e106 ?_ (by decide) (by decide)
  exact ⟨rfl, N106, ((((Keep.refl _ [a1]).trans q103_0 all0).wr W105 (Or.inl (List.mem_of_getElem? (i := 0) rfl))).wr W106 (Or.inl (List.mem_of_getElem? (i := 0) rfl)))⟩

theorem ef_sic2 (m : MethodId) (x0 : Addr) (x1 : Addr) : entryFrame m #[(.ref x0), (.ref x1)] 2 = mkF m 0 #[.val (.ref x0), .val (.ref x1)] [] := by first | (simp [entryFrame, mkF, argsToLocals, Value.category]; done) | rfl
def Q_sic2 (Z : State) (a1 : Addr) (a2 : Addr) (k1 : ClassId) (cs : Int32) (x0 : Int32) (x1 : Int32) (h0 : Heap) (n0 : Nat) (v : Option Value) (h : Heap) (L : List Loc) : Prop := v = none ∧ Fr n0 L ∧ Keep h0 h [a1]
set_option maxRecDepth 65536 in
set_option maxHeartbeats 40000000 in
theorem sic2 (l : Launch) (Z : State) (a0 : Array Value) (hw : ∀ d ∈ tables_1, d.before a0 Z = true) (ws : List Jvm.Cond) (a1 : Addr) (a2 : Addr) (k1 : ClassId) (cs : Int32) (x0 : Int32) (x1 : Int32) (h0 : Heap) (n0 : Nat) (Z0 : n0 ≤ h0.size) (E1 : Exa Z h0 a1 "java/lang/String") (Fv : Fld Z h0 a1 "java/lang/String" "value" "[B" .null) (Fc : Fld Z h0 a1 "java/lang/String" "coder" "B" (.int (0 : Int32))) (G1 : n0 ≤ a1) (SC : Sta Z h0 "java/lang/String" "COMPACT_STRINGS" "Z" (.int cs)) (PC : ¬ (cs = (0 : Int32))) (V1 : Arv Z h0 a2 k1 .char (2 : Int32) [(.int x0), (.int x1)] (.int (0 : Int32))) (P0 : ¬ ((255 : Int32) < x0)) (P1 : ¬ ((255 : Int32) < x1)) :
    MetFree l mth4 (head1 (Jvm.Cond.code mth4 jdk_42_method_3_code 2 none :: ws) rom6) (fun a U => a = #[(.ref a1), (.ref a2)] ∧ Z.Warmed39 U.vm ∧ U.heap = h0) (fun _ _ _ _ _ => True) (fun _ U o U' => ∃ v L, o = .returned v ∧ Q_sic2 Z a1 a2 k1 cs x0 x1 h0 n0 v U'.heap L ∧ FrameEnd U o U' L rom6.cells rom6.slots) := by
  refine MetFree.of_bodySF (plainFor_of_name pnm1) hisR ?_
  intro p e s m args below meth c s₁ Bd hml0 hP hK
  obtain ⟨rfl, hZ, hh⟩ := hP
  have hx := Bd.exec
  have hby := Bd.bytes
  have hml : c.maxLocals = 2 := hml0
  have hown : s.vm.findClass "java/lang/String" = some m.cls := findClass_of_methodNamed Bd.named
  have hnm := (name_of_methodNamed Bd.named Bd.method).1
  have X0 : Stand p l e rom6 s m #[(.ref a1), (.ref a2)] below meth c s₁ [] 0 0 := Stand.of_body Bd
  have eh0 : s₁.heap = h0 := by rw [← hh, Bd.state]; rfl
  have N0 := Fr.nil n0
  have tw3 := hw _ (List.mem_of_getElem? (i := 3) rfl)
  have tw7 := hw _ (List.mem_of_getElem? (i := 7) rfl)
  have tw8 := hw _ (List.mem_of_getElem? (i := 8) rfl)
  have tw10 := hw _ (List.mem_of_getElem? (i := 10) rfl)
  show Goes p e below (Pq (Q_sic2 Z a1 a2 k1 cs x0 x1 h0 n0) s rom6.cells rom6.slots) (s₁.setTop (entryFrame m #[(.ref a1), (.ref a2)] 2))
  refine Goes.step (S' := s₁.setTop (mkF m 0 #[.val (.ref a1), .val (.ref a2)] [])) (fun t k => castTop (ef_sic2 m a1 a2) k) ?_
  refine Goes.step (S' := s₁.setTop (mkF m 4 #[.val (.ref a1), .val (.ref a2)] [(.ref a2), (.int (0 : Int32)), (.ref a2), (.ref a1)])) (fun t k => XS.aloadN X0.here hx rfl (hb hby d_jdk_42_method_3_code_0) rfl rfl (XS.aloadN X0.here hx rfl (hb hby d_jdk_42_method_3_code_1) rfl rfl (XS.iconst X0.here hx rfl (hb hby d_jdk_42_method_3_code_2) (XS.aloadN X0.here hx rfl (hb hby d_jdk_42_method_3_code_3) rfl rfl k)))) ?_
  obtain ⟨cl101, Ar101, qk101, Sz101, Nn101, Hs101, Gs101⟩ := id V1
  refine Goes.step (S' := s₁.setTop (mkF m 5 #[.val (.ref a1), .val (.ref a2)] [(.int (2 : Int32)), (.int (0 : Int32)), (.ref a2), (.ref a1)])) (fun t k => X0.arraylength hx (by rw [eh0]; exact Ar101.1) (State.isArrayOf_alike hZ.alike Ar101.2.1) (g := (mkF m 4 #[.val (.ref a1), .val (.ref a2)] [(.ref a2), (.int (0 : Int32)), (.ref a2), (.ref a1)])) rfl rfl (hb hby d_jdk_42_method_3_code_4) _ (by rw [len_of Sz101 Nn101]; exact k)) ?_
  refine Goes.step (S' := s₁.setTop (mkF m 6 #[.val (.ref a1), .val (.ref a2)] [.null, (.int (2 : Int32)), (.int (0 : Int32)), (.ref a2), (.ref a1)])) (fun t k => XS.aconstNull X0.here hx rfl (hb hby d_jdk_42_method_3_code_5) k) ?_
  obtain ⟨_, _, ⟨T102, L102, k102, n102⟩, -, X102, ⟨Lc102, hQ102, l102, y102, z102⟩, st102⟩ := X0.specialBack hx (y := mth3) rfl hown (mvT hZ tw7) (mvT hZ tw8) (mvT hZ tw10) (by decide) (backOf (W := 0) (sif2 l Z a0 hw [] a1 a2 k1 cs x0 x1 h0 n0 Z0 E1 Fv Fc G1 SC (PC : ¬ (cs = (0 : Int32))) V1 (P0 : ¬ ((255 : Int32) < x0)) (P1 : ¬ ((255 : Int32) < x1))) hZ tw10 tw3 (by decide) (by decide)) (g := (mkF m 6 #[.val (.ref a1), .val (.ref a2)] [.null, (.int (2 : Int32)), (.int (0 : Int32)), (.ref a2), (.ref a1)])) rfl (by rw [hml]; rfl) (Steps.refl _) (a := a1) (argsL := [(.ref a2), (.int (0 : Int32)), (.int (2 : Int32)), .null]) (rest := []) (lenOf pd_CIILjava_lang_Void__V rfl) rfl (Nat.le_of_eq rfl) (hb hby d_jdk_42_method_3_code_6) (fun _ _ => ⟨rfl, eh0, (by decide : 0 + 1 ≤ _), (by decide : 0 + 2 ≤ _)⟩)
  dsimp only [Pt.U, Pt.locs, Pt.cells, Pt.slots] at X102 l102 y102 z102 st102 hQ102
  subst y102 z102
  obtain ⟨rfl, Nq102, q102_0⟩ := hQ102
  have N102 : Fr n0 L102 := by rw [l102]; exact Fr.app N0 Nq102
  refine Goes.step (S' := T102.setTop (mkF m 9 #[.val (.ref a1), .val (.ref a2)] [])) (fun t k => st102.trans k) ?_
  refine Goes.leave (g := (mkF m 9 #[.val (.ref a1), .val (.ref a2)] [])) X102 Bd.notSynchronized (v := none) (fun _ => rfl) (fun fs hr => X102.returnOut hx Bd.returns (hb hby d_jdk_42_method_3_code_9) hr) rfl ?_ (by decide) (by decide)
  exact ⟨rfl, N102, ((Keep.refl _ [a1]).trans q102_0 (allS (Or.inl (List.mem_of_getElem? (i := 0) rfl)) all0))⟩

theorem ef_cmp3 (m : MethodId) (x0 : Addr) (x1 : Int32) (x2 : Addr) (x3 : Int32) (x4 : Int32) : entryFrame m #[(.ref x0), (.int x1), (.ref x2), (.int x3), (.int x4)] 7 = mkF m 0 #[.val (.ref x0), .val (.int x1), .val (.ref x2), .val (.int x3), .val (.int x4), .unset, .unset] [] := by first | (simp [entryFrame, mkF, argsToLocals, Value.category]; done) | rfl
def Q_cmp3 (Z : State) (a1 : Addr) (k1 : ClassId) (a3 : Addr) (k3 : ClassId) (x0 : Int32) (x1 : Int32) (x2 : Int32) (h0 : Heap) (n0 : Nat) (v : Option Value) (h : Heap) (L : List Loc) : Prop := ∃ (y0 : Value) (y1 : Value) (y2 : Value), v = some (.int (3 : Int32)) ∧ Fr n0 L ∧ Keep h0 h [a3] ∧ Arv Z h a3 k3 .byte (3 : Int32) [y0, y1, y2] (.int (0 : Int32))
set_option maxRecDepth 65536 in
set_option maxHeartbeats 40000000 in
theorem cmp3 (l : Launch) (Z : State) (a0 : Array Value) (hw : ∀ d ∈ tables_1, d.before a0 Z = true) (ws : List Jvm.Cond) (a1 : Addr) (k1 : ClassId) (a3 : Addr) (k3 : ClassId) (x0 : Int32) (x1 : Int32) (x2 : Int32) (h0 : Heap) (n0 : Nat) (Z0 : n0 ≤ h0.size) (V1 : Arv Z h0 a1 k1 .char (3 : Int32) [(.int x0), (.int x1), (.int x2)] (.int (0 : Int32))) (V3 : Arv Z h0 a3 k3 .byte (3 : Int32) [(.int (0 : Int32)), (.int (0 : Int32)), (.int (0 : Int32))] (.int (0 : Int32))) (G3 : n0 ≤ a3) (NE : a1 ≠ a3) (P0 : ¬ ((255 : Int32) < x0)) (P1 : ¬ ((255 : Int32) < x1)) (P2 : ¬ ((255 : Int32) < x2)) :
    MetFree l mth0 (head1 (Jvm.Cond.code mth0 jdk_52_method_21_code 7 (some .int) :: ws) rom0) (fun a U => a = #[(.ref a1), (.int (0 : Int32)), (.ref a3), (.int (0 : Int32)), (.int (3 : Int32))] ∧ Z.Warmed39 U.vm ∧ U.heap = h0) (fun _ _ _ _ _ => True) (fun _ U o U' => ∃ v L, o = .returned v ∧ Q_cmp3 Z a1 k1 a3 k3 x0 x1 x2 h0 n0 v U'.heap L ∧ FrameEnd U o U' L rom0.cells rom0.slots) := by
  refine MetFree.of_bodySF (plainFor_of_name pnm0) hisR ?_
  intro p e s m args below meth c s₁ Bd hml0 hP hK
  obtain ⟨rfl, hZ, hh⟩ := hP
  have hx := Bd.exec
  have hby := Bd.bytes
  have hml : c.maxLocals = 7 := hml0
  have hown : s.vm.findClass "java/lang/StringUTF16" = some m.cls := findClass_of_methodNamed Bd.named
  have hnm := (name_of_methodNamed Bd.named Bd.method).1
  have X0 : Stand p l e rom0 s m #[(.ref a1), (.int (0 : Int32)), (.ref a3), (.int (0 : Int32)), (.int (3 : Int32))] below meth c s₁ [] 0 0 := Stand.of_body Bd
  have eh0 : s₁.heap = h0 := by rw [← hh, Bd.state]; rfl
  have N0 := Fr.nil n0
  show Goes p e below (Pq (Q_cmp3 Z a1 k1 a3 k3 x0 x1 x2 h0 n0) s rom0.cells rom0.slots) (s₁.setTop (entryFrame m #[(.ref a1), (.int (0 : Int32)), (.ref a3), (.int (0 : Int32)), (.int (3 : Int32))] 7))
  refine Goes.step (S' := s₁.setTop (mkF m 0 #[.val (.ref a1), .val (.int (0 : Int32)), .val (.ref a3), .val (.int (0 : Int32)), .val (.int (3 : Int32)), .unset, .unset] [])) (fun t k => castTop (ef_cmp3 m a1 (0 : Int32) a3 (0 : Int32) (3 : Int32)) k) ?_
  refine Goes.step (S' := s₁.setTop (mkF m 12 #[.val (.ref a1), .val (.int (0 : Int32)), .val (.ref a3), .val (.int (0 : Int32)), .val (.int (3 : Int32)), .val (.int (0 : Int32)), .unset] [(.int (0 : Int32)), (.ref a1)])) (fun t k => XS.iconst X0.here hx rfl (hb hby d_jdk_52_method_21_code_0) (XS.istore X0.here hx rfl (hb hby d_jdk_52_method_21_code_1) rfl (l' := #[.val (.ref a1), .val (.int (0 : Int32)), .val (.ref a3), .val (.int (0 : Int32)), .val (.int (3 : Int32)), .val (.int (0 : Int32)), .unset]) rfl (XS.iload X0.here hx rfl (hb hby d_jdk_52_method_21_code_3) rfl (XS.iload X0.here hx rfl (hb hby d_jdk_52_method_21_code_5) rfl (XS.icmpNo X0.here hx rfl (hb hby d_jdk_52_method_21_code_7) rfl (tlt ((by decide) : (0 : Int32) < (3 : Int32))).2.1 (XS.aloadN X0.here hx rfl (hb hby d_jdk_52_method_21_code_10) rfl rfl (XS.iloadN X0.here hx rfl (hb hby d_jdk_52_method_21_code_11) rfl k))))))) ?_
  obtain ⟨cl101, Ar101, qk101, Sz101, Nn101, Hs101, Gs101⟩ := id V1
  have hin101 := (inb_of (j := (0 : Int32)) Sz101 ⟨by decide, by decide⟩)
  refine Goes.step (S' := s₁.setTop (mkF m 30 #[.val (.ref a1), .val (.int (0 : Int32)), .val (.ref a3), .val (.int (0 : Int32)), .val (.int (3 : Int32)), .val (.int (0 : Int32)), .val (.int x0)] [(.int x0), (.int (0 : Int32)), (.ref a3)])) (fun t k => X0.caload hx (j := (0 : Int32)) (v := (.int x0)) (by rw [eh0]; exact Ar101.1) (State.isArrayOf_alike hZ.alike Ar101.2.1) Ar101.2.2 hin101 (Has.at Hs101 hin101 rfl) (g := (mkF m 12 #[.val (.ref a1), .val (.int (0 : Int32)), .val (.ref a3), .val (.int (0 : Int32)), .val (.int (3 : Int32)), .val (.int (0 : Int32)), .unset] [(.int (0 : Int32)), (.ref a1)])) rfl rfl (hb hby d_jdk_52_method_21_code_12) _ (XS.istore X0.here hx rfl (hb hby d_jdk_52_method_21_code_13) rfl (l' := #[.val (.ref a1), .val (.int (0 : Int32)), .val (.ref a3), .val (.int (0 : Int32)), .val (.int (3 : Int32)), .val (.int (0 : Int32)), .val (.int x0)]) rfl (XS.iload X0.here hx rfl (hb hby d_jdk_52_method_21_code_15) rfl (XS.sipush X0.here hx rfl (hb hby d_jdk_52_method_21_code_17) (XS.icmpYes X0.here hx rfl (pc0 := 20) (pc' := 26) rfl (hb hby d_jdk_52_method_21_code_20) rfl (flt (P0 : ¬ ((255 : Int32) < x0))).2.2.2 (by decide) (by decide) (XS.aloadN X0.here hx rfl (hb hby d_jdk_52_method_21_code_26) rfl rfl (XS.iloadN X0.here hx rfl (hb hby d_jdk_52_method_21_code_27) rfl (XS.iload X0.here hx rfl (hb hby d_jdk_52_method_21_code_28) rfl k)))))))) ?_
  refine Goes.step (S' := s₁.setTop (mkF m 31 #[.val (.ref a1), .val (.int (0 : Int32)), .val (.ref a3), .val (.int (0 : Int32)), .val (.int (3 : Int32)), .val (.int (0 : Int32)), .val (.int x0)] [(.int (x0.toInt8.toInt32)), (.int (0 : Int32)), (.ref a3)])) (fun t k => XS.i2b X0.here hx rfl (hb hby d_jdk_52_method_21_code_30) rfl k) ?_
  obtain ⟨cl102, Ar102, qk102, Sz102, Nn102, Hs102, Gs102⟩ := id V3
  obtain ⟨T102, h102, X102, e102, W102, st102⟩ := stB X0 hx hZ eh0 Ar102 (j := (0 : Int32)) (inb_of (j := (0 : Int32)) Sz102 ⟨by decide, by decide⟩) (g := (mkF m 31 #[.val (.ref a1), .val (.int (0 : Int32)), .val (.ref a3), .val (.int (0 : Int32)), .val (.int (3 : Int32)), .val (.int (0 : Int32)), .val (.int x0)] [(.int (x0.toInt8.toInt32)), (.int (0 : Int32)), (.ref a3)])) rfl rfl (hb hby d_jdk_52_method_21_code_31)
  have V102 : Arv Z h102 a3 k3 .byte (3 : Int32) [(.int (x0.toInt8.toInt32).toInt8.toInt32), (.int (0 : Int32)), (.int (0 : Int32))] (.int (0 : Int32)) := Arv.set Ar102 qk102 Sz102 Nn102 Hs102 Gs102 (fits_nar_byte _) W102 0 rfl (Nat.le_of_ble_eq_true rfl)
  have N102 := Fr.snoc X102 N0 G3
  refine Goes.step (S' := T102.setTop (mkF m 35 #[.val (.ref a1), .val (.int ((0 : Int32) + (1 : Int32))), .val (.ref a3), .val (.int (0 : Int32)), .val (.int (3 : Int32)), .val (.int (0 : Int32)), .val (.int x0)] [])) (fun t k => st102 _ (XS.iinc X102.here hx rfl (hb hby d_jdk_52_method_21_code_32) rfl (l' := #[.val (.ref a1), .val (.int ((0 : Int32) + (1 : Int32))), .val (.ref a3), .val (.int (0 : Int32)), .val (.int (3 : Int32)), .val (.int (0 : Int32)), .val (.int x0)]) rfl k)) ?_
  rw [show ((0 : Int32) + (1 : Int32)) = (1 : Int32) from by decide]
  refine Goes.step (S' := T102.setTop (mkF m 38 #[.val (.ref a1), .val (.int (1 : Int32)), .val (.ref a3), .val (.int ((0 : Int32) + (1 : Int32))), .val (.int (3 : Int32)), .val (.int (0 : Int32)), .val (.int x0)] [])) (fun t k => XS.iinc X102.here hx rfl (hb hby d_jdk_52_method_21_code_35) rfl (l' := #[.val (.ref a1), .val (.int (1 : Int32)), .val (.ref a3), .val (.int ((0 : Int32) + (1 : Int32))), .val (.int (3 : Int32)), .val (.int (0 : Int32)), .val (.int x0)]) rfl k) ?_
  rw [show ((0 : Int32) + (1 : Int32)) = (1 : Int32) from by decide]
  refine Goes.step (S' := T102.setTop (mkF m 41 #[.val (.ref a1), .val (.int (1 : Int32)), .val (.ref a3), .val (.int (1 : Int32)), .val (.int (3 : Int32)), .val (.int ((0 : Int32) + (1 : Int32))), .val (.int x0)] [])) (fun t k => XS.iinc X102.here hx rfl (hb hby d_jdk_52_method_21_code_38) rfl (l' := #[.val (.ref a1), .val (.int (1 : Int32)), .val (.ref a3), .val (.int (1 : Int32)), .val (.int (3 : Int32)), .val (.int ((0 : Int32) + (1 : Int32))), .val (.int x0)]) rfl k) ?_
  rw [show ((0 : Int32) + (1 : Int32)) = (1 : Int32) from by decide]
  refine Goes.step (S' := T102.setTop (mkF m 12 #[.val (.ref a1), .val (.int (1 : Int32)), .val (.ref a3), .val (.int (1 : Int32)), .val (.int (3 : Int32)), .val (.int (1 : Int32)), .val (.int x0)] [(.int (1 : Int32)), (.ref a1)])) (fun t k => XS.goto X102.here hx rfl (pc0 := 41) (pc' := 3) rfl (hb hby d_jdk_52_method_21_code_41) (by decide) (by decide) (XS.iload X102.here hx rfl (hb hby d_jdk_52_method_21_code_3) rfl (XS.iload X102.here hx rfl (hb hby d_jdk_52_method_21_code_5) rfl (XS.icmpNo X102.here hx rfl (hb hby d_jdk_52_method_21_code_7) rfl (tlt ((by decide) : (1 : Int32) < (3 : Int32))).2.1 (XS.aloadN X102.here hx rfl (hb hby d_jdk_52_method_21_code_10) rfl rfl (XS.iloadN X102.here hx rfl (hb hby d_jdk_52_method_21_code_11) rfl k)))))) ?_
  obtain ⟨cl103, Ar103, qk103, Sz103, Nn103, Hs103, Gs103⟩ := id (V1.other W102 NE)
  have hin103 := (inb_of (j := (1 : Int32)) Sz103 ⟨by decide, by decide⟩)
  refine Goes.step (S' := T102.setTop (mkF m 30 #[.val (.ref a1), .val (.int (1 : Int32)), .val (.ref a3), .val (.int (1 : Int32)), .val (.int (3 : Int32)), .val (.int (1 : Int32)), .val (.int x1)] [(.int x1), (.int (1 : Int32)), (.ref a3)])) (fun t k => X102.caload hx (j := (1 : Int32)) (v := (.int x1)) (by rw [e102]; exact Ar103.1) (State.isArrayOf_alike hZ.alike Ar103.2.1) Ar103.2.2 hin103 (Has.at Hs103 hin103 rfl) (g := (mkF m 12 #[.val (.ref a1), .val (.int (1 : Int32)), .val (.ref a3), .val (.int (1 : Int32)), .val (.int (3 : Int32)), .val (.int (1 : Int32)), .val (.int x0)] [(.int (1 : Int32)), (.ref a1)])) rfl rfl (hb hby d_jdk_52_method_21_code_12) _ (XS.istore X102.here hx rfl (hb hby d_jdk_52_method_21_code_13) rfl (l' := #[.val (.ref a1), .val (.int (1 : Int32)), .val (.ref a3), .val (.int (1 : Int32)), .val (.int (3 : Int32)), .val (.int (1 : Int32)), .val (.int x1)]) rfl (XS.iload X102.here hx rfl (hb hby d_jdk_52_method_21_code_15) rfl (XS.sipush X102.here hx rfl (hb hby d_jdk_52_method_21_code_17) (XS.icmpYes X102.here hx rfl (pc0 := 20) (pc' := 26) rfl (hb hby d_jdk_52_method_21_code_20) rfl (flt (P1 : ¬ ((255 : Int32) < x1))).2.2.2 (by decide) (by decide) (XS.aloadN X102.here hx rfl (hb hby d_jdk_52_method_21_code_26) rfl rfl (XS.iloadN X102.here hx rfl (hb hby d_jdk_52_method_21_code_27) rfl (XS.iload X102.here hx rfl (hb hby d_jdk_52_method_21_code_28) rfl k)))))))) ?_
  refine Goes.step (S' := T102.setTop (mkF m 31 #[.val (.ref a1), .val (.int (1 : Int32)), .val (.ref a3), .val (.int (1 : Int32)), .val (.int (3 : Int32)), .val (.int (1 : Int32)), .val (.int x1)] [(.int (x1.toInt8.toInt32)), (.int (1 : Int32)), (.ref a3)])) (fun t k => XS.i2b X102.here hx rfl (hb hby d_jdk_52_method_21_code_30) rfl k) ?_
  obtain ⟨cl104, Ar104, qk104, Sz104, Nn104, Hs104, Gs104⟩ := id V102
  obtain ⟨T104, h104, X104, e104, W104, st104⟩ := stB X102 hx hZ e102 Ar104 (j := (1 : Int32)) (inb_of (j := (1 : Int32)) Sz104 ⟨by decide, by decide⟩) (g := (mkF m 31 #[.val (.ref a1), .val (.int (1 : Int32)), .val (.ref a3), .val (.int (1 : Int32)), .val (.int (3 : Int32)), .val (.int (1 : Int32)), .val (.int x1)] [(.int (x1.toInt8.toInt32)), (.int (1 : Int32)), (.ref a3)])) rfl rfl (hb hby d_jdk_52_method_21_code_31)
  have V104 : Arv Z h104 a3 k3 .byte (3 : Int32) [(.int (x0.toInt8.toInt32).toInt8.toInt32), (.int (x1.toInt8.toInt32).toInt8.toInt32), (.int (0 : Int32))] (.int (0 : Int32)) := Arv.set Ar104 qk104 Sz104 Nn104 Hs104 Gs104 (fits_nar_byte _) W104 1 rfl (Nat.le_of_ble_eq_true rfl)
  have N104 := Fr.snoc X104 N102 G3
  refine Goes.step (S' := T104.setTop (mkF m 35 #[.val (.ref a1), .val (.int ((1 : Int32) + (1 : Int32))), .val (.ref a3), .val (.int (1 : Int32)), .val (.int (3 : Int32)), .val (.int (1 : Int32)), .val (.int x1)] [])) (fun t k => st104 _ (XS.iinc X104.here hx rfl (hb hby d_jdk_52_method_21_code_32) rfl (l' := #[.val (.ref a1), .val (.int ((1 : Int32) + (1 : Int32))), .val (.ref a3), .val (.int (1 : Int32)), .val (.int (3 : Int32)), .val (.int (1 : Int32)), .val (.int x1)]) rfl k)) ?_
  rw [show ((1 : Int32) + (1 : Int32)) = (2 : Int32) from by decide]
  refine Goes.step (S' := T104.setTop (mkF m 38 #[.val (.ref a1), .val (.int (2 : Int32)), .val (.ref a3), .val (.int ((1 : Int32) + (1 : Int32))), .val (.int (3 : Int32)), .val (.int (1 : Int32)), .val (.int x1)] [])) (fun t k => XS.iinc X104.here hx rfl (hb hby d_jdk_52_method_21_code_35) rfl (l' := #[.val (.ref a1), .val (.int (2 : Int32)), .val (.ref a3), .val (.int ((1 : Int32) + (1 : Int32))), .val (.int (3 : Int32)), .val (.int (1 : Int32)), .val (.int x1)]) rfl k) ?_
  rw [show ((1 : Int32) + (1 : Int32)) = (2 : Int32) from by decide]
  refine Goes.step (S' := T104.setTop (mkF m 41 #[.val (.ref a1), .val (.int (2 : Int32)), .val (.ref a3), .val (.int (2 : Int32)), .val (.int (3 : Int32)), .val (.int ((1 : Int32) + (1 : Int32))), .val (.int x1)] [])) (fun t k => XS.iinc X104.here hx rfl (hb hby d_jdk_52_method_21_code_38) rfl (l' := #[.val (.ref a1), .val (.int (2 : Int32)), .val (.ref a3), .val (.int (2 : Int32)), .val (.int (3 : Int32)), .val (.int ((1 : Int32) + (1 : Int32))), .val (.int x1)]) rfl k) ?_
  rw [show ((1 : Int32) + (1 : Int32)) = (2 : Int32) from by decide]
  refine Goes.step (S' := T104.setTop (mkF m 12 #[.val (.ref a1), .val (.int (2 : Int32)), .val (.ref a3), .val (.int (2 : Int32)), .val (.int (3 : Int32)), .val (.int (2 : Int32)), .val (.int x1)] [(.int (2 : Int32)), (.ref a1)])) (fun t k => XS.goto X104.here hx rfl (pc0 := 41) (pc' := 3) rfl (hb hby d_jdk_52_method_21_code_41) (by decide) (by decide) (XS.iload X104.here hx rfl (hb hby d_jdk_52_method_21_code_3) rfl (XS.iload X104.here hx rfl (hb hby d_jdk_52_method_21_code_5) rfl (XS.icmpNo X104.here hx rfl (hb hby d_jdk_52_method_21_code_7) rfl (tlt ((by decide) : (2 : Int32) < (3 : Int32))).2.1 (XS.aloadN X104.here hx rfl (hb hby d_jdk_52_method_21_code_10) rfl rfl (XS.iloadN X104.here hx rfl (hb hby d_jdk_52_method_21_code_11) rfl k)))))) ?_
  obtain ⟨cl105, Ar105, qk105, Sz105, Nn105, Hs105, Gs105⟩ := id ((V1.other W102 NE).other W104 NE)
  have hin105 := (inb_of (j := (2 : Int32)) Sz105 ⟨by decide, by decide⟩)
  refine Goes.step (S' := T104.setTop (mkF m 30 #[.val (.ref a1), .val (.int (2 : Int32)), .val (.ref a3), .val (.int (2 : Int32)), .val (.int (3 : Int32)), .val (.int (2 : Int32)), .val (.int x2)] [(.int x2), (.int (2 : Int32)), (.ref a3)])) (fun t k => X104.caload hx (j := (2 : Int32)) (v := (.int x2)) (by rw [e104]; exact Ar105.1) (State.isArrayOf_alike hZ.alike Ar105.2.1) Ar105.2.2 hin105 (Has.at Hs105 hin105 rfl) (g := (mkF m 12 #[.val (.ref a1), .val (.int (2 : Int32)), .val (.ref a3), .val (.int (2 : Int32)), .val (.int (3 : Int32)), .val (.int (2 : Int32)), .val (.int x1)] [(.int (2 : Int32)), (.ref a1)])) rfl rfl (hb hby d_jdk_52_method_21_code_12) _ (XS.istore X104.here hx rfl (hb hby d_jdk_52_method_21_code_13) rfl (l' := #[.val (.ref a1), .val (.int (2 : Int32)), .val (.ref a3), .val (.int (2 : Int32)), .val (.int (3 : Int32)), .val (.int (2 : Int32)), .val (.int x2)]) rfl (XS.iload X104.here hx rfl (hb hby d_jdk_52_method_21_code_15) rfl (XS.sipush X104.here hx rfl (hb hby d_jdk_52_method_21_code_17) (XS.icmpYes X104.here hx rfl (pc0 := 20) (pc' := 26) rfl (hb hby d_jdk_52_method_21_code_20) rfl (flt (P2 : ¬ ((255 : Int32) < x2))).2.2.2 (by decide) (by decide) (XS.aloadN X104.here hx rfl (hb hby d_jdk_52_method_21_code_26) rfl rfl (XS.iloadN X104.here hx rfl (hb hby d_jdk_52_method_21_code_27) rfl (XS.iload X104.here hx rfl (hb hby d_jdk_52_method_21_code_28) rfl k)))))))) ?_
  refine Goes.step (S' := T104.setTop (mkF m 31 #[.val (.ref a1), .val (.int (2 : Int32)), .val (.ref a3), .val (.int (2 : Int32)), .val (.int (3 : Int32)), .val (.int (2 : Int32)), .val (.int x2)] [(.int (x2.toInt8.toInt32)), (.int (2 : Int32)), (.ref a3)])) (fun t k => XS.i2b X104.here hx rfl (hb hby d_jdk_52_method_21_code_30) rfl k) ?_
  obtain ⟨cl106, Ar106, qk106, Sz106, Nn106, Hs106, Gs106⟩ := id V104
  obtain ⟨T106, h106, X106, e106, W106, st106⟩ := stB X104 hx hZ e104 Ar106 (j := (2 : Int32)) (inb_of (j := (2 : Int32)) Sz106 ⟨by decide, by decide⟩) (g := (mkF m 31 #[.val (.ref a1), .val (.int (2 : Int32)), .val (.ref a3), .val (.int (2 : Int32)), .val (.int (3 : Int32)), .val (.int (2 : Int32)), .val (.int x2)] [(.int (x2.toInt8.toInt32)), (.int (2 : Int32)), (.ref a3)])) rfl rfl (hb hby d_jdk_52_method_21_code_31)
  have V106 : Arv Z h106 a3 k3 .byte (3 : Int32) [(.int (x0.toInt8.toInt32).toInt8.toInt32), (.int (x1.toInt8.toInt32).toInt8.toInt32), (.int (x2.toInt8.toInt32).toInt8.toInt32)] (.int (0 : Int32)) := Arv.set Ar106 qk106 Sz106 Nn106 Hs106 Gs106 (fits_nar_byte _) W106 2 rfl (Nat.le_of_ble_eq_true rfl)
  have N106 := Fr.snoc X106 N104 G3
  refine Goes.step (S' := T106.setTop (mkF m 35 #[.val (.ref a1), .val (.int ((2 : Int32) + (1 : Int32))), .val (.ref a3), .val (.int (2 : Int32)), .val (.int (3 : Int32)), .val (.int (2 : Int32)), .val (.int x2)] [])) (fun t k => st106 _ (XS.iinc X106.here hx rfl (hb hby d_jdk_52_method_21_code_32) rfl (l' := #[.val (.ref a1), .val (.int ((2 : Int32) + (1 : Int32))), .val (.ref a3), .val (.int (2 : Int32)), .val (.int (3 : Int32)), .val (.int (2 : Int32)), .val (.int x2)]) rfl k)) ?_
  rw [show ((2 : Int32) + (1 : Int32)) = (3 : Int32) from by decide]
  refine Goes.step (S' := T106.setTop (mkF m 38 #[.val (.ref a1), .val (.int (3 : Int32)), .val (.ref a3), .val (.int ((2 : Int32) + (1 : Int32))), .val (.int (3 : Int32)), .val (.int (2 : Int32)), .val (.int x2)] [])) (fun t k => XS.iinc X106.here hx rfl (hb hby d_jdk_52_method_21_code_35) rfl (l' := #[.val (.ref a1), .val (.int (3 : Int32)), .val (.ref a3), .val (.int ((2 : Int32) + (1 : Int32))), .val (.int (3 : Int32)), .val (.int (2 : Int32)), .val (.int x2)]) rfl k) ?_
  rw [show ((2 : Int32) + (1 : Int32)) = (3 : Int32) from by decide]
  refine Goes.step (S' := T106.setTop (mkF m 41 #[.val (.ref a1), .val (.int (3 : Int32)), .val (.ref a3), .val (.int (3 : Int32)), .val (.int (3 : Int32)), .val (.int ((2 : Int32) + (1 : Int32))), .val (.int x2)] [])) (fun t k => XS.iinc X106.here hx rfl (hb hby d_jdk_52_method_21_code_38) rfl (l' := #[.val (.ref a1), .val (.int (3 : Int32)), .val (.ref a3), .val (.int (3 : Int32)), .val (.int (3 : Int32)), .val (.int ((2 : Int32) + (1 : Int32))), .val (.int x2)]) rfl k) ?_
  rw [show ((2 : Int32) + (1 : Int32)) = (3 : Int32) from by decide]
  refine Goes.step (S' := T106.setTop (mkF m 46 #[.val (.ref a1), .val (.int (3 : Int32)), .val (.ref a3), .val (.int (3 : Int32)), .val (.int (3 : Int32)), .val (.int (3 : Int32)), .val (.int x2)] [(.int (3 : Int32))])) (fun t k => XS.goto X106.here hx rfl (pc0 := 41) (pc' := 3) rfl (hb hby d_jdk_52_method_21_code_41) (by decide) (by decide) (XS.iload X106.here hx rfl (hb hby d_jdk_52_method_21_code_3) rfl (XS.iload X106.here hx rfl (hb hby d_jdk_52_method_21_code_5) rfl (XS.icmpYes X106.here hx rfl (pc0 := 7) (pc' := 44) rfl (hb hby d_jdk_52_method_21_code_7) rfl (flt ((by decide) : ¬ ((3 : Int32) < (3 : Int32)))).2.1 (by decide) (by decide) (XS.iload X106.here hx rfl (hb hby d_jdk_52_method_21_code_44) rfl k))))) ?_
  refine Goes.leave (g := (mkF m 46 #[.val (.ref a1), .val (.int (3 : Int32)), .val (.ref a3), .val (.int (3 : Int32)), .val (.int (3 : Int32)), .val (.int (3 : Int32)), .val (.int x2)] [(.int (3 : Int32))])) X106 Bd.notSynchronized (v := (some (.int (3 : Int32)))) (fun h => by rw [Bd.returns] at h; cases h) (fun fs hr => retI X106 hx Bd.returns (hb hby d_jdk_52_method_21_code_46) hr) e106 ?_ (by decide) (by decide)
  exact ⟨(.int (x0.toInt8.toInt32).toInt8.toInt32), (.int (x1.toInt8.toInt32).toInt8.toInt32), (.int (x2.toInt8.toInt32).toInt8.toInt32), rfl, N106, ((((Keep.refl _ [a3]).wr W102 (Or.inl (List.mem_of_getElem? (i := 0) rfl))).wr W104 (Or.inl (List.mem_of_getElem? (i := 0) rfl))).wr W106 (Or.inl (List.mem_of_getElem? (i := 0) rfl))), V106⟩

theorem ef_cmq3 (m : MethodId) (x0 : Addr) (x1 : Int32) (x2 : Int32) : entryFrame m #[(.ref x0), (.int x1), (.int x2)] 6 = mkF m 0 #[.val (.ref x0), .val (.int x1), .val (.int x2), .unset, .unset, .unset] [] := by first | (simp [entryFrame, mkF, argsToLocals, Value.category]; done) | rfl
def Q_cmq3 (Z : State) (a1 : Addr) (k1 : ClassId) (x0 : Int32) (x1 : Int32) (x2 : Int32) (h0 : Heap) (n0 : Nat) (v : Option Value) (h : Heap) (L : List Loc) : Prop := ∃ (b : Addr) (kb : ClassId) (y0 : Value) (y1 : Value) (y2 : Value), v = some (.ref b) ∧ Fr n0 L ∧ Keep h0 h [] ∧ h0.size ≤ b ∧ Exa Z h b "[B" ∧ Arv Z h b kb .byte (3 : Int32) [y0, y1, y2] (.int (0 : Int32))
set_option maxRecDepth 65536 in
set_option maxHeartbeats 40000000 in
theorem cmq3 (l : Launch) (Z : State) (a0 : Array Value) (hw : ∀ d ∈ tables_1, d.before a0 Z = true) (ws : List Jvm.Cond) (a1 : Addr) (k1 : ClassId) (x0 : Int32) (x1 : Int32) (x2 : Int32) (h0 : Heap) (n0 : Nat) (Z0 : n0 ≤ h0.size) (V1 : Arv Z h0 a1 k1 .char (3 : Int32) [(.int x0), (.int x1), (.int x2)] (.int (0 : Int32))) (P0 : ¬ ((255 : Int32) < x0)) (P1 : ¬ ((255 : Int32) < x1)) (P2 : ¬ ((255 : Int32) < x2)) :
    MetFree l mth1 (head1 (Jvm.Cond.code mth1 jdk_52_method_16_code 6 (some (.array .byte)) :: ws) rom7) (fun a U => a = #[(.ref a1), (.int (0 : Int32)), (.int (3 : Int32))] ∧ Z.Warmed39 U.vm ∧ U.heap = h0) (fun _ _ _ _ _ => True) (fun _ U o U' => ∃ v L, o = .returned v ∧ Q_cmq3 Z a1 k1 x0 x1 x2 h0 n0 v U'.heap L ∧ FrameEnd U o U' L rom7.cells rom7.slots) := by
  refine MetFree.of_bodySF (plainFor_of_name pnm0) hisR ?_
  intro p e s m args below meth c s₁ Bd hml0 hP hK
  obtain ⟨rfl, hZ, hh⟩ := hP
  have hx := Bd.exec
  have hby := Bd.bytes
  have hml : c.maxLocals = 6 := hml0
  have hown : s.vm.findClass "java/lang/StringUTF16" = some m.cls := findClass_of_methodNamed Bd.named
  have hnm := (name_of_methodNamed Bd.named Bd.method).1
  have X0 : Stand p l e rom7 s m #[(.ref a1), (.int (0 : Int32)), (.int (3 : Int32))] below meth c s₁ [] 0 0 := Stand.of_body Bd
  have eh0 : s₁.heap = h0 := by rw [← hh, Bd.state]; rfl
  have N0 := Fr.nil n0
  have tw17 := hw _ (List.mem_of_getElem? (i := 17) rfl)
  have tw19 := hw _ (List.mem_of_getElem? (i := 19) rfl)
  have tw20 := hw _ (List.mem_of_getElem? (i := 20) rfl)
  have tw21 := hw _ (List.mem_of_getElem? (i := 21) rfl)
  have tw22 := hw _ (List.mem_of_getElem? (i := 22) rfl)
  show Goes p e below (Pq (Q_cmq3 Z a1 k1 x0 x1 x2 h0 n0) s rom7.cells rom7.slots) (s₁.setTop (entryFrame m #[(.ref a1), (.int (0 : Int32)), (.int (3 : Int32))] 6))
  refine Goes.step (S' := s₁.setTop (mkF m 0 #[.val (.ref a1), .val (.int (0 : Int32)), .val (.int (3 : Int32)), .unset, .unset, .unset] [])) (fun t k => castTop (ef_cmq3 m a1 (0 : Int32) (3 : Int32)) k) ?_
  refine Goes.step (S' := s₁.setTop (mkF m 1 #[.val (.ref a1), .val (.int (0 : Int32)), .val (.int (3 : Int32)), .unset, .unset, .unset] [(.int (3 : Int32))])) (fun t k => XS.iloadN X0.here hx rfl (hb hby d_jdk_52_method_16_code_0) rfl k) ?_
  obtain ⟨T101, h101, k101, X101, e101, E101, A101, AE101, st101⟩ := newPE (aty := .byte) X0 hx hZ tw19 eh0 (g := (mkF m 1 #[.val (.ref a1), .val (.int (0 : Int32)), .val (.int (3 : Int32)), .unset, .unset, .unset] [(.int (3 : Int32))])) rfl (hb hby d_jdk_52_method_16_code_1) rfl (by decide) (cap := 3) (by decide) (by decide) (by decide) (by decide) (ad := "[B") rfl
  obtain ⟨b101, g101⟩ : ∃ z, z = h0.size := ⟨_, rfl⟩
  rw [← g101] at A101 AE101 st101
  have V101 : Arv Z h101 b101 k101 .byte (3 : Int32) [(.int (0 : Int32)), (.int (0 : Int32)), (.int (0 : Int32))] (.int (0 : Int32)) := (Arv.new A101 (by decide)).pad (pad_rep [] (.int (0 : Int32)) 3)
  refine Goes.step (S' := T101.setTop (mkF m 9 #[.val (.ref a1), .val (.int (0 : Int32)), .val (.int (3 : Int32)), .val (.ref b101), .unset, .unset] [(.int (3 : Int32)), (.int (0 : Int32)), (.ref b101), (.int (0 : Int32)), (.ref a1)])) (fun t k => st101 _ (XS.astoreN X101.here hx rfl (hb hby d_jdk_52_method_16_code_3) rfl rfl (l' := #[.val (.ref a1), .val (.int (0 : Int32)), .val (.int (3 : Int32)), .val (.ref b101), .unset, .unset]) rfl (XS.aloadN X101.here hx rfl (hb hby d_jdk_52_method_16_code_4) rfl rfl (XS.iloadN X101.here hx rfl (hb hby d_jdk_52_method_16_code_5) rfl (XS.aloadN X101.here hx rfl (hb hby d_jdk_52_method_16_code_6) rfl rfl (XS.iconst X101.here hx rfl (hb hby d_jdk_52_method_16_code_7) (XS.iloadN X101.here hx rfl (hb hby d_jdk_52_method_16_code_8) rfl k))))))) ?_
  obtain ⟨_, _, ⟨T102, L102, k102, n102⟩, -, X102, ⟨Lc102, hQ102, l102, y102, z102⟩, st102⟩ := Jvm.LawKit.callS X101 hx (y := mth0) hown (mvT hZ tw20) (mvT hZ tw21) (mvT hZ tw17) (mvT hZ tw22) (by decide) (backOf (W := 0) (cmp3 l Z a0 hw [] a1 k1 b101 k101 x0 x1 x2 h101 n0 (Nat.le_trans Z0 E101.1) (V1.ext E101) V101 (Nat.le_trans Z0 (Nat.le_of_eq g101.symm)) (Nat.ne_of_lt (Nat.lt_of_lt_of_le V1.lt (Nat.le_of_eq g101.symm))) (P0 : ¬ ((255 : Int32) < x0)) (P1 : ¬ ((255 : Int32) < x1)) (P2 : ¬ ((255 : Int32) < x2))) hZ tw22 tw17 (by decide) (by decide)) (g := (mkF m 9 #[.val (.ref a1), .val (.int (0 : Int32)), .val (.int (3 : Int32)), .val (.ref b101), .unset, .unset] [(.int (3 : Int32)), (.int (0 : Int32)), (.ref b101), (.int (0 : Int32)), (.ref a1)])) rfl (by rw [hml]; rfl) (argsL := [(.ref a1), (.int (0 : Int32)), (.ref b101), (.int (0 : Int32)), (.int (3 : Int32))]) (rest := []) (lenOf pd_CI_BII_I rfl) rfl (Nat.le_of_eq rfl) (hb hby d_jdk_52_method_16_code_9) (fun _ _ => ⟨rfl, e101, (by decide : 1 + 0 ≤ _), (by decide : 3 + 0 ≤ _)⟩)
  dsimp only [Pt.U, Pt.locs, Pt.cells, Pt.slots] at X102 l102 y102 z102 st102 hQ102
  subst y102 z102
  obtain ⟨y0_102, y1_102, y2_102, rfl, Nq102, q102_0, q102_1⟩ := hQ102
  have N102 : Fr n0 L102 := by rw [l102]; exact Fr.app N0 Nq102
  refine Goes.step (S' := T102.setTop (mkF m 58 #[.val (.ref a1), .val (.int (0 : Int32)), .val (.int (3 : Int32)), .val (.ref b101), .val (.int (3 : Int32)), .unset] [(.ref b101)])) (fun t k => st102 _ (XS.istore X102.here hx rfl (hb hby d_jdk_52_method_16_code_12) rfl (l' := #[.val (.ref a1), .val (.int (0 : Int32)), .val (.int (3 : Int32)), .val (.ref b101), .val (.int (3 : Int32)), .unset]) rfl (XS.iload X102.here hx rfl (hb hby d_jdk_52_method_16_code_14) rfl (XS.iloadN X102.here hx rfl (hb hby d_jdk_52_method_16_code_16) rfl (XS.icmpYes X102.here hx rfl (pc0 := 17) (pc' := 57) rfl (hb hby d_jdk_52_method_16_code_17) rfl (teq ((by decide) : (3 : Int32) = (3 : Int32))).1 (by decide) (by decide) (XS.aloadN X102.here hx rfl (hb hby d_jdk_52_method_16_code_57) rfl rfl k)))))) ?_
  refine Goes.leave (g := (mkF m 58 #[.val (.ref a1), .val (.int (0 : Int32)), .val (.int (3 : Int32)), .val (.ref b101), .val (.int (3 : Int32)), .unset] [(.ref b101)])) X102 Bd.notSynchronized (v := (some (.ref b101))) (fun h => by rw [Bd.returns] at h; cases h) (fun fs hr => by jvm_step X102.here [X102.here.top, hx, (hb hby d_jdk_52_method_16_code_58), X102.method', Bd.returns, Value.isRef, FieldType.isReference]; (first | (intro acts; rw [hr _ acts rfl rfl rfl]) | rw [hr _ _ rfl rfl rfl]); exact Steps.refl _) rfl ?_ (by decide) (by decide)
  exact ⟨b101, k101, y0_102, y1_102, y2_102, rfl, N102, (((Keep.refl _ []).ext E101).trans q102_0 (allS (Or.inr (Nat.le_of_eq g101.symm)) all0)), (Nat.le_of_eq g101.symm), (AE101.keep q102_0), q102_1⟩

theorem ef_cfa3 (m : MethodId) (x0 : Addr) (x1 : Int32) : entryFrame m #[(.ref x0), (.int x1)] 2 = mkF m 0 #[.val (.ref x0), .val (.int x1)] [] := by first | (simp [entryFrame, mkF, argsToLocals, Value.category]; done) | rfl
def Q_cfa3 (Z : State) (a1 : Addr) (k1 : ClassId) (y0 : Value) (y1 : Value) (y2 : Value) (h0 : Heap) (n0 : Nat) (v : Option Value) (h : Heap) (L : List Loc) : Prop := v = some (.int (0 : Int32)) ∧ Fr n0 L ∧ h = h0
set_option maxRecDepth 65536 in
set_option maxHeartbeats 40000000 in
theorem cfa3 (l : Launch) (Z : State) (a0 : Array Value) (hw : ∀ d ∈ tables_1, d.before a0 Z = true) (ws : List Jvm.Cond) (a1 : Addr) (k1 : ClassId) (y0 : Value) (y1 : Value) (y2 : Value) (h0 : Heap) (n0 : Nat) (Z0 : n0 ≤ h0.size) (V1 : Arv Z h0 a1 k1 .byte (3 : Int32) [y0, y1, y2] (.int (0 : Int32))) :
    MetFree l mth2 (head1 (Jvm.Cond.code mth2 jdk_52_method_15_code 2 (some .byte) :: ws) rom0) (fun a U => a = #[(.ref a1), (.int (3 : Int32))] ∧ Z.Warmed39 U.vm ∧ U.heap = h0) (fun _ _ _ _ _ => True) (fun _ U o U' => ∃ v L, o = .returned v ∧ Q_cfa3 Z a1 k1 y0 y1 y2 h0 n0 v U'.heap L ∧ FrameEnd U o U' L rom0.cells rom0.slots) := by
  refine MetFree.of_bodySF (plainFor_of_name pnm0) hisR ?_
  intro p e s m args below meth c s₁ Bd hml0 hP hK
  obtain ⟨rfl, hZ, hh⟩ := hP
  have hx := Bd.exec
  have hby := Bd.bytes
  have hml : c.maxLocals = 2 := hml0
  have hown : s.vm.findClass "java/lang/StringUTF16" = some m.cls := findClass_of_methodNamed Bd.named
  have hnm := (name_of_methodNamed Bd.named Bd.method).1
  have X0 : Stand p l e rom0 s m #[(.ref a1), (.int (3 : Int32))] below meth c s₁ [] 0 0 := Stand.of_body Bd
  have eh0 : s₁.heap = h0 := by rw [← hh, Bd.state]; rfl
  have N0 := Fr.nil n0
  show Goes p e below (Pq (Q_cfa3 Z a1 k1 y0 y1 y2 h0 n0) s rom0.cells rom0.slots) (s₁.setTop (entryFrame m #[(.ref a1), (.int (3 : Int32))] 2))
  refine Goes.step (S' := s₁.setTop (mkF m 0 #[.val (.ref a1), .val (.int (3 : Int32))] [])) (fun t k => castTop (ef_cfa3 m a1 (3 : Int32)) k) ?_
  refine Goes.step (S' := s₁.setTop (mkF m 2 #[.val (.ref a1), .val (.int (3 : Int32))] [(.ref a1), (.int (3 : Int32))])) (fun t k => XS.iloadN X0.here hx rfl (hb hby d_jdk_52_method_15_code_0) rfl (XS.aloadN X0.here hx rfl (hb hby d_jdk_52_method_15_code_1) rfl rfl k)) ?_
  obtain ⟨cl101, Ar101, qk101, Sz101, Nn101, Hs101, Gs101⟩ := id V1
  refine Goes.step (S' := s₁.setTop (mkF m 3 #[.val (.ref a1), .val (.int (3 : Int32))] [(.int (3 : Int32)), (.int (3 : Int32))])) (fun t k => X0.arraylength hx (by rw [eh0]; exact Ar101.1) (State.isArrayOf_alike hZ.alike Ar101.2.1) (g := (mkF m 2 #[.val (.ref a1), .val (.int (3 : Int32))] [(.ref a1), (.int (3 : Int32))])) rfl rfl (hb hby d_jdk_52_method_15_code_2) _ (by rw [len_of Sz101 Nn101]; exact k)) ?_
  refine Goes.step (S' := s₁.setTop (mkF m 4 #[.val (.ref a1), .val (.int (3 : Int32))] [(.int ((3 : Int32) - (3 : Int32)))])) (fun t k => XS.isub X0.here hx rfl (hb hby d_jdk_52_method_15_code_3) rfl k) ?_
  rw [show ((3 : Int32) - (3 : Int32)) = (0 : Int32) from by decide]
  refine Goes.step (S' := s₁.setTop (mkF m 7 #[.val (.ref a1), .val (.int (3 : Int32))] [(.int (((0 : Int32).toUInt32 >>> ((31 : Int32) &&& 31).toUInt32).toInt32))])) (fun t k => XS.bipush X0.here hx rfl (hb hby d_jdk_52_method_15_code_4) (XS.iushr X0.here hx rfl (hb hby d_jdk_52_method_15_code_6) rfl k)) ?_
  rw [show (((0 : Int32).toUInt32 >>> ((31 : Int32) &&& 31).toUInt32).toInt32) = (0 : Int32) from by decide]
  refine Goes.step (S' := s₁.setTop (mkF m 8 #[.val (.ref a1), .val (.int (3 : Int32))] [(.int ((0 : Int32).toInt8.toInt32))])) (fun t k => XS.i2b X0.here hx rfl (hb hby d_jdk_52_method_15_code_7) rfl k) ?_
  rw [show ((0 : Int32).toInt8.toInt32) = (0 : Int32) from by decide]
  refine Goes.leave (g := (mkF m 8 #[.val (.ref a1), .val (.int (3 : Int32))] [(.int (0 : Int32))])) X0 Bd.notSynchronized (v := (some (.int (0 : Int32)))) (fun h => by rw [Bd.returns] at h; cases h) (fun fs hr => retN X0 hx (t := .byte) Bd.returns (by simp) (hb hby d_jdk_52_method_15_code_8) hr) eh0 ?_ (by decide) (by decide)
  exact ⟨rfl, N0, rfl⟩

theorem ef_sif3 (m : MethodId) (x0 : Addr) (x1 : Addr) (x2 : Int32) (x3 : Int32) : entryFrame m #[(.ref x0), (.ref x1), (.int x2), (.int x3), .null] 6 = mkF m 0 #[.val (.ref x0), .val (.ref x1), .val (.int x2), .val (.int x3), .val .null, .unset] [] := by first | (simp [entryFrame, mkF, argsToLocals, Value.category]; done) | rfl
def Q_sif3 (Z : State) (a1 : Addr) (a2 : Addr) (k1 : ClassId) (cs : Int32) (x0 : Int32) (x1 : Int32) (x2 : Int32) (h0 : Heap) (n0 : Nat) (v : Option Value) (h : Heap) (L : List Loc) : Prop := v = none ∧ Fr n0 L ∧ Keep h0 h [a1]
set_option maxRecDepth 65536 in
set_option maxHeartbeats 40000000 in
theorem sif3 (l : Launch) (Z : State) (a0 : Array Value) (hw : ∀ d ∈ tables_1, d.before a0 Z = true) (ws : List Jvm.Cond) (a1 : Addr) (a2 : Addr) (k1 : ClassId) (cs : Int32) (x0 : Int32) (x1 : Int32) (x2 : Int32) (h0 : Heap) (n0 : Nat) (Z0 : n0 ≤ h0.size) (E1 : Exa Z h0 a1 "java/lang/String") (Fv : Fld Z h0 a1 "java/lang/String" "value" "[B" .null) (Fc : Fld Z h0 a1 "java/lang/String" "coder" "B" (.int (0 : Int32))) (G1 : n0 ≤ a1) (SC : Sta Z h0 "java/lang/String" "COMPACT_STRINGS" "Z" (.int cs)) (PC : ¬ (cs = (0 : Int32))) (V1 : Arv Z h0 a2 k1 .char (3 : Int32) [(.int x0), (.int x1), (.int x2)] (.int (0 : Int32))) (P0 : ¬ ((255 : Int32) < x0)) (P1 : ¬ ((255 : Int32) < x1)) (P2 : ¬ ((255 : Int32) < x2)) :
    MetFree l mth3 (head1 (Jvm.Cond.code mth3 jdk_42_method_149_code 6 none :: ws) rom8) (fun a U => a = #[(.ref a1), (.ref a2), (.int (0 : Int32)), (.int (3 : Int32)), .null] ∧ Z.Warmed39 U.vm ∧ U.heap = h0) (fun _ _ _ _ _ => True) (fun _ U o U' => ∃ v L, o = .returned v ∧ Q_sif3 Z a1 a2 k1 cs x0 x1 x2 h0 n0 v U'.heap L ∧ FrameEnd U o U' L rom8.cells rom8.slots) := by
  refine MetFree.of_bodySF (plainFor_of_name pnm1) hisR ?_
  intro p e s m args below meth c s₁ Bd hml0 hP hK
  obtain ⟨rfl, hZ, hh⟩ := hP
  have hx := Bd.exec
  have hby := Bd.bytes
  have hml : c.maxLocals = 6 := hml0
  have hown : s.vm.findClass "java/lang/String" = some m.cls := findClass_of_methodNamed Bd.named
  have hnm := (name_of_methodNamed Bd.named Bd.method).1
  have X0 : Stand p l e rom8 s m #[(.ref a1), (.ref a2), (.int (0 : Int32)), (.int (3 : Int32)), .null] below meth c s₁ [] 0 0 := Stand.of_body Bd
  have eh0 : s₁.heap = h0 := by rw [← hh, Bd.state]; rfl
  have N0 := Fr.nil n0
  have tw2 := hw _ (List.mem_of_getElem? (i := 2) rfl)
  have tw11 := hw _ (List.mem_of_getElem? (i := 11) rfl)
  have tw12 := hw _ (List.mem_of_getElem? (i := 12) rfl)
  have tw13 := hw _ (List.mem_of_getElem? (i := 13) rfl)
  have tw14 := hw _ (List.mem_of_getElem? (i := 14) rfl)
  have tw15 := hw _ (List.mem_of_getElem? (i := 15) rfl)
  have tw16 := hw _ (List.mem_of_getElem? (i := 16) rfl)
  have tw17 := hw _ (List.mem_of_getElem? (i := 17) rfl)
  have tw18 := hw _ (List.mem_of_getElem? (i := 18) rfl)
  have tw23 := hw _ (List.mem_of_getElem? (i := 23) rfl)
  have tw24 := hw _ (List.mem_of_getElem? (i := 24) rfl)
  have tw25 := hw _ (List.mem_of_getElem? (i := 25) rfl)
  have tw26 := hw _ (List.mem_of_getElem? (i := 26) rfl)
  have tw27 := hw _ (List.mem_of_getElem? (i := 27) rfl)
  have tw28 := hw _ (List.mem_of_getElem? (i := 28) rfl)
  have tw29 := hw _ (List.mem_of_getElem? (i := 29) rfl)
  show Goes p e below (Pq (Q_sif3 Z a1 a2 k1 cs x0 x1 x2 h0 n0) s rom8.cells rom8.slots) (s₁.setTop (entryFrame m #[(.ref a1), (.ref a2), (.int (0 : Int32)), (.int (3 : Int32)), .null] 6))
  refine Goes.step (S' := s₁.setTop (mkF m 0 #[.val (.ref a1), .val (.ref a2), .val (.int (0 : Int32)), .val (.int (3 : Int32)), .val .null, .unset] [])) (fun t k => castTop (ef_sif3 m a1 a2 (0 : Int32) (3 : Int32)) k) ?_
  refine Goes.step (S' := s₁.setTop (mkF m 1 #[.val (.ref a1), .val (.ref a2), .val (.int (0 : Int32)), .val (.int (3 : Int32)), .val .null, .unset] [(.ref a1)])) (fun t k => XS.aloadN X0.here hx rfl (hb hby d_jdk_42_method_149_code_0) rfl rfl k) ?_
  obtain ⟨T101, X101, e101, st101⟩ := initO X0 hx hZ hown tw11 tw12 tw13 eh0 (g := (mkF m 1 #[.val (.ref a1), .val (.ref a2), .val (.int (0 : Int32)), .val (.int (3 : Int32)), .val .null, .unset] [(.ref a1)])) rfl (by rw [hml]; rfl) rfl (hb hby d_jdk_42_method_149_code_1) (by decide) (W := 0) (Nat.le_of_eq rfl) (by decide)
  refine Goes.step (S' := T101.setTop (mkF m 27 #[.val (.ref a1), .val (.ref a2), .val (.int (0 : Int32)), .val (.int (3 : Int32)), .val .null, .unset] [])) (fun t k => st101 _ (XS.iloadN X101.here hx rfl (hb hby d_jdk_42_method_149_code_4) rfl (XS.ifYes X101.here hx rfl (pc0 := 5) (pc' := 27) rfl (hb hby d_jdk_42_method_149_code_5) rfl ((if0 _ _).trans (feq ((by decide) : ¬ ((3 : Int32) = (0 : Int32)))).2) (by decide) (by decide) k))) ?_
  obtain ⟨T102, X102, e102, st102⟩ := getS2 X101 hx hZ hown (host := "") (Or.inl tw14) Via.refl e101 SC (g := (mkF m 27 #[.val (.ref a1), .val (.ref a2), .val (.int (0 : Int32)), .val (.int (3 : Int32)), .val .null, .unset] [])) rfl (hb hby d_jdk_42_method_149_code_27)
  refine Goes.step (S' := T102.setTop (mkF m 36 #[.val (.ref a1), .val (.ref a2), .val (.int (0 : Int32)), .val (.int (3 : Int32)), .val .null, .unset] [(.int (3 : Int32)), (.int (0 : Int32)), (.ref a2)])) (fun t k => st102 _ (XS.ifNo X102.here hx rfl (hb hby d_jdk_42_method_149_code_30) rfl ((if0 _ _).trans (feq (PC : ¬ (cs = (0 : Int32)))).1) (XS.aloadN X102.here hx rfl (hb hby d_jdk_42_method_149_code_33) rfl rfl (XS.iloadN X102.here hx rfl (hb hby d_jdk_42_method_149_code_34) rfl (XS.iloadN X102.here hx rfl (hb hby d_jdk_42_method_149_code_35) rfl k))))) ?_
  obtain ⟨_, _, ⟨T103, L103, k103, n103⟩, -, X103, ⟨Lc103, hQ103, l103, y103, z103⟩, st103⟩ := Jvm.LawKit.callS X102 hx (y := mth1) hown (mvT hZ tw15) (mvT hZ tw16) (mvT hZ tw17) (mvT hZ tw18) (by decide) (backOf (W := 0) (cmq3 l Z a0 hw [] a2 k1 x0 x1 x2 h0 n0 Z0 V1 (P0 : ¬ ((255 : Int32) < x0)) (P1 : ¬ ((255 : Int32) < x1)) (P2 : ¬ ((255 : Int32) < x2))) hZ tw18 tw17 (by decide) (by decide)) (g := (mkF m 36 #[.val (.ref a1), .val (.ref a2), .val (.int (0 : Int32)), .val (.int (3 : Int32)), .val .null, .unset] [(.int (3 : Int32)), (.int (0 : Int32)), (.ref a2)])) rfl (by rw [hml]; rfl) (argsL := [(.ref a2), (.int (0 : Int32)), (.int (3 : Int32))]) (rest := []) (lenOf pd_CII__B rfl) rfl (Nat.le_of_eq rfl) (hb hby d_jdk_42_method_149_code_36) (fun _ _ => ⟨rfl, e102, (by decide : 0 + 1 ≤ _), (by decide : 0 + 3 ≤ _)⟩)
  dsimp only [Pt.U, Pt.locs, Pt.cells, Pt.slots] at X103 l103 y103 z103 st103 hQ103
  subst y103 z103
  obtain ⟨b_103, kb_103, y0_103, y1_103, y2_103, rfl, Nq103, q103_0, q103_1, q103_2, q103_3⟩ := hQ103
  have N103 : Fr n0 L103 := by rw [l103]; exact Fr.app N0 Nq103
  refine Goes.step (S' := T103.setTop (mkF m 45 #[.val (.ref a1), .val (.ref a2), .val (.int (0 : Int32)), .val (.int (3 : Int32)), .val .null, .val (.ref b_103)] [(.int (3 : Int32)), (.ref b_103), (.ref a1)])) (fun t k => st103 _ (XS.astore X103.here hx rfl (hb hby d_jdk_42_method_149_code_39) rfl rfl (l' := #[.val (.ref a1), .val (.ref a2), .val (.int (0 : Int32)), .val (.int (3 : Int32)), .val .null, .val (.ref b_103)]) rfl (XS.aloadN X103.here hx rfl (hb hby d_jdk_42_method_149_code_41) rfl rfl (XS.aload X103.here hx rfl (hb hby d_jdk_42_method_149_code_42) rfl rfl (XS.iloadN X103.here hx rfl (hb hby d_jdk_42_method_149_code_44) rfl k))))) ?_
  obtain ⟨_, _, ⟨T104, L104, k104, n104⟩, -, X104, ⟨Lc104, hQ104, l104, y104, z104⟩, st104⟩ := Jvm.LawKit.callS X103 hx (y := mth2) hown (mvT hZ tw23) (mvT hZ tw24) (mvT hZ tw17) (mvT hZ tw25) (by decide) (backOf (W := 1) (cfa3 l Z a0 hw [] b_103 kb_103 y0_103 y1_103 y2_103 T103.heap n0 (Nat.le_trans Z0 q103_0.1) q103_3) hZ tw25 tw17 (by decide) (by decide)) (g := (mkF m 45 #[.val (.ref a1), .val (.ref a2), .val (.int (0 : Int32)), .val (.int (3 : Int32)), .val .null, .val (.ref b_103)] [(.int (3 : Int32)), (.ref b_103), (.ref a1)])) rfl (by rw [hml]; rfl) (argsL := [(.ref b_103), (.int (3 : Int32))]) (rest := [(.ref a1)]) (lenOf pd_BI_B rfl) rfl (Nat.le_of_eq rfl) (hb hby d_jdk_42_method_149_code_45) (fun _ _ => ⟨rfl, rfl, (by decide : 1 + 0 ≤ _), (by decide : 3 + 0 ≤ _)⟩)
  dsimp only [Pt.U, Pt.locs, Pt.cells, Pt.slots] at X104 l104 y104 z104 st104 hQ104
  subst y104 z104
  obtain ⟨rfl, Nq104, q104_0⟩ := hQ104
  have N104 : Fr n0 L104 := by rw [l104]; exact Fr.app N103 Nq104
  refine Goes.step (S' := T104.setTop (mkF m 48 #[.val (.ref a1), .val (.ref a2), .val (.int (0 : Int32)), .val (.int (3 : Int32)), .val .null, .val (.ref b_103)] [(.int (0 : Int32)), (.ref a1)])) (fun t k => st104 _ k) ?_
  obtain ⟨T105, h105, X105, e105, W105, st105⟩ := putFN X104 hx hZ hown tw26 Via.refl q104_0 (Fc.keep q103_0 nin0) (E1.keep q103_0) (Or.inr ⟨tw27, rfl, hnm⟩) tw2 (ty := .byte) (v' := (.int (0 : Int32))) (by decide) rfl (by decide) (g := (mkF m 48 #[.val (.ref a1), .val (.ref a2), .val (.int (0 : Int32)), .val (.int (3 : Int32)), .val .null, .val (.ref b_103)] [(.int (0 : Int32)), (.ref a1)])) rfl rfl (hb hby d_jdk_42_method_149_code_48)
  have Fw105 : Fld Z h105 a1 "java/lang/String" "coder" "B" (.int (0 : Int32)) := Fld.same W105 (Fc.keep q103_0 nin0)
  have N105 := Fr.snoc X105 N104 G1
  refine Goes.step (S' := T105.setTop (mkF m 54 #[.val (.ref a1), .val (.ref a2), .val (.int (0 : Int32)), .val (.int (3 : Int32)), .val .null, .val (.ref b_103)] [(.ref b_103), (.ref a1)])) (fun t k => st105 _ (XS.aloadN X105.here hx rfl (hb hby d_jdk_42_method_149_code_51) rfl rfl (XS.aload X105.here hx rfl (hb hby d_jdk_42_method_149_code_52) rfl rfl k))) ?_
  obtain ⟨T106, h106, X106, e106, W106, st106⟩ := putF X105 hx hZ hown (host := "") (Or.inl tw28) Via.refl e105 (Fld.other W105 (Fv.keep q103_0 nin0) (Or.inr (slot_ne (Or.inr tw29) (Or.inr tw27) (by decide) (t := (.array .byte)) (t' := .byte) (by decide) (by decide)))) (Exa.wr W105 (E1.keep q103_0)) (Or.inr ⟨tw29, rfl, hnm⟩) tw2 (ty := (.array .byte)) (by decide) rfl rfl (g := (mkF m 54 #[.val (.ref a1), .val (.ref a2), .val (.int (0 : Int32)), .val (.int (3 : Int32)), .val .null, .val (.ref b_103)] [(.ref b_103), (.ref a1)])) rfl rfl (hb hby d_jdk_42_method_149_code_54)
  have Fw106 : Fld Z h106 a1 "java/lang/String" "value" "[B" (.ref b_103) := Fld.same W106 (Fld.other W105 (Fv.keep q103_0 nin0) (Or.inr (slot_ne (Or.inr tw29) (Or.inr tw27) (by decide) (t := (.array .byte)) (t' := .byte) (by decide) (by decide))))
  have N106 := Fr.snoc X106 N105 G1
  refine Goes.step (S' := T106.setTop (mkF m 57 #[.val (.ref a1), .val (.ref a2), .val (.int (0 : Int32)), .val (.int (3 : Int32)), .val .null, .val (.ref b_103)] [])) (fun t k => st106 _ k) ?_
  refine Goes.leave (g := (mkF m 57 #[.val (.ref a1), .val (.ref a2), .val (.int (0 : Int32)), .val (.int (3 : Int32)), .val .null, .val (.ref b_103)] [])) X106 Bd.notSynchronized (v := none) (fun _ => rfl) (fun fs hr => X106.returnOut hx Bd.returns (hb hby d_jdk_42_method_149_code_57) hr) e106 ?_ (by decide) (by decide)
  exact ⟨rfl, N106, ((((Keep.refl _ [a1]).trans q103_0 all0).wr W105 (Or.inl (List.mem_of_getElem? (i := 0) rfl))).wr W106 (Or.inl (List.mem_of_getElem? (i := 0) rfl)))⟩

theorem ef_sic3 (m : MethodId) (x0 : Addr) (x1 : Addr) : entryFrame m #[(.ref x0), (.ref x1)] 2 = mkF m 0 #[.val (.ref x0), .val (.ref x1)] [] := by first | (simp [entryFrame, mkF, argsToLocals, Value.category]; done) | rfl
def Q_sic3 (Z : State) (a1 : Addr) (a2 : Addr) (k1 : ClassId) (cs : Int32) (x0 : Int32) (x1 : Int32) (x2 : Int32) (h0 : Heap) (n0 : Nat) (v : Option Value) (h : Heap) (L : List Loc) : Prop := v = none ∧ Fr n0 L ∧ Keep h0 h [a1]
set_option maxRecDepth 65536 in
set_option maxHeartbeats 40000000 in
theorem sic3 (l : Launch) (Z : State) (a0 : Array Value) (hw : ∀ d ∈ tables_1, d.before a0 Z = true) (ws : List Jvm.Cond) (a1 : Addr) (a2 : Addr) (k1 : ClassId) (cs : Int32) (x0 : Int32) (x1 : Int32) (x2 : Int32) (h0 : Heap) (n0 : Nat) (Z0 : n0 ≤ h0.size) (E1 : Exa Z h0 a1 "java/lang/String") (Fv : Fld Z h0 a1 "java/lang/String" "value" "[B" .null) (Fc : Fld Z h0 a1 "java/lang/String" "coder" "B" (.int (0 : Int32))) (G1 : n0 ≤ a1) (SC : Sta Z h0 "java/lang/String" "COMPACT_STRINGS" "Z" (.int cs)) (PC : ¬ (cs = (0 : Int32))) (V1 : Arv Z h0 a2 k1 .char (3 : Int32) [(.int x0), (.int x1), (.int x2)] (.int (0 : Int32))) (P0 : ¬ ((255 : Int32) < x0)) (P1 : ¬ ((255 : Int32) < x1)) (P2 : ¬ ((255 : Int32) < x2)) :
    MetFree l mth4 (head1 (Jvm.Cond.code mth4 jdk_42_method_3_code 2 none :: ws) rom9) (fun a U => a = #[(.ref a1), (.ref a2)] ∧ Z.Warmed39 U.vm ∧ U.heap = h0) (fun _ _ _ _ _ => True) (fun _ U o U' => ∃ v L, o = .returned v ∧ Q_sic3 Z a1 a2 k1 cs x0 x1 x2 h0 n0 v U'.heap L ∧ FrameEnd U o U' L rom9.cells rom9.slots) := by
  refine MetFree.of_bodySF (plainFor_of_name pnm1) hisR ?_
  intro p e s m args below meth c s₁ Bd hml0 hP hK
  obtain ⟨rfl, hZ, hh⟩ := hP
  have hx := Bd.exec
  have hby := Bd.bytes
  have hml : c.maxLocals = 2 := hml0
  have hown : s.vm.findClass "java/lang/String" = some m.cls := findClass_of_methodNamed Bd.named
  have hnm := (name_of_methodNamed Bd.named Bd.method).1
  have X0 : Stand p l e rom9 s m #[(.ref a1), (.ref a2)] below meth c s₁ [] 0 0 := Stand.of_body Bd
  have eh0 : s₁.heap = h0 := by rw [← hh, Bd.state]; rfl
  have N0 := Fr.nil n0
  have tw3 := hw _ (List.mem_of_getElem? (i := 3) rfl)
  have tw7 := hw _ (List.mem_of_getElem? (i := 7) rfl)
  have tw8 := hw _ (List.mem_of_getElem? (i := 8) rfl)
  have tw10 := hw _ (List.mem_of_getElem? (i := 10) rfl)
  show Goes p e below (Pq (Q_sic3 Z a1 a2 k1 cs x0 x1 x2 h0 n0) s rom9.cells rom9.slots) (s₁.setTop (entryFrame m #[(.ref a1), (.ref a2)] 2))
  refine Goes.step (S' := s₁.setTop (mkF m 0 #[.val (.ref a1), .val (.ref a2)] [])) (fun t k => castTop (ef_sic3 m a1 a2) k) ?_
  refine Goes.step (S' := s₁.setTop (mkF m 4 #[.val (.ref a1), .val (.ref a2)] [(.ref a2), (.int (0 : Int32)), (.ref a2), (.ref a1)])) (fun t k => XS.aloadN X0.here hx rfl (hb hby d_jdk_42_method_3_code_0) rfl rfl (XS.aloadN X0.here hx rfl (hb hby d_jdk_42_method_3_code_1) rfl rfl (XS.iconst X0.here hx rfl (hb hby d_jdk_42_method_3_code_2) (XS.aloadN X0.here hx rfl (hb hby d_jdk_42_method_3_code_3) rfl rfl k)))) ?_
  obtain ⟨cl101, Ar101, qk101, Sz101, Nn101, Hs101, Gs101⟩ := id V1
  refine Goes.step (S' := s₁.setTop (mkF m 5 #[.val (.ref a1), .val (.ref a2)] [(.int (3 : Int32)), (.int (0 : Int32)), (.ref a2), (.ref a1)])) (fun t k => X0.arraylength hx (by rw [eh0]; exact Ar101.1) (State.isArrayOf_alike hZ.alike Ar101.2.1) (g := (mkF m 4 #[.val (.ref a1), .val (.ref a2)] [(.ref a2), (.int (0 : Int32)), (.ref a2), (.ref a1)])) rfl rfl (hb hby d_jdk_42_method_3_code_4) _ (by rw [len_of Sz101 Nn101]; exact k)) ?_
  refine Goes.step (S' := s₁.setTop (mkF m 6 #[.val (.ref a1), .val (.ref a2)] [.null, (.int (3 : Int32)), (.int (0 : Int32)), (.ref a2), (.ref a1)])) (fun t k => XS.aconstNull X0.here hx rfl (hb hby d_jdk_42_method_3_code_5) k) ?_
  obtain ⟨_, _, ⟨T102, L102, k102, n102⟩, -, X102, ⟨Lc102, hQ102, l102, y102, z102⟩, st102⟩ := X0.specialBack hx (y := mth3) rfl hown (mvT hZ tw7) (mvT hZ tw8) (mvT hZ tw10) (by decide) (backOf (W := 0) (sif3 l Z a0 hw [] a1 a2 k1 cs x0 x1 x2 h0 n0 Z0 E1 Fv Fc G1 SC (PC : ¬ (cs = (0 : Int32))) V1 (P0 : ¬ ((255 : Int32) < x0)) (P1 : ¬ ((255 : Int32) < x1)) (P2 : ¬ ((255 : Int32) < x2))) hZ tw10 tw3 (by decide) (by decide)) (g := (mkF m 6 #[.val (.ref a1), .val (.ref a2)] [.null, (.int (3 : Int32)), (.int (0 : Int32)), (.ref a2), (.ref a1)])) rfl (by rw [hml]; rfl) (Steps.refl _) (a := a1) (argsL := [(.ref a2), (.int (0 : Int32)), (.int (3 : Int32)), .null]) (rest := []) (lenOf pd_CIILjava_lang_Void__V rfl) rfl (Nat.le_of_eq rfl) (hb hby d_jdk_42_method_3_code_6) (fun _ _ => ⟨rfl, eh0, (by decide : 0 + 1 ≤ _), (by decide : 0 + 3 ≤ _)⟩)
  dsimp only [Pt.U, Pt.locs, Pt.cells, Pt.slots] at X102 l102 y102 z102 st102 hQ102
  subst y102 z102
  obtain ⟨rfl, Nq102, q102_0⟩ := hQ102
  have N102 : Fr n0 L102 := by rw [l102]; exact Fr.app N0 Nq102
  refine Goes.step (S' := T102.setTop (mkF m 9 #[.val (.ref a1), .val (.ref a2)] [])) (fun t k => st102.trans k) ?_
  refine Goes.leave (g := (mkF m 9 #[.val (.ref a1), .val (.ref a2)] [])) X102 Bd.notSynchronized (v := none) (fun _ => rfl) (fun fs hr => X102.returnOut hx Bd.returns (hb hby d_jdk_42_method_3_code_9) hr) rfl ?_ (by decide) (by decide)
  exact ⟨rfl, N102, ((Keep.refl _ [a1]).trans q102_0 (allS (Or.inl (List.mem_of_getElem? (i := 0) rfl)) all0))⟩

theorem ef_sif0 (m : MethodId) (x0 : Addr) (x1 : Addr) (x2 : Int32) (x3 : Int32) : entryFrame m #[(.ref x0), (.ref x1), (.int x2), (.int x3), .null] 6 = mkF m 0 #[.val (.ref x0), .val (.ref x1), .val (.int x2), .val (.int x3), .val .null, .unset] [] := by first | (simp [entryFrame, mkF, argsToLocals, Value.category]; done) | rfl
def Q_sif0 (Z : State) (a1 : Addr) (a2 : Addr) (k1 : ClassId) (h0 : Heap) (n0 : Nat) (v : Option Value) (h : Heap) (L : List Loc) : Prop := v = none ∧ Fr n0 L ∧ Keep h0 h [a1]
set_option maxRecDepth 65536 in
set_option maxHeartbeats 40000000 in
theorem sif0 (l : Launch) (Z : State) (a0 : Array Value) (hw : ∀ d ∈ tables_1, d.before a0 Z = true) (ws : List Jvm.Cond) (a1 : Addr) (a2 : Addr) (k1 : ClassId) (h0 : Heap) (n0 : Nat) (Z0 : n0 ≤ h0.size) (E1 : Exa Z h0 a1 "java/lang/String") (Fv : Fld Z h0 a1 "java/lang/String" "value" "[B" .null) (Fc : Fld Z h0 a1 "java/lang/String" "coder" "B" (.int (0 : Int32))) (G1 : n0 ≤ a1) (V1 : Arv Z h0 a2 k1 .char (0 : Int32) [] (.int (0 : Int32))) :
    MetFree l mth3 (head1 (Jvm.Cond.code mth3 jdk_42_method_149_code 6 none :: ws) rom10) (fun a U => a = #[(.ref a1), (.ref a2), (.int (0 : Int32)), (.int (0 : Int32)), .null] ∧ Z.Warmed39 U.vm ∧ U.heap = h0 ∧ CHv Z own_EL U.vm h0) (fun _ _ _ _ _ => True) (fun _ U o U' => ∃ v L, o = .returned v ∧ Q_sif0 Z a1 a2 k1 h0 n0 v U'.heap L ∧ CHr Z own_EL U.vm U.heap U'.vm U'.heap ∧ ReturnedEndW U o U' L rom10.cells rom10.slots) := by
  refine MetFree.of_bodySF (plainFor_of_name pnm1) hisR ?_
  intro p e s m args below meth c s₁ Bd hml0 hP hK
  obtain ⟨rfl, hZ, hh, hC⟩ := hP
  have hx := Bd.exec
  have hby := Bd.bytes
  have hml : c.maxLocals = 6 := hml0
  have hown : s.vm.findClass "java/lang/String" = some m.cls := findClass_of_methodNamed Bd.named
  have hnm := (name_of_methodNamed Bd.named Bd.method).1
  have X0 : Stand p l e rom10 s m #[(.ref a1), (.ref a2), (.int (0 : Int32)), (.int (0 : Int32)), .null] below meth c s₁ [] 0 0 := Stand.of_body Bd
  replace X0 : Stand p l e rom10 (s.setVm s.vm) m #[(.ref a1), (.ref a2), (.int (0 : Int32)), (.int (0 : Int32)), .null] below meth c s₁ [] 0 0 := X0
  have hZ0 := hZ
  have hown0 := hown
  have hS0 := own_s0 s h0.size
  have CR0 : CHr Z own_EL s.vm h0 s.vm h0 := CHr.refl hC
  have eh0 : s₁.heap = h0 := by rw [← hh, Bd.state]; rfl
  have N0 := Fr.nil n0
  have tw2 := hw _ (List.mem_of_getElem? (i := 2) rfl)
  have tw11 := hw _ (List.mem_of_getElem? (i := 11) rfl)
  have tw12 := hw _ (List.mem_of_getElem? (i := 12) rfl)
  have tw13 := hw _ (List.mem_of_getElem? (i := 13) rfl)
  have tw26 := hw _ (List.mem_of_getElem? (i := 26) rfl)
  have tw27 := hw _ (List.mem_of_getElem? (i := 27) rfl)
  have tw28 := hw _ (List.mem_of_getElem? (i := 28) rfl)
  have tw29 := hw _ (List.mem_of_getElem? (i := 29) rfl)
  have tw94 := hw _ (List.mem_of_getElem? (i := 94) rfl)
  show Goes p e below (Ph Z own_EL (Q_sif0 Z a1 a2 k1 h0 n0) s rom10.cells rom10.slots) (s₁.setTop (entryFrame m #[(.ref a1), (.ref a2), (.int (0 : Int32)), (.int (0 : Int32)), .null] 6))
  refine Goes.step (S' := s₁.setTop (mkF m 0 #[.val (.ref a1), .val (.ref a2), .val (.int (0 : Int32)), .val (.int (0 : Int32)), .val .null, .unset] [])) (fun t k => castTop (ef_sif0 m a1 a2 (0 : Int32) (0 : Int32)) k) ?_
  refine Goes.step (S' := s₁.setTop (mkF m 1 #[.val (.ref a1), .val (.ref a2), .val (.int (0 : Int32)), .val (.int (0 : Int32)), .val .null, .unset] [(.ref a1)])) (fun t k => XS.aloadN X0.here hx rfl (hb hby d_jdk_42_method_149_code_0) rfl rfl k) ?_
  obtain ⟨T101, X101, e101, st101⟩ := initO X0 hx hZ hown tw11 tw12 tw13 eh0 (g := (mkF m 1 #[.val (.ref a1), .val (.ref a2), .val (.int (0 : Int32)), .val (.int (0 : Int32)), .val .null, .unset] [(.ref a1)])) rfl (by rw [hml]; rfl) rfl (hb hby d_jdk_42_method_149_code_1) (by decide) (W := 0) (Nat.le_of_eq rfl) (by decide)
  refine Goes.step (S' := T101.setTop (mkF m 9 #[.val (.ref a1), .val (.ref a2), .val (.int (0 : Int32)), .val (.int (0 : Int32)), .val .null, .unset] [(.ref a1)])) (fun t k => st101 _ (XS.iloadN X101.here hx rfl (hb hby d_jdk_42_method_149_code_4) rfl (XS.ifNo X101.here hx rfl (hb hby d_jdk_42_method_149_code_5) rfl ((if0 _ _).trans (teq ((by decide) : (0 : Int32) = (0 : Int32))).2) (XS.aloadN X101.here hx rfl (hb hby d_jdk_42_method_149_code_8) rfl rfl k)))) ?_
  have Q0_a1 : Safe Z own_EL s.vm h0 a1 := own_safeNull hZ0.alike E1 Fv
  obtain ⟨b102, T102, h102, k102, v102, kv102, X102, e102, E102, hS102, hk102, hZ, hown, Ea102, Fc102, Fv102, Va102, lta102, ltb102, CX102, Lt102, Sn102, st102⟩ := ldcCH (s := s) (EL := own_EL) X101 hx hZ hown tw94 (fun d hd => hw d (own_sin d hd)) e101 hS0 (Nat.le_refl _) (own_ew hw) (by decide) CR0.1 (vs := []) (z := (0 : Int32)) ⟨by decide +kernel, by decide +kernel⟩ (by decide) (by decide +kernel) (g := (mkF m 9 #[.val (.ref a1), .val (.ref a2), .val (.int (0 : Int32)), .val (.int (0 : Int32)), .val .null, .unset] [(.ref a1)])) rfl (hb hby d_jdk_42_method_149_code_9) (n := 0) (by decide +kernel) (by decide) (by decide) (by decide)
  have CR102 := CR0.trans CX102
  have Q102_a1 := CX102.safe E1.lt Q0_a1
  refine Goes.step (S' := T102.setTop (mkF m 11 #[.val (.ref a1), .val (.ref a2), .val (.int (0 : Int32)), .val (.int (0 : Int32)), .val .null, .unset] [(.ref b102), (.ref a1)])) (fun t k => st102 _ k) ?_
  obtain ⟨T103, X103, e103, st103⟩ := getF X102 hx hZ hown (host := "") (Or.inl tw28) Via.refl e102 Fv102 (g := (mkF m 11 #[.val (.ref a1), .val (.ref a2), .val (.int (0 : Int32)), .val (.int (0 : Int32)), .val .null, .unset] [(.ref b102), (.ref a1)])) rfl rfl (hb hby d_jdk_42_method_149_code_11)
  refine Goes.step (S' := T103.setTop (mkF m 14 #[.val (.ref a1), .val (.ref a2), .val (.int (0 : Int32)), .val (.int (0 : Int32)), .val .null, .unset] [(.ref v102), (.ref a1)])) (fun t k => st103 _ k) ?_
  obtain ⟨T104, h104, X104, e104, W104, st104⟩ := putF X103 hx hZ hown (host := "") (Or.inl tw28) Via.refl e103 (Fld.ext E102 Fv) (Exa.ext E102 E1) (Or.inr ⟨tw29, rfl, hnm⟩) tw2 (ty := (.array .byte)) (by decide) rfl rfl (g := (mkF m 14 #[.val (.ref a1), .val (.ref a2), .val (.int (0 : Int32)), .val (.int (0 : Int32)), .val .null, .unset] [(.ref v102), (.ref a1)])) rfl rfl (hb hby d_jdk_42_method_149_code_14)
  have Fw104 : Fld Z h104 a1 "java/lang/String" "value" "[B" (.ref v102) := Fld.same W104 (Fld.ext E102 Fv)
  have N104 := Fr.snoc X104 N0 G1
  refine Goes.step (S' := T104.setTop (mkF m 18 #[.val (.ref a1), .val (.ref a2), .val (.int (0 : Int32)), .val (.int (0 : Int32)), .val .null, .unset] [(.ref a1)])) (fun t k => st104 _ (XS.aloadN X104.here hx rfl (hb hby d_jdk_42_method_149_code_17) rfl rfl k)) ?_
  have CR106 := CR102.trans (CHr.wr W104 Q102_a1 CR102.1)
  have Q106_a1 := Safe.wr W104 Q102_a1 CR102.1 Q102_a1
  obtain ⟨b105, T105, h105, k105, v105, kv105, X105, e105, E105, hS105, hk105, hZ, hown, Ea105, Fc105, Fv105, Va105, lta105, ltb105, CX105, Lt105, Sn105, st105⟩ := ldcCH (s := s) (EL := own_EL) X104 hx hZ hown tw94 (fun d hd => hw d (own_sin d hd)) e104 hS102 (Nat.le_trans hk102 (Nat.le_of_eq W104.size.symm)) (own_ew hw) (by decide) CR106.1 (vs := []) (z := (0 : Int32)) ⟨by decide +kernel, by decide +kernel⟩ (by decide) (by decide +kernel) (g := (mkF m 18 #[.val (.ref a1), .val (.ref a2), .val (.int (0 : Int32)), .val (.int (0 : Int32)), .val .null, .unset] [(.ref a1)])) rfl (hb hby d_jdk_42_method_149_code_18) (n := 0) (by decide +kernel) (by decide) (by decide) (by decide)
  have CR105 := CR106.trans CX105
  have Q105_a1 := CX105.safe (Exa.wr W104 (Exa.ext E102 E1)).lt Q106_a1
  refine Goes.step (S' := T105.setTop (mkF m 20 #[.val (.ref a1), .val (.ref a2), .val (.int (0 : Int32)), .val (.int (0 : Int32)), .val .null, .unset] [(.ref b105), (.ref a1)])) (fun t k => st105 _ k) ?_
  obtain ⟨T107, X107, e107, st107⟩ := getF X105 hx hZ hown (host := "") (Or.inl tw26) Via.refl e105 Fc105 (g := (mkF m 20 #[.val (.ref a1), .val (.ref a2), .val (.int (0 : Int32)), .val (.int (0 : Int32)), .val .null, .unset] [(.ref b105), (.ref a1)])) rfl rfl (hb hby d_jdk_42_method_149_code_20)
  refine Goes.step (S' := T107.setTop (mkF m 23 #[.val (.ref a1), .val (.ref a2), .val (.int (0 : Int32)), .val (.int (0 : Int32)), .val .null, .unset] [(.int (0 : Int32)), (.ref a1)])) (fun t k => st107 _ k) ?_
  obtain ⟨T108, h108, X108, e108, W108, st108⟩ := putFN X107 hx hZ hown tw26 Via.refl e107 (Fld.ext E105 (Fld.other W104 (Fld.ext E102 Fc) (Or.inr (slot_ne (Or.inr tw27) (Or.inr tw29) (by decide) (t := .byte) (t' := (.array .byte)) (by decide) (by decide))))) (Exa.ext E105 (Exa.wr W104 (Exa.ext E102 E1))) (Or.inr ⟨tw27, rfl, hnm⟩) tw2 (ty := .byte) (v' := (.int (0 : Int32))) (by decide) rfl (by decide) (g := (mkF m 23 #[.val (.ref a1), .val (.ref a2), .val (.int (0 : Int32)), .val (.int (0 : Int32)), .val .null, .unset] [(.int (0 : Int32)), (.ref a1)])) rfl rfl (hb hby d_jdk_42_method_149_code_23)
  have Fw108 : Fld Z h108 a1 "java/lang/String" "coder" "B" (.int (0 : Int32)) := Fld.same W108 (Fld.ext E105 (Fld.other W104 (Fld.ext E102 Fc) (Or.inr (slot_ne (Or.inr tw27) (Or.inr tw29) (by decide) (t := .byte) (t' := (.array .byte)) (by decide) (by decide)))))
  have N108 := Fr.snoc X108 N104 G1
  refine Goes.step (S' := T108.setTop (mkF m 26 #[.val (.ref a1), .val (.ref a2), .val (.int (0 : Int32)), .val (.int (0 : Int32)), .val .null, .unset] [])) (fun t k => st108 _ k) ?_
  have CR109 := CR105.trans (CHr.wr W108 Q105_a1 CR105.1)
  have Q109_a1 := Safe.wr W108 Q105_a1 CR105.1 Q105_a1
  refine Goes.leaveH (g := (mkF m 26 #[.val (.ref a1), .val (.ref a2), .val (.int (0 : Int32)), .val (.int (0 : Int32)), .val .null, .unset] [])) (own_ew hw) hZ hh CR109 X108 hS105 (Nat.le_trans hk105 (Nat.le_of_eq W108.size.symm)) Bd.notSynchronized (v := none) (fun _ => rfl) (fun fs hr => X108.returnOut hx Bd.returns (hb hby d_jdk_42_method_149_code_26) hr) e108 ?_ (by decide) (by decide)
  exact ⟨rfl, N108, (((((Keep.refl _ [a1]).ext E102).wr W104 (Or.inl (List.mem_of_getElem? (i := 0) rfl))).ext E105).wr W108 (Or.inl (List.mem_of_getElem? (i := 0) rfl)))⟩

theorem ef_sic0 (m : MethodId) (x0 : Addr) (x1 : Addr) : entryFrame m #[(.ref x0), (.ref x1)] 2 = mkF m 0 #[.val (.ref x0), .val (.ref x1)] [] := by first | (simp [entryFrame, mkF, argsToLocals, Value.category]; done) | rfl
def Q_sic0 (Z : State) (a1 : Addr) (a2 : Addr) (k1 : ClassId) (h0 : Heap) (n0 : Nat) (v : Option Value) (h : Heap) (L : List Loc) : Prop := v = none ∧ Fr n0 L ∧ Keep h0 h [a1]
set_option maxRecDepth 65536 in
set_option maxHeartbeats 40000000 in
theorem sic0 (l : Launch) (Z : State) (a0 : Array Value) (hw : ∀ d ∈ tables_1, d.before a0 Z = true) (ws : List Jvm.Cond) (a1 : Addr) (a2 : Addr) (k1 : ClassId) (h0 : Heap) (n0 : Nat) (Z0 : n0 ≤ h0.size) (E1 : Exa Z h0 a1 "java/lang/String") (Fv : Fld Z h0 a1 "java/lang/String" "value" "[B" .null) (Fc : Fld Z h0 a1 "java/lang/String" "coder" "B" (.int (0 : Int32))) (G1 : n0 ≤ a1) (V1 : Arv Z h0 a2 k1 .char (0 : Int32) [] (.int (0 : Int32))) :
    MetFree l mth4 (head1 (Jvm.Cond.code mth4 jdk_42_method_3_code 2 none :: ws) rom11) (fun a U => a = #[(.ref a1), (.ref a2)] ∧ Z.Warmed39 U.vm ∧ U.heap = h0 ∧ CHv Z own_EL U.vm h0) (fun _ _ _ _ _ => True) (fun _ U o U' => ∃ v L, o = .returned v ∧ Q_sic0 Z a1 a2 k1 h0 n0 v U'.heap L ∧ CHr Z own_EL U.vm U.heap U'.vm U'.heap ∧ ReturnedEndW U o U' L rom11.cells rom11.slots) := by
  refine MetFree.of_bodySF (plainFor_of_name pnm1) hisR ?_
  intro p e s m args below meth c s₁ Bd hml0 hP hK
  obtain ⟨rfl, hZ, hh, hC⟩ := hP
  have hx := Bd.exec
  have hby := Bd.bytes
  have hml : c.maxLocals = 2 := hml0
  have hown : s.vm.findClass "java/lang/String" = some m.cls := findClass_of_methodNamed Bd.named
  have hnm := (name_of_methodNamed Bd.named Bd.method).1
  have X0 : Stand p l e rom11 s m #[(.ref a1), (.ref a2)] below meth c s₁ [] 0 0 := Stand.of_body Bd
  replace X0 : Stand p l e rom11 (s.setVm s.vm) m #[(.ref a1), (.ref a2)] below meth c s₁ [] 0 0 := X0
  have hZ0 := hZ
  have hown0 := hown
  have hS0 := own_s0 s h0.size
  have CR0 : CHr Z own_EL s.vm h0 s.vm h0 := CHr.refl hC
  have eh0 : s₁.heap = h0 := by rw [← hh, Bd.state]; rfl
  have N0 := Fr.nil n0
  have tw3 := hw _ (List.mem_of_getElem? (i := 3) rfl)
  have tw7 := hw _ (List.mem_of_getElem? (i := 7) rfl)
  have tw8 := hw _ (List.mem_of_getElem? (i := 8) rfl)
  have tw10 := hw _ (List.mem_of_getElem? (i := 10) rfl)
  show Goes p e below (Ph Z own_EL (Q_sic0 Z a1 a2 k1 h0 n0) s rom11.cells rom11.slots) (s₁.setTop (entryFrame m #[(.ref a1), (.ref a2)] 2))
  refine Goes.step (S' := s₁.setTop (mkF m 0 #[.val (.ref a1), .val (.ref a2)] [])) (fun t k => castTop (ef_sic0 m a1 a2) k) ?_
  refine Goes.step (S' := s₁.setTop (mkF m 4 #[.val (.ref a1), .val (.ref a2)] [(.ref a2), (.int (0 : Int32)), (.ref a2), (.ref a1)])) (fun t k => XS.aloadN X0.here hx rfl (hb hby d_jdk_42_method_3_code_0) rfl rfl (XS.aloadN X0.here hx rfl (hb hby d_jdk_42_method_3_code_1) rfl rfl (XS.iconst X0.here hx rfl (hb hby d_jdk_42_method_3_code_2) (XS.aloadN X0.here hx rfl (hb hby d_jdk_42_method_3_code_3) rfl rfl k)))) ?_
  obtain ⟨cl101, Ar101, qk101, Sz101, Nn101, Hs101, Gs101⟩ := id V1
  refine Goes.step (S' := s₁.setTop (mkF m 5 #[.val (.ref a1), .val (.ref a2)] [(.int (0 : Int32)), (.int (0 : Int32)), (.ref a2), (.ref a1)])) (fun t k => X0.arraylength hx (by rw [eh0]; exact Ar101.1) (State.isArrayOf_alike hZ.alike Ar101.2.1) (g := (mkF m 4 #[.val (.ref a1), .val (.ref a2)] [(.ref a2), (.int (0 : Int32)), (.ref a2), (.ref a1)])) rfl rfl (hb hby d_jdk_42_method_3_code_4) _ (by rw [len_of Sz101 Nn101]; exact k)) ?_
  refine Goes.step (S' := s₁.setTop (mkF m 6 #[.val (.ref a1), .val (.ref a2)] [.null, (.int (0 : Int32)), (.int (0 : Int32)), (.ref a2), (.ref a1)])) (fun t k => XS.aconstNull X0.here hx rfl (hb hby d_jdk_42_method_3_code_5) k) ?_
  have Q0_a1 : Safe Z own_EL s.vm h0 a1 := own_safeNull hZ0.alike E1 Fv
  obtain ⟨_, _, ⟨T102, L102, k102, n102⟩, -, X102, hs102, gr102, ⟨Lc102, hQ102, l102, y102, z102, CX102⟩, st102⟩ := X0.specialBackS hx (y := mth3) rfl hown (mvT hZ tw7) (mvT hZ tw8) (mvT hZ tw10) (by decide) (backOfSH (EL := own_EL) (W := 0) (sif0 l Z a0 hw [] a1 a2 k1 h0 n0 Z0 E1 Fv Fc G1 V1) hZ tw10 tw3 (by decide) (by decide) (own_ew hw) CR0.1) (g := (mkF m 6 #[.val (.ref a1), .val (.ref a2)] [.null, (.int (0 : Int32)), (.int (0 : Int32)), (.ref a2), (.ref a1)])) rfl (by rw [hml]; rfl) (Steps.refl _) (a := a1) (argsL := [(.ref a2), (.int (0 : Int32)), (.int (0 : Int32)), .null]) (rest := []) (lenOf pd_CIILjava_lang_Void__V rfl) rfl (Nat.le_of_eq rfl) (hb hby d_jdk_42_method_3_code_6) (fun _ _ => ⟨rfl, eh0, (by decide : 0 + 4 ≤ _), (by decide : 0 + 8 ≤ _)⟩)
  dsimp only [Pt.U, Pt.locs, Pt.cells, Pt.slots] at X102 l102 y102 z102 st102 hQ102 hs102 gr102 CX102
  subst y102 z102
  replace X102 := own_fold X102
  have hS102 := foldS hS0 (by rw [eh0]; exact (Nat.le_refl _)) hs102 gr102
  obtain ⟨hZ, hown⟩ := own_since hZ0 hown0 hS102
  obtain ⟨rfl, Nq102, q102_0⟩ := hQ102
  have N102 : Fr n0 L102 := by rw [l102]; exact Fr.app N0 Nq102
  have CR102 := CR0.trans CX102
  have Q102_a1 := CX102.safe E1.lt Q0_a1
  refine Goes.step (S' := T102.setTop (mkF m 9 #[.val (.ref a1), .val (.ref a2)] [])) (fun t k => st102.trans k) ?_
  refine Goes.leaveH (g := (mkF m 9 #[.val (.ref a1), .val (.ref a2)] [])) (own_ew hw) hZ hh CR102 X102 hS102 (Nat.le_refl _) Bd.notSynchronized (v := none) (fun _ => rfl) (fun fs hr => X102.returnOut hx Bd.returns (hb hby d_jdk_42_method_3_code_9) hr) rfl ?_ (by decide) (by decide)
  exact ⟨rfl, N102, ((Keep.refl _ [a1]).trans q102_0 (allS (Or.inl (List.mem_of_getElem? (i := 0) rfl)) all0))⟩

theorem ef_thrr (m : MethodId) (x0 : Addr) (x1 : Addr) : entryFrame m #[(.ref x0), (.ref x1)] 2 = mkF m 0 #[.val (.ref x0), .val (.ref x1)] [] := by first | (simp [entryFrame, mkF, argsToLocals, Value.category]; done) | rfl
def Q_thrr (Z : State) (a1 : Addr) (us : Addr) (ss : Addr) (s1 : Addr) (h0 : Heap) (n0 : Nat) (v : Option Value) (h : Heap) (L : List Loc) : Prop := v = none ∧ Fr n0 L ∧ Keep h0 h [a1] ∧ Unt h a1 ∧ Fld Z h a1 "java/lang/Throwable" "detailMessage" "Ljava/lang/String;" (.ref s1)
set_option maxRecDepth 65536 in
set_option maxHeartbeats 40000000 in
theorem thrr (l : Launch) (Z : State) (a0 : Array Value) (hw : ∀ d ∈ tables_1, d.before a0 Z = true) (ws : List Jvm.Cond) (a1 : Addr) (us : Addr) (ss : Addr) (s1 : Addr) (h0 : Heap) (n0 : Nat) (Z0 : n0 ≤ h0.size) (HL : l.stackTraces = true) (TH : ThS Z h0) (SU : Sta Z h0 "java/lang/Throwable" "UNASSIGNED_STACK" "[Ljava/lang/StackTraceElement;" (.ref us)) (SP : Sta Z h0 "java/lang/Throwable" "SUPPRESSED_SENTINEL" "Ljava/util/List;" (.ref ss)) (E1 : Exa Z h0 a1 "com/example/dogged_dispatch/doggeddispatch/api/ApiException") (U1 : Unt h0 a1) (Fb : Fld Z h0 a1 "java/lang/Throwable" "backtrace" "Ljava/lang/Object;" .null) (Fd : Fld Z h0 a1 "java/lang/Throwable" "detailMessage" "Ljava/lang/String;" .null) (Fc : Fld Z h0 a1 "java/lang/Throwable" "cause" "Ljava/lang/Throwable;" .null) (Fs : Fld Z h0 a1 "java/lang/Throwable" "stackTrace" "[Ljava/lang/StackTraceElement;" .null) (Fp : Fld Z h0 a1 "java/lang/Throwable" "suppressedExceptions" "Ljava/util/List;" .null) (G1 : n0 ≤ a1) :
    MetFree l mth6 (head1 (Jvm.Cond.code mth6 jdk_78_method_2_code 2 none :: ws) rom12) (fun a U => a = #[(.ref a1), (.ref s1)] ∧ Z.Warmed39 U.vm ∧ U.heap = h0) (fun _ _ bl s _ => s.vm.MethodsKnown ∧ s.vm.FramesKnown bl) (fun _ U o U' => ∃ v L, o = .returned v ∧ Q_thrr Z a1 us ss s1 h0 n0 v U'.heap L ∧ FrameEnd U o U' L rom12.cells rom12.slots) := by
  refine MetFree.of_bodySF (plainFor_of_name pnm2) hisR ?_
  intro p e s m args below meth c s₁ Bd hml0 hP hK
  obtain ⟨rfl, hZ, hh⟩ := hP
  have hx := Bd.exec
  have hby := Bd.bytes
  have hml : c.maxLocals = 2 := hml0
  have hown : s.vm.findClass "java/lang/Throwable" = some m.cls := findClass_of_methodNamed Bd.named
  have hnm := (name_of_methodNamed Bd.named Bd.method).1
  have X0 : Stand p l e rom12 s m #[(.ref a1), (.ref s1)] below meth c s₁ [] 0 0 := Stand.of_body Bd
  obtain ⟨hTK, hBl⟩ := hK
  have eh0 : s₁.heap = h0 := by rw [← hh, Bd.state]; rfl
  have N0 := Fr.nil n0
  have tw12 := hw _ (List.mem_of_getElem? (i := 12) rfl)
  have tw13 := hw _ (List.mem_of_getElem? (i := 13) rfl)
  have tw35 := hw _ (List.mem_of_getElem? (i := 35) rfl)
  have tw50 := hw _ (List.mem_of_getElem? (i := 50) rfl)
  have tw51 := hw _ (List.mem_of_getElem? (i := 51) rfl)
  have tw52 := hw _ (List.mem_of_getElem? (i := 52) rfl)
  have tw53 := hw _ (List.mem_of_getElem? (i := 53) rfl)
  have tw54 := hw _ (List.mem_of_getElem? (i := 54) rfl)
  have tw55 := hw _ (List.mem_of_getElem? (i := 55) rfl)
  have tw56 := hw _ (List.mem_of_getElem? (i := 56) rfl)
  have tw57 := hw _ (List.mem_of_getElem? (i := 57) rfl)
  have tw58 := hw _ (List.mem_of_getElem? (i := 58) rfl)
  have tw59 := hw _ (List.mem_of_getElem? (i := 59) rfl)
  have tw60 := hw _ (List.mem_of_getElem? (i := 60) rfl)
  have tw61 := hw _ (List.mem_of_getElem? (i := 61) rfl)
  have tw62 := hw _ (List.mem_of_getElem? (i := 62) rfl)
  have tw82 := hw _ (List.mem_of_getElem? (i := 82) rfl)
  have tw83 := hw _ (List.mem_of_getElem? (i := 83) rfl)
  have tw86 := hw _ (List.mem_of_getElem? (i := 86) rfl)
  show Goes p e below (Pq (Q_thrr Z a1 us ss s1 h0 n0) s rom12.cells rom12.slots) (s₁.setTop (entryFrame m #[(.ref a1), (.ref s1)] 2))
  refine Goes.step (S' := s₁.setTop (mkF m 0 #[.val (.ref a1), .val (.ref s1)] [])) (fun t k => castTop (ef_thrr m a1 s1) k) ?_
  refine Goes.step (S' := s₁.setTop (mkF m 1 #[.val (.ref a1), .val (.ref s1)] [(.ref a1)])) (fun t k => XS.aloadN X0.here hx rfl (hb hby d_jdk_78_method_2_code_0) rfl rfl k) ?_
  obtain ⟨T101, X101, e101, st101⟩ := initO X0 hx hZ hown tw50 tw12 tw13 eh0 (g := (mkF m 1 #[.val (.ref a1), .val (.ref s1)] [(.ref a1)])) rfl (by rw [hml]; rfl) rfl (hb hby d_jdk_78_method_2_code_1) (by decide) (W := 0) (Nat.le_of_eq rfl) (by decide)
  refine Goes.step (S' := T101.setTop (mkF m 6 #[.val (.ref a1), .val (.ref s1)] [(.ref a1), (.ref a1)])) (fun t k => st101 _ (XS.aloadN X101.here hx rfl (hb hby d_jdk_78_method_2_code_4) rfl rfl (XS.aloadN X101.here hx rfl (hb hby d_jdk_78_method_2_code_5) rfl rfl k))) ?_
  obtain ⟨T102, h102, X102, e102, W102, st102⟩ := putF X101 hx hZ hown (host := "") (Or.inl tw51) Via.refl e101 Fc E1 (Or.inl tw52) tw35 (ty := (.object "java/lang/Throwable")) (by decide) rfl rfl (g := (mkF m 6 #[.val (.ref a1), .val (.ref s1)] [(.ref a1), (.ref a1)])) rfl rfl (hb hby d_jdk_78_method_2_code_6)
  have Fw102 : Fld Z h102 a1 "java/lang/Throwable" "cause" "Ljava/lang/Throwable;" (.ref a1) := Fld.same W102 Fc
  have N102 := Fr.snoc X102 N0 G1
  refine Goes.step (S' := T102.setTop (mkF m 10 #[.val (.ref a1), .val (.ref s1)] [(.ref a1)])) (fun t k => st102 _ (XS.aloadN X102.here hx rfl (hb hby d_jdk_78_method_2_code_9) rfl rfl k)) ?_
  obtain ⟨T103, X103, e103, st103⟩ := getS2 X102 hx hZ hown (host := "") (Or.inl tw53) Via.refl e102 (Sta.wr W102 SU) (g := (mkF m 10 #[.val (.ref a1), .val (.ref s1)] [(.ref a1)])) rfl (hb hby d_jdk_78_method_2_code_10)
  refine Goes.step (S' := T103.setTop (mkF m 13 #[.val (.ref a1), .val (.ref s1)] [(.ref us), (.ref a1)])) (fun t k => st103 _ k) ?_
  obtain ⟨T104, h104, X104, e104, W104, st104⟩ := putF X103 hx hZ hown (host := "") (Or.inl tw54) Via.refl e103 (Fld.other W102 Fs (Or.inr (slot_ne (Or.inl tw55) (Or.inl tw52) (by decide) (t := (.array (.object "java/lang/StackTraceElement"))) (t' := (.object "java/lang/Throwable")) (by decide) (by decide)))) (Exa.wr W102 E1) (Or.inl tw55) tw35 (ty := (.array (.object "java/lang/StackTraceElement"))) (by decide) rfl rfl (g := (mkF m 13 #[.val (.ref a1), .val (.ref s1)] [(.ref us), (.ref a1)])) rfl rfl (hb hby d_jdk_78_method_2_code_13)
  have Fw104 : Fld Z h104 a1 "java/lang/Throwable" "stackTrace" "[Ljava/lang/StackTraceElement;" (.ref us) := Fld.same W104 (Fld.other W102 Fs (Or.inr (slot_ne (Or.inl tw55) (Or.inl tw52) (by decide) (t := (.array (.object "java/lang/StackTraceElement"))) (t' := (.object "java/lang/Throwable")) (by decide) (by decide))))
  have N104 := Fr.snoc X104 N102 G1
  refine Goes.step (S' := T104.setTop (mkF m 17 #[.val (.ref a1), .val (.ref s1)] [(.ref a1)])) (fun t k => st104 _ (XS.aloadN X104.here hx rfl (hb hby d_jdk_78_method_2_code_16) rfl rfl k)) ?_
  obtain ⟨T105, X105, e105, st105⟩ := getS2 X104 hx hZ hown (host := "") (Or.inl tw56) Via.refl e104 (Sta.wr W104 (Sta.wr W102 SP)) (g := (mkF m 17 #[.val (.ref a1), .val (.ref s1)] [(.ref a1)])) rfl (hb hby d_jdk_78_method_2_code_17)
  refine Goes.step (S' := T105.setTop (mkF m 20 #[.val (.ref a1), .val (.ref s1)] [(.ref ss), (.ref a1)])) (fun t k => st105 _ k) ?_
  obtain ⟨T106, h106, X106, e106, W106, st106⟩ := putF X105 hx hZ hown (host := "") (Or.inl tw57) Via.refl e105 (Fld.other W104 (Fld.other W102 Fp (Or.inr (slot_ne (Or.inl tw58) (Or.inl tw52) (by decide) (t := (.object "java/util/List")) (t' := (.object "java/lang/Throwable")) (by decide) (by decide)))) (Or.inr (slot_ne (Or.inl tw58) (Or.inl tw55) (by decide) (t := (.object "java/util/List")) (t' := (.array (.object "java/lang/StackTraceElement"))) (by decide) (by decide)))) (Exa.wr W104 (Exa.wr W102 E1)) (Or.inl tw58) tw35 (ty := (.object "java/util/List")) (by decide) rfl rfl (g := (mkF m 20 #[.val (.ref a1), .val (.ref s1)] [(.ref ss), (.ref a1)])) rfl rfl (hb hby d_jdk_78_method_2_code_20)
  have Fw106 : Fld Z h106 a1 "java/lang/Throwable" "suppressedExceptions" "Ljava/util/List;" (.ref ss) := Fld.same W106 (Fld.other W104 (Fld.other W102 Fp (Or.inr (slot_ne (Or.inl tw58) (Or.inl tw52) (by decide) (t := (.object "java/util/List")) (t' := (.object "java/lang/Throwable")) (by decide) (by decide)))) (Or.inr (slot_ne (Or.inl tw58) (Or.inl tw55) (by decide) (t := (.object "java/util/List")) (t' := (.array (.object "java/lang/StackTraceElement"))) (by decide) (by decide))))
  have N106 := Fr.snoc X106 N104 G1
  refine Goes.step (S' := T106.setTop (mkF m 24 #[.val (.ref a1), .val (.ref s1)] [(.ref a1)])) (fun t k => st106 _ (XS.aloadN X106.here hx rfl (hb hby d_jdk_78_method_2_code_23) rfl rfl k)) ?_
  obtain ⟨cq107, kq107, q107a, q107b, q107c⟩ := isOf hZ e106 (Exa.wr W106 (Exa.wr W104 (Exa.wr W102 E1)))
  obtain ⟨_, _, ⟨T107, L107, k107, n107⟩, -, X107, ⟨Lc107, hQ107, l107, y107, z107⟩, st107⟩ := X106.virtualBack hx (y := mth5) (z := mth5) hown (mvT hZ tw59) (mvT hZ tw60) (notFace_of_selects (args := #[]) (mvT hZ tw62)) (mvT hZ tw62) (mvT hZ tw61) (by decide) (own_fill (len := 3) (W := 0) X106 hx HL hZ (rc := "com/example/dogged_dispatch/doggeddispatch/api/ApiException") (fun d hd => hw d (own_tin d hd)) tw35 (by have q := TH; rw [← hh] at q; exact q) hTK hBl G1 (ThS.wr W106 (ThS.wr W104 (ThS.wr W102 TH))) (Exa.wr W106 (Exa.wr W104 (Exa.wr W102 E1))) (Unt.wr W106 (Unt.wr W104 (Unt.wr W102 U1))) (Fld.other W106 (Fld.other W104 (Fld.other W102 Fb (Or.inr (slot_ne (Or.inl tw83) (Or.inl tw52) (by decide) (t := (.object "java/lang/Object")) (t' := (.object "java/lang/Throwable")) (by decide) (by decide)))) (Or.inr (slot_ne (Or.inl tw83) (Or.inl tw55) (by decide) (t := (.object "java/lang/Object")) (t' := (.array (.object "java/lang/StackTraceElement"))) (by decide) (by decide)))) (Or.inr (slot_ne (Or.inl tw83) (Or.inl tw58) (by decide) (t := (.object "java/lang/Object")) (t' := (.object "java/util/List")) (by decide) (by decide)))) (Fld.other W106 (Fld.other W104 (Fld.other W102 Fd (Or.inr (slot_ne (Or.inl tw82) (Or.inl tw52) (by decide) (t := (.object "java/lang/String")) (t' := (.object "java/lang/Throwable")) (by decide) (by decide)))) (Or.inr (slot_ne (Or.inl tw82) (Or.inl tw55) (by decide) (t := (.object "java/lang/String")) (t' := (.array (.object "java/lang/StackTraceElement"))) (by decide) (by decide)))) (Or.inr (slot_ne (Or.inl tw82) (Or.inl tw58) (by decide) (t := (.object "java/lang/String")) (t' := (.object "java/util/List")) (by decide) (by decide)))) (Fld.other W106 Fw104 (Or.inr (slot_ne (Or.inl tw55) (Or.inl tw58) (by decide) (t := (.array (.object "java/lang/StackTraceElement"))) (t' := (.object "java/util/List")) (by decide) (by decide)))) (Sta.wr W106 (Sta.wr W104 (Sta.wr W102 SU))) (by decide) (by decide)) q107a q107c (g := (mkF m 24 #[.val (.ref a1), .val (.ref s1)] [(.ref a1)])) rfl (by rw [hml]; rfl) (Steps.refl _) (argsL := []) (rest := []) (lenOf pd_Ljava_lang_Throwable rfl) rfl (Nat.le_of_eq rfl) (hb hby d_jdk_78_method_2_code_24) (fun _ _ => ⟨rfl, e106, (by decide : 0 + 1 ≤ _), (by decide : 0 + 2752 ≤ _)⟩)
  dsimp only [Pt.U, Pt.locs, Pt.cells, Pt.slots] at X107 l107 y107 z107 st107 hQ107
  subst y107 z107
  obtain ⟨rfl, Nq107, q107_0, q107_1, q107_2, q107_3, q107_4⟩ := hQ107
  have N107 : Fr n0 L107 := by rw [l107]; exact Fr.app N106 Nq107
  refine Goes.step (S' := T107.setTop (mkF m 30 #[.val (.ref a1), .val (.ref s1)] [(.ref s1), (.ref a1)])) (fun t k => st107.trans (XS.pop X107.here hx rfl (hb hby d_jdk_78_method_2_code_27) rfl rfl (XS.aloadN X107.here hx rfl (hb hby d_jdk_78_method_2_code_28) rfl rfl (XS.aloadN X107.here hx rfl (hb hby d_jdk_78_method_2_code_29) rfl rfl k)))) ?_
  obtain ⟨T108, h108, X108, e108, W108, st108⟩ := putF X107 hx hZ hown (host := "") (Or.inl tw86) Via.refl rfl q107_4 q107_1 (Or.inl tw82) tw35 (ty := (.object "java/lang/String")) (by decide) rfl rfl (g := (mkF m 30 #[.val (.ref a1), .val (.ref s1)] [(.ref s1), (.ref a1)])) rfl rfl (hb hby d_jdk_78_method_2_code_30)
  have Fw108 : Fld Z h108 a1 "java/lang/Throwable" "detailMessage" "Ljava/lang/String;" (.ref s1) := Fld.same W108 q107_4
  have N108 := Fr.snoc X108 N107 G1
  refine Goes.step (S' := T108.setTop (mkF m 33 #[.val (.ref a1), .val (.ref s1)] [])) (fun t k => st108 _ k) ?_
  refine Goes.leave (g := (mkF m 33 #[.val (.ref a1), .val (.ref s1)] [])) X108 Bd.notSynchronized (v := none) (fun _ => rfl) (fun fs hr => X108.returnOut hx Bd.returns (hb hby d_jdk_78_method_2_code_33) hr) e108 ?_ (by decide) (by decide)
  exact ⟨rfl, N108, ((((((Keep.refl _ [a1]).wr W102 (Or.inl (List.mem_of_getElem? (i := 0) rfl))).wr W104 (Or.inl (List.mem_of_getElem? (i := 0) rfl))).wr W106 (Or.inl (List.mem_of_getElem? (i := 0) rfl))).trans q107_0 (allS (Or.inl (List.mem_of_getElem? (i := 0) rfl)) all0)).wr W108 (Or.inl (List.mem_of_getElem? (i := 0) rfl))), (Unt.wr W108 q107_2), Fw108⟩

theorem ef_ex0r (m : MethodId) (x0 : Addr) (x1 : Addr) : entryFrame m #[(.ref x0), (.ref x1)] 2 = mkF m 0 #[.val (.ref x0), .val (.ref x1)] [] := by first | (simp [entryFrame, mkF, argsToLocals, Value.category]; done) | rfl
def Q_ex0r (Z : State) (a1 : Addr) (us : Addr) (ss : Addr) (s1 : Addr) (h0 : Heap) (n0 : Nat) (v : Option Value) (h : Heap) (L : List Loc) : Prop := v = none ∧ Fr n0 L ∧ Keep h0 h [a1] ∧ Unt h a1 ∧ Fld Z h a1 "java/lang/Throwable" "detailMessage" "Ljava/lang/String;" (.ref s1)
set_option maxRecDepth 65536 in
set_option maxHeartbeats 40000000 in
theorem ex0r (l : Launch) (Z : State) (a0 : Array Value) (hw : ∀ d ∈ tables_1, d.before a0 Z = true) (ws : List Jvm.Cond) (a1 : Addr) (us : Addr) (ss : Addr) (s1 : Addr) (h0 : Heap) (n0 : Nat) (Z0 : n0 ≤ h0.size) (HL : l.stackTraces = true) (TH : ThS Z h0) (SU : Sta Z h0 "java/lang/Throwable" "UNASSIGNED_STACK" "[Ljava/lang/StackTraceElement;" (.ref us)) (SP : Sta Z h0 "java/lang/Throwable" "SUPPRESSED_SENTINEL" "Ljava/util/List;" (.ref ss)) (E1 : Exa Z h0 a1 "com/example/dogged_dispatch/doggeddispatch/api/ApiException") (U1 : Unt h0 a1) (Fb : Fld Z h0 a1 "java/lang/Throwable" "backtrace" "Ljava/lang/Object;" .null) (Fd : Fld Z h0 a1 "java/lang/Throwable" "detailMessage" "Ljava/lang/String;" .null) (Fc : Fld Z h0 a1 "java/lang/Throwable" "cause" "Ljava/lang/Throwable;" .null) (Fs : Fld Z h0 a1 "java/lang/Throwable" "stackTrace" "[Ljava/lang/StackTraceElement;" .null) (Fp : Fld Z h0 a1 "java/lang/Throwable" "suppressedExceptions" "Ljava/util/List;" .null) (G1 : n0 ≤ a1) :
    MetFree l mth7 (head1 (Jvm.Cond.code mth7 jdk_59_method_2_code 2 none :: ws) rom13) (fun a U => a = #[(.ref a1), (.ref s1)] ∧ Z.Warmed39 U.vm ∧ U.heap = h0) (fun _ _ bl s _ => s.vm.MethodsKnown ∧ s.vm.FramesKnown bl) (fun _ U o U' => ∃ v L, o = .returned v ∧ Q_ex0r Z a1 us ss s1 h0 n0 v U'.heap L ∧ FrameEnd U o U' L rom13.cells rom13.slots) := by
  refine MetFree.of_bodySF (plainFor_of_name pnm3) hisR ?_
  intro p e s m args below meth c s₁ Bd hml0 hP hK
  obtain ⟨rfl, hZ, hh⟩ := hP
  have hx := Bd.exec
  have hby := Bd.bytes
  have hml : c.maxLocals = 2 := hml0
  have hown : s.vm.findClass "java/lang/Exception" = some m.cls := findClass_of_methodNamed Bd.named
  have hnm := (name_of_methodNamed Bd.named Bd.method).1
  have X0 : Stand p l e rom13 s m #[(.ref a1), (.ref s1)] below meth c s₁ [] 0 0 := Stand.of_body Bd
  obtain ⟨hTK, hBl⟩ := hK
  have eh0 : s₁.heap = h0 := by rw [← hh, Bd.state]; rfl
  have N0 := Fr.nil n0
  have tw44 := hw _ (List.mem_of_getElem? (i := 44) rfl)
  have tw45 := hw _ (List.mem_of_getElem? (i := 45) rfl)
  have tw48 := hw _ (List.mem_of_getElem? (i := 48) rfl)
  have tw49 := hw _ (List.mem_of_getElem? (i := 49) rfl)
  show Goes p e below (Pq (Q_ex0r Z a1 us ss s1 h0 n0) s rom13.cells rom13.slots) (s₁.setTop (entryFrame m #[(.ref a1), (.ref s1)] 2))
  refine Goes.step (S' := s₁.setTop (mkF m 0 #[.val (.ref a1), .val (.ref s1)] [])) (fun t k => castTop (ef_ex0r m a1 s1) k) ?_
  refine Goes.step (S' := s₁.setTop (mkF m 2 #[.val (.ref a1), .val (.ref s1)] [(.ref s1), (.ref a1)])) (fun t k => XS.aloadN X0.here hx rfl (hb hby d_jdk_59_method_2_code_0) rfl rfl (XS.aloadN X0.here hx rfl (hb hby d_jdk_59_method_2_code_1) rfl rfl k)) ?_
  obtain ⟨_, _, ⟨T101, L101, k101, n101⟩, -, X101, ⟨Lc101, hQ101, l101, y101, z101⟩, st101⟩ := X0.specialBack hx (y := mth6) rfl hown (mvT hZ tw44) (mvT hZ tw45) (mvT hZ tw49) (by decide) (backOfKL (W := 0) (thrr l Z a0 hw [] a1 us ss s1 h0 n0 Z0 (HL : l.stackTraces = true) TH SU SP E1 U1 Fb Fd Fc Fs Fp G1) hZ tw49 tw48 (by decide) (by decide) hTK hBl) (g := (mkF m 2 #[.val (.ref a1), .val (.ref s1)] [(.ref s1), (.ref a1)])) rfl (by rw [hml]; rfl) (Steps.refl _) (a := a1) (argsL := [(.ref s1)]) (rest := []) (lenOf pd_Ljava_lang_String__V rfl) rfl (Nat.le_of_eq rfl) (hb hby d_jdk_59_method_2_code_2) (fun _ _ => ⟨rfl, eh0, (by decide : 0 + 1 ≤ _), (by decide : 0 + 2752 ≤ _)⟩)
  dsimp only [Pt.U, Pt.locs, Pt.cells, Pt.slots] at X101 l101 y101 z101 st101 hQ101
  subst y101 z101
  obtain ⟨rfl, Nq101, q101_0, q101_1, q101_2⟩ := hQ101
  have N101 : Fr n0 L101 := by rw [l101]; exact Fr.app N0 Nq101
  refine Goes.step (S' := T101.setTop (mkF m 5 #[.val (.ref a1), .val (.ref s1)] [])) (fun t k => st101.trans k) ?_
  refine Goes.leave (g := (mkF m 5 #[.val (.ref a1), .val (.ref s1)] [])) X101 Bd.notSynchronized (v := none) (fun _ => rfl) (fun fs hr => X101.returnOut hx Bd.returns (hb hby d_jdk_59_method_2_code_5) hr) rfl ?_ (by decide) (by decide)
  exact ⟨rfl, N101, ((Keep.refl _ [a1]).trans q101_0 (allS (Or.inl (List.mem_of_getElem? (i := 0) rfl)) all0)), q101_1, q101_2⟩

theorem ef_aexr (m : MethodId) (x0 : Addr) (x1 : Int32) (x2 : Addr) : entryFrame m #[(.ref x0), (.int x1), (.ref x2)] 3 = mkF m 0 #[.val (.ref x0), .val (.int x1), .val (.ref x2)] [] := by first | (simp [entryFrame, mkF, argsToLocals, Value.category]; done) | rfl
def Q_aexr (Z : State) (a1 : Addr) (p1 : Int32) (us : Addr) (ss : Addr) (s1 : Addr) (h0 : Heap) (n0 : Nat) (v : Option Value) (h : Heap) (L : List Loc) : Prop := v = none ∧ Fr n0 L ∧ Keep h0 h [a1] ∧ Fld Z h a1 "com/example/dogged_dispatch/doggeddispatch/api/ApiException" "status" "I" (.int p1)
set_option maxRecDepth 65536 in
set_option maxHeartbeats 40000000 in
theorem aexr (l : Launch) (Z : State) (a0 : Array Value) (hw : ∀ d ∈ tables_1, d.before a0 Z = true) (ws : List Jvm.Cond) (a1 : Addr) (p1 : Int32) (us : Addr) (ss : Addr) (s1 : Addr) (h0 : Heap) (n0 : Nat) (Z0 : n0 ≤ h0.size) (HL : l.stackTraces = true) (TH : ThS Z h0) (SU : Sta Z h0 "java/lang/Throwable" "UNASSIGNED_STACK" "[Ljava/lang/StackTraceElement;" (.ref us)) (SP : Sta Z h0 "java/lang/Throwable" "SUPPRESSED_SENTINEL" "Ljava/util/List;" (.ref ss)) (E1 : Exa Z h0 a1 "com/example/dogged_dispatch/doggeddispatch/api/ApiException") (U1 : Unt h0 a1) (Fb : Fld Z h0 a1 "java/lang/Throwable" "backtrace" "Ljava/lang/Object;" .null) (Fd : Fld Z h0 a1 "java/lang/Throwable" "detailMessage" "Ljava/lang/String;" .null) (Fc : Fld Z h0 a1 "java/lang/Throwable" "cause" "Ljava/lang/Throwable;" .null) (Fs : Fld Z h0 a1 "java/lang/Throwable" "stackTrace" "[Ljava/lang/StackTraceElement;" .null) (Fp : Fld Z h0 a1 "java/lang/Throwable" "suppressedExceptions" "Ljava/util/List;" .null) (Fst : Fld Z h0 a1 "com/example/dogged_dispatch/doggeddispatch/api/ApiException" "status" "I" (.int (0 : Int32))) (G1 : n0 ≤ a1) :
    MetFree l mth8 (head1 (Jvm.Cond.code mth8 prog_1_method_1_code 3 none :: ws) rom14) (fun a U => a = #[(.ref a1), (.int p1), (.ref s1)] ∧ Z.Warmed39 U.vm ∧ U.heap = h0) (fun _ _ bl s _ => s.vm.MethodsKnown ∧ s.vm.FramesKnown bl) (fun _ U o U' => ∃ v L, o = .returned v ∧ Q_aexr Z a1 p1 us ss s1 h0 n0 v U'.heap L ∧ FrameEnd U o U' L rom14.cells rom14.slots) := by
  refine MetFree.of_bodySF (plainFor_of_name pnm4) hisR ?_
  intro p e s m args below meth c s₁ Bd hml0 hP hK
  obtain ⟨rfl, hZ, hh⟩ := hP
  have hx := Bd.exec
  have hby := Bd.bytes
  have hml : c.maxLocals = 3 := hml0
  have hown : s.vm.findClass "com/example/dogged_dispatch/doggeddispatch/api/ApiException" = some m.cls := findClass_of_methodNamed Bd.named
  have hnm := (name_of_methodNamed Bd.named Bd.method).1
  have X0 : Stand p l e rom14 s m #[(.ref a1), (.int p1), (.ref s1)] below meth c s₁ [] 0 0 := Stand.of_body Bd
  obtain ⟨hTK, hBl⟩ := hK
  have eh0 : s₁.heap = h0 := by rw [← hh, Bd.state]; rfl
  have N0 := Fr.nil n0
  have tw35 := hw _ (List.mem_of_getElem? (i := 35) rfl)
  have tw39 := hw _ (List.mem_of_getElem? (i := 39) rfl)
  have tw40 := hw _ (List.mem_of_getElem? (i := 40) rfl)
  have tw42 := hw _ (List.mem_of_getElem? (i := 42) rfl)
  have tw43 := hw _ (List.mem_of_getElem? (i := 43) rfl)
  have tw87 := hw _ (List.mem_of_getElem? (i := 87) rfl)
  have tw88 := hw _ (List.mem_of_getElem? (i := 88) rfl)
  show Goes p e below (Pq (Q_aexr Z a1 p1 us ss s1 h0 n0) s rom14.cells rom14.slots) (s₁.setTop (entryFrame m #[(.ref a1), (.int p1), (.ref s1)] 3))
  refine Goes.step (S' := s₁.setTop (mkF m 0 #[.val (.ref a1), .val (.int p1), .val (.ref s1)] [])) (fun t k => castTop (ef_aexr m a1 p1 s1) k) ?_
  refine Goes.step (S' := s₁.setTop (mkF m 2 #[.val (.ref a1), .val (.int p1), .val (.ref s1)] [(.ref s1), (.ref a1)])) (fun t k => XS.aloadN X0.here hx rfl (hb hby d_prog_1_method_1_code_0) rfl rfl (XS.aloadN X0.here hx rfl (hb hby d_prog_1_method_1_code_1) rfl rfl k)) ?_
  obtain ⟨_, _, ⟨T101, L101, k101, n101⟩, -, X101, ⟨Lc101, hQ101, l101, y101, z101⟩, st101⟩ := X0.specialBack hx (y := mth7) rfl hown (mvT hZ tw39) (mvT hZ tw40) (mvT hZ tw43) (by decide) (backOfKL (W := 0) (ex0r l Z a0 hw [] a1 us ss s1 h0 n0 Z0 (HL : l.stackTraces = true) TH SU SP E1 U1 Fb Fd Fc Fs Fp G1) hZ tw43 tw42 (by decide) (by decide) hTK hBl) (g := (mkF m 2 #[.val (.ref a1), .val (.int p1), .val (.ref s1)] [(.ref s1), (.ref a1)])) rfl (by rw [hml]; rfl) (Steps.refl _) (a := a1) (argsL := [(.ref s1)]) (rest := []) (lenOf pd_Ljava_lang_String__V rfl) rfl (Nat.le_of_eq rfl) (hb hby d_prog_1_method_1_code_2) (fun _ _ => ⟨rfl, eh0, (by decide : 0 + 1 ≤ _), (by decide : 0 + 2752 ≤ _)⟩)
  dsimp only [Pt.U, Pt.locs, Pt.cells, Pt.slots] at X101 l101 y101 z101 st101 hQ101
  subst y101 z101
  obtain ⟨rfl, Nq101, q101_0, q101_1, q101_2⟩ := hQ101
  have N101 : Fr n0 L101 := by rw [l101]; exact Fr.app N0 Nq101
  obtain ⟨ur101, Fr101⟩ := fld_laid (E1.keep q101_0) (Unt.known q101_1) tw35 (Or.inr tw88)
  refine Goes.step (S' := T101.setTop (mkF m 7 #[.val (.ref a1), .val (.int p1), .val (.ref s1)] [(.int p1), (.ref a1)])) (fun t k => st101.trans (XS.aloadN X101.here hx rfl (hb hby d_prog_1_method_1_code_5) rfl rfl (XS.iloadN X101.here hx rfl (hb hby d_prog_1_method_1_code_6) rfl k))) ?_
  obtain ⟨T102, h102, X102, e102, W102, st102⟩ := putF X101 hx hZ hown (host := "") (Or.inl tw87) Via.refl rfl Fr101 (E1.keep q101_0) (Or.inr ⟨tw88, rfl, hnm⟩) tw35 (ty := .int) (by decide) rfl rfl (g := (mkF m 7 #[.val (.ref a1), .val (.int p1), .val (.ref s1)] [(.int p1), (.ref a1)])) rfl rfl (hb hby d_prog_1_method_1_code_7)
  have Fw102 : Fld Z h102 a1 "com/example/dogged_dispatch/doggeddispatch/api/ApiException" "status" "I" (.int p1) := Fld.same W102 Fr101
  have N102 := Fr.snoc X102 N101 G1
  refine Goes.step (S' := T102.setTop (mkF m 10 #[.val (.ref a1), .val (.int p1), .val (.ref s1)] [])) (fun t k => st102 _ k) ?_
  refine Goes.leave (g := (mkF m 10 #[.val (.ref a1), .val (.int p1), .val (.ref s1)] [])) X102 Bd.notSynchronized (v := none) (fun _ => rfl) (fun fs hr => X102.returnOut hx Bd.returns (hb hby d_prog_1_method_1_code_10) hr) e102 ?_ (by decide) (by decide)
  exact ⟨rfl, N102, (((Keep.refl _ [a1]).trans q101_0 (allS (Or.inl (List.mem_of_getElem? (i := 0) rfl)) all0)).wr W102 (Or.inl (List.mem_of_getElem? (i := 0) rfl))), Fw102⟩

theorem ef_badr (m : MethodId) (x0 : Addr) : entryFrame m #[(.ref x0)] 1 = mkF m 0 #[.val (.ref x0)] [] := by first | (simp [entryFrame, mkF, argsToLocals, Value.category]; done) | rfl
def Q_badr (Z : State) (us : Addr) (ss : Addr) (s1 : Addr) (h0 : Heap) (n0 : Nat) (v : Option Value) (h : Heap) (L : List Loc) : Prop := ∃ (b : Addr), v = some (.ref b) ∧ Fr n0 L ∧ Keep h0 h [] ∧ h0.size ≤ b ∧ Exa Z h b "com/example/dogged_dispatch/doggeddispatch/api/ApiException" ∧ Fld Z h b "com/example/dogged_dispatch/doggeddispatch/api/ApiException" "status" "I" (.int (400 : Int32))
set_option maxRecDepth 65536 in
set_option maxHeartbeats 40000000 in
theorem badr (l : Launch) (Z : State) (a0 : Array Value) (hw : ∀ d ∈ tables_1, d.before a0 Z = true) (ws : List Jvm.Cond) (us : Addr) (ss : Addr) (s1 : Addr) (h0 : Heap) (n0 : Nat) (Z0 : n0 ≤ h0.size) (HL : l.stackTraces = true) (TH : ThS Z h0) (SU : Sta Z h0 "java/lang/Throwable" "UNASSIGNED_STACK" "[Ljava/lang/StackTraceElement;" (.ref us)) (SP : Sta Z h0 "java/lang/Throwable" "SUPPRESSED_SENTINEL" "Ljava/util/List;" (.ref ss)) :
    MetFree l mth9 (head1 (Jvm.Cond.code mth9 prog_1_method_3_code 1 (some (.object "com/example/dogged_dispatch/doggeddispatch/api/ApiException")) :: ws) rom15) (fun a U => a = #[(.ref s1)] ∧ Z.Warmed39 U.vm ∧ U.heap = h0) (fun _ _ bl s _ => s.vm.MethodsKnown ∧ s.vm.FramesKnown bl) (fun _ U o U' => ∃ v L, o = .returned v ∧ Q_badr Z us ss s1 h0 n0 v U'.heap L ∧ FrameEnd U o U' L rom15.cells rom15.slots) := by
  refine MetFree.of_bodySF (plainFor_of_name pnm4) hisR ?_
  intro p e s m args below meth c s₁ Bd hml0 hP hK
  obtain ⟨rfl, hZ, hh⟩ := hP
  have hx := Bd.exec
  have hby := Bd.bytes
  have hml : c.maxLocals = 1 := hml0
  have hown : s.vm.findClass "com/example/dogged_dispatch/doggeddispatch/api/ApiException" = some m.cls := findClass_of_methodNamed Bd.named
  have hnm := (name_of_methodNamed Bd.named Bd.method).1
  have X0 : Stand p l e rom15 s m #[(.ref s1)] below meth c s₁ [] 0 0 := Stand.of_body Bd
  obtain ⟨hTK, hBl⟩ := hK
  have eh0 : s₁.heap = h0 := by rw [← hh, Bd.state]; rfl
  have N0 := Fr.nil n0
  have tw32 := hw _ (List.mem_of_getElem? (i := 32) rfl)
  have tw34 := hw _ (List.mem_of_getElem? (i := 34) rfl)
  have tw35 := hw _ (List.mem_of_getElem? (i := 35) rfl)
  have tw36 := hw _ (List.mem_of_getElem? (i := 36) rfl)
  have tw37 := hw _ (List.mem_of_getElem? (i := 37) rfl)
  have tw38 := hw _ (List.mem_of_getElem? (i := 38) rfl)
  have tw52 := hw _ (List.mem_of_getElem? (i := 52) rfl)
  have tw55 := hw _ (List.mem_of_getElem? (i := 55) rfl)
  have tw58 := hw _ (List.mem_of_getElem? (i := 58) rfl)
  have tw82 := hw _ (List.mem_of_getElem? (i := 82) rfl)
  have tw83 := hw _ (List.mem_of_getElem? (i := 83) rfl)
  have tw84 := hw _ (List.mem_of_getElem? (i := 84) rfl)
  have tw88 := hw _ (List.mem_of_getElem? (i := 88) rfl)
  show Goes p e below (Pq (Q_badr Z us ss s1 h0 n0) s rom15.cells rom15.slots) (s₁.setTop (entryFrame m #[(.ref s1)] 1))
  refine Goes.step (S' := s₁.setTop (mkF m 0 #[.val (.ref s1)] [])) (fun t k => castTop (ef_badr m s1) k) ?_
  obtain ⟨T101, h101, X101, e101, E101, A101, D101, U101, st101⟩ := newO X0 hx hZ hown tw34 tw35 tw32 eh0 (g := (mkF m 0 #[.val (.ref s1)] [])) rfl (hb hby d_prog_1_method_3_code_0) (by decide) (by decide)
  obtain ⟨b101, g101⟩ : ∃ z, z = h0.size := ⟨_, rfl⟩
  rw [← g101] at A101 D101 U101 st101
  have F101_cause : Fld Z h101 b101 "java/lang/Throwable" "cause" "Ljava/lang/Throwable;" .null := D101 (Or.inl tw52) (ty := (.object "java/lang/Throwable")) (by decide)
  have F101_stackTrace : Fld Z h101 b101 "java/lang/Throwable" "stackTrace" "[Ljava/lang/StackTraceElement;" .null := D101 (Or.inl tw55) (ty := (.array (.object "java/lang/StackTraceElement"))) (by decide)
  have F101_suppressedExceptions : Fld Z h101 b101 "java/lang/Throwable" "suppressedExceptions" "Ljava/util/List;" .null := D101 (Or.inl tw58) (ty := (.object "java/util/List")) (by decide)
  have F101_detailMessage : Fld Z h101 b101 "java/lang/Throwable" "detailMessage" "Ljava/lang/String;" .null := D101 (Or.inl tw82) (ty := (.object "java/lang/String")) (by decide)
  have F101_backtrace : Fld Z h101 b101 "java/lang/Throwable" "backtrace" "Ljava/lang/Object;" .null := D101 (Or.inl tw83) (ty := (.object "java/lang/Object")) (by decide)
  have F101_depth : Fld Z h101 b101 "java/lang/Throwable" "depth" "I" (.int (0 : Int32)) := D101 (Or.inl tw84) (ty := .int) (by decide)
  have F101_status : Fld Z h101 b101 "com/example/dogged_dispatch/doggeddispatch/api/ApiException" "status" "I" (.int (0 : Int32)) := D101 (Or.inr tw88) (ty := .int) (by decide)
  refine Goes.step (S' := T101.setTop (mkF m 8 #[.val (.ref s1)] [(.ref s1), (.int (400 : Int32)), (.ref b101), (.ref b101)])) (fun t k => st101 _ (XS.dup X101.here hx rfl (hb hby d_prog_1_method_3_code_3) rfl rfl (XS.sipush X101.here hx rfl (hb hby d_prog_1_method_3_code_4) (XS.aloadN X101.here hx rfl (hb hby d_prog_1_method_3_code_7) rfl rfl k)))) ?_
  obtain ⟨_, _, ⟨T102, L102, k102, n102⟩, -, X102, ⟨Lc102, hQ102, l102, y102, z102⟩, st102⟩ := X101.specialBack hx (y := mth8) rfl hown (mvT hZ tw36) (mvT hZ tw37) (mvT hZ tw38) (by decide) (backOfKL (W := 1) (aexr l Z a0 hw [] b101 (400 : Int32) us ss s1 h101 n0 (Nat.le_trans Z0 E101.1) (HL : l.stackTraces = true) (ThS.ext E101 TH) (Sta.ext E101 SU) (Sta.ext E101 SP) A101 U101 F101_backtrace F101_detailMessage F101_cause F101_stackTrace F101_suppressedExceptions F101_status (Nat.le_trans Z0 (Nat.le_of_eq g101.symm))) hZ tw38 tw32 (by decide) (by decide) hTK hBl) (g := (mkF m 8 #[.val (.ref s1)] [(.ref s1), (.int (400 : Int32)), (.ref b101), (.ref b101)])) rfl (by rw [hml]; rfl) (Steps.refl _) (a := b101) (argsL := [(.int (400 : Int32)), (.ref s1)]) (rest := [(.ref b101)]) (lenOf pd_ILjava_lang_String__V rfl) rfl (Nat.le_of_eq rfl) (hb hby d_prog_1_method_3_code_8) (fun _ _ => ⟨rfl, e101, (by decide : 1 + 1 ≤ _), (by decide : 7 + 2752 ≤ _)⟩)
  dsimp only [Pt.U, Pt.locs, Pt.cells, Pt.slots] at X102 l102 y102 z102 st102 hQ102
  subst y102 z102
  obtain ⟨rfl, Nq102, q102_0, q102_1⟩ := hQ102
  have N102 : Fr n0 L102 := by rw [l102]; exact Fr.app N0 Nq102
  refine Goes.step (S' := T102.setTop (mkF m 11 #[.val (.ref s1)] [(.ref b101)])) (fun t k => st102.trans k) ?_
  refine Goes.leave (g := (mkF m 11 #[.val (.ref s1)] [(.ref b101)])) X102 Bd.notSynchronized (v := (some (.ref b101))) (fun h => by rw [Bd.returns] at h; cases h) (fun fs hr => by jvm_step X102.here [X102.here.top, hx, (hb hby d_prog_1_method_3_code_11), X102.method', Bd.returns, Value.isRef, FieldType.isReference]; (first | (intro acts; rw [hr _ acts rfl rfl rfl]) | rw [hr _ _ rfl rfl rfl]); exact Steps.refl _) rfl ?_ (by decide) (by decide)
  exact ⟨b101, rfl, N102, (((Keep.refl _ []).ext E101).trans q102_0 (allS (Or.inr (Nat.le_of_eq g101.symm)) all0)), (Nat.le_of_eq g101.symm), (A101.keep q102_0), q102_1⟩

theorem ef_thrn (m : MethodId) (x0 : Addr) : entryFrame m #[(.ref x0), .null] 2 = mkF m 0 #[.val (.ref x0), .val .null] [] := by first | (simp [entryFrame, mkF, argsToLocals, Value.category]; done) | rfl
def Q_thrn (Z : State) (a1 : Addr) (us : Addr) (ss : Addr) (h0 : Heap) (n0 : Nat) (v : Option Value) (h : Heap) (L : List Loc) : Prop := v = none ∧ Fr n0 L ∧ Keep h0 h [a1] ∧ Unt h a1 ∧ Fld Z h a1 "java/lang/Throwable" "detailMessage" "Ljava/lang/String;" .null
set_option maxRecDepth 65536 in
set_option maxHeartbeats 40000000 in
theorem thrn (l : Launch) (Z : State) (a0 : Array Value) (hw : ∀ d ∈ tables_1, d.before a0 Z = true) (ws : List Jvm.Cond) (a1 : Addr) (us : Addr) (ss : Addr) (h0 : Heap) (n0 : Nat) (Z0 : n0 ≤ h0.size) (HL : l.stackTraces = true) (TH : ThS Z h0) (SU : Sta Z h0 "java/lang/Throwable" "UNASSIGNED_STACK" "[Ljava/lang/StackTraceElement;" (.ref us)) (SP : Sta Z h0 "java/lang/Throwable" "SUPPRESSED_SENTINEL" "Ljava/util/List;" (.ref ss)) (E1 : Exa Z h0 a1 "com/example/dogged_dispatch/doggeddispatch/api/ApiException") (U1 : Unt h0 a1) (Fb : Fld Z h0 a1 "java/lang/Throwable" "backtrace" "Ljava/lang/Object;" .null) (Fd : Fld Z h0 a1 "java/lang/Throwable" "detailMessage" "Ljava/lang/String;" .null) (Fc : Fld Z h0 a1 "java/lang/Throwable" "cause" "Ljava/lang/Throwable;" .null) (Fs : Fld Z h0 a1 "java/lang/Throwable" "stackTrace" "[Ljava/lang/StackTraceElement;" .null) (Fp : Fld Z h0 a1 "java/lang/Throwable" "suppressedExceptions" "Ljava/util/List;" .null) (G1 : n0 ≤ a1) :
    MetFree l mth6 (head1 (Jvm.Cond.code mth6 jdk_78_method_2_code 2 none :: ws) rom12) (fun a U => a = #[(.ref a1), .null] ∧ Z.Warmed39 U.vm ∧ U.heap = h0) (fun _ _ bl s _ => s.vm.MethodsKnown ∧ s.vm.FramesKnown bl) (fun _ U o U' => ∃ v L, o = .returned v ∧ Q_thrn Z a1 us ss h0 n0 v U'.heap L ∧ FrameEnd U o U' L rom12.cells rom12.slots) := by
  refine MetFree.of_bodySF (plainFor_of_name pnm2) hisR ?_
  intro p e s m args below meth c s₁ Bd hml0 hP hK
  obtain ⟨rfl, hZ, hh⟩ := hP
  have hx := Bd.exec
  have hby := Bd.bytes
  have hml : c.maxLocals = 2 := hml0
  have hown : s.vm.findClass "java/lang/Throwable" = some m.cls := findClass_of_methodNamed Bd.named
  have hnm := (name_of_methodNamed Bd.named Bd.method).1
  have X0 : Stand p l e rom12 s m #[(.ref a1), .null] below meth c s₁ [] 0 0 := Stand.of_body Bd
  obtain ⟨hTK, hBl⟩ := hK
  have eh0 : s₁.heap = h0 := by rw [← hh, Bd.state]; rfl
  have N0 := Fr.nil n0
  have tw12 := hw _ (List.mem_of_getElem? (i := 12) rfl)
  have tw13 := hw _ (List.mem_of_getElem? (i := 13) rfl)
  have tw35 := hw _ (List.mem_of_getElem? (i := 35) rfl)
  have tw50 := hw _ (List.mem_of_getElem? (i := 50) rfl)
  have tw51 := hw _ (List.mem_of_getElem? (i := 51) rfl)
  have tw52 := hw _ (List.mem_of_getElem? (i := 52) rfl)
  have tw53 := hw _ (List.mem_of_getElem? (i := 53) rfl)
  have tw54 := hw _ (List.mem_of_getElem? (i := 54) rfl)
  have tw55 := hw _ (List.mem_of_getElem? (i := 55) rfl)
  have tw56 := hw _ (List.mem_of_getElem? (i := 56) rfl)
  have tw57 := hw _ (List.mem_of_getElem? (i := 57) rfl)
  have tw58 := hw _ (List.mem_of_getElem? (i := 58) rfl)
  have tw59 := hw _ (List.mem_of_getElem? (i := 59) rfl)
  have tw60 := hw _ (List.mem_of_getElem? (i := 60) rfl)
  have tw61 := hw _ (List.mem_of_getElem? (i := 61) rfl)
  have tw62 := hw _ (List.mem_of_getElem? (i := 62) rfl)
  have tw82 := hw _ (List.mem_of_getElem? (i := 82) rfl)
  have tw83 := hw _ (List.mem_of_getElem? (i := 83) rfl)
  have tw86 := hw _ (List.mem_of_getElem? (i := 86) rfl)
  show Goes p e below (Pq (Q_thrn Z a1 us ss h0 n0) s rom12.cells rom12.slots) (s₁.setTop (entryFrame m #[(.ref a1), .null] 2))
  refine Goes.step (S' := s₁.setTop (mkF m 0 #[.val (.ref a1), .val .null] [])) (fun t k => castTop (ef_thrn m a1) k) ?_
  refine Goes.step (S' := s₁.setTop (mkF m 1 #[.val (.ref a1), .val .null] [(.ref a1)])) (fun t k => XS.aloadN X0.here hx rfl (hb hby d_jdk_78_method_2_code_0) rfl rfl k) ?_
  obtain ⟨T101, X101, e101, st101⟩ := initO X0 hx hZ hown tw50 tw12 tw13 eh0 (g := (mkF m 1 #[.val (.ref a1), .val .null] [(.ref a1)])) rfl (by rw [hml]; rfl) rfl (hb hby d_jdk_78_method_2_code_1) (by decide) (W := 0) (Nat.le_of_eq rfl) (by decide)
  refine Goes.step (S' := T101.setTop (mkF m 6 #[.val (.ref a1), .val .null] [(.ref a1), (.ref a1)])) (fun t k => st101 _ (XS.aloadN X101.here hx rfl (hb hby d_jdk_78_method_2_code_4) rfl rfl (XS.aloadN X101.here hx rfl (hb hby d_jdk_78_method_2_code_5) rfl rfl k))) ?_
  obtain ⟨T102, h102, X102, e102, W102, st102⟩ := putF X101 hx hZ hown (host := "") (Or.inl tw51) Via.refl e101 Fc E1 (Or.inl tw52) tw35 (ty := (.object "java/lang/Throwable")) (by decide) rfl rfl (g := (mkF m 6 #[.val (.ref a1), .val .null] [(.ref a1), (.ref a1)])) rfl rfl (hb hby d_jdk_78_method_2_code_6)
  have Fw102 : Fld Z h102 a1 "java/lang/Throwable" "cause" "Ljava/lang/Throwable;" (.ref a1) := Fld.same W102 Fc
  have N102 := Fr.snoc X102 N0 G1
  refine Goes.step (S' := T102.setTop (mkF m 10 #[.val (.ref a1), .val .null] [(.ref a1)])) (fun t k => st102 _ (XS.aloadN X102.here hx rfl (hb hby d_jdk_78_method_2_code_9) rfl rfl k)) ?_
  obtain ⟨T103, X103, e103, st103⟩ := getS2 X102 hx hZ hown (host := "") (Or.inl tw53) Via.refl e102 (Sta.wr W102 SU) (g := (mkF m 10 #[.val (.ref a1), .val .null] [(.ref a1)])) rfl (hb hby d_jdk_78_method_2_code_10)
  refine Goes.step (S' := T103.setTop (mkF m 13 #[.val (.ref a1), .val .null] [(.ref us), (.ref a1)])) (fun t k => st103 _ k) ?_
  obtain ⟨T104, h104, X104, e104, W104, st104⟩ := putF X103 hx hZ hown (host := "") (Or.inl tw54) Via.refl e103 (Fld.other W102 Fs (Or.inr (slot_ne (Or.inl tw55) (Or.inl tw52) (by decide) (t := (.array (.object "java/lang/StackTraceElement"))) (t' := (.object "java/lang/Throwable")) (by decide) (by decide)))) (Exa.wr W102 E1) (Or.inl tw55) tw35 (ty := (.array (.object "java/lang/StackTraceElement"))) (by decide) rfl rfl (g := (mkF m 13 #[.val (.ref a1), .val .null] [(.ref us), (.ref a1)])) rfl rfl (hb hby d_jdk_78_method_2_code_13)
  have Fw104 : Fld Z h104 a1 "java/lang/Throwable" "stackTrace" "[Ljava/lang/StackTraceElement;" (.ref us) := Fld.same W104 (Fld.other W102 Fs (Or.inr (slot_ne (Or.inl tw55) (Or.inl tw52) (by decide) (t := (.array (.object "java/lang/StackTraceElement"))) (t' := (.object "java/lang/Throwable")) (by decide) (by decide))))
  have N104 := Fr.snoc X104 N102 G1
  refine Goes.step (S' := T104.setTop (mkF m 17 #[.val (.ref a1), .val .null] [(.ref a1)])) (fun t k => st104 _ (XS.aloadN X104.here hx rfl (hb hby d_jdk_78_method_2_code_16) rfl rfl k)) ?_
  obtain ⟨T105, X105, e105, st105⟩ := getS2 X104 hx hZ hown (host := "") (Or.inl tw56) Via.refl e104 (Sta.wr W104 (Sta.wr W102 SP)) (g := (mkF m 17 #[.val (.ref a1), .val .null] [(.ref a1)])) rfl (hb hby d_jdk_78_method_2_code_17)
  refine Goes.step (S' := T105.setTop (mkF m 20 #[.val (.ref a1), .val .null] [(.ref ss), (.ref a1)])) (fun t k => st105 _ k) ?_
  obtain ⟨T106, h106, X106, e106, W106, st106⟩ := putF X105 hx hZ hown (host := "") (Or.inl tw57) Via.refl e105 (Fld.other W104 (Fld.other W102 Fp (Or.inr (slot_ne (Or.inl tw58) (Or.inl tw52) (by decide) (t := (.object "java/util/List")) (t' := (.object "java/lang/Throwable")) (by decide) (by decide)))) (Or.inr (slot_ne (Or.inl tw58) (Or.inl tw55) (by decide) (t := (.object "java/util/List")) (t' := (.array (.object "java/lang/StackTraceElement"))) (by decide) (by decide)))) (Exa.wr W104 (Exa.wr W102 E1)) (Or.inl tw58) tw35 (ty := (.object "java/util/List")) (by decide) rfl rfl (g := (mkF m 20 #[.val (.ref a1), .val .null] [(.ref ss), (.ref a1)])) rfl rfl (hb hby d_jdk_78_method_2_code_20)
  have Fw106 : Fld Z h106 a1 "java/lang/Throwable" "suppressedExceptions" "Ljava/util/List;" (.ref ss) := Fld.same W106 (Fld.other W104 (Fld.other W102 Fp (Or.inr (slot_ne (Or.inl tw58) (Or.inl tw52) (by decide) (t := (.object "java/util/List")) (t' := (.object "java/lang/Throwable")) (by decide) (by decide)))) (Or.inr (slot_ne (Or.inl tw58) (Or.inl tw55) (by decide) (t := (.object "java/util/List")) (t' := (.array (.object "java/lang/StackTraceElement"))) (by decide) (by decide))))
  have N106 := Fr.snoc X106 N104 G1
  refine Goes.step (S' := T106.setTop (mkF m 24 #[.val (.ref a1), .val .null] [(.ref a1)])) (fun t k => st106 _ (XS.aloadN X106.here hx rfl (hb hby d_jdk_78_method_2_code_23) rfl rfl k)) ?_
  obtain ⟨cq107, kq107, q107a, q107b, q107c⟩ := isOf hZ e106 (Exa.wr W106 (Exa.wr W104 (Exa.wr W102 E1)))
  obtain ⟨_, _, ⟨T107, L107, k107, n107⟩, -, X107, ⟨Lc107, hQ107, l107, y107, z107⟩, st107⟩ := X106.virtualBack hx (y := mth5) (z := mth5) hown (mvT hZ tw59) (mvT hZ tw60) (notFace_of_selects (args := #[]) (mvT hZ tw62)) (mvT hZ tw62) (mvT hZ tw61) (by decide) (own_fill (len := 3) (W := 0) X106 hx HL hZ (rc := "com/example/dogged_dispatch/doggeddispatch/api/ApiException") (fun d hd => hw d (own_tin d hd)) tw35 (by have q := TH; rw [← hh] at q; exact q) hTK hBl G1 (ThS.wr W106 (ThS.wr W104 (ThS.wr W102 TH))) (Exa.wr W106 (Exa.wr W104 (Exa.wr W102 E1))) (Unt.wr W106 (Unt.wr W104 (Unt.wr W102 U1))) (Fld.other W106 (Fld.other W104 (Fld.other W102 Fb (Or.inr (slot_ne (Or.inl tw83) (Or.inl tw52) (by decide) (t := (.object "java/lang/Object")) (t' := (.object "java/lang/Throwable")) (by decide) (by decide)))) (Or.inr (slot_ne (Or.inl tw83) (Or.inl tw55) (by decide) (t := (.object "java/lang/Object")) (t' := (.array (.object "java/lang/StackTraceElement"))) (by decide) (by decide)))) (Or.inr (slot_ne (Or.inl tw83) (Or.inl tw58) (by decide) (t := (.object "java/lang/Object")) (t' := (.object "java/util/List")) (by decide) (by decide)))) (Fld.other W106 (Fld.other W104 (Fld.other W102 Fd (Or.inr (slot_ne (Or.inl tw82) (Or.inl tw52) (by decide) (t := (.object "java/lang/String")) (t' := (.object "java/lang/Throwable")) (by decide) (by decide)))) (Or.inr (slot_ne (Or.inl tw82) (Or.inl tw55) (by decide) (t := (.object "java/lang/String")) (t' := (.array (.object "java/lang/StackTraceElement"))) (by decide) (by decide)))) (Or.inr (slot_ne (Or.inl tw82) (Or.inl tw58) (by decide) (t := (.object "java/lang/String")) (t' := (.object "java/util/List")) (by decide) (by decide)))) (Fld.other W106 Fw104 (Or.inr (slot_ne (Or.inl tw55) (Or.inl tw58) (by decide) (t := (.array (.object "java/lang/StackTraceElement"))) (t' := (.object "java/util/List")) (by decide) (by decide)))) (Sta.wr W106 (Sta.wr W104 (Sta.wr W102 SU))) (by decide) (by decide)) q107a q107c (g := (mkF m 24 #[.val (.ref a1), .val .null] [(.ref a1)])) rfl (by rw [hml]; rfl) (Steps.refl _) (argsL := []) (rest := []) (lenOf pd_Ljava_lang_Throwable rfl) rfl (Nat.le_of_eq rfl) (hb hby d_jdk_78_method_2_code_24) (fun _ _ => ⟨rfl, e106, (by decide : 0 + 1 ≤ _), (by decide : 0 + 2752 ≤ _)⟩)
  dsimp only [Pt.U, Pt.locs, Pt.cells, Pt.slots] at X107 l107 y107 z107 st107 hQ107
  subst y107 z107
  obtain ⟨rfl, Nq107, q107_0, q107_1, q107_2, q107_3, q107_4⟩ := hQ107
  have N107 : Fr n0 L107 := by rw [l107]; exact Fr.app N106 Nq107
  refine Goes.step (S' := T107.setTop (mkF m 30 #[.val (.ref a1), .val .null] [.null, (.ref a1)])) (fun t k => st107.trans (XS.pop X107.here hx rfl (hb hby d_jdk_78_method_2_code_27) rfl rfl (XS.aloadN X107.here hx rfl (hb hby d_jdk_78_method_2_code_28) rfl rfl (XS.aloadN X107.here hx rfl (hb hby d_jdk_78_method_2_code_29) rfl rfl k)))) ?_
  obtain ⟨T108, h108, X108, e108, W108, st108⟩ := putF X107 hx hZ hown (host := "") (Or.inl tw86) Via.refl rfl q107_4 q107_1 (Or.inl tw82) tw35 (ty := (.object "java/lang/String")) (by decide) rfl rfl (g := (mkF m 30 #[.val (.ref a1), .val .null] [.null, (.ref a1)])) rfl rfl (hb hby d_jdk_78_method_2_code_30)
  have Fw108 : Fld Z h108 a1 "java/lang/Throwable" "detailMessage" "Ljava/lang/String;" .null := Fld.same W108 q107_4
  have N108 := Fr.snoc X108 N107 G1
  refine Goes.step (S' := T108.setTop (mkF m 33 #[.val (.ref a1), .val .null] [])) (fun t k => st108 _ k) ?_
  refine Goes.leave (g := (mkF m 33 #[.val (.ref a1), .val .null] [])) X108 Bd.notSynchronized (v := none) (fun _ => rfl) (fun fs hr => X108.returnOut hx Bd.returns (hb hby d_jdk_78_method_2_code_33) hr) e108 ?_ (by decide) (by decide)
  exact ⟨rfl, N108, ((((((Keep.refl _ [a1]).wr W102 (Or.inl (List.mem_of_getElem? (i := 0) rfl))).wr W104 (Or.inl (List.mem_of_getElem? (i := 0) rfl))).wr W106 (Or.inl (List.mem_of_getElem? (i := 0) rfl))).trans q107_0 (allS (Or.inl (List.mem_of_getElem? (i := 0) rfl)) all0)).wr W108 (Or.inl (List.mem_of_getElem? (i := 0) rfl))), (Unt.wr W108 q107_2), Fw108⟩

theorem ef_ex0n (m : MethodId) (x0 : Addr) : entryFrame m #[(.ref x0), .null] 2 = mkF m 0 #[.val (.ref x0), .val .null] [] := by first | (simp [entryFrame, mkF, argsToLocals, Value.category]; done) | rfl
def Q_ex0n (Z : State) (a1 : Addr) (us : Addr) (ss : Addr) (h0 : Heap) (n0 : Nat) (v : Option Value) (h : Heap) (L : List Loc) : Prop := v = none ∧ Fr n0 L ∧ Keep h0 h [a1] ∧ Unt h a1 ∧ Fld Z h a1 "java/lang/Throwable" "detailMessage" "Ljava/lang/String;" .null
set_option maxRecDepth 65536 in
set_option maxHeartbeats 40000000 in
theorem ex0n (l : Launch) (Z : State) (a0 : Array Value) (hw : ∀ d ∈ tables_1, d.before a0 Z = true) (ws : List Jvm.Cond) (a1 : Addr) (us : Addr) (ss : Addr) (h0 : Heap) (n0 : Nat) (Z0 : n0 ≤ h0.size) (HL : l.stackTraces = true) (TH : ThS Z h0) (SU : Sta Z h0 "java/lang/Throwable" "UNASSIGNED_STACK" "[Ljava/lang/StackTraceElement;" (.ref us)) (SP : Sta Z h0 "java/lang/Throwable" "SUPPRESSED_SENTINEL" "Ljava/util/List;" (.ref ss)) (E1 : Exa Z h0 a1 "com/example/dogged_dispatch/doggeddispatch/api/ApiException") (U1 : Unt h0 a1) (Fb : Fld Z h0 a1 "java/lang/Throwable" "backtrace" "Ljava/lang/Object;" .null) (Fd : Fld Z h0 a1 "java/lang/Throwable" "detailMessage" "Ljava/lang/String;" .null) (Fc : Fld Z h0 a1 "java/lang/Throwable" "cause" "Ljava/lang/Throwable;" .null) (Fs : Fld Z h0 a1 "java/lang/Throwable" "stackTrace" "[Ljava/lang/StackTraceElement;" .null) (Fp : Fld Z h0 a1 "java/lang/Throwable" "suppressedExceptions" "Ljava/util/List;" .null) (G1 : n0 ≤ a1) :
    MetFree l mth7 (head1 (Jvm.Cond.code mth7 jdk_59_method_2_code 2 none :: ws) rom13) (fun a U => a = #[(.ref a1), .null] ∧ Z.Warmed39 U.vm ∧ U.heap = h0) (fun _ _ bl s _ => s.vm.MethodsKnown ∧ s.vm.FramesKnown bl) (fun _ U o U' => ∃ v L, o = .returned v ∧ Q_ex0n Z a1 us ss h0 n0 v U'.heap L ∧ FrameEnd U o U' L rom13.cells rom13.slots) := by
  refine MetFree.of_bodySF (plainFor_of_name pnm3) hisR ?_
  intro p e s m args below meth c s₁ Bd hml0 hP hK
  obtain ⟨rfl, hZ, hh⟩ := hP
  have hx := Bd.exec
  have hby := Bd.bytes
  have hml : c.maxLocals = 2 := hml0
  have hown : s.vm.findClass "java/lang/Exception" = some m.cls := findClass_of_methodNamed Bd.named
  have hnm := (name_of_methodNamed Bd.named Bd.method).1
  have X0 : Stand p l e rom13 s m #[(.ref a1), .null] below meth c s₁ [] 0 0 := Stand.of_body Bd
  obtain ⟨hTK, hBl⟩ := hK
  have eh0 : s₁.heap = h0 := by rw [← hh, Bd.state]; rfl
  have N0 := Fr.nil n0
  have tw44 := hw _ (List.mem_of_getElem? (i := 44) rfl)
  have tw45 := hw _ (List.mem_of_getElem? (i := 45) rfl)
  have tw48 := hw _ (List.mem_of_getElem? (i := 48) rfl)
  have tw49 := hw _ (List.mem_of_getElem? (i := 49) rfl)
  show Goes p e below (Pq (Q_ex0n Z a1 us ss h0 n0) s rom13.cells rom13.slots) (s₁.setTop (entryFrame m #[(.ref a1), .null] 2))
  refine Goes.step (S' := s₁.setTop (mkF m 0 #[.val (.ref a1), .val .null] [])) (fun t k => castTop (ef_ex0n m a1) k) ?_
  refine Goes.step (S' := s₁.setTop (mkF m 2 #[.val (.ref a1), .val .null] [.null, (.ref a1)])) (fun t k => XS.aloadN X0.here hx rfl (hb hby d_jdk_59_method_2_code_0) rfl rfl (XS.aloadN X0.here hx rfl (hb hby d_jdk_59_method_2_code_1) rfl rfl k)) ?_
  obtain ⟨_, _, ⟨T101, L101, k101, n101⟩, -, X101, ⟨Lc101, hQ101, l101, y101, z101⟩, st101⟩ := X0.specialBack hx (y := mth6) rfl hown (mvT hZ tw44) (mvT hZ tw45) (mvT hZ tw49) (by decide) (backOfKL (W := 0) (thrn l Z a0 hw [] a1 us ss h0 n0 Z0 (HL : l.stackTraces = true) TH SU SP E1 U1 Fb Fd Fc Fs Fp G1) hZ tw49 tw48 (by decide) (by decide) hTK hBl) (g := (mkF m 2 #[.val (.ref a1), .val .null] [.null, (.ref a1)])) rfl (by rw [hml]; rfl) (Steps.refl _) (a := a1) (argsL := [.null]) (rest := []) (lenOf pd_Ljava_lang_String__V rfl) rfl (Nat.le_of_eq rfl) (hb hby d_jdk_59_method_2_code_2) (fun _ _ => ⟨rfl, eh0, (by decide : 0 + 1 ≤ _), (by decide : 0 + 2752 ≤ _)⟩)
  dsimp only [Pt.U, Pt.locs, Pt.cells, Pt.slots] at X101 l101 y101 z101 st101 hQ101
  subst y101 z101
  obtain ⟨rfl, Nq101, q101_0, q101_1, q101_2⟩ := hQ101
  have N101 : Fr n0 L101 := by rw [l101]; exact Fr.app N0 Nq101
  refine Goes.step (S' := T101.setTop (mkF m 5 #[.val (.ref a1), .val .null] [])) (fun t k => st101.trans k) ?_
  refine Goes.leave (g := (mkF m 5 #[.val (.ref a1), .val .null] [])) X101 Bd.notSynchronized (v := none) (fun _ => rfl) (fun fs hr => X101.returnOut hx Bd.returns (hb hby d_jdk_59_method_2_code_5) hr) rfl ?_ (by decide) (by decide)
  exact ⟨rfl, N101, ((Keep.refl _ [a1]).trans q101_0 (allS (Or.inl (List.mem_of_getElem? (i := 0) rfl)) all0)), q101_1, q101_2⟩

theorem ef_aexn (m : MethodId) (x0 : Addr) (x1 : Int32) : entryFrame m #[(.ref x0), (.int x1), .null] 3 = mkF m 0 #[.val (.ref x0), .val (.int x1), .val .null] [] := by first | (simp [entryFrame, mkF, argsToLocals, Value.category]; done) | rfl
def Q_aexn (Z : State) (a1 : Addr) (p1 : Int32) (us : Addr) (ss : Addr) (h0 : Heap) (n0 : Nat) (v : Option Value) (h : Heap) (L : List Loc) : Prop := v = none ∧ Fr n0 L ∧ Keep h0 h [a1] ∧ Fld Z h a1 "com/example/dogged_dispatch/doggeddispatch/api/ApiException" "status" "I" (.int p1)
set_option maxRecDepth 65536 in
set_option maxHeartbeats 40000000 in
theorem aexn (l : Launch) (Z : State) (a0 : Array Value) (hw : ∀ d ∈ tables_1, d.before a0 Z = true) (ws : List Jvm.Cond) (a1 : Addr) (p1 : Int32) (us : Addr) (ss : Addr) (h0 : Heap) (n0 : Nat) (Z0 : n0 ≤ h0.size) (HL : l.stackTraces = true) (TH : ThS Z h0) (SU : Sta Z h0 "java/lang/Throwable" "UNASSIGNED_STACK" "[Ljava/lang/StackTraceElement;" (.ref us)) (SP : Sta Z h0 "java/lang/Throwable" "SUPPRESSED_SENTINEL" "Ljava/util/List;" (.ref ss)) (E1 : Exa Z h0 a1 "com/example/dogged_dispatch/doggeddispatch/api/ApiException") (U1 : Unt h0 a1) (Fb : Fld Z h0 a1 "java/lang/Throwable" "backtrace" "Ljava/lang/Object;" .null) (Fd : Fld Z h0 a1 "java/lang/Throwable" "detailMessage" "Ljava/lang/String;" .null) (Fc : Fld Z h0 a1 "java/lang/Throwable" "cause" "Ljava/lang/Throwable;" .null) (Fs : Fld Z h0 a1 "java/lang/Throwable" "stackTrace" "[Ljava/lang/StackTraceElement;" .null) (Fp : Fld Z h0 a1 "java/lang/Throwable" "suppressedExceptions" "Ljava/util/List;" .null) (Fst : Fld Z h0 a1 "com/example/dogged_dispatch/doggeddispatch/api/ApiException" "status" "I" (.int (0 : Int32))) (G1 : n0 ≤ a1) :
    MetFree l mth8 (head1 (Jvm.Cond.code mth8 prog_1_method_1_code 3 none :: ws) rom14) (fun a U => a = #[(.ref a1), (.int p1), .null] ∧ Z.Warmed39 U.vm ∧ U.heap = h0) (fun _ _ bl s _ => s.vm.MethodsKnown ∧ s.vm.FramesKnown bl) (fun _ U o U' => ∃ v L, o = .returned v ∧ Q_aexn Z a1 p1 us ss h0 n0 v U'.heap L ∧ FrameEnd U o U' L rom14.cells rom14.slots) := by
  refine MetFree.of_bodySF (plainFor_of_name pnm4) hisR ?_
  intro p e s m args below meth c s₁ Bd hml0 hP hK
  obtain ⟨rfl, hZ, hh⟩ := hP
  have hx := Bd.exec
  have hby := Bd.bytes
  have hml : c.maxLocals = 3 := hml0
  have hown : s.vm.findClass "com/example/dogged_dispatch/doggeddispatch/api/ApiException" = some m.cls := findClass_of_methodNamed Bd.named
  have hnm := (name_of_methodNamed Bd.named Bd.method).1
  have X0 : Stand p l e rom14 s m #[(.ref a1), (.int p1), .null] below meth c s₁ [] 0 0 := Stand.of_body Bd
  obtain ⟨hTK, hBl⟩ := hK
  have eh0 : s₁.heap = h0 := by rw [← hh, Bd.state]; rfl
  have N0 := Fr.nil n0
  have tw35 := hw _ (List.mem_of_getElem? (i := 35) rfl)
  have tw39 := hw _ (List.mem_of_getElem? (i := 39) rfl)
  have tw40 := hw _ (List.mem_of_getElem? (i := 40) rfl)
  have tw42 := hw _ (List.mem_of_getElem? (i := 42) rfl)
  have tw43 := hw _ (List.mem_of_getElem? (i := 43) rfl)
  have tw87 := hw _ (List.mem_of_getElem? (i := 87) rfl)
  have tw88 := hw _ (List.mem_of_getElem? (i := 88) rfl)
  show Goes p e below (Pq (Q_aexn Z a1 p1 us ss h0 n0) s rom14.cells rom14.slots) (s₁.setTop (entryFrame m #[(.ref a1), (.int p1), .null] 3))
  refine Goes.step (S' := s₁.setTop (mkF m 0 #[.val (.ref a1), .val (.int p1), .val .null] [])) (fun t k => castTop (ef_aexn m a1 p1) k) ?_
  refine Goes.step (S' := s₁.setTop (mkF m 2 #[.val (.ref a1), .val (.int p1), .val .null] [.null, (.ref a1)])) (fun t k => XS.aloadN X0.here hx rfl (hb hby d_prog_1_method_1_code_0) rfl rfl (XS.aloadN X0.here hx rfl (hb hby d_prog_1_method_1_code_1) rfl rfl k)) ?_
  obtain ⟨_, _, ⟨T101, L101, k101, n101⟩, -, X101, ⟨Lc101, hQ101, l101, y101, z101⟩, st101⟩ := X0.specialBack hx (y := mth7) rfl hown (mvT hZ tw39) (mvT hZ tw40) (mvT hZ tw43) (by decide) (backOfKL (W := 0) (ex0n l Z a0 hw [] a1 us ss h0 n0 Z0 (HL : l.stackTraces = true) TH SU SP E1 U1 Fb Fd Fc Fs Fp G1) hZ tw43 tw42 (by decide) (by decide) hTK hBl) (g := (mkF m 2 #[.val (.ref a1), .val (.int p1), .val .null] [.null, (.ref a1)])) rfl (by rw [hml]; rfl) (Steps.refl _) (a := a1) (argsL := [.null]) (rest := []) (lenOf pd_Ljava_lang_String__V rfl) rfl (Nat.le_of_eq rfl) (hb hby d_prog_1_method_1_code_2) (fun _ _ => ⟨rfl, eh0, (by decide : 0 + 1 ≤ _), (by decide : 0 + 2752 ≤ _)⟩)
  dsimp only [Pt.U, Pt.locs, Pt.cells, Pt.slots] at X101 l101 y101 z101 st101 hQ101
  subst y101 z101
  obtain ⟨rfl, Nq101, q101_0, q101_1, q101_2⟩ := hQ101
  have N101 : Fr n0 L101 := by rw [l101]; exact Fr.app N0 Nq101
  obtain ⟨ur101, Fr101⟩ := fld_laid (E1.keep q101_0) (Unt.known q101_1) tw35 (Or.inr tw88)
  refine Goes.step (S' := T101.setTop (mkF m 7 #[.val (.ref a1), .val (.int p1), .val .null] [(.int p1), (.ref a1)])) (fun t k => st101.trans (XS.aloadN X101.here hx rfl (hb hby d_prog_1_method_1_code_5) rfl rfl (XS.iloadN X101.here hx rfl (hb hby d_prog_1_method_1_code_6) rfl k))) ?_
  obtain ⟨T102, h102, X102, e102, W102, st102⟩ := putF X101 hx hZ hown (host := "") (Or.inl tw87) Via.refl rfl Fr101 (E1.keep q101_0) (Or.inr ⟨tw88, rfl, hnm⟩) tw35 (ty := .int) (by decide) rfl rfl (g := (mkF m 7 #[.val (.ref a1), .val (.int p1), .val .null] [(.int p1), (.ref a1)])) rfl rfl (hb hby d_prog_1_method_1_code_7)
  have Fw102 : Fld Z h102 a1 "com/example/dogged_dispatch/doggeddispatch/api/ApiException" "status" "I" (.int p1) := Fld.same W102 Fr101
  have N102 := Fr.snoc X102 N101 G1
  refine Goes.step (S' := T102.setTop (mkF m 10 #[.val (.ref a1), .val (.int p1), .val .null] [])) (fun t k => st102 _ k) ?_
  refine Goes.leave (g := (mkF m 10 #[.val (.ref a1), .val (.int p1), .val .null] [])) X102 Bd.notSynchronized (v := none) (fun _ => rfl) (fun fs hr => X102.returnOut hx Bd.returns (hb hby d_prog_1_method_1_code_10) hr) e102 ?_ (by decide) (by decide)
  exact ⟨rfl, N102, (((Keep.refl _ [a1]).trans q101_0 (allS (Or.inl (List.mem_of_getElem? (i := 0) rfl)) all0)).wr W102 (Or.inl (List.mem_of_getElem? (i := 0) rfl))), Fw102⟩

theorem ef_badn (m : MethodId)  : entryFrame m #[.null] 1 = mkF m 0 #[.val .null] [] := by first | (simp [entryFrame, mkF, argsToLocals, Value.category]; done) | rfl
def Q_badn (Z : State) (us : Addr) (ss : Addr) (h0 : Heap) (n0 : Nat) (v : Option Value) (h : Heap) (L : List Loc) : Prop := ∃ (b : Addr), v = some (.ref b) ∧ Fr n0 L ∧ Keep h0 h [] ∧ h0.size ≤ b ∧ Exa Z h b "com/example/dogged_dispatch/doggeddispatch/api/ApiException" ∧ Fld Z h b "com/example/dogged_dispatch/doggeddispatch/api/ApiException" "status" "I" (.int (400 : Int32))
set_option maxRecDepth 65536 in
set_option maxHeartbeats 40000000 in
theorem badn (l : Launch) (Z : State) (a0 : Array Value) (hw : ∀ d ∈ tables_1, d.before a0 Z = true) (ws : List Jvm.Cond) (us : Addr) (ss : Addr) (h0 : Heap) (n0 : Nat) (Z0 : n0 ≤ h0.size) (HL : l.stackTraces = true) (TH : ThS Z h0) (SU : Sta Z h0 "java/lang/Throwable" "UNASSIGNED_STACK" "[Ljava/lang/StackTraceElement;" (.ref us)) (SP : Sta Z h0 "java/lang/Throwable" "SUPPRESSED_SENTINEL" "Ljava/util/List;" (.ref ss)) :
    MetFree l mth9 (head1 (Jvm.Cond.code mth9 prog_1_method_3_code 1 (some (.object "com/example/dogged_dispatch/doggeddispatch/api/ApiException")) :: ws) rom15) (fun a U => a = #[.null] ∧ Z.Warmed39 U.vm ∧ U.heap = h0) (fun _ _ bl s _ => s.vm.MethodsKnown ∧ s.vm.FramesKnown bl) (fun _ U o U' => ∃ v L, o = .returned v ∧ Q_badn Z us ss h0 n0 v U'.heap L ∧ FrameEnd U o U' L rom15.cells rom15.slots) := by
  refine MetFree.of_bodySF (plainFor_of_name pnm4) hisR ?_
  intro p e s m args below meth c s₁ Bd hml0 hP hK
  obtain ⟨rfl, hZ, hh⟩ := hP
  have hx := Bd.exec
  have hby := Bd.bytes
  have hml : c.maxLocals = 1 := hml0
  have hown : s.vm.findClass "com/example/dogged_dispatch/doggeddispatch/api/ApiException" = some m.cls := findClass_of_methodNamed Bd.named
  have hnm := (name_of_methodNamed Bd.named Bd.method).1
  have X0 : Stand p l e rom15 s m #[.null] below meth c s₁ [] 0 0 := Stand.of_body Bd
  obtain ⟨hTK, hBl⟩ := hK
  have eh0 : s₁.heap = h0 := by rw [← hh, Bd.state]; rfl
  have N0 := Fr.nil n0
  have tw32 := hw _ (List.mem_of_getElem? (i := 32) rfl)
  have tw34 := hw _ (List.mem_of_getElem? (i := 34) rfl)
  have tw35 := hw _ (List.mem_of_getElem? (i := 35) rfl)
  have tw36 := hw _ (List.mem_of_getElem? (i := 36) rfl)
  have tw37 := hw _ (List.mem_of_getElem? (i := 37) rfl)
  have tw38 := hw _ (List.mem_of_getElem? (i := 38) rfl)
  have tw52 := hw _ (List.mem_of_getElem? (i := 52) rfl)
  have tw55 := hw _ (List.mem_of_getElem? (i := 55) rfl)
  have tw58 := hw _ (List.mem_of_getElem? (i := 58) rfl)
  have tw82 := hw _ (List.mem_of_getElem? (i := 82) rfl)
  have tw83 := hw _ (List.mem_of_getElem? (i := 83) rfl)
  have tw84 := hw _ (List.mem_of_getElem? (i := 84) rfl)
  have tw88 := hw _ (List.mem_of_getElem? (i := 88) rfl)
  show Goes p e below (Pq (Q_badn Z us ss h0 n0) s rom15.cells rom15.slots) (s₁.setTop (entryFrame m #[.null] 1))
  refine Goes.step (S' := s₁.setTop (mkF m 0 #[.val .null] [])) (fun t k => castTop (ef_badn m ) k) ?_
  obtain ⟨T101, h101, X101, e101, E101, A101, D101, U101, st101⟩ := newO X0 hx hZ hown tw34 tw35 tw32 eh0 (g := (mkF m 0 #[.val .null] [])) rfl (hb hby d_prog_1_method_3_code_0) (by decide) (by decide)
  obtain ⟨b101, g101⟩ : ∃ z, z = h0.size := ⟨_, rfl⟩
  rw [← g101] at A101 D101 U101 st101
  have F101_cause : Fld Z h101 b101 "java/lang/Throwable" "cause" "Ljava/lang/Throwable;" .null := D101 (Or.inl tw52) (ty := (.object "java/lang/Throwable")) (by decide)
  have F101_stackTrace : Fld Z h101 b101 "java/lang/Throwable" "stackTrace" "[Ljava/lang/StackTraceElement;" .null := D101 (Or.inl tw55) (ty := (.array (.object "java/lang/StackTraceElement"))) (by decide)
  have F101_suppressedExceptions : Fld Z h101 b101 "java/lang/Throwable" "suppressedExceptions" "Ljava/util/List;" .null := D101 (Or.inl tw58) (ty := (.object "java/util/List")) (by decide)
  have F101_detailMessage : Fld Z h101 b101 "java/lang/Throwable" "detailMessage" "Ljava/lang/String;" .null := D101 (Or.inl tw82) (ty := (.object "java/lang/String")) (by decide)
  have F101_backtrace : Fld Z h101 b101 "java/lang/Throwable" "backtrace" "Ljava/lang/Object;" .null := D101 (Or.inl tw83) (ty := (.object "java/lang/Object")) (by decide)
  have F101_depth : Fld Z h101 b101 "java/lang/Throwable" "depth" "I" (.int (0 : Int32)) := D101 (Or.inl tw84) (ty := .int) (by decide)
  have F101_status : Fld Z h101 b101 "com/example/dogged_dispatch/doggeddispatch/api/ApiException" "status" "I" (.int (0 : Int32)) := D101 (Or.inr tw88) (ty := .int) (by decide)
  refine Goes.step (S' := T101.setTop (mkF m 8 #[.val .null] [.null, (.int (400 : Int32)), (.ref b101), (.ref b101)])) (fun t k => st101 _ (XS.dup X101.here hx rfl (hb hby d_prog_1_method_3_code_3) rfl rfl (XS.sipush X101.here hx rfl (hb hby d_prog_1_method_3_code_4) (XS.aloadN X101.here hx rfl (hb hby d_prog_1_method_3_code_7) rfl rfl k)))) ?_
  obtain ⟨_, _, ⟨T102, L102, k102, n102⟩, -, X102, ⟨Lc102, hQ102, l102, y102, z102⟩, st102⟩ := X101.specialBack hx (y := mth8) rfl hown (mvT hZ tw36) (mvT hZ tw37) (mvT hZ tw38) (by decide) (backOfKL (W := 1) (aexn l Z a0 hw [] b101 (400 : Int32) us ss h101 n0 (Nat.le_trans Z0 E101.1) (HL : l.stackTraces = true) (ThS.ext E101 TH) (Sta.ext E101 SU) (Sta.ext E101 SP) A101 U101 F101_backtrace F101_detailMessage F101_cause F101_stackTrace F101_suppressedExceptions F101_status (Nat.le_trans Z0 (Nat.le_of_eq g101.symm))) hZ tw38 tw32 (by decide) (by decide) hTK hBl) (g := (mkF m 8 #[.val .null] [.null, (.int (400 : Int32)), (.ref b101), (.ref b101)])) rfl (by rw [hml]; rfl) (Steps.refl _) (a := b101) (argsL := [(.int (400 : Int32)), .null]) (rest := [(.ref b101)]) (lenOf pd_ILjava_lang_String__V rfl) rfl (Nat.le_of_eq rfl) (hb hby d_prog_1_method_3_code_8) (fun _ _ => ⟨rfl, e101, (by decide : 1 + 1 ≤ _), (by decide : 7 + 2752 ≤ _)⟩)
  dsimp only [Pt.U, Pt.locs, Pt.cells, Pt.slots] at X102 l102 y102 z102 st102 hQ102
  subst y102 z102
  obtain ⟨rfl, Nq102, q102_0, q102_1⟩ := hQ102
  have N102 : Fr n0 L102 := by rw [l102]; exact Fr.app N0 Nq102
  refine Goes.step (S' := T102.setTop (mkF m 11 #[.val .null] [(.ref b101)])) (fun t k => st102.trans k) ?_
  refine Goes.leave (g := (mkF m 11 #[.val .null] [(.ref b101)])) X102 Bd.notSynchronized (v := (some (.ref b101))) (fun h => by rw [Bd.returns] at h; cases h) (fun fs hr => by jvm_step X102.here [X102.here.top, hx, (hb hby d_prog_1_method_3_code_11), X102.method', Bd.returns, Value.isRef, FieldType.isReference]; (first | (intro acts; rw [hr _ acts rfl rfl rfl]) | rw [hr _ _ rfl rfl rfl]); exact Steps.refl _) rfl ?_ (by decide) (by decide)
  exact ⟨b101, rfl, N102, (((Keep.refl _ []).ext E101).trans q102_0 (allS (Or.inr (Nat.le_of_eq g101.symm)) all0)), (Nat.le_of_eq g101.symm), (A101.keep q102_0), q102_1⟩

theorem ef_stat (m : MethodId) (x0 : Addr) : entryFrame m #[(.ref x0)] 1 = mkF m 0 #[.val (.ref x0)] [] := by first | (simp [entryFrame, mkF, argsToLocals, Value.category]; done) | rfl
def Q_stat (Z : State) (a1 : Addr) (h0 : Heap) (n0 : Nat) (v : Option Value) (h : Heap) (L : List Loc) : Prop := v = some (.int (400 : Int32)) ∧ Fr n0 L ∧ h = h0
set_option maxRecDepth 65536 in
set_option maxHeartbeats 40000000 in
theorem stat (l : Launch) (Z : State) (a0 : Array Value) (hw : ∀ d ∈ tables_1, d.before a0 Z = true) (ws : List Jvm.Cond) (a1 : Addr) (h0 : Heap) (n0 : Nat) (Z0 : n0 ≤ h0.size) (F1 : Fld Z h0 a1 "com/example/dogged_dispatch/doggeddispatch/api/ApiException" "status" "I" (.int (400 : Int32))) :
    MetFree l mth10 (head1 (Jvm.Cond.code mth10 prog_1_method_2_code 1 (some .int) :: ws) rom0) (fun a U => a = #[(.ref a1)] ∧ Z.Warmed39 U.vm ∧ U.heap = h0) (fun _ _ _ _ _ => True) (fun _ U o U' => ∃ v L, o = .returned v ∧ Q_stat Z a1 h0 n0 v U'.heap L ∧ FrameEnd U o U' L rom0.cells rom0.slots) := by
  refine MetFree.of_bodySF (plainFor_of_name pnm4) hisR ?_
  intro p e s m args below meth c s₁ Bd hml0 hP hK
  obtain ⟨rfl, hZ, hh⟩ := hP
  have hx := Bd.exec
  have hby := Bd.bytes
  have hml : c.maxLocals = 1 := hml0
  have hown : s.vm.findClass "com/example/dogged_dispatch/doggeddispatch/api/ApiException" = some m.cls := findClass_of_methodNamed Bd.named
  have hnm := (name_of_methodNamed Bd.named Bd.method).1
  have X0 : Stand p l e rom0 s m #[(.ref a1)] below meth c s₁ [] 0 0 := Stand.of_body Bd
  have eh0 : s₁.heap = h0 := by rw [← hh, Bd.state]; rfl
  have N0 := Fr.nil n0
  have tw87 := hw _ (List.mem_of_getElem? (i := 87) rfl)
  show Goes p e below (Pq (Q_stat Z a1 h0 n0) s rom0.cells rom0.slots) (s₁.setTop (entryFrame m #[(.ref a1)] 1))
  refine Goes.step (S' := s₁.setTop (mkF m 0 #[.val (.ref a1)] [])) (fun t k => castTop (ef_stat m a1) k) ?_
  refine Goes.step (S' := s₁.setTop (mkF m 1 #[.val (.ref a1)] [(.ref a1)])) (fun t k => XS.aloadN X0.here hx rfl (hb hby d_prog_1_method_2_code_0) rfl rfl k) ?_
  obtain ⟨T101, X101, e101, st101⟩ := getF X0 hx hZ hown (host := "") (Or.inl tw87) Via.refl eh0 F1 (g := (mkF m 1 #[.val (.ref a1)] [(.ref a1)])) rfl rfl (hb hby d_prog_1_method_2_code_1)
  refine Goes.step (S' := T101.setTop (mkF m 4 #[.val (.ref a1)] [(.int (400 : Int32))])) (fun t k => st101 _ k) ?_
  refine Goes.leave (g := (mkF m 4 #[.val (.ref a1)] [(.int (400 : Int32))])) X101 Bd.notSynchronized (v := (some (.int (400 : Int32)))) (fun h => by rw [Bd.returns] at h; cases h) (fun fs hr => retI X101 hx Bd.returns (hb hby d_prog_1_method_2_code_4) hr) e101 ?_ (by decide) (by decide)
  exact ⟨rfl, N0, rfl⟩

theorem ef_law (m : MethodId) (x0 : Int32) (x1 : Int32) (x2 : Int32) (x3 : Int32) : entryFrame m #[(.int x0), (.int x1), (.int x2), (.int x3)] maxLocals = mkF m 0 #[.val (.int x0), .val (.int x1), .val (.int x2), .val (.int x3), .unset, .unset, .unset, .unset] [] := by first | (simp [entryFrame, mkF, argsToLocals, Value.category, maxLocals]; done) | rfl
def Q_law (Z : State) (p0 : Int32) (p1 : Int32) (p2 : Int32) (p3 : Int32) (cs : Int32) (us : Addr) (ss : Addr) (h0 : Heap) (n0 : Nat) (v : Option Value) (h : Heap) (L : List Loc) : Prop := v = some (.int (1 : Int32)) ∧ Fr n0 L
set_option maxRecDepth 65536 in
set_option maxHeartbeats 40000000 in
theorem law (l : Launch) (Z : State) (a0 : Array Value) (hw : ∀ d ∈ tables_1, d.before a0 Z = true) (ws : List Jvm.Cond) (p0 : Int32) (p1 : Int32) (p2 : Int32) (p3 : Int32) (cs : Int32) (us : Addr) (ss : Addr) (h0 : Heap) (n0 : Nat) (Z0 : n0 ≤ h0.size) (SC : Sta Z h0 "java/lang/String" "COMPACT_STRINGS" "Z" (.int cs)) (PC : ¬ (cs = (0 : Int32))) (HL : l.stackTraces = true) (TH : ThS Z h0) (SU : Sta Z h0 "java/lang/Throwable" "UNASSIGNED_STACK" "[Ljava/lang/StackTraceElement;" (.ref us)) (SP : Sta Z h0 "java/lang/Throwable" "SUPPRESSED_SENTINEL" "Ljava/util/List;" (.ref ss)) :
    MetFree l x (head1 (Jvm.Cond.code x code maxLocals ret :: ws) room_1) (fun a U => a = #[(.int p0), (.int p1), (.int p2), (.int p3)] ∧ Z.Warmed39 U.vm ∧ U.heap = h0 ∧ CHv Z own_EL U.vm h0) (fun _ _ _ s _ => framesKnown s = true ∧ tablesKnown s = true) (fun _ U o U' => ∃ v L, o = .returned v ∧ Q_law Z p0 p1 p2 p3 cs us ss h0 n0 v U'.heap L ∧ CHr Z own_EL U.vm U.heap U'.vm U'.heap ∧ ReturnedEndW U o U' L room_1.cells room_1.slots) := by
  refine MetFree.of_bodySF (plainFor_of_name pnm5) hisR ?_
  intro p e s m args below meth c s₁ Bd hml0 hP hK
  obtain ⟨rfl, hZ, hh, hC⟩ := hP
  have hx := Bd.exec
  have hby := Bd.bytes
  have hml : c.maxLocals = 8 := hml0
  have hown : s.vm.findClass "com/example/dogged_dispatch/doggeddispatch/api/ApiExceptionBadRequestPinLaw" = some m.cls := findClass_of_methodNamed Bd.named
  have hnm := (name_of_methodNamed Bd.named Bd.method).1
  have X0 : Stand p l e room_1 s m #[(.int p0), (.int p1), (.int p2), (.int p3)] below meth c s₁ [] 0 0 := Stand.of_body Bd
  obtain ⟨hTK, hBl⟩ := X0.known hK.2 hK.1
  replace X0 : Stand p l e room_1 (s.setVm s.vm) m #[(.int p0), (.int p1), (.int p2), (.int p3)] below meth c s₁ [] 0 0 := X0
  have hZ0 := hZ
  have hown0 := hown
  have hS0 := own_s0 s h0.size
  have hTK0 := hTK
  have hBl0 := hBl
  have CR0 : CHr Z own_EL s.vm h0 s.vm h0 := CHr.refl hC
  have eh0 : s₁.heap = h0 := by rw [← hh, Bd.state]; rfl
  have N0 := Fr.nil n0
  have tw0 := hw _ (List.mem_of_getElem? (i := 0) rfl)
  have tw1 := hw _ (List.mem_of_getElem? (i := 1) rfl)
  have tw2 := hw _ (List.mem_of_getElem? (i := 2) rfl)
  have tw3 := hw _ (List.mem_of_getElem? (i := 3) rfl)
  have tw4 := hw _ (List.mem_of_getElem? (i := 4) rfl)
  have tw5 := hw _ (List.mem_of_getElem? (i := 5) rfl)
  have tw6 := hw _ (List.mem_of_getElem? (i := 6) rfl)
  have tw27 := hw _ (List.mem_of_getElem? (i := 27) rfl)
  have tw29 := hw _ (List.mem_of_getElem? (i := 29) rfl)
  have tw30 := hw _ (List.mem_of_getElem? (i := 30) rfl)
  have tw31 := hw _ (List.mem_of_getElem? (i := 31) rfl)
  have tw32 := hw _ (List.mem_of_getElem? (i := 32) rfl)
  have tw33 := hw _ (List.mem_of_getElem? (i := 33) rfl)
  have tw89 := hw _ (List.mem_of_getElem? (i := 89) rfl)
  have tw90 := hw _ (List.mem_of_getElem? (i := 90) rfl)
  have tw91 := hw _ (List.mem_of_getElem? (i := 91) rfl)
  have tw92 := hw _ (List.mem_of_getElem? (i := 92) rfl)
  have tw93 := hw _ (List.mem_of_getElem? (i := 93) rfl)
  show Goes p e below (Ph Z own_EL (Q_law Z p0 p1 p2 p3 cs us ss h0 n0) s room_1.cells room_1.slots) (s₁.setTop (entryFrame m #[(.int p0), (.int p1), (.int p2), (.int p3)] maxLocals))
  refine Goes.step (S' := s₁.setTop (mkF m 0 #[.val (.int p0), .val (.int p1), .val (.int p2), .val (.int p3), .unset, .unset, .unset, .unset] [])) (fun t k => castTop (ef_law m p0 p1 p2 p3) k) ?_
  refine Goes.step (S' := s₁.setTop (mkF m 5 #[.val (.int p0), .val (.int p1), .val (.int p2), .val (.int p3), .val (.int (p3 &&& (3 : Int32))), .unset, .unset, .unset] [])) (fun t k => XS.iloadN X0.here hx rfl (hb hby at_0) rfl (XS.iconst X0.here hx rfl (hb hby at_1) (XS.iand X0.here hx rfl (hb hby at_2) rfl (XS.istore X0.here hx rfl (hb hby at_3) rfl (l' := #[.val (.int p0), .val (.int p1), .val (.int p2), .val (.int p3), .val (.int (p3 &&& (3 : Int32))), .unset, .unset, .unset]) rfl k)))) ?_
  by_cases hc101 : (p3 &&& (3 : Int32)) = (0 : Int32)
  case pos =>
    rw [hc101]
    refine Goes.step (S' := s₁.setTop (mkF m 7 #[.val (.int p0), .val (.int p1), .val (.int p2), .val (.int p3), .val (.int (0 : Int32)), .unset, .unset, .unset] [(.int (0 : Int32))])) (fun t k => XS.iload X0.here hx rfl (hb hby at_5) rfl k) ?_
    obtain ⟨T102, h102, k102, X102, e102, E102, A102, AE102, st102⟩ := newPE (aty := .char) X0 hx hZ tw0 eh0 (g := (mkF m 7 #[.val (.int p0), .val (.int p1), .val (.int p2), .val (.int p3), .val (.int (0 : Int32)), .unset, .unset, .unset] [(.int (0 : Int32))])) rfl (hb hby at_7) rfl (by decide) (cap := 0) (by decide) (by decide) (by decide) (by decide) (ad := "[C") rfl
    obtain ⟨b102, g102⟩ : ∃ z, z = h0.size := ⟨_, rfl⟩
    rw [← g102] at A102 AE102 st102
    have V102 : Arv Z h102 b102 k102 .char (0 : Int32) [] (.int (0 : Int32)) := (Arv.new A102 (by decide)).pad (pad_rep [] (.int (0 : Int32)) 0)
    refine Goes.step (S' := T102.setTop (mkF m 44 #[.val (.int p0), .val (.int p1), .val (.int p2), .val (.int p3), .val (.int (0 : Int32)), .val (.ref b102), .unset, .unset] [(.int (0 : Int32))])) (fun t k => st102 _ (XS.astore X102.here hx rfl (hb hby at_9) rfl rfl (l' := #[.val (.int p0), .val (.int p1), .val (.int p2), .val (.int p3), .val (.int (0 : Int32)), .val (.ref b102), .unset, .unset]) rfl (XS.iload X102.here hx rfl (hb hby at_11) rfl (XS.ifYes X102.here hx rfl (pc0 := 13) (pc' := 26) rfl (hb hby at_13) rfl ((if0 _ _).trans (flt ((by decide) : ¬ ((0 : Int32) < (0 : Int32)))).2.2.2) (by decide) (by decide) (XS.iload X102.here hx rfl (hb hby at_26) rfl (XS.iconst X102.here hx rfl (hb hby at_28) (XS.icmpYes X102.here hx rfl (pc0 := 29) (pc' := 42) rfl (hb hby at_29) rfl (flt ((by decide) : ¬ ((1 : Int32) < (0 : Int32)))).2.2.2 (by decide) (by decide) (XS.iload X102.here hx rfl (hb hby at_42) rfl k)))))))) ?_
    refine Goes.step (S' := T102.setTop (mkF m 61 #[.val (.int p0), .val (.int p1), .val (.int p2), .val (.int p3), .val (.int (0 : Int32)), .val (.ref b102), .unset, .unset] [(.int (p3 &&& (4 : Int32)))])) (fun t k => XS.iconst X102.here hx rfl (hb hby at_44) (XS.icmpYes X102.here hx rfl (pc0 := 45) (pc' := 58) rfl (hb hby at_45) rfl (flt ((by decide) : ¬ ((2 : Int32) < (0 : Int32)))).2.2.2 (by decide) (by decide) (XS.iloadN X102.here hx rfl (hb hby at_58) rfl (XS.iconst X102.here hx rfl (hb hby at_59) (XS.iand X102.here hx rfl (hb hby at_60) rfl k))))) ?_
    by_cases hc103 : (p3 &&& (4 : Int32)) = (0 : Int32)
    case pos =>
      refine Goes.step (S' := T102.setTop (mkF m 68 #[.val (.int p0), .val (.int p1), .val (.int p2), .val (.int p3), .val (.int (0 : Int32)), .val (.ref b102), .unset, .unset] [])) (fun t k => XS.ifYes X102.here hx rfl (pc0 := 61) (pc' := 68) rfl (hb hby at_61) rfl ((if0 _ _).trans (teq hc103).1) (by decide) (by decide) k) ?_
      obtain ⟨T104, h104, X104, e104, E104, A104, D104, U104, st104⟩ := newO X102 hx hZ hown tw1 tw2 tw3 e102 (g := (mkF m 68 #[.val (.int p0), .val (.int p1), .val (.int p2), .val (.int p3), .val (.int (0 : Int32)), .val (.ref b102), .unset, .unset] [])) rfl (hb hby at_68) (by decide) (by decide)
      obtain ⟨b104, g104⟩ : ∃ z, z = h102.size := ⟨_, rfl⟩
      rw [← g104] at A104 D104 U104 st104
      have F104_coder : Fld Z h104 b104 "java/lang/String" "coder" "B" (.int (0 : Int32)) := D104 (Or.inr tw27) (ty := .byte) (by decide)
      have F104_value : Fld Z h104 b104 "java/lang/String" "value" "[B" .null := D104 (Or.inr tw29) (ty := (.array .byte)) (by decide)
      refine Goes.step (S' := T104.setTop (mkF m 74 #[.val (.int p0), .val (.int p1), .val (.int p2), .val (.int p3), .val (.int (0 : Int32)), .val (.ref b102), .unset, .unset] [(.ref b102), (.ref b104), (.ref b104)])) (fun t k => st104 _ (XS.dup X104.here hx rfl (hb hby at_71) rfl rfl (XS.aload X104.here hx rfl (hb hby at_72) rfl rfl k))) ?_
      have CR106 := CR0.trans (CHr.ext E102 CR0.1)
      have CR107 := CR106.trans (CHr.ext E104 CR106.1)
      have Q107_b104 := Safe.ext E104 CR106.1 (Safe.new (Nat.le_of_eq g104.symm))
      obtain ⟨_, _, ⟨T105, L105, k105, n105⟩, -, X105, hs105, gr105, ⟨Lc105, hQ105, l105, y105, z105, CX105⟩, st105⟩ := X104.specialBackS hx (y := mth4) rfl hown (mvT hZ tw4) (mvT hZ tw5) (mvT hZ tw6) (by decide) (backOfSH (EL := own_EL) (W := 1) (sic0 l Z a0 hw [] b104 b102 k102 h104 n0 (Nat.le_trans Z0 (Nat.le_trans E102.1 E104.1)) A104 F104_value F104_coder (Nat.le_trans Z0 (Nat.le_trans E102.1 (Nat.le_of_eq g104.symm))) (V102.ext E104)) hZ tw6 tw3 (by decide) (by decide) (own_ew hw) CR107.1) (g := (mkF m 74 #[.val (.int p0), .val (.int p1), .val (.int p2), .val (.int p3), .val (.int (0 : Int32)), .val (.ref b102), .unset, .unset] [(.ref b102), (.ref b104), (.ref b104)])) rfl (by rw [hml]; rfl) (Steps.refl _) (a := b104) (argsL := [(.ref b102)]) (rest := [(.ref b104)]) (lenOf pd_C_V rfl) rfl (Nat.le_of_eq rfl) (hb hby at_74) (fun _ _ => ⟨rfl, e104, (by decide : 2 + 4 ≤ _), (by decide : 4 + 8 ≤ _)⟩)
      dsimp only [Pt.U, Pt.locs, Pt.cells, Pt.slots] at X105 l105 y105 z105 st105 hQ105 hs105 gr105 CX105
      subst y105 z105
      replace X105 := own_fold X105
      have hS105 := foldS hS0 (by rw [e104]; exact (Nat.le_trans (Nat.le_refl _) (Nat.le_trans E102.1 E104.1))) hs105 gr105
      obtain ⟨hZ, hown⟩ := own_since hZ0 hown0 hS105
      have hTK := Vm.MethodsKnown.alikeC hS105.1.alike hTK0
      have hBl := Vm.FramesKnown.alikeC hS105.1.alike hBl0
      obtain ⟨rfl, Nq105, q105_0⟩ := hQ105
      have N105 : Fr n0 L105 := by rw [l105]; exact Fr.app N0 Nq105
      have CR105 := CR107.trans CX105
      have Q105_b104 := CX105.safe A104.lt Q107_b104
      refine Goes.step (S' := T105.setTop (mkF m 81 #[.val (.int p0), .val (.int p1), .val (.int p2), .val (.int p3), .val (.int (0 : Int32)), .val (.ref b102), .val (.ref b104), .unset] [(.ref b104)])) (fun t k => st105.trans (XS.astore X105.here hx rfl (hb hby at_77) rfl rfl (l' := #[.val (.int p0), .val (.int p1), .val (.int p2), .val (.int p3), .val (.int (0 : Int32)), .val (.ref b102), .val (.ref b104), .unset]) rfl (XS.aload X105.here hx rfl (hb hby at_79) rfl rfl k))) ?_
      obtain ⟨_, _, ⟨T108, L108, k108, n108⟩, -, X108, ⟨Lc108, hQ108, l108, y108, z108⟩, st108⟩ := Jvm.LawKit.callS X105 hx (y := mth9) hown (mvT hZ tw30) (mvT hZ tw31) (mvT hZ tw32) (mvT hZ tw33) (by decide) (backOfKL (W := 0) (badr l Z a0 hw [] us ss b104 T105.heap n0 (Nat.le_trans Z0 (Nat.le_trans (Nat.le_trans E102.1 E104.1) q105_0.1)) (HL : l.stackTraces = true) (ThS.keep q105_0 (nsS A104.nostat ns0) (ThS.ext E104 (ThS.ext E102 TH))) (own_stakeep (Sta.ext E104 (Sta.ext E102 SU)) q105_0 (nsS A104.nostat ns0)) (own_stakeep (Sta.ext E104 (Sta.ext E102 SP)) q105_0 (nsS A104.nostat ns0))) hZ tw33 tw32 (by decide) (by decide) hTK hBl) (g := (mkF m 81 #[.val (.int p0), .val (.int p1), .val (.int p2), .val (.int p3), .val (.int (0 : Int32)), .val (.ref b102), .val (.ref b104), .unset] [(.ref b104)])) rfl (by rw [hml]; rfl) (argsL := [(.ref b104)]) (rest := []) (lenOf pd_Ljava_lang_String__Lcom_example_dogged_dispatch_doggeddispatch_api_ApiException rfl) rfl (Nat.le_of_eq rfl) (hb hby at_81) (fun _ _ => ⟨rfl, rfl, (by decide : 6 + 2 ≤ _), (by decide : 12 + 2759 ≤ _)⟩)
      dsimp only [Pt.U, Pt.locs, Pt.cells, Pt.slots] at X108 l108 y108 z108 st108 hQ108
      subst y108 z108
      obtain ⟨b_108, rfl, Nq108, q108_0, q108_1, q108_2, q108_3⟩ := hQ108
      have N108 : Fr n0 L108 := by rw [l108]; exact Fr.app N105 Nq108
      refine Goes.step (S' := T108.setTop (mkF m 93 #[.val (.int p0), .val (.int p1), .val (.int p2), .val (.int p3), .val (.int (0 : Int32)), .val (.ref b102), .val (.ref b104), .val (.ref b_108)] [(.ref b_108)])) (fun t k => st108 _ (XS.astore X108.here hx rfl (hb hby at_84) rfl rfl (l' := #[.val (.int p0), .val (.int p1), .val (.int p2), .val (.int p3), .val (.int (0 : Int32)), .val (.ref b102), .val (.ref b104), .val (.ref b_108)]) rfl (XS.aload X108.here hx rfl (hb hby at_86) rfl rfl (XS.ifnullNo X108.here hx rfl (hb hby at_88) rfl (XS.aload X108.here hx rfl (hb hby at_91) rfl rfl k))))) ?_
      obtain ⟨cq109, kq109, q109a, q109b, q109c⟩ := isOf hZ rfl q108_2
      obtain ⟨_, _, ⟨T109, L109, k109, n109⟩, -, X109, ⟨Lc109, hQ109, l109, y109, z109⟩, st109⟩ := X108.virtualBack hx (y := mth10) (z := mth10) hown (mvT hZ tw89) (mvT hZ tw90) (notFace_of_selects (args := #[]) (mvT hZ tw92)) (mvT hZ tw92) (mvT hZ tw91) (by decide) (backOf (W := 0) (stat l Z a0 hw [] b_108 T108.heap n0 (Nat.le_trans Z0 (Nat.le_trans (Nat.le_trans (Nat.le_trans E102.1 E104.1) q105_0.1) q108_0.1)) q108_3) hZ tw93 tw32 (by decide) (by decide)) q109a q109c (g := (mkF m 93 #[.val (.int p0), .val (.int p1), .val (.int p2), .val (.int p3), .val (.int (0 : Int32)), .val (.ref b102), .val (.ref b104), .val (.ref b_108)] [(.ref b_108)])) rfl (by rw [hml]; rfl) (Steps.refl _) (argsL := []) (rest := []) (lenOf pd_I rfl) rfl (Nat.le_of_eq rfl) (hb hby at_93) (fun _ _ => ⟨rfl, rfl, (by decide : 8 + 0 ≤ _), (by decide : 2771 + 0 ≤ _)⟩)
      dsimp only [Pt.U, Pt.locs, Pt.cells, Pt.slots] at X109 l109 y109 z109 st109 hQ109
      subst y109 z109
      obtain ⟨rfl, Nq109, q109_0⟩ := hQ109
      have N109 : Fr n0 L109 := by rw [l109]; exact Fr.app N108 Nq109
      refine Goes.step (S' := T109.setTop (mkF m 107 #[.val (.int p0), .val (.int p1), .val (.int p2), .val (.int p3), .val (.int (0 : Int32)), .val (.ref b102), .val (.ref b104), .val (.ref b_108)] [(.int (1 : Int32))])) (fun t k => st109.trans (XS.sipush X109.here hx rfl (hb hby at_96) (XS.icmpNo X109.here hx rfl (hb hby at_99) rfl (teq ((by decide) : (400 : Int32) = (400 : Int32))).2 (XS.iconst X109.here hx rfl (hb hby at_102) (XS.goto X109.here hx rfl (pc0 := 103) (pc' := 107) rfl (hb hby at_103) (by decide) (by decide) k))))) ?_
      have CR110 := CR105.trans (CHr.keep q108_0 sf0 CR105.1)
      have Q110_b104 := Safe.keep q108_0 sf0 CR105.1 Q105_b104
      refine Goes.leaveH (g := (mkF m 107 #[.val (.int p0), .val (.int p1), .val (.int p2), .val (.int p3), .val (.int (0 : Int32)), .val (.ref b102), .val (.ref b104), .val (.ref b_108)] [(.int (1 : Int32))])) (own_ew hw) hZ hh CR110 X109 hS105 (Nat.le_trans (Nat.le_refl _) q108_0.1) Bd.notSynchronized (v := (some (.int (1 : Int32)))) (fun h => by rw [Bd.returns] at h; cases h) (fun fs hr => retN X109 hx (t := .boolean) Bd.returns (by simp) (hb hby at_107) hr) q109_0 ?_ (by decide) (by decide)
      exact ⟨rfl, N109⟩
    case neg =>
      refine Goes.step (S' := T102.setTop (mkF m 81 #[.val (.int p0), .val (.int p1), .val (.int p2), .val (.int p3), .val (.int (0 : Int32)), .val (.ref b102), .val .null, .unset] [.null])) (fun t k => XS.ifNo X102.here hx rfl (hb hby at_61) rfl ((if0 _ _).trans (feq hc103).1) (XS.aconstNull X102.here hx rfl (hb hby at_64) (XS.goto X102.here hx rfl (pc0 := 65) (pc' := 77) rfl (hb hby at_65) (by decide) (by decide) (XS.astore X102.here hx rfl (hb hby at_77) rfl rfl (l' := #[.val (.int p0), .val (.int p1), .val (.int p2), .val (.int p3), .val (.int (0 : Int32)), .val (.ref b102), .val .null, .unset]) rfl (XS.aload X102.here hx rfl (hb hby at_79) rfl rfl k))))) ?_
      obtain ⟨_, _, ⟨T111, L111, k111, n111⟩, -, X111, ⟨Lc111, hQ111, l111, y111, z111⟩, st111⟩ := Jvm.LawKit.callS X102 hx (y := mth9) hown (mvT hZ tw30) (mvT hZ tw31) (mvT hZ tw32) (mvT hZ tw33) (by decide) (backOfKL (W := 0) (badn l Z a0 hw [] us ss h102 n0 (Nat.le_trans Z0 E102.1) (HL : l.stackTraces = true) (ThS.ext E102 TH) (Sta.ext E102 SU) (Sta.ext E102 SP)) hZ tw33 tw32 (by decide) (by decide) hTK hBl) (g := (mkF m 81 #[.val (.int p0), .val (.int p1), .val (.int p2), .val (.int p3), .val (.int (0 : Int32)), .val (.ref b102), .val .null, .unset] [.null])) rfl (by rw [hml]; rfl) (argsL := [.null]) (rest := []) (lenOf pd_Ljava_lang_String__Lcom_example_dogged_dispatch_doggeddispatch_api_ApiException rfl) rfl (Nat.le_of_eq rfl) (hb hby at_81) (fun _ _ => ⟨rfl, e102, (by decide : 1 + 2 ≤ _), (by decide : 0 + 2759 ≤ _)⟩)
      dsimp only [Pt.U, Pt.locs, Pt.cells, Pt.slots] at X111 l111 y111 z111 st111 hQ111
      subst y111 z111
      obtain ⟨b_111, rfl, Nq111, q111_0, q111_1, q111_2, q111_3⟩ := hQ111
      have N111 : Fr n0 L111 := by rw [l111]; exact Fr.app N0 Nq111
      refine Goes.step (S' := T111.setTop (mkF m 93 #[.val (.int p0), .val (.int p1), .val (.int p2), .val (.int p3), .val (.int (0 : Int32)), .val (.ref b102), .val .null, .val (.ref b_111)] [(.ref b_111)])) (fun t k => st111 _ (XS.astore X111.here hx rfl (hb hby at_84) rfl rfl (l' := #[.val (.int p0), .val (.int p1), .val (.int p2), .val (.int p3), .val (.int (0 : Int32)), .val (.ref b102), .val .null, .val (.ref b_111)]) rfl (XS.aload X111.here hx rfl (hb hby at_86) rfl rfl (XS.ifnullNo X111.here hx rfl (hb hby at_88) rfl (XS.aload X111.here hx rfl (hb hby at_91) rfl rfl k))))) ?_
      obtain ⟨cq112, kq112, q112a, q112b, q112c⟩ := isOf hZ rfl q111_2
      obtain ⟨_, _, ⟨T112, L112, k112, n112⟩, -, X112, ⟨Lc112, hQ112, l112, y112, z112⟩, st112⟩ := X111.virtualBack hx (y := mth10) (z := mth10) hown (mvT hZ tw89) (mvT hZ tw90) (notFace_of_selects (args := #[]) (mvT hZ tw92)) (mvT hZ tw92) (mvT hZ tw91) (by decide) (backOf (W := 0) (stat l Z a0 hw [] b_111 T111.heap n0 (Nat.le_trans Z0 (Nat.le_trans E102.1 q111_0.1)) q111_3) hZ tw93 tw32 (by decide) (by decide)) q112a q112c (g := (mkF m 93 #[.val (.int p0), .val (.int p1), .val (.int p2), .val (.int p3), .val (.int (0 : Int32)), .val (.ref b102), .val .null, .val (.ref b_111)] [(.ref b_111)])) rfl (by rw [hml]; rfl) (Steps.refl _) (argsL := []) (rest := []) (lenOf pd_I rfl) rfl (Nat.le_of_eq rfl) (hb hby at_93) (fun _ _ => ⟨rfl, rfl, (by decide : 3 + 0 ≤ _), (by decide : 2759 + 0 ≤ _)⟩)
      dsimp only [Pt.U, Pt.locs, Pt.cells, Pt.slots] at X112 l112 y112 z112 st112 hQ112
      subst y112 z112
      obtain ⟨rfl, Nq112, q112_0⟩ := hQ112
      have N112 : Fr n0 L112 := by rw [l112]; exact Fr.app N111 Nq112
      refine Goes.step (S' := T112.setTop (mkF m 107 #[.val (.int p0), .val (.int p1), .val (.int p2), .val (.int p3), .val (.int (0 : Int32)), .val (.ref b102), .val .null, .val (.ref b_111)] [(.int (1 : Int32))])) (fun t k => st112.trans (XS.sipush X112.here hx rfl (hb hby at_96) (XS.icmpNo X112.here hx rfl (hb hby at_99) rfl (teq ((by decide) : (400 : Int32) = (400 : Int32))).2 (XS.iconst X112.here hx rfl (hb hby at_102) (XS.goto X112.here hx rfl (pc0 := 103) (pc' := 107) rfl (hb hby at_103) (by decide) (by decide) k))))) ?_
      have CR113 := CR0.trans (CHr.ext E102 CR0.1)
      have CR114 := CR113.trans (CHr.keep q111_0 sf0 CR113.1)
      refine Goes.leaveH (g := (mkF m 107 #[.val (.int p0), .val (.int p1), .val (.int p2), .val (.int p3), .val (.int (0 : Int32)), .val (.ref b102), .val .null, .val (.ref b_111)] [(.int (1 : Int32))])) (own_ew hw) hZ hh CR114 X112 hS0 (Nat.le_trans (Nat.le_refl _) (Nat.le_trans E102.1 q111_0.1)) Bd.notSynchronized (v := (some (.int (1 : Int32)))) (fun h => by rw [Bd.returns] at h; cases h) (fun fs hr => retN X112 hx (t := .boolean) Bd.returns (by simp) (hb hby at_107) hr) q112_0 ?_ (by decide) (by decide)
      exact ⟨rfl, N112⟩
  case neg =>
    by_cases hc115 : (p3 &&& (3 : Int32)) = (1 : Int32)
    case pos =>
      rw [hc115]
      refine Goes.step (S' := s₁.setTop (mkF m 7 #[.val (.int p0), .val (.int p1), .val (.int p2), .val (.int p3), .val (.int (1 : Int32)), .unset, .unset, .unset] [(.int (1 : Int32))])) (fun t k => XS.iload X0.here hx rfl (hb hby at_5) rfl k) ?_
      obtain ⟨T116, h116, k116, X116, e116, E116, A116, AE116, st116⟩ := newPE (aty := .char) X0 hx hZ tw0 eh0 (g := (mkF m 7 #[.val (.int p0), .val (.int p1), .val (.int p2), .val (.int p3), .val (.int (1 : Int32)), .unset, .unset, .unset] [(.int (1 : Int32))])) rfl (hb hby at_7) rfl (by decide) (cap := 1) (by decide) (by decide) (by decide) (by decide) (ad := "[C") rfl
      obtain ⟨b116, g116⟩ : ∃ z, z = h0.size := ⟨_, rfl⟩
      rw [← g116] at A116 AE116 st116
      have V116 : Arv Z h116 b116 k116 .char (1 : Int32) [(.int (0 : Int32))] (.int (0 : Int32)) := (Arv.new A116 (by decide)).pad (pad_rep [] (.int (0 : Int32)) 1)
      refine Goes.step (S' := T116.setTop (mkF m 23 #[.val (.int p0), .val (.int p1), .val (.int p2), .val (.int p3), .val (.int (1 : Int32)), .val (.ref b116), .unset, .unset] [(.int (255 : Int32)), (.int p0), (.int (0 : Int32)), (.ref b116)])) (fun t k => st116 _ (XS.astore X116.here hx rfl (hb hby at_9) rfl rfl (l' := #[.val (.int p0), .val (.int p1), .val (.int p2), .val (.int p3), .val (.int (1 : Int32)), .val (.ref b116), .unset, .unset]) rfl (XS.iload X116.here hx rfl (hb hby at_11) rfl (XS.ifNo X116.here hx rfl (hb hby at_13) rfl ((if0 _ _).trans (tlt ((by decide) : (0 : Int32) < (1 : Int32))).2.2.2) (XS.aload X116.here hx rfl (hb hby at_16) rfl rfl (XS.iconst X116.here hx rfl (hb hby at_18) (XS.iloadN X116.here hx rfl (hb hby at_19) rfl (XS.sipush X116.here hx rfl (hb hby at_20) k)))))))) ?_
      refine Goes.step (S' := T116.setTop (mkF m 25 #[.val (.int p0), .val (.int p1), .val (.int p2), .val (.int p3), .val (.int (1 : Int32)), .val (.ref b116), .unset, .unset] [(.int ((p0 &&& (255 : Int32)).toUInt32.toUInt16.toUInt32.toInt32)), (.int (0 : Int32)), (.ref b116)])) (fun t k => XS.iand X116.here hx rfl (hb hby at_23) rfl (XS.i2c X116.here hx rfl (hb hby at_24) rfl k)) ?_
      obtain ⟨cl117, Ar117, qk117, Sz117, Nn117, Hs117, Gs117⟩ := id V116
      obtain ⟨T117, h117, X117, e117, W117, st117⟩ := stC X116 hx hZ e116 Ar117 (j := (0 : Int32)) (inb_of (j := (0 : Int32)) Sz117 ⟨by decide, by decide⟩) (g := (mkF m 25 #[.val (.int p0), .val (.int p1), .val (.int p2), .val (.int p3), .val (.int (1 : Int32)), .val (.ref b116), .unset, .unset] [(.int ((p0 &&& (255 : Int32)).toUInt32.toUInt16.toUInt32.toInt32)), (.int (0 : Int32)), (.ref b116)])) rfl rfl (hb hby at_25)
      have V117 : Arv Z h117 b116 k116 .char (1 : Int32) [(.int (nar .char ((p0 &&& (255 : Int32)).toUInt32.toUInt16.toUInt32.toInt32)))] (.int (0 : Int32)) := Arv.set Ar117 qk117 Sz117 Nn117 Hs117 Gs117 (fits_nar_char _) W117 0 rfl (Nat.le_of_ble_eq_true rfl)
      have N117 := Fr.snoc X117 N0 (Nat.le_trans Z0 (Nat.le_of_eq g116.symm))
      refine Goes.step (S' := T117.setTop (mkF m 59 #[.val (.int p0), .val (.int p1), .val (.int p2), .val (.int p3), .val (.int (1 : Int32)), .val (.ref b116), .unset, .unset] [(.int p3)])) (fun t k => st117 _ (XS.iload X117.here hx rfl (hb hby at_26) rfl (XS.iconst X117.here hx rfl (hb hby at_28) (XS.icmpYes X117.here hx rfl (pc0 := 29) (pc' := 42) rfl (hb hby at_29) rfl (flt ((by decide) : ¬ ((1 : Int32) < (1 : Int32)))).2.2.2 (by decide) (by decide) (XS.iload X117.here hx rfl (hb hby at_42) rfl (XS.iconst X117.here hx rfl (hb hby at_44) (XS.icmpYes X117.here hx rfl (pc0 := 45) (pc' := 58) rfl (hb hby at_45) rfl (flt ((by decide) : ¬ ((2 : Int32) < (1 : Int32)))).2.2.2 (by decide) (by decide) (XS.iloadN X117.here hx rfl (hb hby at_58) rfl k)))))))) ?_
      refine Goes.step (S' := T117.setTop (mkF m 61 #[.val (.int p0), .val (.int p1), .val (.int p2), .val (.int p3), .val (.int (1 : Int32)), .val (.ref b116), .unset, .unset] [(.int (p3 &&& (4 : Int32)))])) (fun t k => XS.iconst X117.here hx rfl (hb hby at_59) (XS.iand X117.here hx rfl (hb hby at_60) rfl k)) ?_
      by_cases hc118 : (p3 &&& (4 : Int32)) = (0 : Int32)
      case pos =>
        refine Goes.step (S' := T117.setTop (mkF m 68 #[.val (.int p0), .val (.int p1), .val (.int p2), .val (.int p3), .val (.int (1 : Int32)), .val (.ref b116), .unset, .unset] [])) (fun t k => XS.ifYes X117.here hx rfl (pc0 := 61) (pc' := 68) rfl (hb hby at_61) rfl ((if0 _ _).trans (teq hc118).1) (by decide) (by decide) k) ?_
        obtain ⟨T119, h119, X119, e119, E119, A119, D119, U119, st119⟩ := newO X117 hx hZ hown tw1 tw2 tw3 e117 (g := (mkF m 68 #[.val (.int p0), .val (.int p1), .val (.int p2), .val (.int p3), .val (.int (1 : Int32)), .val (.ref b116), .unset, .unset] [])) rfl (hb hby at_68) (by decide) (by decide)
        obtain ⟨b119, g119⟩ : ∃ z, z = h117.size := ⟨_, rfl⟩
        rw [← g119] at A119 D119 U119 st119
        have F119_coder : Fld Z h119 b119 "java/lang/String" "coder" "B" (.int (0 : Int32)) := D119 (Or.inr tw27) (ty := .byte) (by decide)
        have F119_value : Fld Z h119 b119 "java/lang/String" "value" "[B" .null := D119 (Or.inr tw29) (ty := (.array .byte)) (by decide)
        refine Goes.step (S' := T119.setTop (mkF m 74 #[.val (.int p0), .val (.int p1), .val (.int p2), .val (.int p3), .val (.int (1 : Int32)), .val (.ref b116), .unset, .unset] [(.ref b116), (.ref b119), (.ref b119)])) (fun t k => st119 _ (XS.dup X119.here hx rfl (hb hby at_71) rfl rfl (XS.aload X119.here hx rfl (hb hby at_72) rfl rfl k))) ?_
        obtain ⟨_, _, ⟨T120, L120, k120, n120⟩, -, X120, ⟨Lc120, hQ120, l120, y120, z120⟩, st120⟩ := X119.specialBack hx (y := mth4) rfl hown (mvT hZ tw4) (mvT hZ tw5) (mvT hZ tw6) (by decide) (backOf (W := 1) (sic1 l Z a0 hw [] b119 b116 k116 cs (nar .char ((p0 &&& (255 : Int32)).toUInt32.toUInt16.toUInt32.toInt32)) h119 n0 (Nat.le_trans Z0 (Nat.le_trans (Nat.le_trans E116.1 (Nat.le_of_eq W117.size.symm)) E119.1)) A119 F119_value F119_coder (Nat.le_trans Z0 (Nat.le_trans (Nat.le_trans E116.1 (Nat.le_of_eq W117.size.symm)) (Nat.le_of_eq g119.symm))) (Sta.ext E119 (Sta.wr W117 (Sta.ext E116 SC))) (PC : ¬ (cs = (0 : Int32))) (V117.ext E119) (own_nc _)) hZ tw6 tw3 (by decide) (by decide)) (g := (mkF m 74 #[.val (.int p0), .val (.int p1), .val (.int p2), .val (.int p3), .val (.int (1 : Int32)), .val (.ref b116), .unset, .unset] [(.ref b116), (.ref b119), (.ref b119)])) rfl (by rw [hml]; rfl) (Steps.refl _) (a := b119) (argsL := [(.ref b116)]) (rest := [(.ref b119)]) (lenOf pd_C_V rfl) rfl (Nat.le_of_eq rfl) (hb hby at_74) (fun _ _ => ⟨rfl, e119, (by decide : 2 + 1 ≤ _), (by decide : 5 + 1 ≤ _)⟩)
        dsimp only [Pt.U, Pt.locs, Pt.cells, Pt.slots] at X120 l120 y120 z120 st120 hQ120
        subst y120 z120
        obtain ⟨rfl, Nq120, q120_0⟩ := hQ120
        have N120 : Fr n0 L120 := by rw [l120]; exact Fr.app N117 Nq120
        refine Goes.step (S' := T120.setTop (mkF m 81 #[.val (.int p0), .val (.int p1), .val (.int p2), .val (.int p3), .val (.int (1 : Int32)), .val (.ref b116), .val (.ref b119), .unset] [(.ref b119)])) (fun t k => st120.trans (XS.astore X120.here hx rfl (hb hby at_77) rfl rfl (l' := #[.val (.int p0), .val (.int p1), .val (.int p2), .val (.int p3), .val (.int (1 : Int32)), .val (.ref b116), .val (.ref b119), .unset]) rfl (XS.aload X120.here hx rfl (hb hby at_79) rfl rfl k))) ?_
        obtain ⟨_, _, ⟨T121, L121, k121, n121⟩, -, X121, ⟨Lc121, hQ121, l121, y121, z121⟩, st121⟩ := Jvm.LawKit.callS X120 hx (y := mth9) hown (mvT hZ tw30) (mvT hZ tw31) (mvT hZ tw32) (mvT hZ tw33) (by decide) (backOfKL (W := 0) (badr l Z a0 hw [] us ss b119 T120.heap n0 (Nat.le_trans Z0 (Nat.le_trans (Nat.le_trans (Nat.le_trans E116.1 (Nat.le_of_eq W117.size.symm)) E119.1) q120_0.1)) (HL : l.stackTraces = true) (ThS.keep q120_0 (nsS A119.nostat ns0) (ThS.ext E119 (ThS.wr W117 (ThS.ext E116 TH)))) (own_stakeep (Sta.ext E119 (Sta.wr W117 (Sta.ext E116 SU))) q120_0 (nsS A119.nostat ns0)) (own_stakeep (Sta.ext E119 (Sta.wr W117 (Sta.ext E116 SP))) q120_0 (nsS A119.nostat ns0))) hZ tw33 tw32 (by decide) (by decide) hTK hBl) (g := (mkF m 81 #[.val (.int p0), .val (.int p1), .val (.int p2), .val (.int p3), .val (.int (1 : Int32)), .val (.ref b116), .val (.ref b119), .unset] [(.ref b119)])) rfl (by rw [hml]; rfl) (argsL := [(.ref b119)]) (rest := []) (lenOf pd_Ljava_lang_String__Lcom_example_dogged_dispatch_doggeddispatch_api_ApiException rfl) rfl (Nat.le_of_eq rfl) (hb hby at_81) (fun _ _ => ⟨rfl, rfl, (by decide : 3 + 2 ≤ _), (by decide : 6 + 2759 ≤ _)⟩)
        dsimp only [Pt.U, Pt.locs, Pt.cells, Pt.slots] at X121 l121 y121 z121 st121 hQ121
        subst y121 z121
        obtain ⟨b_121, rfl, Nq121, q121_0, q121_1, q121_2, q121_3⟩ := hQ121
        have N121 : Fr n0 L121 := by rw [l121]; exact Fr.app N120 Nq121
        refine Goes.step (S' := T121.setTop (mkF m 93 #[.val (.int p0), .val (.int p1), .val (.int p2), .val (.int p3), .val (.int (1 : Int32)), .val (.ref b116), .val (.ref b119), .val (.ref b_121)] [(.ref b_121)])) (fun t k => st121 _ (XS.astore X121.here hx rfl (hb hby at_84) rfl rfl (l' := #[.val (.int p0), .val (.int p1), .val (.int p2), .val (.int p3), .val (.int (1 : Int32)), .val (.ref b116), .val (.ref b119), .val (.ref b_121)]) rfl (XS.aload X121.here hx rfl (hb hby at_86) rfl rfl (XS.ifnullNo X121.here hx rfl (hb hby at_88) rfl (XS.aload X121.here hx rfl (hb hby at_91) rfl rfl k))))) ?_
        obtain ⟨cq122, kq122, q122a, q122b, q122c⟩ := isOf hZ rfl q121_2
        obtain ⟨_, _, ⟨T122, L122, k122, n122⟩, -, X122, ⟨Lc122, hQ122, l122, y122, z122⟩, st122⟩ := X121.virtualBack hx (y := mth10) (z := mth10) hown (mvT hZ tw89) (mvT hZ tw90) (notFace_of_selects (args := #[]) (mvT hZ tw92)) (mvT hZ tw92) (mvT hZ tw91) (by decide) (backOf (W := 0) (stat l Z a0 hw [] b_121 T121.heap n0 (Nat.le_trans Z0 (Nat.le_trans (Nat.le_trans (Nat.le_trans (Nat.le_trans E116.1 (Nat.le_of_eq W117.size.symm)) E119.1) q120_0.1) q121_0.1)) q121_3) hZ tw93 tw32 (by decide) (by decide)) q122a q122c (g := (mkF m 93 #[.val (.int p0), .val (.int p1), .val (.int p2), .val (.int p3), .val (.int (1 : Int32)), .val (.ref b116), .val (.ref b119), .val (.ref b_121)] [(.ref b_121)])) rfl (by rw [hml]; rfl) (Steps.refl _) (argsL := []) (rest := []) (lenOf pd_I rfl) rfl (Nat.le_of_eq rfl) (hb hby at_93) (fun _ _ => ⟨rfl, rfl, (by decide : 5 + 0 ≤ _), (by decide : 2765 + 0 ≤ _)⟩)
        dsimp only [Pt.U, Pt.locs, Pt.cells, Pt.slots] at X122 l122 y122 z122 st122 hQ122
        subst y122 z122
        obtain ⟨rfl, Nq122, q122_0⟩ := hQ122
        have N122 : Fr n0 L122 := by rw [l122]; exact Fr.app N121 Nq122
        refine Goes.step (S' := T122.setTop (mkF m 107 #[.val (.int p0), .val (.int p1), .val (.int p2), .val (.int p3), .val (.int (1 : Int32)), .val (.ref b116), .val (.ref b119), .val (.ref b_121)] [(.int (1 : Int32))])) (fun t k => st122.trans (XS.sipush X122.here hx rfl (hb hby at_96) (XS.icmpNo X122.here hx rfl (hb hby at_99) rfl (teq ((by decide) : (400 : Int32) = (400 : Int32))).2 (XS.iconst X122.here hx rfl (hb hby at_102) (XS.goto X122.here hx rfl (pc0 := 103) (pc' := 107) rfl (hb hby at_103) (by decide) (by decide) k))))) ?_
        have CR123 := CR0.trans (CHr.ext E116 CR0.1)
        have CR124 := CR123.trans (CHr.wr W117 (Safe.exa hZ.alike AE116 (by decide) (by decide)) CR123.1)
        have CR125 := CR124.trans (CHr.ext E119 CR124.1)
        have Q125_b119 := Safe.ext E119 CR124.1 (Safe.new (Nat.le_of_eq g119.symm))
        have CR126 := CR125.trans (CHr.keep q120_0 (sfS Q125_b119 sf0) CR125.1)
        have Q126_b119 := Safe.keep q120_0 (sfS Q125_b119 sf0) CR125.1 Q125_b119
        have CR127 := CR126.trans (CHr.keep q121_0 sf0 CR126.1)
        have Q127_b119 := Safe.keep q121_0 sf0 CR126.1 Q126_b119
        refine Goes.leaveH (g := (mkF m 107 #[.val (.int p0), .val (.int p1), .val (.int p2), .val (.int p3), .val (.int (1 : Int32)), .val (.ref b116), .val (.ref b119), .val (.ref b_121)] [(.int (1 : Int32))])) (own_ew hw) hZ hh CR127 X122 hS0 (Nat.le_trans (Nat.le_refl _) (Nat.le_trans (Nat.le_trans (Nat.le_trans (Nat.le_trans E116.1 (Nat.le_of_eq W117.size.symm)) E119.1) q120_0.1) q121_0.1)) Bd.notSynchronized (v := (some (.int (1 : Int32)))) (fun h => by rw [Bd.returns] at h; cases h) (fun fs hr => retN X122 hx (t := .boolean) Bd.returns (by simp) (hb hby at_107) hr) q122_0 ?_ (by decide) (by decide)
        exact ⟨rfl, N122⟩
      case neg =>
        refine Goes.step (S' := T117.setTop (mkF m 81 #[.val (.int p0), .val (.int p1), .val (.int p2), .val (.int p3), .val (.int (1 : Int32)), .val (.ref b116), .val .null, .unset] [.null])) (fun t k => XS.ifNo X117.here hx rfl (hb hby at_61) rfl ((if0 _ _).trans (feq hc118).1) (XS.aconstNull X117.here hx rfl (hb hby at_64) (XS.goto X117.here hx rfl (pc0 := 65) (pc' := 77) rfl (hb hby at_65) (by decide) (by decide) (XS.astore X117.here hx rfl (hb hby at_77) rfl rfl (l' := #[.val (.int p0), .val (.int p1), .val (.int p2), .val (.int p3), .val (.int (1 : Int32)), .val (.ref b116), .val .null, .unset]) rfl (XS.aload X117.here hx rfl (hb hby at_79) rfl rfl k))))) ?_
        obtain ⟨_, _, ⟨T128, L128, k128, n128⟩, -, X128, ⟨Lc128, hQ128, l128, y128, z128⟩, st128⟩ := Jvm.LawKit.callS X117 hx (y := mth9) hown (mvT hZ tw30) (mvT hZ tw31) (mvT hZ tw32) (mvT hZ tw33) (by decide) (backOfKL (W := 0) (badn l Z a0 hw [] us ss h117 n0 (Nat.le_trans Z0 (Nat.le_trans E116.1 (Nat.le_of_eq W117.size.symm))) (HL : l.stackTraces = true) (ThS.wr W117 (ThS.ext E116 TH)) (Sta.wr W117 (Sta.ext E116 SU)) (Sta.wr W117 (Sta.ext E116 SP))) hZ tw33 tw32 (by decide) (by decide) hTK hBl) (g := (mkF m 81 #[.val (.int p0), .val (.int p1), .val (.int p2), .val (.int p3), .val (.int (1 : Int32)), .val (.ref b116), .val .null, .unset] [.null])) rfl (by rw [hml]; rfl) (argsL := [.null]) (rest := []) (lenOf pd_Ljava_lang_String__Lcom_example_dogged_dispatch_doggeddispatch_api_ApiException rfl) rfl (Nat.le_of_eq rfl) (hb hby at_81) (fun _ _ => ⟨rfl, e117, (by decide : 1 + 2 ≤ _), (by decide : 1 + 2759 ≤ _)⟩)
        dsimp only [Pt.U, Pt.locs, Pt.cells, Pt.slots] at X128 l128 y128 z128 st128 hQ128
        subst y128 z128
        obtain ⟨b_128, rfl, Nq128, q128_0, q128_1, q128_2, q128_3⟩ := hQ128
        have N128 : Fr n0 L128 := by rw [l128]; exact Fr.app N117 Nq128
        refine Goes.step (S' := T128.setTop (mkF m 93 #[.val (.int p0), .val (.int p1), .val (.int p2), .val (.int p3), .val (.int (1 : Int32)), .val (.ref b116), .val .null, .val (.ref b_128)] [(.ref b_128)])) (fun t k => st128 _ (XS.astore X128.here hx rfl (hb hby at_84) rfl rfl (l' := #[.val (.int p0), .val (.int p1), .val (.int p2), .val (.int p3), .val (.int (1 : Int32)), .val (.ref b116), .val .null, .val (.ref b_128)]) rfl (XS.aload X128.here hx rfl (hb hby at_86) rfl rfl (XS.ifnullNo X128.here hx rfl (hb hby at_88) rfl (XS.aload X128.here hx rfl (hb hby at_91) rfl rfl k))))) ?_
        obtain ⟨cq129, kq129, q129a, q129b, q129c⟩ := isOf hZ rfl q128_2
        obtain ⟨_, _, ⟨T129, L129, k129, n129⟩, -, X129, ⟨Lc129, hQ129, l129, y129, z129⟩, st129⟩ := X128.virtualBack hx (y := mth10) (z := mth10) hown (mvT hZ tw89) (mvT hZ tw90) (notFace_of_selects (args := #[]) (mvT hZ tw92)) (mvT hZ tw92) (mvT hZ tw91) (by decide) (backOf (W := 0) (stat l Z a0 hw [] b_128 T128.heap n0 (Nat.le_trans Z0 (Nat.le_trans (Nat.le_trans E116.1 (Nat.le_of_eq W117.size.symm)) q128_0.1)) q128_3) hZ tw93 tw32 (by decide) (by decide)) q129a q129c (g := (mkF m 93 #[.val (.int p0), .val (.int p1), .val (.int p2), .val (.int p3), .val (.int (1 : Int32)), .val (.ref b116), .val .null, .val (.ref b_128)] [(.ref b_128)])) rfl (by rw [hml]; rfl) (Steps.refl _) (argsL := []) (rest := []) (lenOf pd_I rfl) rfl (Nat.le_of_eq rfl) (hb hby at_93) (fun _ _ => ⟨rfl, rfl, (by decide : 3 + 0 ≤ _), (by decide : 2760 + 0 ≤ _)⟩)
        dsimp only [Pt.U, Pt.locs, Pt.cells, Pt.slots] at X129 l129 y129 z129 st129 hQ129
        subst y129 z129
        obtain ⟨rfl, Nq129, q129_0⟩ := hQ129
        have N129 : Fr n0 L129 := by rw [l129]; exact Fr.app N128 Nq129
        refine Goes.step (S' := T129.setTop (mkF m 107 #[.val (.int p0), .val (.int p1), .val (.int p2), .val (.int p3), .val (.int (1 : Int32)), .val (.ref b116), .val .null, .val (.ref b_128)] [(.int (1 : Int32))])) (fun t k => st129.trans (XS.sipush X129.here hx rfl (hb hby at_96) (XS.icmpNo X129.here hx rfl (hb hby at_99) rfl (teq ((by decide) : (400 : Int32) = (400 : Int32))).2 (XS.iconst X129.here hx rfl (hb hby at_102) (XS.goto X129.here hx rfl (pc0 := 103) (pc' := 107) rfl (hb hby at_103) (by decide) (by decide) k))))) ?_
        have CR130 := CR0.trans (CHr.ext E116 CR0.1)
        have CR131 := CR130.trans (CHr.wr W117 (Safe.exa hZ.alike AE116 (by decide) (by decide)) CR130.1)
        have CR132 := CR131.trans (CHr.keep q128_0 sf0 CR131.1)
        refine Goes.leaveH (g := (mkF m 107 #[.val (.int p0), .val (.int p1), .val (.int p2), .val (.int p3), .val (.int (1 : Int32)), .val (.ref b116), .val .null, .val (.ref b_128)] [(.int (1 : Int32))])) (own_ew hw) hZ hh CR132 X129 hS0 (Nat.le_trans (Nat.le_refl _) (Nat.le_trans (Nat.le_trans E116.1 (Nat.le_of_eq W117.size.symm)) q128_0.1)) Bd.notSynchronized (v := (some (.int (1 : Int32)))) (fun h => by rw [Bd.returns] at h; cases h) (fun fs hr => retN X129 hx (t := .boolean) Bd.returns (by simp) (hb hby at_107) hr) q129_0 ?_ (by decide) (by decide)
        exact ⟨rfl, N129⟩
    case neg =>
      by_cases hc133 : (p3 &&& (3 : Int32)) = (2 : Int32)
      case pos =>
        rw [hc133]
        refine Goes.step (S' := s₁.setTop (mkF m 7 #[.val (.int p0), .val (.int p1), .val (.int p2), .val (.int p3), .val (.int (2 : Int32)), .unset, .unset, .unset] [(.int (2 : Int32))])) (fun t k => XS.iload X0.here hx rfl (hb hby at_5) rfl k) ?_
        obtain ⟨T134, h134, k134, X134, e134, E134, A134, AE134, st134⟩ := newPE (aty := .char) X0 hx hZ tw0 eh0 (g := (mkF m 7 #[.val (.int p0), .val (.int p1), .val (.int p2), .val (.int p3), .val (.int (2 : Int32)), .unset, .unset, .unset] [(.int (2 : Int32))])) rfl (hb hby at_7) rfl (by decide) (cap := 2) (by decide) (by decide) (by decide) (by decide) (ad := "[C") rfl
        obtain ⟨b134, g134⟩ : ∃ z, z = h0.size := ⟨_, rfl⟩
        rw [← g134] at A134 AE134 st134
        have V134 : Arv Z h134 b134 k134 .char (2 : Int32) [(.int (0 : Int32)), (.int (0 : Int32))] (.int (0 : Int32)) := (Arv.new A134 (by decide)).pad (pad_rep [] (.int (0 : Int32)) 2)
        refine Goes.step (S' := T134.setTop (mkF m 23 #[.val (.int p0), .val (.int p1), .val (.int p2), .val (.int p3), .val (.int (2 : Int32)), .val (.ref b134), .unset, .unset] [(.int (255 : Int32)), (.int p0), (.int (0 : Int32)), (.ref b134)])) (fun t k => st134 _ (XS.astore X134.here hx rfl (hb hby at_9) rfl rfl (l' := #[.val (.int p0), .val (.int p1), .val (.int p2), .val (.int p3), .val (.int (2 : Int32)), .val (.ref b134), .unset, .unset]) rfl (XS.iload X134.here hx rfl (hb hby at_11) rfl (XS.ifNo X134.here hx rfl (hb hby at_13) rfl ((if0 _ _).trans (tlt ((by decide) : (0 : Int32) < (2 : Int32))).2.2.2) (XS.aload X134.here hx rfl (hb hby at_16) rfl rfl (XS.iconst X134.here hx rfl (hb hby at_18) (XS.iloadN X134.here hx rfl (hb hby at_19) rfl (XS.sipush X134.here hx rfl (hb hby at_20) k)))))))) ?_
        refine Goes.step (S' := T134.setTop (mkF m 25 #[.val (.int p0), .val (.int p1), .val (.int p2), .val (.int p3), .val (.int (2 : Int32)), .val (.ref b134), .unset, .unset] [(.int ((p0 &&& (255 : Int32)).toUInt32.toUInt16.toUInt32.toInt32)), (.int (0 : Int32)), (.ref b134)])) (fun t k => XS.iand X134.here hx rfl (hb hby at_23) rfl (XS.i2c X134.here hx rfl (hb hby at_24) rfl k)) ?_
        obtain ⟨cl135, Ar135, qk135, Sz135, Nn135, Hs135, Gs135⟩ := id V134
        obtain ⟨T135, h135, X135, e135, W135, st135⟩ := stC X134 hx hZ e134 Ar135 (j := (0 : Int32)) (inb_of (j := (0 : Int32)) Sz135 ⟨by decide, by decide⟩) (g := (mkF m 25 #[.val (.int p0), .val (.int p1), .val (.int p2), .val (.int p3), .val (.int (2 : Int32)), .val (.ref b134), .unset, .unset] [(.int ((p0 &&& (255 : Int32)).toUInt32.toUInt16.toUInt32.toInt32)), (.int (0 : Int32)), (.ref b134)])) rfl rfl (hb hby at_25)
        have V135 : Arv Z h135 b134 k134 .char (2 : Int32) [(.int (nar .char ((p0 &&& (255 : Int32)).toUInt32.toUInt16.toUInt32.toInt32))), (.int (0 : Int32))] (.int (0 : Int32)) := Arv.set Ar135 qk135 Sz135 Nn135 Hs135 Gs135 (fits_nar_char _) W135 0 rfl (Nat.le_of_ble_eq_true rfl)
        have N135 := Fr.snoc X135 N0 (Nat.le_trans Z0 (Nat.le_of_eq g134.symm))
        refine Goes.step (S' := T135.setTop (mkF m 39 #[.val (.int p0), .val (.int p1), .val (.int p2), .val (.int p3), .val (.int (2 : Int32)), .val (.ref b134), .unset, .unset] [(.int (255 : Int32)), (.int p1), (.int (1 : Int32)), (.ref b134)])) (fun t k => st135 _ (XS.iload X135.here hx rfl (hb hby at_26) rfl (XS.iconst X135.here hx rfl (hb hby at_28) (XS.icmpNo X135.here hx rfl (hb hby at_29) rfl (tlt ((by decide) : (1 : Int32) < (2 : Int32))).2.2.2 (XS.aload X135.here hx rfl (hb hby at_32) rfl rfl (XS.iconst X135.here hx rfl (hb hby at_34) (XS.iloadN X135.here hx rfl (hb hby at_35) rfl (XS.sipush X135.here hx rfl (hb hby at_36) k)))))))) ?_
        refine Goes.step (S' := T135.setTop (mkF m 41 #[.val (.int p0), .val (.int p1), .val (.int p2), .val (.int p3), .val (.int (2 : Int32)), .val (.ref b134), .unset, .unset] [(.int ((p1 &&& (255 : Int32)).toUInt32.toUInt16.toUInt32.toInt32)), (.int (1 : Int32)), (.ref b134)])) (fun t k => XS.iand X135.here hx rfl (hb hby at_39) rfl (XS.i2c X135.here hx rfl (hb hby at_40) rfl k)) ?_
        obtain ⟨cl136, Ar136, qk136, Sz136, Nn136, Hs136, Gs136⟩ := id V135
        obtain ⟨T136, h136, X136, e136, W136, st136⟩ := stC X135 hx hZ e135 Ar136 (j := (1 : Int32)) (inb_of (j := (1 : Int32)) Sz136 ⟨by decide, by decide⟩) (g := (mkF m 41 #[.val (.int p0), .val (.int p1), .val (.int p2), .val (.int p3), .val (.int (2 : Int32)), .val (.ref b134), .unset, .unset] [(.int ((p1 &&& (255 : Int32)).toUInt32.toUInt16.toUInt32.toInt32)), (.int (1 : Int32)), (.ref b134)])) rfl rfl (hb hby at_41)
        have V136 : Arv Z h136 b134 k134 .char (2 : Int32) [(.int (nar .char ((p0 &&& (255 : Int32)).toUInt32.toUInt16.toUInt32.toInt32))), (.int (nar .char ((p1 &&& (255 : Int32)).toUInt32.toUInt16.toUInt32.toInt32)))] (.int (0 : Int32)) := Arv.set Ar136 qk136 Sz136 Nn136 Hs136 Gs136 (fits_nar_char _) W136 1 rfl (Nat.le_of_ble_eq_true rfl)
        have N136 := Fr.snoc X136 N135 (Nat.le_trans Z0 (Nat.le_of_eq g134.symm))
        refine Goes.step (S' := T136.setTop (mkF m 61 #[.val (.int p0), .val (.int p1), .val (.int p2), .val (.int p3), .val (.int (2 : Int32)), .val (.ref b134), .unset, .unset] [(.int (p3 &&& (4 : Int32)))])) (fun t k => st136 _ (XS.iload X136.here hx rfl (hb hby at_42) rfl (XS.iconst X136.here hx rfl (hb hby at_44) (XS.icmpYes X136.here hx rfl (pc0 := 45) (pc' := 58) rfl (hb hby at_45) rfl (flt ((by decide) : ¬ ((2 : Int32) < (2 : Int32)))).2.2.2 (by decide) (by decide) (XS.iloadN X136.here hx rfl (hb hby at_58) rfl (XS.iconst X136.here hx rfl (hb hby at_59) (XS.iand X136.here hx rfl (hb hby at_60) rfl k))))))) ?_
        by_cases hc137 : (p3 &&& (4 : Int32)) = (0 : Int32)
        case pos =>
          refine Goes.step (S' := T136.setTop (mkF m 68 #[.val (.int p0), .val (.int p1), .val (.int p2), .val (.int p3), .val (.int (2 : Int32)), .val (.ref b134), .unset, .unset] [])) (fun t k => XS.ifYes X136.here hx rfl (pc0 := 61) (pc' := 68) rfl (hb hby at_61) rfl ((if0 _ _).trans (teq hc137).1) (by decide) (by decide) k) ?_
          obtain ⟨T138, h138, X138, e138, E138, A138, D138, U138, st138⟩ := newO X136 hx hZ hown tw1 tw2 tw3 e136 (g := (mkF m 68 #[.val (.int p0), .val (.int p1), .val (.int p2), .val (.int p3), .val (.int (2 : Int32)), .val (.ref b134), .unset, .unset] [])) rfl (hb hby at_68) (by decide) (by decide)
          obtain ⟨b138, g138⟩ : ∃ z, z = h136.size := ⟨_, rfl⟩
          rw [← g138] at A138 D138 U138 st138
          have F138_coder : Fld Z h138 b138 "java/lang/String" "coder" "B" (.int (0 : Int32)) := D138 (Or.inr tw27) (ty := .byte) (by decide)
          have F138_value : Fld Z h138 b138 "java/lang/String" "value" "[B" .null := D138 (Or.inr tw29) (ty := (.array .byte)) (by decide)
          refine Goes.step (S' := T138.setTop (mkF m 74 #[.val (.int p0), .val (.int p1), .val (.int p2), .val (.int p3), .val (.int (2 : Int32)), .val (.ref b134), .unset, .unset] [(.ref b134), (.ref b138), (.ref b138)])) (fun t k => st138 _ (XS.dup X138.here hx rfl (hb hby at_71) rfl rfl (XS.aload X138.here hx rfl (hb hby at_72) rfl rfl k))) ?_
          obtain ⟨_, _, ⟨T139, L139, k139, n139⟩, -, X139, ⟨Lc139, hQ139, l139, y139, z139⟩, st139⟩ := X138.specialBack hx (y := mth4) rfl hown (mvT hZ tw4) (mvT hZ tw5) (mvT hZ tw6) (by decide) (backOf (W := 1) (sic2 l Z a0 hw [] b138 b134 k134 cs (nar .char ((p0 &&& (255 : Int32)).toUInt32.toUInt16.toUInt32.toInt32)) (nar .char ((p1 &&& (255 : Int32)).toUInt32.toUInt16.toUInt32.toInt32)) h138 n0 (Nat.le_trans Z0 (Nat.le_trans (Nat.le_trans (Nat.le_trans E134.1 (Nat.le_of_eq W135.size.symm)) (Nat.le_of_eq W136.size.symm)) E138.1)) A138 F138_value F138_coder (Nat.le_trans Z0 (Nat.le_trans (Nat.le_trans (Nat.le_trans E134.1 (Nat.le_of_eq W135.size.symm)) (Nat.le_of_eq W136.size.symm)) (Nat.le_of_eq g138.symm))) (Sta.ext E138 (Sta.wr W136 (Sta.wr W135 (Sta.ext E134 SC)))) (PC : ¬ (cs = (0 : Int32))) (V136.ext E138) (own_nc _) (own_nc _)) hZ tw6 tw3 (by decide) (by decide)) (g := (mkF m 74 #[.val (.int p0), .val (.int p1), .val (.int p2), .val (.int p3), .val (.int (2 : Int32)), .val (.ref b134), .unset, .unset] [(.ref b134), (.ref b138), (.ref b138)])) rfl (by rw [hml]; rfl) (Steps.refl _) (a := b138) (argsL := [(.ref b134)]) (rest := [(.ref b138)]) (lenOf pd_C_V rfl) rfl (Nat.le_of_eq rfl) (hb hby at_74) (fun _ _ => ⟨rfl, e138, (by decide : 2 + 1 ≤ _), (by decide : 6 + 2 ≤ _)⟩)
          dsimp only [Pt.U, Pt.locs, Pt.cells, Pt.slots] at X139 l139 y139 z139 st139 hQ139
          subst y139 z139
          obtain ⟨rfl, Nq139, q139_0⟩ := hQ139
          have N139 : Fr n0 L139 := by rw [l139]; exact Fr.app N136 Nq139
          refine Goes.step (S' := T139.setTop (mkF m 81 #[.val (.int p0), .val (.int p1), .val (.int p2), .val (.int p3), .val (.int (2 : Int32)), .val (.ref b134), .val (.ref b138), .unset] [(.ref b138)])) (fun t k => st139.trans (XS.astore X139.here hx rfl (hb hby at_77) rfl rfl (l' := #[.val (.int p0), .val (.int p1), .val (.int p2), .val (.int p3), .val (.int (2 : Int32)), .val (.ref b134), .val (.ref b138), .unset]) rfl (XS.aload X139.here hx rfl (hb hby at_79) rfl rfl k))) ?_
          obtain ⟨_, _, ⟨T140, L140, k140, n140⟩, -, X140, ⟨Lc140, hQ140, l140, y140, z140⟩, st140⟩ := Jvm.LawKit.callS X139 hx (y := mth9) hown (mvT hZ tw30) (mvT hZ tw31) (mvT hZ tw32) (mvT hZ tw33) (by decide) (backOfKL (W := 0) (badr l Z a0 hw [] us ss b138 T139.heap n0 (Nat.le_trans Z0 (Nat.le_trans (Nat.le_trans (Nat.le_trans (Nat.le_trans E134.1 (Nat.le_of_eq W135.size.symm)) (Nat.le_of_eq W136.size.symm)) E138.1) q139_0.1)) (HL : l.stackTraces = true) (ThS.keep q139_0 (nsS A138.nostat ns0) (ThS.ext E138 (ThS.wr W136 (ThS.wr W135 (ThS.ext E134 TH))))) (own_stakeep (Sta.ext E138 (Sta.wr W136 (Sta.wr W135 (Sta.ext E134 SU)))) q139_0 (nsS A138.nostat ns0)) (own_stakeep (Sta.ext E138 (Sta.wr W136 (Sta.wr W135 (Sta.ext E134 SP)))) q139_0 (nsS A138.nostat ns0))) hZ tw33 tw32 (by decide) (by decide) hTK hBl) (g := (mkF m 81 #[.val (.int p0), .val (.int p1), .val (.int p2), .val (.int p3), .val (.int (2 : Int32)), .val (.ref b134), .val (.ref b138), .unset] [(.ref b138)])) rfl (by rw [hml]; rfl) (argsL := [(.ref b138)]) (rest := []) (lenOf pd_Ljava_lang_String__Lcom_example_dogged_dispatch_doggeddispatch_api_ApiException rfl) rfl (Nat.le_of_eq rfl) (hb hby at_81) (fun _ _ => ⟨rfl, rfl, (by decide : 3 + 2 ≤ _), (by decide : 8 + 2759 ≤ _)⟩)
          dsimp only [Pt.U, Pt.locs, Pt.cells, Pt.slots] at X140 l140 y140 z140 st140 hQ140
          subst y140 z140
          obtain ⟨b_140, rfl, Nq140, q140_0, q140_1, q140_2, q140_3⟩ := hQ140
          have N140 : Fr n0 L140 := by rw [l140]; exact Fr.app N139 Nq140
          refine Goes.step (S' := T140.setTop (mkF m 93 #[.val (.int p0), .val (.int p1), .val (.int p2), .val (.int p3), .val (.int (2 : Int32)), .val (.ref b134), .val (.ref b138), .val (.ref b_140)] [(.ref b_140)])) (fun t k => st140 _ (XS.astore X140.here hx rfl (hb hby at_84) rfl rfl (l' := #[.val (.int p0), .val (.int p1), .val (.int p2), .val (.int p3), .val (.int (2 : Int32)), .val (.ref b134), .val (.ref b138), .val (.ref b_140)]) rfl (XS.aload X140.here hx rfl (hb hby at_86) rfl rfl (XS.ifnullNo X140.here hx rfl (hb hby at_88) rfl (XS.aload X140.here hx rfl (hb hby at_91) rfl rfl k))))) ?_
          obtain ⟨cq141, kq141, q141a, q141b, q141c⟩ := isOf hZ rfl q140_2
          obtain ⟨_, _, ⟨T141, L141, k141, n141⟩, -, X141, ⟨Lc141, hQ141, l141, y141, z141⟩, st141⟩ := X140.virtualBack hx (y := mth10) (z := mth10) hown (mvT hZ tw89) (mvT hZ tw90) (notFace_of_selects (args := #[]) (mvT hZ tw92)) (mvT hZ tw92) (mvT hZ tw91) (by decide) (backOf (W := 0) (stat l Z a0 hw [] b_140 T140.heap n0 (Nat.le_trans Z0 (Nat.le_trans (Nat.le_trans (Nat.le_trans (Nat.le_trans (Nat.le_trans E134.1 (Nat.le_of_eq W135.size.symm)) (Nat.le_of_eq W136.size.symm)) E138.1) q139_0.1) q140_0.1)) q140_3) hZ tw93 tw32 (by decide) (by decide)) q141a q141c (g := (mkF m 93 #[.val (.int p0), .val (.int p1), .val (.int p2), .val (.int p3), .val (.int (2 : Int32)), .val (.ref b134), .val (.ref b138), .val (.ref b_140)] [(.ref b_140)])) rfl (by rw [hml]; rfl) (Steps.refl _) (argsL := []) (rest := []) (lenOf pd_I rfl) rfl (Nat.le_of_eq rfl) (hb hby at_93) (fun _ _ => ⟨rfl, rfl, (by decide : 5 + 0 ≤ _), (by decide : 2767 + 0 ≤ _)⟩)
          dsimp only [Pt.U, Pt.locs, Pt.cells, Pt.slots] at X141 l141 y141 z141 st141 hQ141
          subst y141 z141
          obtain ⟨rfl, Nq141, q141_0⟩ := hQ141
          have N141 : Fr n0 L141 := by rw [l141]; exact Fr.app N140 Nq141
          refine Goes.step (S' := T141.setTop (mkF m 107 #[.val (.int p0), .val (.int p1), .val (.int p2), .val (.int p3), .val (.int (2 : Int32)), .val (.ref b134), .val (.ref b138), .val (.ref b_140)] [(.int (1 : Int32))])) (fun t k => st141.trans (XS.sipush X141.here hx rfl (hb hby at_96) (XS.icmpNo X141.here hx rfl (hb hby at_99) rfl (teq ((by decide) : (400 : Int32) = (400 : Int32))).2 (XS.iconst X141.here hx rfl (hb hby at_102) (XS.goto X141.here hx rfl (pc0 := 103) (pc' := 107) rfl (hb hby at_103) (by decide) (by decide) k))))) ?_
          have CR142 := CR0.trans (CHr.ext E134 CR0.1)
          have CR143 := CR142.trans (CHr.wr W135 (Safe.exa hZ.alike AE134 (by decide) (by decide)) CR142.1)
          have CR144 := CR143.trans (CHr.wr W136 (Safe.exa hZ.alike (Exa.wr W135 AE134) (by decide) (by decide)) CR143.1)
          have CR145 := CR144.trans (CHr.ext E138 CR144.1)
          have Q145_b138 := Safe.ext E138 CR144.1 (Safe.new (Nat.le_of_eq g138.symm))
          have CR146 := CR145.trans (CHr.keep q139_0 (sfS Q145_b138 sf0) CR145.1)
          have Q146_b138 := Safe.keep q139_0 (sfS Q145_b138 sf0) CR145.1 Q145_b138
          have CR147 := CR146.trans (CHr.keep q140_0 sf0 CR146.1)
          have Q147_b138 := Safe.keep q140_0 sf0 CR146.1 Q146_b138
          refine Goes.leaveH (g := (mkF m 107 #[.val (.int p0), .val (.int p1), .val (.int p2), .val (.int p3), .val (.int (2 : Int32)), .val (.ref b134), .val (.ref b138), .val (.ref b_140)] [(.int (1 : Int32))])) (own_ew hw) hZ hh CR147 X141 hS0 (Nat.le_trans (Nat.le_refl _) (Nat.le_trans (Nat.le_trans (Nat.le_trans (Nat.le_trans (Nat.le_trans E134.1 (Nat.le_of_eq W135.size.symm)) (Nat.le_of_eq W136.size.symm)) E138.1) q139_0.1) q140_0.1)) Bd.notSynchronized (v := (some (.int (1 : Int32)))) (fun h => by rw [Bd.returns] at h; cases h) (fun fs hr => retN X141 hx (t := .boolean) Bd.returns (by simp) (hb hby at_107) hr) q141_0 ?_ (by decide) (by decide)
          exact ⟨rfl, N141⟩
        case neg =>
          refine Goes.step (S' := T136.setTop (mkF m 81 #[.val (.int p0), .val (.int p1), .val (.int p2), .val (.int p3), .val (.int (2 : Int32)), .val (.ref b134), .val .null, .unset] [.null])) (fun t k => XS.ifNo X136.here hx rfl (hb hby at_61) rfl ((if0 _ _).trans (feq hc137).1) (XS.aconstNull X136.here hx rfl (hb hby at_64) (XS.goto X136.here hx rfl (pc0 := 65) (pc' := 77) rfl (hb hby at_65) (by decide) (by decide) (XS.astore X136.here hx rfl (hb hby at_77) rfl rfl (l' := #[.val (.int p0), .val (.int p1), .val (.int p2), .val (.int p3), .val (.int (2 : Int32)), .val (.ref b134), .val .null, .unset]) rfl (XS.aload X136.here hx rfl (hb hby at_79) rfl rfl k))))) ?_
          obtain ⟨_, _, ⟨T148, L148, k148, n148⟩, -, X148, ⟨Lc148, hQ148, l148, y148, z148⟩, st148⟩ := Jvm.LawKit.callS X136 hx (y := mth9) hown (mvT hZ tw30) (mvT hZ tw31) (mvT hZ tw32) (mvT hZ tw33) (by decide) (backOfKL (W := 0) (badn l Z a0 hw [] us ss h136 n0 (Nat.le_trans Z0 (Nat.le_trans (Nat.le_trans E134.1 (Nat.le_of_eq W135.size.symm)) (Nat.le_of_eq W136.size.symm))) (HL : l.stackTraces = true) (ThS.wr W136 (ThS.wr W135 (ThS.ext E134 TH))) (Sta.wr W136 (Sta.wr W135 (Sta.ext E134 SU))) (Sta.wr W136 (Sta.wr W135 (Sta.ext E134 SP)))) hZ tw33 tw32 (by decide) (by decide) hTK hBl) (g := (mkF m 81 #[.val (.int p0), .val (.int p1), .val (.int p2), .val (.int p3), .val (.int (2 : Int32)), .val (.ref b134), .val .null, .unset] [.null])) rfl (by rw [hml]; rfl) (argsL := [.null]) (rest := []) (lenOf pd_Ljava_lang_String__Lcom_example_dogged_dispatch_doggeddispatch_api_ApiException rfl) rfl (Nat.le_of_eq rfl) (hb hby at_81) (fun _ _ => ⟨rfl, e136, (by decide : 1 + 2 ≤ _), (by decide : 2 + 2759 ≤ _)⟩)
          dsimp only [Pt.U, Pt.locs, Pt.cells, Pt.slots] at X148 l148 y148 z148 st148 hQ148
          subst y148 z148
          obtain ⟨b_148, rfl, Nq148, q148_0, q148_1, q148_2, q148_3⟩ := hQ148
          have N148 : Fr n0 L148 := by rw [l148]; exact Fr.app N136 Nq148
          refine Goes.step (S' := T148.setTop (mkF m 93 #[.val (.int p0), .val (.int p1), .val (.int p2), .val (.int p3), .val (.int (2 : Int32)), .val (.ref b134), .val .null, .val (.ref b_148)] [(.ref b_148)])) (fun t k => st148 _ (XS.astore X148.here hx rfl (hb hby at_84) rfl rfl (l' := #[.val (.int p0), .val (.int p1), .val (.int p2), .val (.int p3), .val (.int (2 : Int32)), .val (.ref b134), .val .null, .val (.ref b_148)]) rfl (XS.aload X148.here hx rfl (hb hby at_86) rfl rfl (XS.ifnullNo X148.here hx rfl (hb hby at_88) rfl (XS.aload X148.here hx rfl (hb hby at_91) rfl rfl k))))) ?_
          obtain ⟨cq149, kq149, q149a, q149b, q149c⟩ := isOf hZ rfl q148_2
          obtain ⟨_, _, ⟨T149, L149, k149, n149⟩, -, X149, ⟨Lc149, hQ149, l149, y149, z149⟩, st149⟩ := X148.virtualBack hx (y := mth10) (z := mth10) hown (mvT hZ tw89) (mvT hZ tw90) (notFace_of_selects (args := #[]) (mvT hZ tw92)) (mvT hZ tw92) (mvT hZ tw91) (by decide) (backOf (W := 0) (stat l Z a0 hw [] b_148 T148.heap n0 (Nat.le_trans Z0 (Nat.le_trans (Nat.le_trans (Nat.le_trans E134.1 (Nat.le_of_eq W135.size.symm)) (Nat.le_of_eq W136.size.symm)) q148_0.1)) q148_3) hZ tw93 tw32 (by decide) (by decide)) q149a q149c (g := (mkF m 93 #[.val (.int p0), .val (.int p1), .val (.int p2), .val (.int p3), .val (.int (2 : Int32)), .val (.ref b134), .val .null, .val (.ref b_148)] [(.ref b_148)])) rfl (by rw [hml]; rfl) (Steps.refl _) (argsL := []) (rest := []) (lenOf pd_I rfl) rfl (Nat.le_of_eq rfl) (hb hby at_93) (fun _ _ => ⟨rfl, rfl, (by decide : 3 + 0 ≤ _), (by decide : 2761 + 0 ≤ _)⟩)
          dsimp only [Pt.U, Pt.locs, Pt.cells, Pt.slots] at X149 l149 y149 z149 st149 hQ149
          subst y149 z149
          obtain ⟨rfl, Nq149, q149_0⟩ := hQ149
          have N149 : Fr n0 L149 := by rw [l149]; exact Fr.app N148 Nq149
          refine Goes.step (S' := T149.setTop (mkF m 107 #[.val (.int p0), .val (.int p1), .val (.int p2), .val (.int p3), .val (.int (2 : Int32)), .val (.ref b134), .val .null, .val (.ref b_148)] [(.int (1 : Int32))])) (fun t k => st149.trans (XS.sipush X149.here hx rfl (hb hby at_96) (XS.icmpNo X149.here hx rfl (hb hby at_99) rfl (teq ((by decide) : (400 : Int32) = (400 : Int32))).2 (XS.iconst X149.here hx rfl (hb hby at_102) (XS.goto X149.here hx rfl (pc0 := 103) (pc' := 107) rfl (hb hby at_103) (by decide) (by decide) k))))) ?_
          have CR150 := CR0.trans (CHr.ext E134 CR0.1)
          have CR151 := CR150.trans (CHr.wr W135 (Safe.exa hZ.alike AE134 (by decide) (by decide)) CR150.1)
          have CR152 := CR151.trans (CHr.wr W136 (Safe.exa hZ.alike (Exa.wr W135 AE134) (by decide) (by decide)) CR151.1)
          have CR153 := CR152.trans (CHr.keep q148_0 sf0 CR152.1)
          refine Goes.leaveH (g := (mkF m 107 #[.val (.int p0), .val (.int p1), .val (.int p2), .val (.int p3), .val (.int (2 : Int32)), .val (.ref b134), .val .null, .val (.ref b_148)] [(.int (1 : Int32))])) (own_ew hw) hZ hh CR153 X149 hS0 (Nat.le_trans (Nat.le_refl _) (Nat.le_trans (Nat.le_trans (Nat.le_trans E134.1 (Nat.le_of_eq W135.size.symm)) (Nat.le_of_eq W136.size.symm)) q148_0.1)) Bd.notSynchronized (v := (some (.int (1 : Int32)))) (fun h => by rw [Bd.returns] at h; cases h) (fun fs hr => retN X149 hx (t := .boolean) Bd.returns (by simp) (hb hby at_107) hr) q149_0 ?_ (by decide) (by decide)
          exact ⟨rfl, N149⟩
      case neg =>
        have hc154 : (p3 &&& (3 : Int32)) = (3 : Int32) := (by have z155_0 := PC; have z155_1 := hc101; have z155_2 := hc115; have z155_3 := hc133; have z155_4 := rng32 cs; have z155_5 := rng32 (p3 &&& (3 : Int32)); have z155_6 := c_mask p3 (3 : Int32) 2 (by decide) (by decide); have z155_7 := rng32 p3; (try simp only [Int32.lt_iff_toInt_lt, Int64.lt_iff_toInt_lt, ne_eq, ← Int32.toInt_inj, ← Int64.toInt_inj, Int32.reduceToInt, Int64.reduceToInt, Nat.reducePow] at z155_0 z155_1 z155_2 z155_3 z155_4 z155_5 z155_6 z155_7 ⊢); try omega)
        rw [hc154]
        refine Goes.step (S' := s₁.setTop (mkF m 7 #[.val (.int p0), .val (.int p1), .val (.int p2), .val (.int p3), .val (.int (3 : Int32)), .unset, .unset, .unset] [(.int (3 : Int32))])) (fun t k => XS.iload X0.here hx rfl (hb hby at_5) rfl k) ?_
        obtain ⟨T156, h156, k156, X156, e156, E156, A156, AE156, st156⟩ := newPE (aty := .char) X0 hx hZ tw0 eh0 (g := (mkF m 7 #[.val (.int p0), .val (.int p1), .val (.int p2), .val (.int p3), .val (.int (3 : Int32)), .unset, .unset, .unset] [(.int (3 : Int32))])) rfl (hb hby at_7) rfl (by decide) (cap := 3) (by decide) (by decide) (by decide) (by decide) (ad := "[C") rfl
        obtain ⟨b156, g156⟩ : ∃ z, z = h0.size := ⟨_, rfl⟩
        rw [← g156] at A156 AE156 st156
        have V156 : Arv Z h156 b156 k156 .char (3 : Int32) [(.int (0 : Int32)), (.int (0 : Int32)), (.int (0 : Int32))] (.int (0 : Int32)) := (Arv.new A156 (by decide)).pad (pad_rep [] (.int (0 : Int32)) 3)
        refine Goes.step (S' := T156.setTop (mkF m 23 #[.val (.int p0), .val (.int p1), .val (.int p2), .val (.int p3), .val (.int (3 : Int32)), .val (.ref b156), .unset, .unset] [(.int (255 : Int32)), (.int p0), (.int (0 : Int32)), (.ref b156)])) (fun t k => st156 _ (XS.astore X156.here hx rfl (hb hby at_9) rfl rfl (l' := #[.val (.int p0), .val (.int p1), .val (.int p2), .val (.int p3), .val (.int (3 : Int32)), .val (.ref b156), .unset, .unset]) rfl (XS.iload X156.here hx rfl (hb hby at_11) rfl (XS.ifNo X156.here hx rfl (hb hby at_13) rfl ((if0 _ _).trans (tlt ((by decide) : (0 : Int32) < (3 : Int32))).2.2.2) (XS.aload X156.here hx rfl (hb hby at_16) rfl rfl (XS.iconst X156.here hx rfl (hb hby at_18) (XS.iloadN X156.here hx rfl (hb hby at_19) rfl (XS.sipush X156.here hx rfl (hb hby at_20) k)))))))) ?_
        refine Goes.step (S' := T156.setTop (mkF m 25 #[.val (.int p0), .val (.int p1), .val (.int p2), .val (.int p3), .val (.int (3 : Int32)), .val (.ref b156), .unset, .unset] [(.int ((p0 &&& (255 : Int32)).toUInt32.toUInt16.toUInt32.toInt32)), (.int (0 : Int32)), (.ref b156)])) (fun t k => XS.iand X156.here hx rfl (hb hby at_23) rfl (XS.i2c X156.here hx rfl (hb hby at_24) rfl k)) ?_
        obtain ⟨cl157, Ar157, qk157, Sz157, Nn157, Hs157, Gs157⟩ := id V156
        obtain ⟨T157, h157, X157, e157, W157, st157⟩ := stC X156 hx hZ e156 Ar157 (j := (0 : Int32)) (inb_of (j := (0 : Int32)) Sz157 ⟨by decide, by decide⟩) (g := (mkF m 25 #[.val (.int p0), .val (.int p1), .val (.int p2), .val (.int p3), .val (.int (3 : Int32)), .val (.ref b156), .unset, .unset] [(.int ((p0 &&& (255 : Int32)).toUInt32.toUInt16.toUInt32.toInt32)), (.int (0 : Int32)), (.ref b156)])) rfl rfl (hb hby at_25)
        have V157 : Arv Z h157 b156 k156 .char (3 : Int32) [(.int (nar .char ((p0 &&& (255 : Int32)).toUInt32.toUInt16.toUInt32.toInt32))), (.int (0 : Int32)), (.int (0 : Int32))] (.int (0 : Int32)) := Arv.set Ar157 qk157 Sz157 Nn157 Hs157 Gs157 (fits_nar_char _) W157 0 rfl (Nat.le_of_ble_eq_true rfl)
        have N157 := Fr.snoc X157 N0 (Nat.le_trans Z0 (Nat.le_of_eq g156.symm))
        refine Goes.step (S' := T157.setTop (mkF m 39 #[.val (.int p0), .val (.int p1), .val (.int p2), .val (.int p3), .val (.int (3 : Int32)), .val (.ref b156), .unset, .unset] [(.int (255 : Int32)), (.int p1), (.int (1 : Int32)), (.ref b156)])) (fun t k => st157 _ (XS.iload X157.here hx rfl (hb hby at_26) rfl (XS.iconst X157.here hx rfl (hb hby at_28) (XS.icmpNo X157.here hx rfl (hb hby at_29) rfl (tlt ((by decide) : (1 : Int32) < (3 : Int32))).2.2.2 (XS.aload X157.here hx rfl (hb hby at_32) rfl rfl (XS.iconst X157.here hx rfl (hb hby at_34) (XS.iloadN X157.here hx rfl (hb hby at_35) rfl (XS.sipush X157.here hx rfl (hb hby at_36) k)))))))) ?_
        refine Goes.step (S' := T157.setTop (mkF m 41 #[.val (.int p0), .val (.int p1), .val (.int p2), .val (.int p3), .val (.int (3 : Int32)), .val (.ref b156), .unset, .unset] [(.int ((p1 &&& (255 : Int32)).toUInt32.toUInt16.toUInt32.toInt32)), (.int (1 : Int32)), (.ref b156)])) (fun t k => XS.iand X157.here hx rfl (hb hby at_39) rfl (XS.i2c X157.here hx rfl (hb hby at_40) rfl k)) ?_
        obtain ⟨cl158, Ar158, qk158, Sz158, Nn158, Hs158, Gs158⟩ := id V157
        obtain ⟨T158, h158, X158, e158, W158, st158⟩ := stC X157 hx hZ e157 Ar158 (j := (1 : Int32)) (inb_of (j := (1 : Int32)) Sz158 ⟨by decide, by decide⟩) (g := (mkF m 41 #[.val (.int p0), .val (.int p1), .val (.int p2), .val (.int p3), .val (.int (3 : Int32)), .val (.ref b156), .unset, .unset] [(.int ((p1 &&& (255 : Int32)).toUInt32.toUInt16.toUInt32.toInt32)), (.int (1 : Int32)), (.ref b156)])) rfl rfl (hb hby at_41)
        have V158 : Arv Z h158 b156 k156 .char (3 : Int32) [(.int (nar .char ((p0 &&& (255 : Int32)).toUInt32.toUInt16.toUInt32.toInt32))), (.int (nar .char ((p1 &&& (255 : Int32)).toUInt32.toUInt16.toUInt32.toInt32))), (.int (0 : Int32))] (.int (0 : Int32)) := Arv.set Ar158 qk158 Sz158 Nn158 Hs158 Gs158 (fits_nar_char _) W158 1 rfl (Nat.le_of_ble_eq_true rfl)
        have N158 := Fr.snoc X158 N157 (Nat.le_trans Z0 (Nat.le_of_eq g156.symm))
        refine Goes.step (S' := T158.setTop (mkF m 55 #[.val (.int p0), .val (.int p1), .val (.int p2), .val (.int p3), .val (.int (3 : Int32)), .val (.ref b156), .unset, .unset] [(.int (255 : Int32)), (.int p2), (.int (2 : Int32)), (.ref b156)])) (fun t k => st158 _ (XS.iload X158.here hx rfl (hb hby at_42) rfl (XS.iconst X158.here hx rfl (hb hby at_44) (XS.icmpNo X158.here hx rfl (hb hby at_45) rfl (tlt ((by decide) : (2 : Int32) < (3 : Int32))).2.2.2 (XS.aload X158.here hx rfl (hb hby at_48) rfl rfl (XS.iconst X158.here hx rfl (hb hby at_50) (XS.iloadN X158.here hx rfl (hb hby at_51) rfl (XS.sipush X158.here hx rfl (hb hby at_52) k)))))))) ?_
        refine Goes.step (S' := T158.setTop (mkF m 57 #[.val (.int p0), .val (.int p1), .val (.int p2), .val (.int p3), .val (.int (3 : Int32)), .val (.ref b156), .unset, .unset] [(.int ((p2 &&& (255 : Int32)).toUInt32.toUInt16.toUInt32.toInt32)), (.int (2 : Int32)), (.ref b156)])) (fun t k => XS.iand X158.here hx rfl (hb hby at_55) rfl (XS.i2c X158.here hx rfl (hb hby at_56) rfl k)) ?_
        obtain ⟨cl159, Ar159, qk159, Sz159, Nn159, Hs159, Gs159⟩ := id V158
        obtain ⟨T159, h159, X159, e159, W159, st159⟩ := stC X158 hx hZ e158 Ar159 (j := (2 : Int32)) (inb_of (j := (2 : Int32)) Sz159 ⟨by decide, by decide⟩) (g := (mkF m 57 #[.val (.int p0), .val (.int p1), .val (.int p2), .val (.int p3), .val (.int (3 : Int32)), .val (.ref b156), .unset, .unset] [(.int ((p2 &&& (255 : Int32)).toUInt32.toUInt16.toUInt32.toInt32)), (.int (2 : Int32)), (.ref b156)])) rfl rfl (hb hby at_57)
        have V159 : Arv Z h159 b156 k156 .char (3 : Int32) [(.int (nar .char ((p0 &&& (255 : Int32)).toUInt32.toUInt16.toUInt32.toInt32))), (.int (nar .char ((p1 &&& (255 : Int32)).toUInt32.toUInt16.toUInt32.toInt32))), (.int (nar .char ((p2 &&& (255 : Int32)).toUInt32.toUInt16.toUInt32.toInt32)))] (.int (0 : Int32)) := Arv.set Ar159 qk159 Sz159 Nn159 Hs159 Gs159 (fits_nar_char _) W159 2 rfl (Nat.le_of_ble_eq_true rfl)
        have N159 := Fr.snoc X159 N158 (Nat.le_trans Z0 (Nat.le_of_eq g156.symm))
        refine Goes.step (S' := T159.setTop (mkF m 61 #[.val (.int p0), .val (.int p1), .val (.int p2), .val (.int p3), .val (.int (3 : Int32)), .val (.ref b156), .unset, .unset] [(.int (p3 &&& (4 : Int32)))])) (fun t k => st159 _ (XS.iloadN X159.here hx rfl (hb hby at_58) rfl (XS.iconst X159.here hx rfl (hb hby at_59) (XS.iand X159.here hx rfl (hb hby at_60) rfl k)))) ?_
        by_cases hc160 : (p3 &&& (4 : Int32)) = (0 : Int32)
        case pos =>
          refine Goes.step (S' := T159.setTop (mkF m 68 #[.val (.int p0), .val (.int p1), .val (.int p2), .val (.int p3), .val (.int (3 : Int32)), .val (.ref b156), .unset, .unset] [])) (fun t k => XS.ifYes X159.here hx rfl (pc0 := 61) (pc' := 68) rfl (hb hby at_61) rfl ((if0 _ _).trans (teq hc160).1) (by decide) (by decide) k) ?_
          obtain ⟨T161, h161, X161, e161, E161, A161, D161, U161, st161⟩ := newO X159 hx hZ hown tw1 tw2 tw3 e159 (g := (mkF m 68 #[.val (.int p0), .val (.int p1), .val (.int p2), .val (.int p3), .val (.int (3 : Int32)), .val (.ref b156), .unset, .unset] [])) rfl (hb hby at_68) (by decide) (by decide)
          obtain ⟨b161, g161⟩ : ∃ z, z = h159.size := ⟨_, rfl⟩
          rw [← g161] at A161 D161 U161 st161
          have F161_coder : Fld Z h161 b161 "java/lang/String" "coder" "B" (.int (0 : Int32)) := D161 (Or.inr tw27) (ty := .byte) (by decide)
          have F161_value : Fld Z h161 b161 "java/lang/String" "value" "[B" .null := D161 (Or.inr tw29) (ty := (.array .byte)) (by decide)
          refine Goes.step (S' := T161.setTop (mkF m 74 #[.val (.int p0), .val (.int p1), .val (.int p2), .val (.int p3), .val (.int (3 : Int32)), .val (.ref b156), .unset, .unset] [(.ref b156), (.ref b161), (.ref b161)])) (fun t k => st161 _ (XS.dup X161.here hx rfl (hb hby at_71) rfl rfl (XS.aload X161.here hx rfl (hb hby at_72) rfl rfl k))) ?_
          obtain ⟨_, _, ⟨T162, L162, k162, n162⟩, -, X162, ⟨Lc162, hQ162, l162, y162, z162⟩, st162⟩ := X161.specialBack hx (y := mth4) rfl hown (mvT hZ tw4) (mvT hZ tw5) (mvT hZ tw6) (by decide) (backOf (W := 1) (sic3 l Z a0 hw [] b161 b156 k156 cs (nar .char ((p0 &&& (255 : Int32)).toUInt32.toUInt16.toUInt32.toInt32)) (nar .char ((p1 &&& (255 : Int32)).toUInt32.toUInt16.toUInt32.toInt32)) (nar .char ((p2 &&& (255 : Int32)).toUInt32.toUInt16.toUInt32.toInt32)) h161 n0 (Nat.le_trans Z0 (Nat.le_trans (Nat.le_trans (Nat.le_trans (Nat.le_trans E156.1 (Nat.le_of_eq W157.size.symm)) (Nat.le_of_eq W158.size.symm)) (Nat.le_of_eq W159.size.symm)) E161.1)) A161 F161_value F161_coder (Nat.le_trans Z0 (Nat.le_trans (Nat.le_trans (Nat.le_trans (Nat.le_trans E156.1 (Nat.le_of_eq W157.size.symm)) (Nat.le_of_eq W158.size.symm)) (Nat.le_of_eq W159.size.symm)) (Nat.le_of_eq g161.symm))) (Sta.ext E161 (Sta.wr W159 (Sta.wr W158 (Sta.wr W157 (Sta.ext E156 SC))))) (PC : ¬ (cs = (0 : Int32))) (V159.ext E161) (own_nc _) (own_nc _) (own_nc _)) hZ tw6 tw3 (by decide) (by decide)) (g := (mkF m 74 #[.val (.int p0), .val (.int p1), .val (.int p2), .val (.int p3), .val (.int (3 : Int32)), .val (.ref b156), .unset, .unset] [(.ref b156), (.ref b161), (.ref b161)])) rfl (by rw [hml]; rfl) (Steps.refl _) (a := b161) (argsL := [(.ref b156)]) (rest := [(.ref b161)]) (lenOf pd_C_V rfl) rfl (Nat.le_of_eq rfl) (hb hby at_74) (fun _ _ => ⟨rfl, e161, (by decide : 2 + 1 ≤ _), (by decide : 7 + 3 ≤ _)⟩)
          dsimp only [Pt.U, Pt.locs, Pt.cells, Pt.slots] at X162 l162 y162 z162 st162 hQ162
          subst y162 z162
          obtain ⟨rfl, Nq162, q162_0⟩ := hQ162
          have N162 : Fr n0 L162 := by rw [l162]; exact Fr.app N159 Nq162
          refine Goes.step (S' := T162.setTop (mkF m 81 #[.val (.int p0), .val (.int p1), .val (.int p2), .val (.int p3), .val (.int (3 : Int32)), .val (.ref b156), .val (.ref b161), .unset] [(.ref b161)])) (fun t k => st162.trans (XS.astore X162.here hx rfl (hb hby at_77) rfl rfl (l' := #[.val (.int p0), .val (.int p1), .val (.int p2), .val (.int p3), .val (.int (3 : Int32)), .val (.ref b156), .val (.ref b161), .unset]) rfl (XS.aload X162.here hx rfl (hb hby at_79) rfl rfl k))) ?_
          obtain ⟨_, _, ⟨T163, L163, k163, n163⟩, -, X163, ⟨Lc163, hQ163, l163, y163, z163⟩, st163⟩ := Jvm.LawKit.callS X162 hx (y := mth9) hown (mvT hZ tw30) (mvT hZ tw31) (mvT hZ tw32) (mvT hZ tw33) (by decide) (backOfKL (W := 0) (badr l Z a0 hw [] us ss b161 T162.heap n0 (Nat.le_trans Z0 (Nat.le_trans (Nat.le_trans (Nat.le_trans (Nat.le_trans (Nat.le_trans E156.1 (Nat.le_of_eq W157.size.symm)) (Nat.le_of_eq W158.size.symm)) (Nat.le_of_eq W159.size.symm)) E161.1) q162_0.1)) (HL : l.stackTraces = true) (ThS.keep q162_0 (nsS A161.nostat ns0) (ThS.ext E161 (ThS.wr W159 (ThS.wr W158 (ThS.wr W157 (ThS.ext E156 TH)))))) (own_stakeep (Sta.ext E161 (Sta.wr W159 (Sta.wr W158 (Sta.wr W157 (Sta.ext E156 SU))))) q162_0 (nsS A161.nostat ns0)) (own_stakeep (Sta.ext E161 (Sta.wr W159 (Sta.wr W158 (Sta.wr W157 (Sta.ext E156 SP))))) q162_0 (nsS A161.nostat ns0))) hZ tw33 tw32 (by decide) (by decide) hTK hBl) (g := (mkF m 81 #[.val (.int p0), .val (.int p1), .val (.int p2), .val (.int p3), .val (.int (3 : Int32)), .val (.ref b156), .val (.ref b161), .unset] [(.ref b161)])) rfl (by rw [hml]; rfl) (argsL := [(.ref b161)]) (rest := []) (lenOf pd_Ljava_lang_String__Lcom_example_dogged_dispatch_doggeddispatch_api_ApiException rfl) rfl (Nat.le_of_eq rfl) (hb hby at_81) (fun _ _ => ⟨rfl, rfl, (by decide : 3 + 2 ≤ _), (by decide : 10 + 2759 ≤ _)⟩)
          dsimp only [Pt.U, Pt.locs, Pt.cells, Pt.slots] at X163 l163 y163 z163 st163 hQ163
          subst y163 z163
          obtain ⟨b_163, rfl, Nq163, q163_0, q163_1, q163_2, q163_3⟩ := hQ163
          have N163 : Fr n0 L163 := by rw [l163]; exact Fr.app N162 Nq163
          refine Goes.step (S' := T163.setTop (mkF m 93 #[.val (.int p0), .val (.int p1), .val (.int p2), .val (.int p3), .val (.int (3 : Int32)), .val (.ref b156), .val (.ref b161), .val (.ref b_163)] [(.ref b_163)])) (fun t k => st163 _ (XS.astore X163.here hx rfl (hb hby at_84) rfl rfl (l' := #[.val (.int p0), .val (.int p1), .val (.int p2), .val (.int p3), .val (.int (3 : Int32)), .val (.ref b156), .val (.ref b161), .val (.ref b_163)]) rfl (XS.aload X163.here hx rfl (hb hby at_86) rfl rfl (XS.ifnullNo X163.here hx rfl (hb hby at_88) rfl (XS.aload X163.here hx rfl (hb hby at_91) rfl rfl k))))) ?_
          obtain ⟨cq164, kq164, q164a, q164b, q164c⟩ := isOf hZ rfl q163_2
          obtain ⟨_, _, ⟨T164, L164, k164, n164⟩, -, X164, ⟨Lc164, hQ164, l164, y164, z164⟩, st164⟩ := X163.virtualBack hx (y := mth10) (z := mth10) hown (mvT hZ tw89) (mvT hZ tw90) (notFace_of_selects (args := #[]) (mvT hZ tw92)) (mvT hZ tw92) (mvT hZ tw91) (by decide) (backOf (W := 0) (stat l Z a0 hw [] b_163 T163.heap n0 (Nat.le_trans Z0 (Nat.le_trans (Nat.le_trans (Nat.le_trans (Nat.le_trans (Nat.le_trans (Nat.le_trans E156.1 (Nat.le_of_eq W157.size.symm)) (Nat.le_of_eq W158.size.symm)) (Nat.le_of_eq W159.size.symm)) E161.1) q162_0.1) q163_0.1)) q163_3) hZ tw93 tw32 (by decide) (by decide)) q164a q164c (g := (mkF m 93 #[.val (.int p0), .val (.int p1), .val (.int p2), .val (.int p3), .val (.int (3 : Int32)), .val (.ref b156), .val (.ref b161), .val (.ref b_163)] [(.ref b_163)])) rfl (by rw [hml]; rfl) (Steps.refl _) (argsL := []) (rest := []) (lenOf pd_I rfl) rfl (Nat.le_of_eq rfl) (hb hby at_93) (fun _ _ => ⟨rfl, rfl, (by decide : 5 + 0 ≤ _), (by decide : 2769 + 0 ≤ _)⟩)
          dsimp only [Pt.U, Pt.locs, Pt.cells, Pt.slots] at X164 l164 y164 z164 st164 hQ164
          subst y164 z164
          obtain ⟨rfl, Nq164, q164_0⟩ := hQ164
          have N164 : Fr n0 L164 := by rw [l164]; exact Fr.app N163 Nq164
          refine Goes.step (S' := T164.setTop (mkF m 107 #[.val (.int p0), .val (.int p1), .val (.int p2), .val (.int p3), .val (.int (3 : Int32)), .val (.ref b156), .val (.ref b161), .val (.ref b_163)] [(.int (1 : Int32))])) (fun t k => st164.trans (XS.sipush X164.here hx rfl (hb hby at_96) (XS.icmpNo X164.here hx rfl (hb hby at_99) rfl (teq ((by decide) : (400 : Int32) = (400 : Int32))).2 (XS.iconst X164.here hx rfl (hb hby at_102) (XS.goto X164.here hx rfl (pc0 := 103) (pc' := 107) rfl (hb hby at_103) (by decide) (by decide) k))))) ?_
          have CR165 := CR0.trans (CHr.ext E156 CR0.1)
          have CR166 := CR165.trans (CHr.wr W157 (Safe.exa hZ.alike AE156 (by decide) (by decide)) CR165.1)
          have CR167 := CR166.trans (CHr.wr W158 (Safe.exa hZ.alike (Exa.wr W157 AE156) (by decide) (by decide)) CR166.1)
          have CR168 := CR167.trans (CHr.wr W159 (Safe.exa hZ.alike (Exa.wr W158 (Exa.wr W157 AE156)) (by decide) (by decide)) CR167.1)
          have CR169 := CR168.trans (CHr.ext E161 CR168.1)
          have Q169_b161 := Safe.ext E161 CR168.1 (Safe.new (Nat.le_of_eq g161.symm))
          have CR170 := CR169.trans (CHr.keep q162_0 (sfS Q169_b161 sf0) CR169.1)
          have Q170_b161 := Safe.keep q162_0 (sfS Q169_b161 sf0) CR169.1 Q169_b161
          have CR171 := CR170.trans (CHr.keep q163_0 sf0 CR170.1)
          have Q171_b161 := Safe.keep q163_0 sf0 CR170.1 Q170_b161
          refine Goes.leaveH (g := (mkF m 107 #[.val (.int p0), .val (.int p1), .val (.int p2), .val (.int p3), .val (.int (3 : Int32)), .val (.ref b156), .val (.ref b161), .val (.ref b_163)] [(.int (1 : Int32))])) (own_ew hw) hZ hh CR171 X164 hS0 (Nat.le_trans (Nat.le_refl _) (Nat.le_trans (Nat.le_trans (Nat.le_trans (Nat.le_trans (Nat.le_trans (Nat.le_trans E156.1 (Nat.le_of_eq W157.size.symm)) (Nat.le_of_eq W158.size.symm)) (Nat.le_of_eq W159.size.symm)) E161.1) q162_0.1) q163_0.1)) Bd.notSynchronized (v := (some (.int (1 : Int32)))) (fun h => by rw [Bd.returns] at h; cases h) (fun fs hr => retN X164 hx (t := .boolean) Bd.returns (by simp) (hb hby at_107) hr) q164_0 ?_ (by decide) (by decide)
          exact ⟨rfl, N164⟩
        case neg =>
          refine Goes.step (S' := T159.setTop (mkF m 81 #[.val (.int p0), .val (.int p1), .val (.int p2), .val (.int p3), .val (.int (3 : Int32)), .val (.ref b156), .val .null, .unset] [.null])) (fun t k => XS.ifNo X159.here hx rfl (hb hby at_61) rfl ((if0 _ _).trans (feq hc160).1) (XS.aconstNull X159.here hx rfl (hb hby at_64) (XS.goto X159.here hx rfl (pc0 := 65) (pc' := 77) rfl (hb hby at_65) (by decide) (by decide) (XS.astore X159.here hx rfl (hb hby at_77) rfl rfl (l' := #[.val (.int p0), .val (.int p1), .val (.int p2), .val (.int p3), .val (.int (3 : Int32)), .val (.ref b156), .val .null, .unset]) rfl (XS.aload X159.here hx rfl (hb hby at_79) rfl rfl k))))) ?_
          obtain ⟨_, _, ⟨T172, L172, k172, n172⟩, -, X172, ⟨Lc172, hQ172, l172, y172, z172⟩, st172⟩ := Jvm.LawKit.callS X159 hx (y := mth9) hown (mvT hZ tw30) (mvT hZ tw31) (mvT hZ tw32) (mvT hZ tw33) (by decide) (backOfKL (W := 0) (badn l Z a0 hw [] us ss h159 n0 (Nat.le_trans Z0 (Nat.le_trans (Nat.le_trans (Nat.le_trans E156.1 (Nat.le_of_eq W157.size.symm)) (Nat.le_of_eq W158.size.symm)) (Nat.le_of_eq W159.size.symm))) (HL : l.stackTraces = true) (ThS.wr W159 (ThS.wr W158 (ThS.wr W157 (ThS.ext E156 TH)))) (Sta.wr W159 (Sta.wr W158 (Sta.wr W157 (Sta.ext E156 SU)))) (Sta.wr W159 (Sta.wr W158 (Sta.wr W157 (Sta.ext E156 SP))))) hZ tw33 tw32 (by decide) (by decide) hTK hBl) (g := (mkF m 81 #[.val (.int p0), .val (.int p1), .val (.int p2), .val (.int p3), .val (.int (3 : Int32)), .val (.ref b156), .val .null, .unset] [.null])) rfl (by rw [hml]; rfl) (argsL := [.null]) (rest := []) (lenOf pd_Ljava_lang_String__Lcom_example_dogged_dispatch_doggeddispatch_api_ApiException rfl) rfl (Nat.le_of_eq rfl) (hb hby at_81) (fun _ _ => ⟨rfl, e159, (by decide : 1 + 2 ≤ _), (by decide : 3 + 2759 ≤ _)⟩)
          dsimp only [Pt.U, Pt.locs, Pt.cells, Pt.slots] at X172 l172 y172 z172 st172 hQ172
          subst y172 z172
          obtain ⟨b_172, rfl, Nq172, q172_0, q172_1, q172_2, q172_3⟩ := hQ172
          have N172 : Fr n0 L172 := by rw [l172]; exact Fr.app N159 Nq172
          refine Goes.step (S' := T172.setTop (mkF m 93 #[.val (.int p0), .val (.int p1), .val (.int p2), .val (.int p3), .val (.int (3 : Int32)), .val (.ref b156), .val .null, .val (.ref b_172)] [(.ref b_172)])) (fun t k => st172 _ (XS.astore X172.here hx rfl (hb hby at_84) rfl rfl (l' := #[.val (.int p0), .val (.int p1), .val (.int p2), .val (.int p3), .val (.int (3 : Int32)), .val (.ref b156), .val .null, .val (.ref b_172)]) rfl (XS.aload X172.here hx rfl (hb hby at_86) rfl rfl (XS.ifnullNo X172.here hx rfl (hb hby at_88) rfl (XS.aload X172.here hx rfl (hb hby at_91) rfl rfl k))))) ?_
          obtain ⟨cq173, kq173, q173a, q173b, q173c⟩ := isOf hZ rfl q172_2
          obtain ⟨_, _, ⟨T173, L173, k173, n173⟩, -, X173, ⟨Lc173, hQ173, l173, y173, z173⟩, st173⟩ := X172.virtualBack hx (y := mth10) (z := mth10) hown (mvT hZ tw89) (mvT hZ tw90) (notFace_of_selects (args := #[]) (mvT hZ tw92)) (mvT hZ tw92) (mvT hZ tw91) (by decide) (backOf (W := 0) (stat l Z a0 hw [] b_172 T172.heap n0 (Nat.le_trans Z0 (Nat.le_trans (Nat.le_trans (Nat.le_trans (Nat.le_trans E156.1 (Nat.le_of_eq W157.size.symm)) (Nat.le_of_eq W158.size.symm)) (Nat.le_of_eq W159.size.symm)) q172_0.1)) q172_3) hZ tw93 tw32 (by decide) (by decide)) q173a q173c (g := (mkF m 93 #[.val (.int p0), .val (.int p1), .val (.int p2), .val (.int p3), .val (.int (3 : Int32)), .val (.ref b156), .val .null, .val (.ref b_172)] [(.ref b_172)])) rfl (by rw [hml]; rfl) (Steps.refl _) (argsL := []) (rest := []) (lenOf pd_I rfl) rfl (Nat.le_of_eq rfl) (hb hby at_93) (fun _ _ => ⟨rfl, rfl, (by decide : 3 + 0 ≤ _), (by decide : 2762 + 0 ≤ _)⟩)
          dsimp only [Pt.U, Pt.locs, Pt.cells, Pt.slots] at X173 l173 y173 z173 st173 hQ173
          subst y173 z173
          obtain ⟨rfl, Nq173, q173_0⟩ := hQ173
          have N173 : Fr n0 L173 := by rw [l173]; exact Fr.app N172 Nq173
          refine Goes.step (S' := T173.setTop (mkF m 107 #[.val (.int p0), .val (.int p1), .val (.int p2), .val (.int p3), .val (.int (3 : Int32)), .val (.ref b156), .val .null, .val (.ref b_172)] [(.int (1 : Int32))])) (fun t k => st173.trans (XS.sipush X173.here hx rfl (hb hby at_96) (XS.icmpNo X173.here hx rfl (hb hby at_99) rfl (teq ((by decide) : (400 : Int32) = (400 : Int32))).2 (XS.iconst X173.here hx rfl (hb hby at_102) (XS.goto X173.here hx rfl (pc0 := 103) (pc' := 107) rfl (hb hby at_103) (by decide) (by decide) k))))) ?_
          have CR174 := CR0.trans (CHr.ext E156 CR0.1)
          have CR175 := CR174.trans (CHr.wr W157 (Safe.exa hZ.alike AE156 (by decide) (by decide)) CR174.1)
          have CR176 := CR175.trans (CHr.wr W158 (Safe.exa hZ.alike (Exa.wr W157 AE156) (by decide) (by decide)) CR175.1)
          have CR177 := CR176.trans (CHr.wr W159 (Safe.exa hZ.alike (Exa.wr W158 (Exa.wr W157 AE156)) (by decide) (by decide)) CR176.1)
          have CR178 := CR177.trans (CHr.keep q172_0 sf0 CR177.1)
          refine Goes.leaveH (g := (mkF m 107 #[.val (.int p0), .val (.int p1), .val (.int p2), .val (.int p3), .val (.int (3 : Int32)), .val (.ref b156), .val .null, .val (.ref b_172)] [(.int (1 : Int32))])) (own_ew hw) hZ hh CR178 X173 hS0 (Nat.le_trans (Nat.le_refl _) (Nat.le_trans (Nat.le_trans (Nat.le_trans (Nat.le_trans E156.1 (Nat.le_of_eq W157.size.symm)) (Nat.le_of_eq W158.size.symm)) (Nat.le_of_eq W159.size.symm)) q172_0.1)) Bd.notSynchronized (v := (some (.int (1 : Int32)))) (fun h => by rw [Bd.returns] at h; cases h) (fun fs hr => retN X173 hx (t := .boolean) Bd.returns (by simp) (hb hby at_107) hr) q173_0 ?_ (by decide) (by decide)
          exact ⟨rfl, N173⟩

set_option maxRecDepth 65536 in
set_option maxHeartbeats 40000000 in
theorem comes_1 {Post : Tables → Env → Array Value → State → Outcome → State → Prop} (hpost : ∀ tb e args s v u, (limb_1_1.after args s (.returned v) u = true ∧ limb_1_2.after args s (.returned v) u = true ∧ True) → ReturnedEndW s (.returned v) u (Jvm.fieldLocs frame_1_writes args s ++ Jvm.arrayLocs frame_1_arrays args s ++ Jvm.staticLocs frame_1_statics s) 24 6656 → Post tb e args s (.returned v) u) :
    ArmFor flags0 classFile x code maxLocals ret World_1 tables_1 room_1 Calls_1 rest_1 Pre_1 Post := by
  intro l hfl _ _ p e ha hc hk s m args below hf hA hF happ hP
  obtain ⟨hcalls, hrest, hpre⟩ := hP
  obtain ⟨-, -, -, hnamed, -, -, -, hat⟩ := (Spec.applies_iff hf).mp happ
  obtain ⟨hg, hn⟩ := and_e (Cond.before_iff.mp (show (Jvm.Cond.and given_1 narrow_1).before args s = true from hpre))
  obtain ⟨g1, g2⟩ := and_e hg
  obtain ⟨g3, g4⟩ := and_e g2
  obtain ⟨g5, g6⟩ := and_e g4
  obtain ⟨g7, g8⟩ := and_e g6
  obtain ⟨w0, w1, w2, w3, rfl⟩ : ∃ w0 w1 w2 w3 : Value, args = #[w0, w1, w2, w3] := by
    have hs : args.size = 4 := by simpa [Cond.value, given_1] using g1
    obtain ⟨L⟩ := args
    match L, hs with
    | [w0, w1, w2, w3], _ => exact ⟨w0, w1, w2, w3, rfl⟩
  have hw := fun d (hd : d ∈ tables_1) => atoms_spec (ws := Jvm.Cond.code x code maxLocals ret :: tables_1) hat d (List.mem_cons_of_mem _ hd)
  have hfit : Fit s := fun {y c} hc i hi => by
    obtain ⟨ha, rfl⟩ := Array.getElem?_eq_some_iff.mp hc
    have q := List.all_eq_true.mp ((Array.all_eq_true_iff_forall_mem.mp hF) _ (Array.getElem_mem ha)) i (List.mem_range.mpr hi)
    simpa [Array.getElem?_eq_getElem hi] using q
  obtain ⟨hsets, hown0⟩ := atoms_of _ (rest_1_c_eq ▸ (show rest_1_c.before _ s = true from hrest))
  have hr0 := Cond.before_iff.mp hown0
  obtain ⟨i0, ei0⟩ := is_v g3
  obtain rfl : w0 = (.int i0) := Option.some.inj ei0
  obtain ⟨i1, ei1⟩ := is_v g5
  obtain rfl : w1 = (.int i1) := Option.some.inj ei1
  obtain ⟨i2, ei2⟩ := is_v g7
  obtain rfl : w2 = (.int i2) := Option.some.inj ei2
  obtain ⟨i3, ei3⟩ := is_v g8
  obtain rfl : w3 = (.int i3) := Option.some.inj ei3
  -- hn says: Jvm.Cond.tt
  obtain ⟨cs, ev_cs⟩ := is_v (Cond.before_iff.mp (hsets _ (List.mem_of_getElem? (i := 1) rfl)))
  have SC : Sta s s.heap "java/lang/String" "COMPACT_STRINGS" "Z" (.int cs) := Sta.start ev_cs (Or.inl (hsets _ (List.mem_of_getElem? (i := 0) rfl)))
  have PC : ¬ (cs = (0 : Int32)) := own_neI (Cond.before_iff.mp (hsets _ (List.mem_of_getElem? (i := 2) rfl))) ev_cs
  have hCH : CHv s own_EL s.vm s.heap := CHv.start (own_ew hw) (fun p hp => hcalls.2.2.1 p hp) (hsets _ (List.mem_of_getElem? (i := 2) rfl)) (hw _ (List.mem_of_getElem? (i := 19) rfl)) (hw _ (List.mem_of_getElem? (i := 2) rfl))
  obtain ⟨us, ev_us⟩ := own_arrRef (hsets _ (List.mem_of_getElem? (i := 17) rfl))
  have SU : Sta s s.heap "java/lang/Throwable" "UNASSIGNED_STACK" "[Ljava/lang/StackTraceElement;" (.ref us) := Sta.start ev_us (Or.inl (hsets _ (List.mem_of_getElem? (i := 15) rfl)))
  obtain ⟨ss, _, _, _, ev_ss, -⟩ := Cond.exactly_spec (hsets _ (List.mem_of_getElem? (i := 22) rfl))
  have SP : Sta s s.heap "java/lang/Throwable" "SUPPRESSED_SENTINEL" "Ljava/util/List;" (.ref ss) := Sta.start ev_ss (Or.inl (hsets _ (List.mem_of_getElem? (i := 20) rfl)))
  obtain ⟨n, o, h1, h2, h3, _, L, rfl, ⟨rfl, N⟩, hcr, hq⟩ := law l s _ hw tables_1 i0 i1 i2 i3 cs us ss s.heap s.heap.size (Nat.le_refl _) SC PC (by unfold Launch.stackTraces; rw [hfl]; decide) ThS.start SU SP p e ha hc hk s m _ below hf ((Spec.applies_iff_loose hf).mp happ).1 ⟨rfl, State.Warmed39.refl s, rfl, hCH⟩ ⟨hcalls.1, hcalls.2.1⟩
  refine ⟨n, _, h1, h2, h3, hpost _ _ _ _ _ _ ⟨Cond.after_iff.mpr rfl, Cond.after_iff.mpr (eq_i res_at (Term.int_eval (1)) rfl), trivial⟩ ⟨hq.1, hq.2.1, hq.2.2.1, (hq.2.2.2.sift fun y hy => Or.inr (N y hy)).mono (by decide) (by decide)⟩⟩
theorem main_1_1 : Claimed_1_1 := comes_1 fun _ _ _ _ _ _ h hF => ⟨h.1, hF⟩
theorem main_1_2 : Claimed_1_2 := comes_1 fun _ _ _ _ _ _ h hF => ⟨h.2.1, hF⟩
end Jvm.Pilot.@@N@@
namespace Jvm.Pilot.@@N@@
open Jvm Jvm.ClassFile Sem Op Lib Jvm.Free Jvm.Stand Jvm.Pilot.@@N@@.Jvm.D
/-! MADE BY PROGRAM (witnessworld.py) out of the Statement's table words and the real class files: 33 classes; the members and pool entries that the words name. The judged class is class 1, her method 1. -/
namespace start1
open Jvm.ClassFile
def u (s : String) : CpInfo := .utf8 (stringToUtf16 s)
/-- a pool by its gaps: so many unusable entries, then the entry; so many at the end -/
def gap : Nat → List CpInfo → List CpInfo
  | 0, r => r
  | n + 1, r => .unusable :: gap n r
def poolList (es : List (Nat × CpInfo)) (last : Nat) : List CpInfo := es.foldr (fun e r => gap e.1 (e.2 :: r)) (gap last [])
def pool (es : List (Nat × CpInfo)) (last : Nat) : Array CpInfo := ⟨poolList es last⟩
def fileOf (pool : Array CpInfo) (this : Nat) (attrs : Array Attribute := #[]) (ms : Array MethodInfo := #[]) (fl : Nat := 33) (sup : Nat := 0) (ifs : Array Nat := #[]) (fds : Array FieldInfo := #[]) : ClassFile where
  minorVersion := 0
  majorVersion := 65
  constantPool := pool
  accessFlags := fl
  thisClass := this
  superClass := sup
  interfaces := ifs
  fields := fds
  methods := ms
  attributes := attrs
def plain (name : String) (sup : Option ClassId) : Class where
  name := name
  kind := .ordinary
  loader := none
  accessFlags := 33
  super := sup
  interfaces := #[]
  cf := none
  fields := #[]
  methods := #[]
  instanceTypes := #[]
  staticTypes := #[]
  resolved := #[]
  callSites := []
  init := .initialized
  statics := none
  mirror := none

def pool0 : Array CpInfo := pool [(5, u "<init>"), (0, u "()V"), (1, .class_ 10), (1, u "java/lang/Object")] 113

def k0c0 : Code := { maxStack := 0, maxLocals := 1, code := object_method_1_code, exceptionTable := #[], attributes := #[] }
def k0m0 : Method := { name := "<init>", desc := "()V", sig := { parameters := [], returnType := none }, accessFlags := 1, code := some k0c0 }
/-- java/lang/Object -/
def k0 : Class := { plain "java/lang/Object" none with
  accessFlags := 33
  interfaces := #[]
  cf := some (fileOf pool0 8 #[] #[{ accessFlags := 1, nameIndex := 5, descriptorIndex := 6, attributes := #[] }] 33 0 #[] #[])
  fields := #[]
  methods := #[k0m0]
  instanceTypes := #[]
  staticTypes := #[]
  resolved := Array.replicate 124 none
  statics := none }

def pool1 : Array CpInfo := pool [(2, .class_ 4), (1, u "java/lang/Object"), (0, u "<init>"), (0, u "()V"), (0, .class_ 8), (0, u "java/lang/String"), (0, .methodref 7 10), (0, .nameAndType 5 11), (0, u "([C)V"), (0, .methodref 13 14), (0, .class_ 15), (0, .nameAndType 16 17), (0, u "com/example/dogged_dispatch/doggeddispatch/api/ApiException"), (0, u "badRequest"), (0, u "(Ljava/lang/String;)Lcom/example/dogged_dispatch/doggeddispatch/api/ApiException;"), (0, .methodref 13 19), (0, .nameAndType 20 21), (0, u "status"), (0, u "()I"), (0, .class_ 23), (0, u "com/example/dogged_dispatch/doggeddispatch/api/ApiExceptionBadRequestPinLaw"), (2, u "law"), (0, u "(IIII)Z")] 5

def k1m0 : Method := { name := "<init>", desc := "()V", sig := { parameters := [], returnType := none }, accessFlags := 1, code := none }
def k1c1 : Code := { maxStack := 4, maxLocals := 8, code := code, exceptionTable := #[], attributes := #[] }
def k1m1 : Method := { name := "law", desc := "(IIII)Z", sig := { parameters := [.int, .int, .int, .int], returnType := some .boolean }, accessFlags := 9, code := some k1c1 }
/-- com/example/dogged_dispatch/doggeddispatch/api/ApiExceptionBadRequestPinLaw -/
def k1 : Class := { plain "com/example/dogged_dispatch/doggeddispatch/api/ApiExceptionBadRequestPinLaw" (some 0) with
  accessFlags := 49
  interfaces := #[]
  cf := some (fileOf pool1 22 #[] #[{ accessFlags := 1, nameIndex := 5, descriptorIndex := 6, attributes := #[] }, { accessFlags := 9, nameIndex := 26, descriptorIndex := 27, attributes := #[] }] 49 2 #[] #[])
  fields := #[]
  methods := #[k1m0, k1m1]
  instanceTypes := #[]
  staticTypes := #[]
  resolved := Array.replicate 33 none
  statics := none }

def pool2 : Array CpInfo := pool [(1, .class_ 2), (0, u "java/io/Serializable"), (0, .class_ 4), (0, u "java/lang/Object")] 2

/-- java/io/Serializable -/
def k2 : Class := { plain "java/io/Serializable" (some 0) with
  accessFlags := 1537
  interfaces := #[]
  cf := some (fileOf pool2 1 #[] #[] 1537 3 #[] #[])
  fields := #[]
  methods := #[]
  instanceTypes := #[]
  staticTypes := #[]
  resolved := Array.replicate 7 none
  statics := none }

def pool3 : Array CpInfo := pool [(1, .class_ 2), (0, u "java/lang/Comparable"), (0, .class_ 4), (0, u "java/lang/Object")] 7

/-- java/lang/Comparable -/
def k3 : Class := { plain "java/lang/Comparable" (some 0) with
  accessFlags := 1537
  interfaces := #[]
  cf := some (fileOf pool3 1 #[] #[] 1537 3 #[] #[])
  fields := #[]
  methods := #[]
  instanceTypes := #[]
  staticTypes := #[]
  resolved := Array.replicate 12 none
  statics := none }

def pool4 : Array CpInfo := pool [(2, .class_ 4), (1, u "java/lang/CharSequence"), (42, .class_ 48), (0, u "java/lang/CharSequence$1CodePointIterator"), (10, .class_ 60), (0, u "java/lang/CharSequence$1CharIterator"), (5, .class_ 67), (0, u "java/lang/Object")] 63

/-- java/lang/CharSequence -/
def k4 : Class := { plain "java/lang/CharSequence" (some 0) with
  accessFlags := 1537
  interfaces := #[]
  cf := some (fileOf pool4 2 #[.nestMembers #[47, 59]] #[] 1537 66 #[] #[])
  fields := #[]
  methods := #[]
  instanceTypes := #[]
  staticTypes := #[]
  resolved := Array.replicate 131 none
  statics := none }

def pool5 : Array CpInfo := pool [(1, .class_ 2), (0, u "java/lang/constant/Constable"), (0, .class_ 4), (0, u "java/lang/Object")] 6

/-- java/lang/constant/Constable -/
def k5 : Class := { plain "java/lang/constant/Constable" (some 0) with
  accessFlags := 1537
  interfaces := #[]
  cf := some (fileOf pool5 1 #[] #[] 1537 3 #[] #[])
  fields := #[]
  methods := #[]
  instanceTypes := #[]
  staticTypes := #[]
  resolved := Array.replicate 11 none
  statics := none }

def pool6 : Array CpInfo := pool [(1, .class_ 2), (0, u "java/lang/constant/ConstantDesc"), (0, .class_ 4), (0, u "java/lang/Object")] 32

/-- java/lang/constant/ConstantDesc -/
def k6 : Class := { plain "java/lang/constant/ConstantDesc" (some 0) with
  accessFlags := 1537
  interfaces := #[]
  cf := some (fileOf pool6 1 #[] #[] 1537 3 #[] #[])
  fields := #[]
  methods := #[]
  instanceTypes := #[]
  staticTypes := #[]
  resolved := Array.replicate 37 none
  statics := none }

def pool7 : Array CpInfo := pool [(1, .methodref 2 3), (0, .class_ 4), (0, .nameAndType 5 6), (0, u "java/lang/Object"), (0, u "<init>"), (0, u "()V"), (0, .string 8), (0, u ""), (0, .fieldref 10 11), (0, .class_ 12), (0, .nameAndType 13 14), (0, u "java/lang/String"), (0, u "value"), (0, u "[B"), (0, .fieldref 10 16), (0, .nameAndType 17 18), (0, u "coder"), (0, u "B"), (2, u "hash"), (0, u "I"), (2, u "hashIsZero"), (0, u "Z"), (0, .methodref 10 28), (0, .nameAndType 5 29), (0, u "([CIILjava/lang/Void;)V"), (8, .fieldref 10 39), (0, .nameAndType 40 26), (0, u "COMPACT_STRINGS"), (1, .class_ 44), (1, u "java/lang/StringUTF16"), (0, u "compress"), (1, .methodref 42 48), (0, .nameAndType 49 50), (0, u "coderFromArrayLen"), (0, u "([BI)B"), (126, .methodref 42 178), (0, .nameAndType 45 179), (0, u "([CII)[B"), (395, .class_ 576), (0, u "java/lang/CharSequence"), (22, u "CASE_INSENSITIVE_ORDER"), (0, u "Ljava/util/Comparator;"), (409, u "([C)V"), (90, u "serialPersistentFields"), (0, u "[Ljava/io/ObjectStreamField;"), (0, .class_ 1104), (0, u "java/lang/String$CaseInsensitiveComparator"), (1, .class_ 1107), (0, u "java/io/Serializable"), (0, .class_ 1109), (0, u "java/lang/Comparable"), (0, .class_ 1111), (0, u "java/lang/constant/Constable"), (0, .class_ 1113), (0, u "java/lang/constant/ConstantDesc"), (2, u "serialVersionUID"), (0, u "J"), (3, u "REPL"), (0, u "C"), (2, u "LATIN1"), (1, u "UTF16")] 323

def k7m0 : Method := { name := "<init>", desc := "()V", sig := { parameters := [], returnType := none }, accessFlags := 1, code := none }
def k7c1 : Code := { maxStack := 5, maxLocals := 2, code := jdk_42_method_3_code, exceptionTable := #[], attributes := #[] }
def k7m1 : Method := { name := "<init>", desc := "([C)V", sig := { parameters := [(.array .char)], returnType := none }, accessFlags := 1, code := some k7c1 }
def k7c2 : Code := { maxStack := 4, maxLocals := 6, code := jdk_42_method_149_code, exceptionTable := #[], attributes := #[] }
def k7m2 : Method := { name := "<init>", desc := "([CIILjava/lang/Void;)V", sig := { parameters := [(.array .char), .int, .int, (.object "java/lang/Void")], returnType := none }, accessFlags := 2, code := some k7c2 }
/-- java/lang/String -/
def k7 : Class := { plain "java/lang/String" (some 0) with
  accessFlags := 49
  interfaces := #[2, 3, 4, 5, 6]
  cf := some (fileOf pool7 10 #[.nestMembers #[1103]] #[{ accessFlags := 1, nameIndex := 5, descriptorIndex := 6, attributes := #[] }, { accessFlags := 1, nameIndex := 5, descriptorIndex := 1010, attributes := #[] }, { accessFlags := 2, nameIndex := 5, descriptorIndex := 29, attributes := #[] }] 49 2 #[1106, 1108, 575, 1110, 1112] #[{ accessFlags := 18, nameIndex := 13, descriptorIndex := 14, attributes := #[] }, { accessFlags := 18, nameIndex := 17, descriptorIndex := 18, attributes := #[] }, { accessFlags := 2, nameIndex := 21, descriptorIndex := 22, attributes := #[] }, { accessFlags := 2, nameIndex := 25, descriptorIndex := 26, attributes := #[] }, { accessFlags := 26, nameIndex := 1116, descriptorIndex := 1117, attributes := #[] }, { accessFlags := 24, nameIndex := 40, descriptorIndex := 26, attributes := #[] }, { accessFlags := 26, nameIndex := 1101, descriptorIndex := 1102, attributes := #[] }, { accessFlags := 26, nameIndex := 1121, descriptorIndex := 1122, attributes := #[] }, { accessFlags := 25, nameIndex := 599, descriptorIndex := 600, attributes := #[] }, { accessFlags := 24, nameIndex := 1125, descriptorIndex := 18, attributes := #[] }, { accessFlags := 24, nameIndex := 1127, descriptorIndex := 18, attributes := #[] }])
  fields := #[{ name := "value", type := (.array .byte), accessFlags := 18, slot := 0, constantValue := 0 }, { name := "coder", type := .byte, accessFlags := 18, slot := 1, constantValue := 0 }, { name := "hash", type := .int, accessFlags := 2, slot := 2, constantValue := 0 }, { name := "hashIsZero", type := .boolean, accessFlags := 2, slot := 3, constantValue := 0 }, { name := "serialVersionUID", type := .long, accessFlags := 26, slot := 0, constantValue := 0 }, { name := "COMPACT_STRINGS", type := .boolean, accessFlags := 24, slot := 1, constantValue := 0 }, { name := "serialPersistentFields", type := (.array (.object "java/io/ObjectStreamField")), accessFlags := 26, slot := 2, constantValue := 0 }, { name := "REPL", type := .char, accessFlags := 26, slot := 3, constantValue := 0 }, { name := "CASE_INSENSITIVE_ORDER", type := (.object "java/util/Comparator"), accessFlags := 25, slot := 4, constantValue := 0 }, { name := "LATIN1", type := .byte, accessFlags := 24, slot := 5, constantValue := 0 }, { name := "UTF16", type := .byte, accessFlags := 24, slot := 6, constantValue := 0 }]
  methods := #[k7m0, k7m1, k7m2]
  instanceTypes := #[(.array .byte), .byte, .int, .boolean]
  staticTypes := #[.long, .boolean, (.array (.object "java/io/ObjectStreamField")), .char, (.object "java/util/Comparator"), .byte, .byte]
  resolved := Array.replicate 1451 none
  statics := some 0 }

def pool8 : Array CpInfo := pool [(6, .class_ 8), (1, u "java/lang/Object"), (0, u "<init>"), (0, u "()V"), (1, .class_ 14), (1, u "java/lang/StringUTF16"), (31, u "$assertionsDisabled"), (0, u "Z"), (13, u "HI_BYTE_SHIFT"), (0, u "I"), (2, u "LO_BYTE_SHIFT"), (49, .methodref 12 116), (0, .nameAndType 117 118), (0, u "compress"), (0, u "([CI[BII)I"), (3, u "([CII)[B"), (138, u "coderFromArrayLen"), (0, u "([BI)B"), (106, .class_ 371), (1, u "java/lang/StringUTF16$LinesSpliterator"), (58, u "MAX_LENGTH"), (196, .class_ 628), (0, u "java/lang/StringUTF16$CodePointsSpliterator"), (0, .class_ 630), (0, u "java/lang/StringUTF16$CharsSpliterator")] 4

def k8m0 : Method := { name := "<init>", desc := "()V", sig := { parameters := [], returnType := none }, accessFlags := 0, code := none }
def k8c1 : Code := { maxStack := 2, maxLocals := 2, code := jdk_52_method_15_code, exceptionTable := #[], attributes := #[] }
def k8m1 : Method := { name := "coderFromArrayLen", desc := "([BI)B", sig := { parameters := [(.array .byte), .int], returnType := some .byte }, accessFlags := 8, code := some k8c1 }
def k8c2 : Code := { maxStack := 5, maxLocals := 6, code := jdk_52_method_16_code, exceptionTable := #[], attributes := #[] }
def k8m2 : Method := { name := "compress", desc := "([CII)[B", sig := { parameters := [(.array .char), .int, .int], returnType := some (.array .byte) }, accessFlags := 9, code := some k8c2 }
def k8c3 : Code := { maxStack := 3, maxLocals := 7, code := jdk_52_method_21_code, exceptionTable := #[], attributes := #[] }
def k8m3 : Method := { name := "compress", desc := "([CI[BII)I", sig := { parameters := [(.array .char), .int, (.array .byte), .int, .int], returnType := some .int }, accessFlags := 9, code := some k8c3 }
/-- java/lang/StringUTF16 -/
def k8 : Class := { plain "java/lang/StringUTF16" (some 0) with
  accessFlags := 48
  interfaces := #[]
  cf := some (fileOf pool8 12 #[.nestMembers #[627, 629, 369]] #[{ accessFlags := 0, nameIndex := 9, descriptorIndex := 10, attributes := #[] }, { accessFlags := 8, nameIndex := 261, descriptorIndex := 262, attributes := #[] }, { accessFlags := 9, nameIndex := 117, descriptorIndex := 122, attributes := #[] }, { accessFlags := 9, nameIndex := 117, descriptorIndex := 118, attributes := #[] }] 48 6 #[] #[{ accessFlags := 26, nameIndex := 61, descriptorIndex := 62, attributes := #[] }, { accessFlags := 26, nameIndex := 65, descriptorIndex := 62, attributes := #[] }, { accessFlags := 24, nameIndex := 430, descriptorIndex := 62, attributes := #[] }, { accessFlags := 4120, nameIndex := 46, descriptorIndex := 47, attributes := #[] }])
  fields := #[{ name := "HI_BYTE_SHIFT", type := .int, accessFlags := 26, slot := 0, constantValue := 0 }, { name := "LO_BYTE_SHIFT", type := .int, accessFlags := 26, slot := 1, constantValue := 0 }, { name := "MAX_LENGTH", type := .int, accessFlags := 24, slot := 2, constantValue := 0 }, { name := "$assertionsDisabled", type := .boolean, accessFlags := 4120, slot := 3, constantValue := 0 }]
  methods := #[k8m0, k8m1, k8m2, k8m3]
  instanceTypes := #[]
  staticTypes := #[.int, .int, .int, .boolean]
  resolved := Array.replicate 635 none
  statics := none }

def pool9 : Array CpInfo := pool [(1, .methodref 2 3), (0, .class_ 4), (0, .nameAndType 5 6), (0, u "java/lang/Object"), (0, u "<init>"), (0, u "()V"), (0, .fieldref 8 9), (0, .class_ 10), (0, .nameAndType 11 12), (0, u "java/lang/Throwable"), (0, u "cause"), (0, u "Ljava/lang/Throwable;"), (0, .fieldref 8 14), (0, .nameAndType 15 16), (0, u "UNASSIGNED_STACK"), (0, u "[Ljava/lang/StackTraceElement;"), (0, .fieldref 8 18), (0, .nameAndType 19 16), (0, u "stackTrace"), (0, .fieldref 8 21), (0, .nameAndType 22 23), (0, u "SUPPRESSED_SENTINEL"), (0, u "Ljava/util/List;"), (0, .fieldref 8 25), (0, .nameAndType 26 23), (0, u "suppressedExceptions"), (0, .methodref 8 28), (0, .nameAndType 29 30), (0, u "fillInStackTrace"), (0, u "()Ljava/lang/Throwable;"), (0, .fieldref 8 32), (0, .nameAndType 33 34), (0, u "detailMessage"), (0, u "Ljava/lang/String;"), (58, .class_ 94), (0, u "java/lang/Throwable$WrappedPrintStream"), (6, .class_ 103), (1, u "java/lang/Throwable$PrintStreamOrWriter"), (61, u "$assertionsDisabled"), (0, u "Z"), (26, .class_ 194), (0, u "java/lang/Throwable$WrappedPrintWriter"), (3, .fieldref 8 199), (0, .nameAndType 200 201), (0, u "backtrace"), (0, u "Ljava/lang/Object;"), (0, .methodref 8 203), (0, .nameAndType 29 204), (0, u "(I)Ljava/lang/Throwable;"), (6, u "depth"), (0, u "I"), (10, u "(Ljava/lang/String;)V"), (45, .class_ 271), (1, u "java/lang/Throwable$SentinelHolder"), (32, u "EMPTY_THROWABLE_ARRAY"), (0, u "[Ljava/lang/Throwable;"), (12, .class_ 319), (0, u "java/io/Serializable"), (0, u "serialVersionUID"), (0, u "J"), (5, u "NULL_CAUSE_MESSAGE"), (0, u "SELF_SUPPRESSION_MESSAGE"), (0, u "CAUSE_CAPTION"), (0, u "SUPPRESSED_CAPTION")] 73

def k9c0 : Code := { maxStack := 2, maxLocals := 1, code := jdk_78_method_1_code, exceptionTable := #[], attributes := #[] }
def k9m0 : Method := { name := "<init>", desc := "()V", sig := { parameters := [], returnType := none }, accessFlags := 1, code := some k9c0 }
def k9c1 : Code := { maxStack := 2, maxLocals := 2, code := jdk_78_method_2_code, exceptionTable := #[], attributes := #[] }
def k9m1 : Method := { name := "<init>", desc := "(Ljava/lang/String;)V", sig := { parameters := [(.object "java/lang/String")], returnType := none }, accessFlags := 1, code := some k9c1 }
def k9c2 : Code := { maxStack := 2, maxLocals := 1, code := ⟨#[0x2a, 0xb4, 0x00, 0x11, 0xc7, 0x00, 0x0a, 0x2a, 0xb4, 0x00, 0xc6, 0xc6, 0x00, 0x10, 0x2a, 0x03, 0xb6, 0x00, 0xca, 0x57, 0x2a, 0xb2, 0x00, 0x0d, 0xb5, 0x00, 0x11, 0x2a, 0xb0]⟩, exceptionTable := #[], attributes := #[] }
def k9m2 : Method := { name := "fillInStackTrace", desc := "()Ljava/lang/Throwable;", sig := { parameters := [], returnType := some (.object "java/lang/Throwable") }, accessFlags := 33, code := some k9c2 }
def k9m3 : Method := { name := "fillInStackTrace", desc := "(I)Ljava/lang/Throwable;", sig := { parameters := [.int], returnType := some (.object "java/lang/Throwable") }, accessFlags := 258, code := none }
/-- java/lang/Throwable -/
def k9 : Class := { plain "java/lang/Throwable" (some 0) with
  accessFlags := 33
  interfaces := #[2]
  cf := some (fileOf pool9 8 #[.nestMembers #[193, 93, 101, 269]] #[{ accessFlags := 1, nameIndex := 5, descriptorIndex := 6, attributes := #[] }, { accessFlags := 1, nameIndex := 5, descriptorIndex := 223, attributes := #[] }, { accessFlags := 33, nameIndex := 29, descriptorIndex := 30, attributes := #[] }, { accessFlags := 258, nameIndex := 29, descriptorIndex := 204, attributes := #[] }] 33 2 #[318] #[{ accessFlags := 26, nameIndex := 320, descriptorIndex := 321, attributes := #[] }, { accessFlags := 130, nameIndex := 200, descriptorIndex := 201, attributes := #[] }, { accessFlags := 2, nameIndex := 33, descriptorIndex := 34, attributes := #[] }, { accessFlags := 26, nameIndex := 15, descriptorIndex := 16, attributes := #[] }, { accessFlags := 2, nameIndex := 11, descriptorIndex := 12, attributes := #[] }, { accessFlags := 2, nameIndex := 19, descriptorIndex := 16, attributes := #[] }, { accessFlags := 130, nameIndex := 211, descriptorIndex := 212, attributes := #[] }, { accessFlags := 26, nameIndex := 22, descriptorIndex := 23, attributes := #[] }, { accessFlags := 2, nameIndex := 26, descriptorIndex := 23, attributes := #[] }, { accessFlags := 26, nameIndex := 327, descriptorIndex := 34, attributes := #[] }, { accessFlags := 26, nameIndex := 328, descriptorIndex := 34, attributes := #[] }, { accessFlags := 26, nameIndex := 329, descriptorIndex := 34, attributes := #[] }, { accessFlags := 26, nameIndex := 330, descriptorIndex := 34, attributes := #[] }, { accessFlags := 26, nameIndex := 304, descriptorIndex := 305, attributes := #[] }, { accessFlags := 4120, nameIndex := 165, descriptorIndex := 166, attributes := #[] }])
  fields := #[{ name := "serialVersionUID", type := .long, accessFlags := 26, slot := 0, constantValue := 0 }, { name := "backtrace", type := (.object "java/lang/Object"), accessFlags := 130, slot := 0, constantValue := 0 }, { name := "detailMessage", type := (.object "java/lang/String"), accessFlags := 2, slot := 1, constantValue := 0 }, { name := "UNASSIGNED_STACK", type := (.array (.object "java/lang/StackTraceElement")), accessFlags := 26, slot := 1, constantValue := 0 }, { name := "cause", type := (.object "java/lang/Throwable"), accessFlags := 2, slot := 2, constantValue := 0 }, { name := "stackTrace", type := (.array (.object "java/lang/StackTraceElement")), accessFlags := 2, slot := 3, constantValue := 0 }, { name := "depth", type := .int, accessFlags := 130, slot := 4, constantValue := 0 }, { name := "SUPPRESSED_SENTINEL", type := (.object "java/util/List"), accessFlags := 26, slot := 2, constantValue := 0 }, { name := "suppressedExceptions", type := (.object "java/util/List"), accessFlags := 2, slot := 5, constantValue := 0 }, { name := "NULL_CAUSE_MESSAGE", type := (.object "java/lang/String"), accessFlags := 26, slot := 3, constantValue := 0 }, { name := "SELF_SUPPRESSION_MESSAGE", type := (.object "java/lang/String"), accessFlags := 26, slot := 4, constantValue := 0 }, { name := "CAUSE_CAPTION", type := (.object "java/lang/String"), accessFlags := 26, slot := 5, constantValue := 0 }, { name := "SUPPRESSED_CAPTION", type := (.object "java/lang/String"), accessFlags := 26, slot := 6, constantValue := 0 }, { name := "EMPTY_THROWABLE_ARRAY", type := (.array (.object "java/lang/Throwable")), accessFlags := 26, slot := 7, constantValue := 0 }, { name := "$assertionsDisabled", type := .boolean, accessFlags := 4120, slot := 8, constantValue := 0 }]
  methods := #[k9m0, k9m1, k9m2, k9m3]
  instanceTypes := #[(.object "java/lang/Object"), (.object "java/lang/String"), (.object "java/lang/Throwable"), (.array (.object "java/lang/StackTraceElement")), .int, (.object "java/util/List")]
  staticTypes := #[.long, (.array (.object "java/lang/StackTraceElement")), (.object "java/util/List"), (.object "java/lang/String"), (.object "java/lang/String"), (.object "java/lang/String"), (.object "java/lang/String"), (.array (.object "java/lang/Throwable")), .boolean]
  resolved := Array.replicate 404 none
  statics := some 1 }

def pool10 : Array CpInfo := pool [(2, .class_ 4), (1, u "java/lang/Throwable"), (0, u "<init>"), (0, u "()V"), (0, .methodref 2 8), (0, .nameAndType 5 9), (0, u "(Ljava/lang/String;)V"), (9, .class_ 20), (0, u "java/lang/Exception"), (0, u "serialVersionUID"), (0, u "J")] 17

def k10m0 : Method := { name := "<init>", desc := "()V", sig := { parameters := [], returnType := none }, accessFlags := 1, code := none }
def k10c1 : Code := { maxStack := 2, maxLocals := 2, code := jdk_59_method_2_code, exceptionTable := #[], attributes := #[] }
def k10m1 : Method := { name := "<init>", desc := "(Ljava/lang/String;)V", sig := { parameters := [(.object "java/lang/String")], returnType := none }, accessFlags := 1, code := some k10c1 }
/-- java/lang/Exception -/
def k10 : Class := { plain "java/lang/Exception" (some 9) with
  accessFlags := 33
  interfaces := #[]
  cf := some (fileOf pool10 19 #[] #[{ accessFlags := 1, nameIndex := 5, descriptorIndex := 6, attributes := #[] }, { accessFlags := 1, nameIndex := 5, descriptorIndex := 9, attributes := #[] }] 33 2 #[] #[{ accessFlags := 24, nameIndex := 21, descriptorIndex := 22, attributes := #[] }])
  fields := #[{ name := "serialVersionUID", type := .long, accessFlags := 24, slot := 0, constantValue := 0 }]
  methods := #[k10m0, k10m1]
  instanceTypes := #[(.object "java/lang/Object"), (.object "java/lang/String"), (.object "java/lang/Throwable"), (.array (.object "java/lang/StackTraceElement")), .int, (.object "java/util/List")]
  staticTypes := #[.long]
  resolved := Array.replicate 40 none
  statics := none }

def pool11 : Array CpInfo := pool [(1, .methodref 2 3), (0, .class_ 4), (0, .nameAndType 5 6), (0, u "java/lang/Exception"), (0, u "<init>"), (0, u "(Ljava/lang/String;)V"), (0, .fieldref 8 9), (0, .class_ 10), (0, .nameAndType 11 12), (0, u "com/example/dogged_dispatch/doggeddispatch/api/ApiException"), (0, u "status"), (0, u "I"), (0, .methodref 8 14), (0, .nameAndType 5 15), (0, u "(ILjava/lang/String;)V"), (0, u "serialVersionUID"), (0, u "J"), (5, u "()I"), (0, u "badRequest"), (0, u "(Ljava/lang/String;)Lcom/example/dogged_dispatch/doggeddispatch/api/ApiException;")] 4

def k11c0 : Code := { maxStack := 2, maxLocals := 3, code := prog_1_method_1_code, exceptionTable := #[], attributes := #[] }
def k11m0 : Method := { name := "<init>", desc := "(ILjava/lang/String;)V", sig := { parameters := [.int, (.object "java/lang/String")], returnType := none }, accessFlags := 1, code := some k11c0 }
def k11c1 : Code := { maxStack := 1, maxLocals := 1, code := prog_1_method_2_code, exceptionTable := #[], attributes := #[] }
def k11m1 : Method := { name := "status", desc := "()I", sig := { parameters := [], returnType := some .int }, accessFlags := 1, code := some k11c1 }
def k11c2 : Code := { maxStack := 4, maxLocals := 1, code := prog_1_method_3_code, exceptionTable := #[], attributes := #[] }
def k11m2 : Method := { name := "badRequest", desc := "(Ljava/lang/String;)Lcom/example/dogged_dispatch/doggeddispatch/api/ApiException;", sig := { parameters := [(.object "java/lang/String")], returnType := some (.object "com/example/dogged_dispatch/doggeddispatch/api/ApiException") }, accessFlags := 8, code := some k11c2 }
/-- com/example/dogged_dispatch/doggeddispatch/api/ApiException -/
def k11 : Class := { plain "com/example/dogged_dispatch/doggeddispatch/api/ApiException" (some 10) with
  accessFlags := 33
  interfaces := #[]
  cf := some (fileOf pool11 8 #[] #[{ accessFlags := 1, nameIndex := 5, descriptorIndex := 15, attributes := #[] }, { accessFlags := 1, nameIndex := 11, descriptorIndex := 23, attributes := #[] }, { accessFlags := 8, nameIndex := 24, descriptorIndex := 25, attributes := #[] }] 33 2 #[] #[{ accessFlags := 26, nameIndex := 16, descriptorIndex := 17, attributes := #[] }, { accessFlags := 18, nameIndex := 11, descriptorIndex := 12, attributes := #[] }])
  fields := #[{ name := "serialVersionUID", type := .long, accessFlags := 26, slot := 0, constantValue := 0 }, { name := "status", type := .int, accessFlags := 18, slot := 6, constantValue := 0 }]
  methods := #[k11m0, k11m1, k11m2]
  instanceTypes := #[(.object "java/lang/Object"), (.object "java/lang/String"), (.object "java/lang/Throwable"), (.array (.object "java/lang/StackTraceElement")), .int, (.object "java/util/List"), .int]
  staticTypes := #[.long]
  resolved := Array.replicate 30 none
  statics := none }

def pool12 : Array CpInfo := pool [(4, .class_ 6), (1, u "java/lang/Object"), (0, u "<init>"), (0, u "()V"), (5, .class_ 16), (1, u "java/lang/StringLatin1"), (104, u "$assertionsDisabled"), (0, u "Z"), (98, .class_ 223), (1, u "java/lang/StringLatin1$LinesSpliterator"), (166, .class_ 391), (0, u "java/lang/StringLatin1$CharsSpliterator")] 3

def k12m0 : Method := { name := "<init>", desc := "()V", sig := { parameters := [], returnType := none }, accessFlags := 0, code := none }
/-- java/lang/StringLatin1 -/
def k12 : Class := { plain "java/lang/StringLatin1" (some 0) with
  accessFlags := 48
  interfaces := #[]
  cf := some (fileOf pool12 14 #[.nestMembers #[390, 221]] #[{ accessFlags := 0, nameIndex := 7, descriptorIndex := 8, attributes := #[] }] 48 4 #[] #[{ accessFlags := 4120, nameIndex := 121, descriptorIndex := 122, attributes := #[] }])
  fields := #[{ name := "$assertionsDisabled", type := .boolean, accessFlags := 4120, slot := 0, constantValue := 0 }]
  methods := #[k12m0]
  instanceTypes := #[]
  staticTypes := #[.boolean]
  resolved := Array.replicate 395 none
  statics := none }

def pool13 : Array CpInfo := pool [(2, .class_ 4), (1, u "java/lang/Object"), (0, u "<init>"), (0, u "()V"), (17, .class_ 26), (1, u "jdk/internal/util/Preconditions"), (28, .class_ 56), (0, u "jdk/internal/util/Preconditions$4"), (57, .class_ 115), (0, u "jdk/internal/util/Preconditions$1"), (7, u "SIOOBE_FORMATTER"), (0, u "Ljava/util/function/BiFunction;"), (0, .class_ 126), (0, u "jdk/internal/util/Preconditions$2"), (3, u "AIOOBE_FORMATTER"), (0, .class_ 132), (0, u "jdk/internal/util/Preconditions$3"), (3, u "IOOBE_FORMATTER")] 57

def k13m0 : Method := { name := "<init>", desc := "()V", sig := { parameters := [], returnType := none }, accessFlags := 1, code := none }
/-- jdk/internal/util/Preconditions -/
def k13 : Class := { plain "jdk/internal/util/Preconditions" (some 0) with
  accessFlags := 33
  interfaces := #[]
  cf := some (fileOf pool13 24 #[.nestMembers #[55, 131, 125, 114]] #[{ accessFlags := 1, nameIndex := 5, descriptorIndex := 6, attributes := #[] }] 33 2 #[] #[{ accessFlags := 25, nameIndex := 123, descriptorIndex := 124, attributes := #[] }, { accessFlags := 25, nameIndex := 130, descriptorIndex := 124, attributes := #[] }, { accessFlags := 25, nameIndex := 136, descriptorIndex := 124, attributes := #[] }])
  fields := #[{ name := "SIOOBE_FORMATTER", type := (.object "java/util/function/BiFunction"), accessFlags := 25, slot := 0, constantValue := 0 }, { name := "AIOOBE_FORMATTER", type := (.object "java/util/function/BiFunction"), accessFlags := 25, slot := 1, constantValue := 0 }, { name := "IOOBE_FORMATTER", type := (.object "java/util/function/BiFunction"), accessFlags := 25, slot := 2, constantValue := 0 }]
  methods := #[k13m0]
  instanceTypes := #[]
  staticTypes := #[(.object "java/util/function/BiFunction"), (.object "java/util/function/BiFunction"), (.object "java/util/function/BiFunction")]
  resolved := Array.replicate 194 none
  statics := some 2 }

def pool14 : Array CpInfo := pool [(9, u "<init>"), (6, .class_ 18), (1, u "java/lang/Object"), (0, u "()V"), (1, .class_ 23), (1, u "jdk/internal/util/ArraysSupport"), (0, u "LOG2_ARRAY_LONG_INDEX_SCALE"), (0, u "I"), (2, u "U"), (0, u "Ljdk/internal/misc/Unsafe;"), (8, u "BIG_ENDIAN"), (0, u "Z"), (8, u "LOG2_BYTE_BIT_SIZE"), (4, u "LOG2_ARRAY_INT_INDEX_SCALE"), (54, u "JLA"), (0, u "Ljdk/internal/access/JavaLangAccess;"), (11, u "LOG2_ARRAY_BOOLEAN_INDEX_SCALE"), (9, u "LOG2_ARRAY_BYTE_INDEX_SCALE"), (5, u "LOG2_ARRAY_CHAR_INDEX_SCALE"), (5, u "LOG2_ARRAY_SHORT_INDEX_SCALE"), (18, u "LOG2_ARRAY_FLOAT_INDEX_SCALE"), (24, u "LOG2_ARRAY_DOUBLE_INDEX_SCALE"), (89, u "T_BOOLEAN"), (2, u "T_CHAR"), (1, u "T_FLOAT"), (1, u "T_DOUBLE"), (1, u "T_BYTE"), (1, u "T_SHORT"), (1, u "T_INT"), (1, u "T_LONG"), (1, u "SOFT_MAX_ARRAY_LENGTH")] 83

def k14m0 : Method := { name := "<init>", desc := "()V", sig := { parameters := [], returnType := none }, accessFlags := 2, code := none }
/-- jdk/internal/util/ArraysSupport -/
def k14 : Class := { plain "jdk/internal/util/ArraysSupport" (some 0) with
  accessFlags := 33
  interfaces := #[]
  cf := some (fileOf pool14 21 #[] #[{ accessFlags := 2, nameIndex := 9, descriptorIndex := 19, attributes := #[] }] 33 16 #[] #[{ accessFlags := 24, nameIndex := 28, descriptorIndex := 29, attributes := #[] }, { accessFlags := 26, nameIndex := 38, descriptorIndex := 39, attributes := #[] }, { accessFlags := 25, nameIndex := 121, descriptorIndex := 25, attributes := #[] }, { accessFlags := 25, nameIndex := 131, descriptorIndex := 25, attributes := #[] }, { accessFlags := 25, nameIndex := 137, descriptorIndex := 25, attributes := #[] }, { accessFlags := 25, nameIndex := 143, descriptorIndex := 25, attributes := #[] }, { accessFlags := 25, nameIndex := 53, descriptorIndex := 25, attributes := #[] }, { accessFlags := 25, nameIndex := 24, descriptorIndex := 25, attributes := #[] }, { accessFlags := 25, nameIndex := 162, descriptorIndex := 25, attributes := #[] }, { accessFlags := 25, nameIndex := 187, descriptorIndex := 25, attributes := #[] }, { accessFlags := 26, nameIndex := 48, descriptorIndex := 25, attributes := #[] }, { accessFlags := 25, nameIndex := 277, descriptorIndex := 25, attributes := #[] }, { accessFlags := 25, nameIndex := 280, descriptorIndex := 25, attributes := #[] }, { accessFlags := 25, nameIndex := 282, descriptorIndex := 25, attributes := #[] }, { accessFlags := 25, nameIndex := 284, descriptorIndex := 25, attributes := #[] }, { accessFlags := 25, nameIndex := 286, descriptorIndex := 25, attributes := #[] }, { accessFlags := 25, nameIndex := 288, descriptorIndex := 25, attributes := #[] }, { accessFlags := 25, nameIndex := 290, descriptorIndex := 25, attributes := #[] }, { accessFlags := 25, nameIndex := 292, descriptorIndex := 25, attributes := #[] }, { accessFlags := 26, nameIndex := 108, descriptorIndex := 109, attributes := #[] }, { accessFlags := 25, nameIndex := 294, descriptorIndex := 25, attributes := #[] }])
  fields := #[{ name := "U", type := (.object "jdk/internal/misc/Unsafe"), accessFlags := 24, slot := 0, constantValue := 0 }, { name := "BIG_ENDIAN", type := .boolean, accessFlags := 26, slot := 1, constantValue := 0 }, { name := "LOG2_ARRAY_BOOLEAN_INDEX_SCALE", type := .int, accessFlags := 25, slot := 2, constantValue := 0 }, { name := "LOG2_ARRAY_BYTE_INDEX_SCALE", type := .int, accessFlags := 25, slot := 3, constantValue := 0 }, { name := "LOG2_ARRAY_CHAR_INDEX_SCALE", type := .int, accessFlags := 25, slot := 4, constantValue := 0 }, { name := "LOG2_ARRAY_SHORT_INDEX_SCALE", type := .int, accessFlags := 25, slot := 5, constantValue := 0 }, { name := "LOG2_ARRAY_INT_INDEX_SCALE", type := .int, accessFlags := 25, slot := 6, constantValue := 0 }, { name := "LOG2_ARRAY_LONG_INDEX_SCALE", type := .int, accessFlags := 25, slot := 7, constantValue := 0 }, { name := "LOG2_ARRAY_FLOAT_INDEX_SCALE", type := .int, accessFlags := 25, slot := 8, constantValue := 0 }, { name := "LOG2_ARRAY_DOUBLE_INDEX_SCALE", type := .int, accessFlags := 25, slot := 9, constantValue := 0 }, { name := "LOG2_BYTE_BIT_SIZE", type := .int, accessFlags := 26, slot := 10, constantValue := 0 }, { name := "T_BOOLEAN", type := .int, accessFlags := 25, slot := 11, constantValue := 0 }, { name := "T_CHAR", type := .int, accessFlags := 25, slot := 12, constantValue := 0 }, { name := "T_FLOAT", type := .int, accessFlags := 25, slot := 13, constantValue := 0 }, { name := "T_DOUBLE", type := .int, accessFlags := 25, slot := 14, constantValue := 0 }, { name := "T_BYTE", type := .int, accessFlags := 25, slot := 15, constantValue := 0 }, { name := "T_SHORT", type := .int, accessFlags := 25, slot := 16, constantValue := 0 }, { name := "T_INT", type := .int, accessFlags := 25, slot := 17, constantValue := 0 }, { name := "T_LONG", type := .int, accessFlags := 25, slot := 18, constantValue := 0 }, { name := "JLA", type := (.object "jdk/internal/access/JavaLangAccess"), accessFlags := 26, slot := 19, constantValue := 0 }, { name := "SOFT_MAX_ARRAY_LENGTH", type := .int, accessFlags := 25, slot := 20, constantValue := 0 }]
  methods := #[k14m0]
  instanceTypes := #[]
  staticTypes := #[(.object "jdk/internal/misc/Unsafe"), .boolean, .int, .int, .int, .int, .int, .int, .int, .int, .int, .int, .int, .int, .int, .int, .int, .int, .int, (.object "jdk/internal/access/JavaLangAccess"), .int]
  resolved := Array.replicate 378 none
  statics := none }

def pool15 : Array CpInfo := pool [(2, .class_ 4), (1, u "java/lang/Object"), (0, u "<init>"), (0, u "()V"), (12, .class_ 20), (0, u "java/util/Collections"), (63, u "r"), (0, u "Ljava/util/Random;"), (80, .class_ 167), (0, u "java/util/Collections$UnmodifiableCollection"), (6, .class_ 175), (0, u "java/util/Collections$UnmodifiableSequencedCollection"), (6, .class_ 183), (0, u "java/util/Collections$UnmodifiableSet"), (6, .class_ 191), (0, u "java/util/Collections$UnmodifiableSequencedSet"), (6, .class_ 199), (0, u "java/util/Collections$UnmodifiableSortedSet"), (6, .class_ 207), (0, u "java/util/Collections$UnmodifiableNavigableSet"), (4, .class_ 213), (0, u "java/util/Collections$UnmodifiableList"), (1, .class_ 216), (0, u "java/util/Collections$UnmodifiableRandomAccessList"), (6, .class_ 224), (0, u "java/util/Collections$UnmodifiableMap"), (6, .class_ 232), (0, u "java/util/Collections$UnmodifiableSequencedMap"), (4, .class_ 238), (0, u "java/util/Collections$UnmodifiableSortedMap"), (6, .class_ 246), (0, u "java/util/Collections$UnmodifiableNavigableMap"), (3, .class_ 251), (0, u "java/util/Collections$SynchronizedCollection"), (4, .class_ 257), (0, u "java/util/Collections$SynchronizedSet"), (4, .class_ 263), (0, u "java/util/Collections$SynchronizedSortedSet"), (1, .class_ 266), (0, u "java/util/Collections$SynchronizedNavigableSet"), (1, .class_ 269), (0, u "java/util/Collections$SynchronizedRandomAccessList"), (1, .class_ 272), (0, u "java/util/Collections$SynchronizedList"), (5, .class_ 279), (0, u "java/util/Collections$SynchronizedMap"), (1, .class_ 282), (0, u "java/util/Collections$SynchronizedSortedMap"), (1, .class_ 285), (0, u "java/util/Collections$SynchronizedNavigableMap"), (1, .class_ 288), (0, u "java/util/Collections$CheckedCollection"), (11, .class_ 301), (0, u "java/util/Collections$CheckedQueue"), (3, .class_ 306), (0, u "java/util/Collections$CheckedSet"), (3, .class_ 311), (0, u "java/util/Collections$CheckedSortedSet"), (3, .class_ 316), (0, u "java/util/Collections$CheckedNavigableSet"), (3, .class_ 321), (0, u "java/util/Collections$CheckedRandomAccessList"), (3, .class_ 326), (0, u "java/util/Collections$CheckedList"), (1, .class_ 329), (0, u "java/util/Collections$CheckedMap"), (3, .class_ 334), (0, u "java/util/Collections$CheckedSortedMap"), (3, .class_ 339), (0, u "java/util/Collections$CheckedNavigableMap"), (4, .class_ 346), (1, u "java/util/Collections$EmptyIterator"), (3, .class_ 352), (1, u "java/util/Collections$EmptyListIterator"), (2, .class_ 357), (1, u "java/util/Collections$EmptyEnumeration"), (4, u "EMPTY_SET"), (0, u "Ljava/util/Set;"), (6, u "EMPTY_LIST"), (0, u "Ljava/util/List;"), (2, u "EMPTY_MAP"), (0, u "Ljava/util/Map;"), (4, .class_ 381), (0, u "java/util/Collections$SingletonSet"), (2, .class_ 385), (0, u "java/util/Collections$1"), (1, .class_ 388), (0, u "java/util/Collections$2"), (1, .class_ 391), (0, u "java/util/Collections$SingletonList"), (1, .class_ 394), (0, u "java/util/Collections$SingletonMap"), (22, .class_ 418), (0, u "java/util/Collections$CopiesList"), (4, .class_ 425), (1, u "java/util/Collections$ReverseComparator"), (8, .class_ 435), (0, u "java/util/Collections$ReverseComparator2"), (6, .class_ 443), (0, u "java/util/Collections$3"), (25, .class_ 470), (0, u "java/util/Collections$SetFromMap"), (2, .class_ 474), (0, u "java/util/Collections$SequencedSetFromMap"), (3, .class_ 479), (0, u "java/util/Collections$AsLIFOQueue"), (11, .class_ 492), (0, u "java/util/Collections$EmptySet"), (1, .class_ 495), (0, u "java/util/Collections$EmptyList"), (1, .class_ 498), (0, u "java/util/Collections$EmptyMap"), (1, u "BINARYSEARCH_THRESHOLD"), (0, u "I"), (2, u "REVERSE_THRESHOLD"), (1, u "SHUFFLE_THRESHOLD"), (1, u "FILL_THRESHOLD"), (1, u "ROTATE_THRESHOLD"), (1, u "COPY_THRESHOLD"), (1, u "REPLACEALL_THRESHOLD"), (1, u "INDEXOFSUBLIST_THRESHOLD"), (333, .class_ 851), (0, u "java/util/Collections$CheckedMap$CheckedEntrySet"), (0, .class_ 853), (0, u "java/util/Collections$CheckedMap$CheckedEntrySet$CheckedEntry"), (0, .class_ 855), (0, u "java/util/Collections$CheckedMap$CheckedEntrySet$1"), (0, .class_ 857), (0, u "java/util/Collections$CheckedList$1"), (0, .class_ 859), (0, u "java/util/Collections$CheckedCollection$1"), (0, .class_ 861), (0, u "java/util/Collections$UnmodifiableNavigableMap$EmptyNavigableMap"), (0, .class_ 863), (0, u "java/util/Collections$UnmodifiableMap$UnmodifiableEntrySet"), (0, .class_ 865), (0, u "java/util/Collections$UnmodifiableMap$UnmodifiableEntrySet$UnmodifiableEntry"), (0, .class_ 867), (0, u "java/util/Collections$UnmodifiableMap$UnmodifiableEntrySet$UnmodifiableEntrySetSpliterator"), (0, .class_ 869), (0, u "java/util/Collections$UnmodifiableMap$UnmodifiableEntrySet$1"), (0, .class_ 871), (0, u "java/util/Collections$UnmodifiableList$1"), (0, .class_ 873), (0, u "java/util/Collections$UnmodifiableNavigableSet$EmptyNavigableSet"), (0, .class_ 875), (0, u "java/util/Collections$UnmodifiableCollection$1")] 57

def k15m0 : Method := { name := "<init>", desc := "()V", sig := { parameters := [], returnType := none }, accessFlags := 2, code := none }
/-- java/util/Collections -/
def k15 : Class := { plain "java/util/Collections" (some 0) with
  accessFlags := 33
  interfaces := #[]
  cf := some (fileOf pool15 19 #[.nestMembers #[478, 473, 469, 434, 423, 417, 393, 390, 380, 497, 494, 491, 355, 350, 344, 338, 333, 328, 850, 852, 854, 320, 325, 856, 315, 310, 305, 300, 287, 858, 284, 281, 278, 268, 271, 265, 262, 256, 250, 245, 860, 237, 231, 223, 862, 864, 866, 868, 215, 212, 870, 206, 872, 198, 190, 182, 174, 166, 874, 442, 387, 384]] #[{ accessFlags := 2, nameIndex := 5, descriptorIndex := 6, attributes := #[] }] 33 2 #[] #[{ accessFlags := 26, nameIndex := 500, descriptorIndex := 501, attributes := #[] }, { accessFlags := 26, nameIndex := 504, descriptorIndex := 501, attributes := #[] }, { accessFlags := 26, nameIndex := 506, descriptorIndex := 501, attributes := #[] }, { accessFlags := 26, nameIndex := 508, descriptorIndex := 501, attributes := #[] }, { accessFlags := 26, nameIndex := 510, descriptorIndex := 501, attributes := #[] }, { accessFlags := 26, nameIndex := 512, descriptorIndex := 501, attributes := #[] }, { accessFlags := 26, nameIndex := 514, descriptorIndex := 501, attributes := #[] }, { accessFlags := 26, nameIndex := 516, descriptorIndex := 501, attributes := #[] }, { accessFlags := 10, nameIndex := 84, descriptorIndex := 85, attributes := #[] }, { accessFlags := 25, nameIndex := 362, descriptorIndex := 363, attributes := #[] }, { accessFlags := 25, nameIndex := 370, descriptorIndex := 371, attributes := #[] }, { accessFlags := 25, nameIndex := 374, descriptorIndex := 375, attributes := #[] }])
  fields := #[{ name := "BINARYSEARCH_THRESHOLD", type := .int, accessFlags := 26, slot := 0, constantValue := 0 }, { name := "REVERSE_THRESHOLD", type := .int, accessFlags := 26, slot := 1, constantValue := 0 }, { name := "SHUFFLE_THRESHOLD", type := .int, accessFlags := 26, slot := 2, constantValue := 0 }, { name := "FILL_THRESHOLD", type := .int, accessFlags := 26, slot := 3, constantValue := 0 }, { name := "ROTATE_THRESHOLD", type := .int, accessFlags := 26, slot := 4, constantValue := 0 }, { name := "COPY_THRESHOLD", type := .int, accessFlags := 26, slot := 5, constantValue := 0 }, { name := "REPLACEALL_THRESHOLD", type := .int, accessFlags := 26, slot := 6, constantValue := 0 }, { name := "INDEXOFSUBLIST_THRESHOLD", type := .int, accessFlags := 26, slot := 7, constantValue := 0 }, { name := "r", type := (.object "java/util/Random"), accessFlags := 10, slot := 8, constantValue := 0 }, { name := "EMPTY_SET", type := (.object "java/util/Set"), accessFlags := 25, slot := 9, constantValue := 0 }, { name := "EMPTY_LIST", type := (.object "java/util/List"), accessFlags := 25, slot := 10, constantValue := 0 }, { name := "EMPTY_MAP", type := (.object "java/util/Map"), accessFlags := 25, slot := 11, constantValue := 0 }]
  methods := #[k15m0]
  instanceTypes := #[]
  staticTypes := #[.int, .int, .int, .int, .int, .int, .int, .int, (.object "java/util/Random"), (.object "java/util/Set"), (.object "java/util/List"), (.object "java/util/Map")]
  resolved := Array.replicate 933 none
  statics := some 3 }

def pool16 : Array CpInfo := pool [(8, .class_ 10), (1, u "java/lang/Iterable"), (24, .class_ 36), (0, u "java/lang/Object")] 25

/-- java/lang/Iterable -/
def k16 : Class := { plain "java/lang/Iterable" (some 0) with
  accessFlags := 1537
  interfaces := #[]
  cf := some (fileOf pool16 8 #[] #[] 1537 35 #[] #[])
  fields := #[]
  methods := #[]
  instanceTypes := #[]
  staticTypes := #[]
  resolved := Array.replicate 62 none
  statics := none }

def pool17 : Array CpInfo := pool [(10, .class_ 12), (1, u "java/util/Collection"), (47, .class_ 61), (0, u "java/lang/Object"), (0, .class_ 63), (0, u "java/lang/Iterable")] 51

/-- java/util/Collection -/
def k17 : Class := { plain "java/util/Collection" (some 0) with
  accessFlags := 1537
  interfaces := #[16]
  cf := some (fileOf pool17 10 #[] #[] 1537 60 #[62] #[])
  fields := #[]
  methods := #[]
  instanceTypes := #[]
  staticTypes := #[]
  resolved := Array.replicate 115 none
  statics := none }

def pool18 : Array CpInfo := pool [(2, .class_ 4), (1, u "java/lang/Object"), (0, u "<init>"), (0, u "()V"), (1, .class_ 10), (1, u "java/util/AbstractCollection"), (66, .class_ 78), (0, u "java/util/Collection")] 81

def k18m0 : Method := { name := "<init>", desc := "()V", sig := { parameters := [], returnType := none }, accessFlags := 4, code := none }
/-- java/util/AbstractCollection -/
def k18 : Class := { plain "java/util/AbstractCollection" (some 0) with
  accessFlags := 1057
  interfaces := #[17]
  cf := some (fileOf pool18 8 #[] #[{ accessFlags := 4, nameIndex := 5, descriptorIndex := 6, attributes := #[] }] 1057 2 #[77] #[])
  fields := #[]
  methods := #[k18m0]
  instanceTypes := #[]
  staticTypes := #[]
  resolved := Array.replicate 160 none
  statics := none }

def pool19 : Array CpInfo := pool [(8, .class_ 10), (1, u "java/util/SequencedCollection"), (15, .class_ 27), (0, u "java/lang/Object"), (0, .class_ 29), (0, u "java/util/Collection")] 27

/-- java/util/SequencedCollection -/
def k19 : Class := { plain "java/util/SequencedCollection" (some 0) with
  accessFlags := 1537
  interfaces := #[17]
  cf := some (fileOf pool19 8 #[] #[] 1537 26 #[28] #[])
  fields := #[]
  methods := #[]
  instanceTypes := #[]
  staticTypes := #[]
  resolved := Array.replicate 57 none
  statics := none }

def pool20 : Array CpInfo := pool [(8, .class_ 10), (1, u "java/util/List"), (92, .class_ 104), (0, u "java/lang/Object"), (15, .class_ 121), (0, u "java/util/SequencedCollection")] 129

/-- java/util/List -/
def k20 : Class := { plain "java/util/List" (some 0) with
  accessFlags := 1537
  interfaces := #[19]
  cf := some (fileOf pool20 8 #[] #[] 1537 103 #[120] #[])
  fields := #[]
  methods := #[]
  instanceTypes := #[]
  staticTypes := #[]
  resolved := Array.replicate 251 none
  statics := none }

def pool21 : Array CpInfo := pool [(2, .class_ 4), (1, u "java/util/AbstractCollection"), (0, u "<init>"), (0, u "()V"), (1, .class_ 10), (1, u "java/util/AbstractList"), (0, u "modCount"), (0, u "I"), (64, .class_ 78), (0, u "java/util/AbstractList$Itr"), (3, .class_ 83), (0, u "java/util/AbstractList$ListItr"), (9, .class_ 94), (0, u "java/util/AbstractList$RandomAccessSubList"), (3, .class_ 99), (0, u "java/util/AbstractList$SubList"), (33, .class_ 134), (0, u "java/util/List"), (73, .class_ 209), (0, u "java/util/AbstractList$SubList$1"), (0, .class_ 211), (0, u "java/util/AbstractList$RandomAccessSpliterator")] 6

def k21m0 : Method := { name := "<init>", desc := "()V", sig := { parameters := [], returnType := none }, accessFlags := 4, code := none }
/-- java/util/AbstractList -/
def k21 : Class := { plain "java/util/AbstractList" (some 18) with
  accessFlags := 1057
  interfaces := #[20]
  cf := some (fileOf pool21 8 #[.nestMembers #[93, 98, 208, 210, 82, 77]] #[{ accessFlags := 4, nameIndex := 5, descriptorIndex := 6, attributes := #[] }] 1057 2 #[133] #[{ accessFlags := 132, nameIndex := 11, descriptorIndex := 12, attributes := #[] }])
  fields := #[{ name := "modCount", type := .int, accessFlags := 132, slot := 0, constantValue := 0 }]
  methods := #[k21m0]
  instanceTypes := #[.int]
  staticTypes := #[]
  resolved := Array.replicate 218 none
  statics := none }

def pool22 : Array CpInfo := pool [(1, .class_ 2), (0, u "java/util/RandomAccess"), (0, .class_ 4), (0, u "java/lang/Object")] 2

/-- java/util/RandomAccess -/
def k22 : Class := { plain "java/util/RandomAccess" (some 0) with
  accessFlags := 1537
  interfaces := #[]
  cf := some (fileOf pool22 1 #[] #[] 1537 3 #[] #[])
  fields := #[]
  methods := #[]
  instanceTypes := #[]
  staticTypes := #[]
  resolved := Array.replicate 7 none
  statics := none }

def pool23 : Array CpInfo := pool [(2, .class_ 4), (1, u "java/util/AbstractList"), (0, u "<init>"), (0, u "()V"), (1, .class_ 10), (1, u "java/util/Collections"), (54, .class_ 66), (0, u "java/util/Collections$EmptyList"), (0, .class_ 68), (0, u "java/util/RandomAccess"), (0, .class_ 70), (0, u "java/io/Serializable"), (0, u "serialVersionUID"), (0, u "J")] 77

def k23m0 : Method := { name := "<init>", desc := "()V", sig := { parameters := [], returnType := none }, accessFlags := 2, code := none }
/-- java/util/Collections$EmptyList -/
def k23 : Class := { plain "java/util/Collections$EmptyList" (some 21) with
  accessFlags := 32
  interfaces := #[22, 2]
  cf := some (fileOf pool23 65 #[.nestHost 8] #[{ accessFlags := 2, nameIndex := 5, descriptorIndex := 6, attributes := #[] }] 32 2 #[67, 69] #[{ accessFlags := 26, nameIndex := 71, descriptorIndex := 72, attributes := #[] }])
  fields := #[{ name := "serialVersionUID", type := .long, accessFlags := 26, slot := 0, constantValue := 0 }]
  methods := #[k23m0]
  instanceTypes := #[.int]
  staticTypes := #[.long]
  resolved := Array.replicate 150 none
  statics := none }

def pool24 : Array CpInfo := pool [(2, .class_ 4), (1, u "java/lang/StackTraceElement"), (0, u "<init>"), (2, .class_ 10), (1, u "java/lang/Object"), (0, u "()V"), (2, u "format"), (0, u "B"), (2, u "classLoaderName"), (0, u "Ljava/lang/String;"), (2, u "moduleName"), (2, u "moduleVersion"), (12, u "declaringClass"), (4, u "methodName"), (2, u "fileName"), (2, u "lineNumber"), (0, u "I"), (65, u "declaringClassObject"), (0, u "Ljava/lang/Class;"), (33, .class_ 153), (1, u "java/lang/StackTraceElement$HashedModules"), (17, .class_ 172), (0, u "java/io/Serializable"), (0, u "NATIVE_METHOD"), (1, u "UNKNOWN_SOURCE"), (2, u "BUILTIN_CLASS_LOADER"), (1, u "JDK_NON_UPGRADEABLE_MODULE"), (1, u "serialVersionUID"), (0, u "J")] 51

def k24m0 : Method := { name := "<init>", desc := "()V", sig := { parameters := [], returnType := none }, accessFlags := 2, code := none }
/-- java/lang/StackTraceElement -/
def k24 : Class := { plain "java/lang/StackTraceElement" (some 0) with
  accessFlags := 49
  interfaces := #[2]
  cf := some (fileOf pool24 2 #[.nestMembers #[151]] #[{ accessFlags := 2, nameIndex := 5, descriptorIndex := 11, attributes := #[] }] 49 8 #[171] #[{ accessFlags := 26, nameIndex := 173, descriptorIndex := 19, attributes := #[] }, { accessFlags := 26, nameIndex := 175, descriptorIndex := 19, attributes := #[] }, { accessFlags := 130, nameIndex := 116, descriptorIndex := 117, attributes := #[] }, { accessFlags := 2, nameIndex := 18, descriptorIndex := 19, attributes := #[] }, { accessFlags := 2, nameIndex := 22, descriptorIndex := 19, attributes := #[] }, { accessFlags := 2, nameIndex := 25, descriptorIndex := 19, attributes := #[] }, { accessFlags := 2, nameIndex := 38, descriptorIndex := 19, attributes := #[] }, { accessFlags := 2, nameIndex := 43, descriptorIndex := 19, attributes := #[] }, { accessFlags := 2, nameIndex := 46, descriptorIndex := 19, attributes := #[] }, { accessFlags := 2, nameIndex := 49, descriptorIndex := 50, attributes := #[] }, { accessFlags := 2, nameIndex := 14, descriptorIndex := 15, attributes := #[] }, { accessFlags := 26, nameIndex := 178, descriptorIndex := 15, attributes := #[] }, { accessFlags := 26, nameIndex := 180, descriptorIndex := 15, attributes := #[] }, { accessFlags := 26, nameIndex := 182, descriptorIndex := 183, attributes := #[] }])
  fields := #[{ name := "NATIVE_METHOD", type := (.object "java/lang/String"), accessFlags := 26, slot := 0, constantValue := 0 }, { name := "UNKNOWN_SOURCE", type := (.object "java/lang/String"), accessFlags := 26, slot := 1, constantValue := 0 }, { name := "declaringClassObject", type := (.object "java/lang/Class"), accessFlags := 130, slot := 0, constantValue := 0 }, { name := "classLoaderName", type := (.object "java/lang/String"), accessFlags := 2, slot := 1, constantValue := 0 }, { name := "moduleName", type := (.object "java/lang/String"), accessFlags := 2, slot := 2, constantValue := 0 }, { name := "moduleVersion", type := (.object "java/lang/String"), accessFlags := 2, slot := 3, constantValue := 0 }, { name := "declaringClass", type := (.object "java/lang/String"), accessFlags := 2, slot := 4, constantValue := 0 }, { name := "methodName", type := (.object "java/lang/String"), accessFlags := 2, slot := 5, constantValue := 0 }, { name := "fileName", type := (.object "java/lang/String"), accessFlags := 2, slot := 6, constantValue := 0 }, { name := "lineNumber", type := .int, accessFlags := 2, slot := 7, constantValue := 0 }, { name := "format", type := .byte, accessFlags := 2, slot := 8, constantValue := 0 }, { name := "BUILTIN_CLASS_LOADER", type := .byte, accessFlags := 26, slot := 2, constantValue := 0 }, { name := "JDK_NON_UPGRADEABLE_MODULE", type := .byte, accessFlags := 26, slot := 3, constantValue := 0 }, { name := "serialVersionUID", type := .long, accessFlags := 26, slot := 4, constantValue := 0 }]
  methods := #[k24m0]
  instanceTypes := #[(.object "java/lang/Class"), (.object "java/lang/String"), (.object "java/lang/String"), (.object "java/lang/String"), (.object "java/lang/String"), (.object "java/lang/String"), (.object "java/lang/String"), .int, .byte]
  staticTypes := #[(.object "java/lang/String"), (.object "java/lang/String"), .byte, .byte, .long]
  resolved := Array.replicate 235 none
  statics := none }

def pool25 : Array CpInfo := pool [(1, u "java/lang/Cloneable"), (0, .class_ 1), (0, u "java/lang/Object"), (0, .class_ 3)] 3

/-- java/lang/Cloneable -/
def k25 : Class := { plain "java/lang/Cloneable" (some 0) with
  accessFlags := 1537
  interfaces := #[]
  cf := some (fileOf pool25 2 #[] #[] 1537 4 #[] #[])
  fields := #[]
  methods := #[]
  instanceTypes := #[]
  staticTypes := #[]
  resolved := Array.replicate 8 none
  statics := none }

/-- the primitive byte -/
def k26 : Class := { plain "byte" none with kind := .primitive 'B', accessFlags := 0x411 }
/-- [B -/
def k27 : Class := { plain "[B" (some 0) with kind := .array 26 .byte, interfaces := #[25, 2], accessFlags := 1041 }

/-- the primitive char -/
def k28 : Class := { plain "char" none with kind := .primitive 'C', accessFlags := 0x411 }
/-- [C -/
def k29 : Class := { plain "[C" (some 0) with kind := .array 28 .char, interfaces := #[25, 2], accessFlags := 1041 }

/-- [Ljava/lang/Object; -/
def k30 : Class := { plain "[Ljava/lang/Object;" (some 0) with kind := .array 0 (.object "java/lang/Object"), interfaces := #[25, 2], accessFlags := 1041 }

/-- [Ljava/lang/StackTraceElement; -/
def k31 : Class := { plain "[Ljava/lang/StackTraceElement;" (some 0) with kind := .array 24 (.object "java/lang/StackTraceElement"), interfaces := #[25, 2], accessFlags := 1041 }

/-- [Ljava/lang/Throwable; -/
def k32 : Class := { plain "[Ljava/lang/Throwable;" (some 0) with kind := .array 9 (.object "java/lang/Throwable"), interfaces := #[25, 2], accessFlags := 1041 }

def heap : Heap := #[{ cls := 7, slots := #[.long 0, .int 1, .null, .int 0, .null, .int 0, .int 0], vm := .statics 7 },
  { cls := 9, slots := #[.long 0, .ref 4, .ref 5, .null, .null, .null, .null, .ref 6, .int 1], vm := .statics 9 },
  { cls := 13, slots := #[.null, .null, .null], vm := .statics 13 },
  { cls := 15, slots := #[.int 0, .int 0, .int 0, .int 0, .int 0, .int 0, .int 0, .int 0, .null, .null, .ref 5, .null], vm := .statics 15 },
  { cls := 31, slots := #[], vm := .none },
  { cls := 23, slots := #[.int 0], vm := .none },
  { cls := 32, slots := #[], vm := .none }]
def classes : Array Class := #[k0, k1, k2, k3, k4, k5, k6, k7, k8, k9, k10, k11, k12, k13, k14, k15, k16, k17, k18, k19, k20, k21, k22, k23, k24, k25, k26, k27, k28, k29, k30, k31, k32]
def interned : List (Array UInt16 × Addr) := []
def slotsUsed : Nat := 32
def theMethod : MethodId := ⟨1, 1⟩
def args0 : Array Value := #[.int 5, .int 6, .int 65, .int 2]
def aboutOver (below : List Frame) : State where
  vm := { classes := classes, interned := interned.toArray }
  heap := heap
  slotsUsed := slotsUsed
  threads := #[{ frames := .invoking theMethod args0 :: below }]
def below0 : List Frame := [.native { method := ⟨0, 0⟩, args := #[] }]
def about1 : State := aboutOver below0
def p0 : Program := .bare "" "" ""
def e0 : Env := launch0.env 0 0 0
theorem w_frames : about1.frames = Frame.invoking theMethod args0 :: below0 := rfl
set_option maxRecDepth 65536 in
theorem w_args : argsFit about1.vm theMethod args0 = true := by decide +kernel
set_option maxRecDepth 65536 in
theorem w_heap : heapFits about1 = true := by decide +kernel
set_option maxRecDepth 65536 in
theorem w_runnable : about1.curStatus? = some .runnable := by decide +kernel
set_option maxRecDepth 65536 in
theorem w_alone : about1.alone = true := by decide +kernel
set_option maxRecDepth 65536 in
theorem w_named : about1.methodNamed? x = some theMethod := by decide +kernel
set_option maxRecDepth 65536 in
theorem w_hears : about1.hears theMethod below0 = true := by decide +kernel
set_option maxRecDepth 65536 in
theorem w_ripe : about1.ripe theMethod args0 below0 = true := by decide +kernel
theorem w_running : about1.status = .running := rfl
set_option maxRecDepth 65536 in
theorem w_room : about1.hasRoom e0.platform room_1 = true :=
  launch0.hasRoom_least _ room_1 (by decide +kernel) (by decide +kernel) (by decide +kernel) (by decide +kernel) (by decide +kernel) (by decide +kernel)
theorem allAtoms_all (ts : List Jvm.Cond) (a : Array Jvm.Value) (st : Jvm.State) : (allAtoms ts).before a st = ts.all (fun c => c.before a st) := by
  induction ts with
  | nil => rfl
  | cons c t ih =>
    show (Jvm.Cond.and c (allAtoms t)).before a st = _
    rw [Jvm.Cond.before_and, ih, List.all_cons]
def words1 : List Jvm.Cond := Jvm.Cond.code x code maxLocals ret :: tables_1
/-- a 'code' word, met by the world's own term for the bytes: nothing is compared byte by byte -/
theorem code_word {y : MethodName} {bytes : ByteArray} {mx : Nat} {rt : Option FieldType} {a : Array Value} {s : State} {m : MethodId} {meth : Method} {c : Code} (h1 : s.methodNamed? y = some m) (h2 : s.vm.method? m = some meth) (h3 : meth.code = some c) (h4 : c.code = bytes)
    (h5 : (c.maxLocals == mx && c.exceptionTable.isEmpty && decide (c.maxStack ≤ mostOperands) && decide (meth.sig.returnType = rt) && !meth.locks && decide (parseMethodDescriptor y.desc = some meth.sig)) = true) : (Jvm.Cond.code y bytes mx rt).before a s = true := by
  simp only [Bool.and_eq_true, beq_iff_eq, Bool.not_eq_true', decide_eq_true_eq] at h5
  obtain ⟨⟨⟨⟨⟨g1, g2⟩, g3⟩, g4⟩, g5⟩, g6⟩ := h5
  simp [Cond.before, Cond.holds, Cond.value, h1, h2, h3, h4, g1, g2, g3, g4, g5, g6]
def isCode : Jvm.Cond → Bool
  | .code _ _ _ _ => true
  | _ => false
theorem all_split {L : List Jvm.Cond} {P : Jvm.Cond → Bool} (h1 : L.all (fun c => isCode c || P c) = true) (h2 : ∀ c ∈ L.filter isCode, P c = true) : L.all P = true := by
  refine List.all_eq_true.mpr fun c hc => ?_
  have h := List.all_eq_true.mp h1 c hc
  rcases Bool.eq_false_or_eq_true (isCode c) with hi | hi
  · exact h2 c (List.mem_filter.mpr ⟨hc, hi⟩)
  · simpa [hi] using h
set_option maxRecDepth 65536 in
theorem w_c0 : (Jvm.Cond.code x code maxLocals ret).before args0 about1 = true := code_word (m := ⟨1, 1⟩) (meth := k1m1) (c := k1c1) (by decide +kernel) rfl rfl rfl (by decide +kernel)
set_option maxRecDepth 65536 in
theorem w_c1 : (Jvm.Cond.code ({ cls := "java/lang/String", name := "<init>", desc := "([C)V" } : Jvm.MethodName) jdk_42_method_3_code (2 : Nat) (Option.none : Option Jvm.ClassFile.FieldType)).before args0 about1 = true := code_word (m := ⟨7, 1⟩) (meth := k7m1) (c := k7c1) (by decide +kernel) rfl rfl rfl (by decide +kernel)
set_option maxRecDepth 65536 in
theorem w_c2 : (Jvm.Cond.code ({ cls := "java/lang/String", name := "<init>", desc := "([CIILjava/lang/Void;)V" } : Jvm.MethodName) jdk_42_method_149_code (6 : Nat) (Option.none : Option Jvm.ClassFile.FieldType)).before args0 about1 = true := code_word (m := ⟨7, 2⟩) (meth := k7m2) (c := k7c2) (by decide +kernel) rfl rfl rfl (by decide +kernel)
set_option maxRecDepth 65536 in
theorem w_c3 : (Jvm.Cond.code ({ cls := "java/lang/Object", name := "<init>", desc := "()V" } : Jvm.MethodName) object_method_1_code (1 : Nat) (Option.none : Option Jvm.ClassFile.FieldType)).before args0 about1 = true := code_word (m := ⟨0, 0⟩) (meth := k0m0) (c := k0c0) (by decide +kernel) rfl rfl rfl (by decide +kernel)
set_option maxRecDepth 65536 in
theorem w_c4 : (Jvm.Cond.code ({ cls := "java/lang/StringUTF16", name := "compress", desc := "([CII)[B" } : Jvm.MethodName) jdk_52_method_16_code (6 : Nat) (Option.some (Jvm.ClassFile.FieldType.array Jvm.ClassFile.FieldType.byte))).before args0 about1 = true := code_word (m := ⟨8, 2⟩) (meth := k8m2) (c := k8c2) (by decide +kernel) rfl rfl rfl (by decide +kernel)
set_option maxRecDepth 65536 in
theorem w_c5 : (Jvm.Cond.code ({ cls := "java/lang/StringUTF16", name := "compress", desc := "([CI[BII)I" } : Jvm.MethodName) jdk_52_method_21_code (7 : Nat) (Option.some Jvm.ClassFile.FieldType.int)).before args0 about1 = true := code_word (m := ⟨8, 3⟩) (meth := k8m3) (c := k8c3) (by decide +kernel) rfl rfl rfl (by decide +kernel)
set_option maxRecDepth 65536 in
theorem w_c6 : (Jvm.Cond.code ({ cls := "java/lang/StringUTF16", name := "coderFromArrayLen", desc := "([BI)B" } : Jvm.MethodName) jdk_52_method_15_code (2 : Nat) (Option.some Jvm.ClassFile.FieldType.byte)).before args0 about1 = true := code_word (m := ⟨8, 1⟩) (meth := k8m1) (c := k8c1) (by decide +kernel) rfl rfl rfl (by decide +kernel)
set_option maxRecDepth 65536 in
theorem w_c7 : (Jvm.Cond.code ({ cls := "com/example/dogged_dispatch/doggeddispatch/api/ApiException", name := "badRequest", desc := "(Ljava/lang/String;)Lcom/example/dogged_dispatch/doggeddispatch/api/ApiException;" } : Jvm.MethodName) prog_1_method_3_code (1 : Nat) (Option.some (Jvm.ClassFile.FieldType.object "com/example/dogged_dispatch/doggeddispatch/api/ApiException"))).before args0 about1 = true := code_word (m := ⟨11, 2⟩) (meth := k11m2) (c := k11c2) (by decide +kernel) rfl rfl rfl (by decide +kernel)
set_option maxRecDepth 65536 in
theorem w_c8 : (Jvm.Cond.code ({ cls := "com/example/dogged_dispatch/doggeddispatch/api/ApiException", name := "<init>", desc := "(ILjava/lang/String;)V" } : Jvm.MethodName) prog_1_method_1_code (3 : Nat) (Option.none : Option Jvm.ClassFile.FieldType)).before args0 about1 = true := code_word (m := ⟨11, 0⟩) (meth := k11m0) (c := k11c0) (by decide +kernel) rfl rfl rfl (by decide +kernel)
set_option maxRecDepth 65536 in
theorem w_c9 : (Jvm.Cond.code ({ cls := "java/lang/Exception", name := "<init>", desc := "(Ljava/lang/String;)V" } : Jvm.MethodName) jdk_59_method_2_code (2 : Nat) (Option.none : Option Jvm.ClassFile.FieldType)).before args0 about1 = true := code_word (m := ⟨10, 1⟩) (meth := k10m1) (c := k10c1) (by decide +kernel) rfl rfl rfl (by decide +kernel)
set_option maxRecDepth 65536 in
theorem w_c10 : (Jvm.Cond.code ({ cls := "java/lang/Throwable", name := "<init>", desc := "(Ljava/lang/String;)V" } : Jvm.MethodName) jdk_78_method_2_code (2 : Nat) (Option.none : Option Jvm.ClassFile.FieldType)).before args0 about1 = true := code_word (m := ⟨9, 1⟩) (meth := k9m1) (c := k9c1) (by decide +kernel) rfl rfl rfl (by decide +kernel)
set_option maxRecDepth 65536 in
theorem w_c11 : (Jvm.Cond.code ({ cls := "java/lang/Throwable", name := "<init>", desc := "()V" } : Jvm.MethodName) jdk_78_method_1_code (1 : Nat) (Option.none : Option Jvm.ClassFile.FieldType)).before args0 about1 = true := code_word (m := ⟨9, 0⟩) (meth := k9m0) (c := k9c0) (by decide +kernel) rfl rfl rfl (by decide +kernel)
set_option maxRecDepth 65536 in
theorem w_c12 : (Jvm.Cond.code ({ cls := "com/example/dogged_dispatch/doggeddispatch/api/ApiException", name := "status", desc := "()I" } : Jvm.MethodName) prog_1_method_2_code (1 : Nat) (Option.some Jvm.ClassFile.FieldType.int)).before args0 about1 = true := code_word (m := ⟨11, 1⟩) (meth := k11m1) (c := k11c1) (by decide +kernel) rfl rfl rfl (by decide +kernel)
def codes1 : List Jvm.Cond := [Jvm.Cond.code x code maxLocals ret, Jvm.Cond.code ({ cls := "java/lang/String", name := "<init>", desc := "([C)V" } : Jvm.MethodName) jdk_42_method_3_code (2 : Nat) (Option.none : Option Jvm.ClassFile.FieldType), Jvm.Cond.code ({ cls := "java/lang/String", name := "<init>", desc := "([CIILjava/lang/Void;)V" } : Jvm.MethodName) jdk_42_method_149_code (6 : Nat) (Option.none : Option Jvm.ClassFile.FieldType), Jvm.Cond.code ({ cls := "java/lang/Object", name := "<init>", desc := "()V" } : Jvm.MethodName) object_method_1_code (1 : Nat) (Option.none : Option Jvm.ClassFile.FieldType), Jvm.Cond.code ({ cls := "java/lang/StringUTF16", name := "compress", desc := "([CII)[B" } : Jvm.MethodName) jdk_52_method_16_code (6 : Nat) (Option.some (Jvm.ClassFile.FieldType.array Jvm.ClassFile.FieldType.byte)), Jvm.Cond.code ({ cls := "java/lang/StringUTF16", name := "compress", desc := "([CI[BII)I" } : Jvm.MethodName) jdk_52_method_21_code (7 : Nat) (Option.some Jvm.ClassFile.FieldType.int), Jvm.Cond.code ({ cls := "java/lang/StringUTF16", name := "coderFromArrayLen", desc := "([BI)B" } : Jvm.MethodName) jdk_52_method_15_code (2 : Nat) (Option.some Jvm.ClassFile.FieldType.byte), Jvm.Cond.code ({ cls := "com/example/dogged_dispatch/doggeddispatch/api/ApiException", name := "badRequest", desc := "(Ljava/lang/String;)Lcom/example/dogged_dispatch/doggeddispatch/api/ApiException;" } : Jvm.MethodName) prog_1_method_3_code (1 : Nat) (Option.some (Jvm.ClassFile.FieldType.object "com/example/dogged_dispatch/doggeddispatch/api/ApiException")), Jvm.Cond.code ({ cls := "com/example/dogged_dispatch/doggeddispatch/api/ApiException", name := "<init>", desc := "(ILjava/lang/String;)V" } : Jvm.MethodName) prog_1_method_1_code (3 : Nat) (Option.none : Option Jvm.ClassFile.FieldType), Jvm.Cond.code ({ cls := "java/lang/Exception", name := "<init>", desc := "(Ljava/lang/String;)V" } : Jvm.MethodName) jdk_59_method_2_code (2 : Nat) (Option.none : Option Jvm.ClassFile.FieldType), Jvm.Cond.code ({ cls := "java/lang/Throwable", name := "<init>", desc := "(Ljava/lang/String;)V" } : Jvm.MethodName) jdk_78_method_2_code (2 : Nat) (Option.none : Option Jvm.ClassFile.FieldType), Jvm.Cond.code ({ cls := "java/lang/Throwable", name := "<init>", desc := "()V" } : Jvm.MethodName) jdk_78_method_1_code (1 : Nat) (Option.none : Option Jvm.ClassFile.FieldType), Jvm.Cond.code ({ cls := "com/example/dogged_dispatch/doggeddispatch/api/ApiException", name := "status", desc := "()I" } : Jvm.MethodName) prog_1_method_2_code (1 : Nat) (Option.some Jvm.ClassFile.FieldType.int)]
set_option maxRecDepth 65536 in
theorem codes_eq : words1.filter isCode = codes1 := rfl
theorem w_codes : ∀ c ∈ words1.filter isCode, c.before args0 about1 = true := by
  rw [codes_eq]
  intro c hc
  simp only [codes1, List.mem_cons, List.not_mem_nil, or_false] at hc
  rcases hc with rfl | rfl | rfl | rfl | rfl | rfl | rfl | rfl | rfl | rfl | rfl | rfl | rfl
  · exact w_c0
  · exact w_c1
  · exact w_c2
  · exact w_c3
  · exact w_c4
  · exact w_c5
  · exact w_c6
  · exact w_c7
  · exact w_c8
  · exact w_c9
  · exact w_c10
  · exact w_c11
  · exact w_c12
set_option maxRecDepth 65536 in
theorem w_t1 : (words1.take 24).all (fun c => isCode c || c.before args0 about1) = true := by decide +kernel
set_option maxRecDepth 65536 in
theorem w_t2 : ((words1.drop 24).take 24).all (fun c => isCode c || c.before args0 about1) = true := by decide +kernel
set_option maxRecDepth 65536 in
theorem w_t3 : (((words1.drop 24).drop 24).take 24).all (fun c => isCode c || c.before args0 about1) = true := by decide +kernel
set_option maxRecDepth 65536 in
theorem w_t4 : ((((words1.drop 24).drop 24).drop 24).take 24).all (fun c => isCode c || c.before args0 about1) = true := by decide +kernel
set_option maxRecDepth 65536 in
theorem w_t5 : ((((words1.drop 24).drop 24).drop 24).drop 24).all (fun c => isCode c || c.before args0 about1) = true := by decide +kernel
theorem w_tables : (allAtoms (Jvm.Cond.code x code maxLocals ret :: tables_1)).before args0 about1 = true := by
  rw [allAtoms_all]
  show words1.all (fun c => c.before args0 about1) = true
  refine all_split ?_ w_codes
  rw [← List.take_append_drop 24 words1, List.all_append, w_t1, ← List.take_append_drop 24 (words1.drop 24), List.all_append, w_t2, ← List.take_append_drop 24 ((words1.drop 24).drop 24), List.all_append, w_t3, ← List.take_append_drop 24 (((words1.drop 24).drop 24).drop 24), List.all_append, w_t4, w_t5]
  rfl
set_option maxRecDepth 65536 in
theorem w_rest : rest_1_c.before args0 about1 = true := by decide +kernel
set_option maxRecDepth 65536 in
theorem w_case : (Jvm.Cond.and given_1 narrow_1).before args0 about1 = true := by decide +kernel
set_option maxRecDepth 65536 in
theorem w_consts : constsHeld consts_1 about1 := Jvm.Lit.constsHeldB_iff.mp (by decide +kernel)
theorem w_applies : (headSpec (Jvm.Cond.code x code maxLocals ret :: tables_1) room_1).applies x e0.platform about1 = true :=
  (Spec.applies_iff w_frames).mpr ⟨w_running, w_runnable, w_alone, w_named, w_hears, w_ripe, w_room, w_tables⟩
set_option maxRecDepth 65536 in
theorem atStart : AtStart classFile x code maxLocals ret World_1 tables_1 room_1 Calls_1 rest_1 Pre_1 launch0 p0 e0 about1 theMethod args0 below0 :=
  ⟨lists_1, trivial, launch0.admits_env _ _ _, launch0.least_env, fairChoices_fair.cas, fairChoices_fair.clock, w_frames, w_args, w_heap, w_applies, ⟨(by decide +kernel : framesKnown about1 = true), ⟨(by decide +kernel : tablesKnown about1 = true), ⟨w_consts, trivial⟩⟩⟩, w_rest, w_case⟩
end start1
theorem witness_1 : WitnessClaimed_1 := ⟨start1.p0, start1.e0, start1.about1, start1.theMethod, start1.args0, start1.below0, start1.atStart⟩
end Jvm.Pilot.@@N@@
