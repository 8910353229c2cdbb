import JvmDerived
import JvmDerived.Pilot.@@N@@Statement
import JvmDerived.Pilot.@@N@@Code
set_option linter.unusedVariables false
set_option linter.unusedSimpArgs false
namespace Jvm.RoadKit
open Sem ClassFile Op Lib Jvm.Stand Jvm.Free Jvm.LawKit
section New
variable {p : Program} {l : Launch} {e : Env} {R : Room} {s : State} {m : MethodId} {args : Array Value} {below : List Frame} {meth : Method} {c : Code} {T : State} {locs : List Loc} {cells slots : Nat}
theorem retI (X : Stand p l e R s m args below meth c T locs cells slots) (hx : p.tables.exec = Jvm.exec) {pc : Nat} {Ls : Array Slot} {z : Int32} {rest : List Value} (hret : meth.sig.returnType = some .int) (hd : decode c.code pc = .ok (.ireturn, 1)) {fs : List Frame}
    (hl : ∀ (f : JFrame) (acts : List Action), f.method = m → f.locked = none → f.entered = [] → (doReturn e (T.setTop f) acts (some (.int z))).1 = T.setFrames fs) : Steps p.tables e below (T.setTop (mkF m pc Ls (.int z :: rest))) (T.setFrames fs) := by
  have hm' : T.vm.method? m = some meth := X.method'
  have hn : narrow .int (.int z) = .int z := rfl
  show Steps p.tables e below (T.setTop { method := m, pc := pc, locals := Ls, stack := _ :: rest, locked := none }) _
  jvm_step X.here [X.here.top, hx, hd, hm', hret, hn]
  first | (intro acts; rw [hl _ acts rfl rfl rfl]) | rw [hl _ _ rfl rfl rfl]
  exact Steps.refl _
theorem retJ (X : Stand p l e R s m args below meth c T locs cells slots) (hx : p.tables.exec = Jvm.exec) {pc : Nat} {Ls : Array Slot} {z : Int64} {rest : List Value} (hret : meth.sig.returnType = some .long) (hd : decode c.code pc = .ok (.lreturn, 1)) {fs : List Frame}
    (hl : ∀ (f : JFrame) (acts : List Action), f.method = m → f.locked = none → f.entered = [] → (doReturn e (T.setTop f) acts (some (.long z))).1 = T.setFrames fs) : Steps p.tables e below (T.setTop (mkF m pc Ls (.long z :: rest))) (T.setFrames fs) := by
  have hm' : T.vm.method? m = some meth := X.method'
  have hn : narrow .long (.long z) = .long z := rfl
  show Steps p.tables e below (T.setTop { method := m, pc := pc, locals := Ls, stack := _ :: rest, locked := none }) _
  jvm_step X.here [X.here.top, hx, hd, hm', hret, hn]
  first | (intro acts; rw [hl _ acts rfl rfl rfl]) | rw [hl _ _ rfl rfl rfl]
  exact Steps.refl _
/-- from S the run comes to an end of which P holds -/
def Goes (p : Program) (e : Env) (below : List Frame) (P : State → Outcome → Prop) (S : State) : Prop := ∃ t o, Steps p.tables e below S t ∧ t.status = .running ∧ Ended t below o ∧ P t o
theorem Goes.step {P : State → Outcome → Prop} {S S' : State} (h : ∀ t, Steps p.tables e below S' t → Steps p.tables e below S t) (k : Goes p e below P S') : Goes p e below P S := by
  obtain ⟨t, o, h1, h2⟩ := k
  exact ⟨t, o, h t h1, h2⟩
/-- what a contract says of its end -/
def Pq (Q : Option Value → Heap → List Loc → Prop) (s : State) (kc ks : Nat) (t : State) (o : Outcome) : Prop := ∃ v L, o = .returned v ∧ Q v t.heap L ∧ FrameEnd s o t L kc ks
theorem Goes.leave {Q : Option Value → Heap → List Loc → Prop} {kc ks : Nat} {g : JFrame} {v : Option Value} {h : Heap} (X : Stand p l e R s m args below meth c T locs cells slots) (hlk : meth.locks = false) (hv : meth.sig.returnType = none → v = none)
    (st : ∀ fs, (∀ (f : JFrame) (acts : List Action), f.method = m → f.locked = none → f.entered = [] → (doReturn e (T.setTop f) acts v).1 = T.setFrames fs) → Steps p.tables e below (T.setTop g) (T.setFrames fs))
    (eT : T.heap = h) (hQ : Q v h locs) (hc : cells ≤ kc) (hs : slots ≤ ks) : Goes p e below (Pq Q s kc ks) (T.setTop g) := by
  obtain ⟨fs, hr, hrun, hended, hW, hsame⟩ := X.leave (v := v) hv hlk
  exact ⟨_, _, st fs hr, hrun, hended, v, locs, rfl, eT ▸ hQ, ⟨_, rfl⟩, hW, hsame.mono hc hs⟩
theorem own_eqI {args : Array Value} {first s : State} {o : Option Outcome} {idx : List Nat} {t : Term} {k : Int32} (h : (Cond.eq t (.int k)).value args first o s idx = some true) : t.eval args first o idx s = some (.int k) := by
  simp only [Cond.value, Term.eval] at h
  cases ht : t.eval args first o idx s with
  | none => simp [ht] at h
  | some x => cases x <;> simp [ht] at h ⊢; exact h
theorem own_stakeep {Z : State} {h h' : Heap} {ws : List Addr} {C n d : String} {w : Value} (F : Sta Z h C n d w) (K : Keep h h' ws) (q : ∀ x ∈ ws, ∀ cell : Cell, h[x]? = some cell → cell.vm.isStatics = false) : Sta Z h' C n d w := by
  obtain ⟨cf, i, k, f, st, cell, h1, h2, h3, h4, h5, h6, h7⟩ := F
  exact ⟨cf, i, k, f, st, cell, h1, h2, h3, h4, K.2.1 st cell h5 (fun hm => by rw [q st hm cell h5] at h6; cases h6), h6, h7⟩
theorem own_selP {s : State} {args : Array Value} {y : MethodName} {k : Nat} (w1 : (Cond.instanceMethod y).before args s = true) (w2 : (Cond.privateMethod y).before args s = true) (w3 : (Cond.instantiable y.cls k).before args s = true)
    (hy : y.cls ≠ "java/lang/invoke/MethodHandle" ∧ y.cls ≠ "java/lang/invoke/VarHandle") : (Cond.selects y.cls y y).before args s = true := by
  obtain ⟨mk, meth, hn, hm, -, -⟩ := Cond.instanceMethod_spec w1
  have hp := Cond.privateMethod_at w2 mk meth hn hm
  have hf := State.methodFound?_of_named hn hy
  have hc := findClass_of_methodNamed hn
  obtain ⟨c2, k2, i1, i2, -, i4, -⟩ := Cond.instantiable_spec w3
  cases hc.symm.trans i1
  simp only [Bool.or_eq_false_iff] at i4
  simp [Cond.before, Cond.holds, Cond.value, hc, hf, hn, selectMethod_private hm hp, i2, i4.1]
theorem own_neVV {Z : State} {h : Heap} {a b : Addr} {k1 k2 : ClassId} {t1 t2 : FieldType} {z1 z2 : Int32} {v1 v2 : List Value} {d1 d2 : Value} (A : Arv Z h a k1 t1 z1 v1 d1) (B : Arv Z h b k2 t2 z2 v2 d2) (q : t1 ≠ t2) : a ≠ b := fun e => by
  subst e
  obtain ⟨c1, A1, -⟩ := A
  obtain ⟨c2, B1, -⟩ := B
  cases A1.1.symm.trans B1.1
  obtain ⟨-, k, g1, comp, g2⟩ := A1.2.1
  obtain ⟨-, k', g1', comp', g2'⟩ := B1.2.1
  cases g1.symm.trans g1'
  rw [g2] at g2'
  cases g2'
  exact q rfl
end New
end Jvm.RoadKit
namespace Jvm.RoadKit
open Sem ClassFile Op Lib Jvm.Stand Jvm.Free Jvm.LawKit
section NewS
variable {p : Program} {l : Launch} {e : Env} {R : Room} {s : State} {m : MethodId} {args : Array Value} {below : List Frame} {meth : Method} {c : Code} {T : State} {locs : List Loc} {cells slots : Nat} {Z : State} {a0 : Array Value} {h : Heap}
/-- what a contract says of its end, where it may intern -/
def Pw (Q : Option Value → Heap → List Loc → Prop) (s : State) (kc ks : Nat) (t : State) (o : Outcome) : Prop := ∃ v L, o = .returned v ∧ Q v t.heap L ∧ ReturnedEndW s o t L kc ks
theorem Goes.leaveW {Q : Option Value → Heap → List Loc → Prop} {kc ks : Nat} {g : JFrame} {v : Option Value} {h : Heap} {vm₁ : Vm} (X : Stand p l e R (s.setVm vm₁) m args below meth c T locs cells slots) {k0 : Nat} (hS : s.Since vm₁ k0) (hk : k0 ≤ h.size) (hlk : meth.locks = false) (hv : meth.sig.returnType = none → v = none)
    (st : ∀ fs, (∀ (f : JFrame) (acts : List Action), f.method = m → f.locked = none → f.entered = [] → (doReturn e (T.setTop f) acts v).1 = T.setFrames fs) → Steps p.tables e below (T.setTop g) (T.setFrames fs))
    (eT : T.heap = h) (hQ : Q v h locs) (hc : cells ≤ kc) (hs : slots ≤ ks) : Goes p e below (Pw Q s kc ks) (T.setTop g) := by
  subst eT
  obtain ⟨fs, hr, hrun, hended, h1, h2, h3, h4⟩ := X.leaveW hS hk (v := v) hv hlk
  exact ⟨_, _, st fs hr, hrun, hended, v, locs, rfl, hQ, h1, h2, h3, h4.mono hc hs⟩
theorem own_fold {vm₁ vm₂ : Vm} (X : Stand p l e R ((s.setVm vm₁).setVm vm₂) m args below meth c T locs cells slots) : Stand p l e R (s.setVm vm₂) m args below meth c T locs cells slots := X
theorem own_since {own : String} {vm : Vm} {k : Nat} {cid : ClassId} (hZ0 : Z.Warmed39 s.vm) (ho : s.vm.findClass own = some cid) (hS : s.Since vm k) : Z.Warmed39 (s.setVm vm).vm ∧ (s.setVm vm).vm.findClass own = some cid :=
  ⟨State.Warmed39.trans (t := s) hZ0 hS.1, by rw [show (s.setVm vm).vm = vm from rfl, hS.1.alike.findClass]; exact ho⟩
theorem own_s0 (s : State) (k : Nat) : s.Since s.vm k := State.WarmedH.since (State.WarmedH.refl s) k
theorem own_neI {args : Array Value} {first s : State} {o : Option Outcome} {idx : List Nat} {t : Term} {k x : Int32} (h : (Cond.not (Cond.eq t (.int k))).value args first o s idx = some true) (e : t.eval args first o idx s = some (.int x)) : ¬ x = k := by
  intro z; subst z; simp only [Cond.value, e, Term.eval] at h; simp at h
def own_lv : Cond → List Cond
  | .and a b => own_lv a ++ own_lv b
  | .tt => []
  | c => [c]
theorem own_of_lv {args : Array Value} {s : State} (c : Cond) (h : ∀ w ∈ own_lv c, w.before args s = true) : c.before args s = true := by
  induction c with
  | and a b iha ihb => rw [Cond.before_and, Bool.and_eq_true]; exact ⟨iha fun w hw => h w (List.mem_append_left _ hw), ihb fun w hw => h w (List.mem_append_right _ hw)⟩
  | tt => rfl
  | _ => exact h _ (List.mem_singleton.mpr rfl)
end NewS
end Jvm.RoadKit
namespace Jvm.RoadKit
open Sem ClassFile Op Lib Bundle Jvm.Stand Jvm.Free Jvm.LawKit Jvm.Free.SB Jvm.Free.SBG
section NewH
variable {p : Program} {l : Launch} {e : Env} {R : Room} {s : State} {m : MethodId} {args : Array Value} {below : List Frame} {meth : Method} {c : Code} {T : State} {locs : List Loc} {cells slots : Nat} {Z : State} {a0 : Array Value} {h : Heap} {EL : List (String × Nat)} {vm : Vm}
/-- what a contract says of its end, where it may intern and keeps what the constants say -/
def Ph (Z : State) (EL : List (String × Nat)) (Q : Option Value → Heap → List Loc → Prop) (s : State) (kc ks : Nat) (t : State) (o : Outcome) : Prop := ∃ v L, o = .returned v ∧ Q v t.heap L ∧ CHr Z EL s.vm s.heap t.vm t.heap ∧ ReturnedEndW s o t L kc ks
theorem Goes.leaveH {Q : Option Value → Heap → List Loc → Prop} {kc ks : Nat} {g : JFrame} {v : Option Value} {h h0 : Heap} {vm₁ : Vm} (hEL : EW Z a0 EL) (hZ : Z.Warmed39 vm₁) (hh : s.heap = h0) (C : CHr Z EL s.vm h0 vm₁ h) (X : Stand p l e R (s.setVm vm₁) m args below meth c T locs cells slots) {k0 : Nat} (hS : s.Since vm₁ k0) (hk : k0 ≤ h.size) (hlk : meth.locks = false) (hv : meth.sig.returnType = none → v = none)
    (st : ∀ fs, (∀ (f : JFrame) (acts : List Action), f.method = m → f.locked = none → f.entered = [] → (doReturn e (T.setTop f) acts v).1 = T.setFrames fs) → Steps p.tables e below (T.setTop g) (T.setFrames fs))
    (eT : T.heap = h) (hQ : Q v h locs) (hc : cells ≤ kc) (hs : slots ≤ ks) : Goes p e below (Ph Z EL Q s kc ks) (T.setTop g) := by
  subst eT
  subst hh
  obtain ⟨fs, hr, hrun, hended, h1, h2, h3, h4⟩ := X.leaveW hS hk (v := v) hv hlk
  exact ⟨_, _, st fs hr, hrun, hended, v, locs, rfl, hQ, (show CHr Z EL s.vm s.heap T.vm T.heap from C.trans (CHv.at X hZ hEL C.1)), h1, h2, h3, h4.mono hc hs⟩
theorem own_safeNull {x : Addr} (hal : Z.vm.Alike vm) (E : Exa Z h x "java/lang/String") (F : Fld Z h x "java/lang/String" "value" "[B" .null) : Safe Z EL vm h x := fun B => by
  obtain ⟨p, -, u, a, -, q, -, F', rfl | rfl⟩ := B
  · obtain ⟨cell, cf, k, i, f, h1, h2, h3, h4, h5, h6, h7⟩ := F
    cases (show h[q.sa]? = some q.sC from F'.ha).symm.trans h1
    obtain ⟨cS, ⟨⟨s1, s2, s3, ⟨cv, kv, iv, s4, s4'⟩, ⟨cc, kc, ic, s5, s5'⟩, s6, s7, s8, s9, -⟩, hfS, hcS⟩, -⟩ := F'
    obtain ⟨kv', z4⟩ := ff_back (U := Wst Z vm h) hal s4
    cases h2.symm.trans z4
    rw [s8] at h7
    cases h7
  · obtain ⟨cell, k, e1, e2, e3, -, -⟩ := E
    cases (show h[q.sd]? = some q.SA from F'.hd).symm.trans e1
    obtain ⟨cS, -, -, f, -⟩ := F'
    have f' : vm.findClass "[B" = some q.SA.cls := f
    rw [hal.findClass] at f'
    obtain ⟨k1, q1, q2⟩ := Vm.findClass_spec f'
    obtain ⟨k2, q3, q4⟩ := Vm.findClass_spec e2
    cases q1.symm.trans q3
    exact absurd (q2.symm.trans q4) (by decide)
theorem own_getR (X : Stand p l e R s m args below meth c T locs cells slots) (hx : p.tables.exec = Jvm.exec) (hZ : Z.Warmed39 s.vm) {own O n d : String} {index : Nat} (hown : s.vm.findClass own = some m.cls) (w : (Cond.fieldRef own index O n d).before a0 Z = true)
    (eT : T.heap = h) {a : Addr} {v : Value} (F : Fld Z h a O n d v) {g : JFrame} (hg : g.method = m) {rest : List Value} (hs : g.stack = .ref a :: rest) (hd : decode c.code g.pc = .ok (.getfield index, 3)) : ∃ T', Stand p l e R s m args below meth c T' locs cells slots ∧ T'.heap = h ∧ ∀ target, Steps p.tables e below (T'.setTop { g with pc := g.pc + 3, stack := v :: rest }) target → Steps p.tables e below (T.setTop g) target := by
  obtain ⟨cell, cf, k, i, f, h1, h2, h3, h4, -, -, h7⟩ := F
  have hZT : Z.Warmed39 T.vm := wtrans hZ X.warmed
  obtain ⟨k', hi, -⟩ := State.fieldFound?_setVm (s := Z) hZT.alike h2
  obtain ⟨c1, k1, i1, f1, q1, q2⟩ := Cond.fieldRef_spec (s := Z.setVm T.vm) (cur := m.cls) (show T.vm.findClass own = some m.cls by rw [X.warmed.alike.findClass]; exact hown) (Cond.fieldRef_warmed39 hZT w)
  cases hi.symm.trans q1
  exact ⟨T, X, eT, fun target q => (X.getfieldR hx hg q2 h3 hs (by rw [eT]; exact h1) h4 h7 hd (Steps.refl _)).trans q⟩
theorem own_putR (X : Stand p l e R s m args below meth c T locs cells slots) (hx : p.tables.exec = Jvm.exec) (hZ : Z.Warmed39 s.vm) {own O n d C : String} {index kk : Nat} {ty : FieldType} (hown : s.vm.findClass own = some m.cls) (w : (Cond.fieldRef own index O n d).before a0 Z = true)
    (eT : T.heap = h) {a : Addr} {v old : Value} (F : Fld Z h a O n d old) (E : Exa Z h a C) (L : (Cond.lays C O n d).before a0 Z = true ∨ False) (wi : (Cond.instantiable C kk).before a0 Z = true)
    (hty : parseFieldDescriptor d = some ty) (hn : narrow ty v = v) (hf : fits ty v = true) {g : JFrame} (hg : g.method = m) {rest : List Value} (hs : g.stack = v :: .ref a :: rest) (hd : decode c.code g.pc = .ok (.putfield index, 3)) :
    ∃ T' h', Stand p l e R s m args below meth c T' (locs ++ [⟨a, slotOf Z O n d⟩]) cells slots ∧ T'.heap = h' ∧ Wr h h' a (slotOf Z O n d) v ∧ ∀ target, Steps p.tables e below (T'.setTop { g with pc := g.pc + 3, stack := rest }) target → Steps p.tables e below (T.setTop g) target := by
  replace L := L.resolve_right id
  obtain ⟨cell, cf, k, i, f, h1, h2, h3, h4, h5, -, h7⟩ := F
  obtain ⟨cell', kc, e1, e2, e3, -⟩ := E
  cases h1.symm.trans e1
  obtain ⟨c1, k1, cf1, kf1, i1, f1, a1, a2, a3, -, b5, -, a6, -⟩ := Cond.lays_spec L
  cases h2.symm.trans a3
  cases e2.symm.trans a1
  obtain ⟨c2, k2, j1, j2, j3, -⟩ := Cond.instantiable_spec wi
  cases e2.symm.trans j1
  cases a2.symm.trans j2
  have ht := (State.fieldFound?_type h2 hty).2
  have hZT : Z.Warmed39 T.vm := wtrans hZ X.warmed
  have hfit : Z.fitsSlot cell.cls cell.vm f.slot v = true := by
    have q : Z.slotType? cell.cls cell.vm f.slot = some ty := by
      simp only [State.slotType?, a2, Option.bind_eq_bind, Option.bind_some, j3]
      cases hq : cell.vm <;> first | (rw [hq] at h5; exact Bool.noConfusion h5) | (rw [a6, ht])
    simp [State.fitsSlot, q, hf]
  have hfit' : T.fitsSlot cell.cls cell.vm f.slot v = true := by
    show (Z.setVm T.vm).fitsSlot cell.cls cell.vm f.slot v = true
    rw [State.fitsSlot_setVm hZT.alike]; exact hfit
  obtain ⟨k', hi, -⟩ := State.fieldFound?_setVm (s := Z) hZT.alike h2
  obtain ⟨c3, k3, i3, f3, q1, q2⟩ := Cond.fieldRef_spec (s := Z.setVm T.vm) (cur := m.cls) (show T.vm.findClass own = some m.cls by rw [X.warmed.alike.findClass]; exact hown) (Cond.fieldRef_warmed39 hZT w)
  cases hi.symm.trans q1
  have hlt := (Array.getElem?_eq_some_iff.mp h7).1
  have es : slotOf Z O n d = f.slot := by simp [slotOf, h2]
  rw [es]
  obtain ⟨X', st⟩ := X.putfieldReady hx q2 h3 (Or.inl b5) (by rw [eT]; exact h1) h4 hlt (by rw [ht]; exact hn) hfit' hg hs hd
  exact ⟨_, _, X', rfl, ⟨cell, h1, h5, hlt, by rw [← eT]; rfl⟩, st⟩
end NewH
end Jvm.RoadKit
namespace Jvm.Pilot.@@N@@
open Jvm Jvm.ClassFile Sem Op Lib Jvm.Free Jvm.Stand Jvm.LawKit Jvm.RoadKit Bundle Jvm.Pilot.@@N@@.Jvm.D
abbrev rom0 : Room := { frames := 0, cells := 0, slots := 0, locals := 0 }
abbrev rom1 : Room := { frames := 1, cells := 1, slots := 2, locals := 18 }
abbrev rom2 : Room := { frames := 2, cells := 1, slots := 2, locals := 35 }
abbrev rom3 : Room := { frames := 3, cells := 1, slots := 2, locals := 52 }
abbrev rom4 : Room := { frames := 1, cells := 1, slots := 3, locals := 18 }
abbrev rom5 : Room := { frames := 2, cells := 1, slots := 3, locals := 35 }
abbrev rom6 : Room := { frames := 3, cells := 1, slots := 3, locals := 52 }
abbrev rom7 : Room := { frames := 1, cells := 4, slots := 8, locals := 12 }
abbrev rom8 : Room := { frames := 2, cells := 4, slots := 8, locals := 29 }
abbrev rom9 : Room := { frames := 0, cells := 1, slots := 1, locals := 0 }
abbrev rom10 : Room := { frames := 1, cells := 0, slots := 0, locals := 12 }
abbrev rom11 : Room := { frames := 2, cells := 2, slots := 5, locals := 27 }
abbrev rom12 : Room := { frames := 4, cells := 6, slots := 12, locals := 66 }
abbrev rom13 : Room := { frames := 2, cells := 8, slots := 67, locals := 26 }
set_option maxRecDepth 65536 in
theorem pnm0 : plainName "java/lang/StringUTF16" = true := by first | (simp [plainName, overriddenIn]; done) | decide +kernel
set_option maxRecDepth 65536 in
theorem pnm1 : plainName "java/lang/String" = true := by first | (simp [plainName, overriddenIn]; done) | decide +kernel
set_option maxRecDepth 65536 in
theorem pnm2 : plainName "java/lang/StringLatin1" = true := by first | (simp [plainName, overriddenIn]; done) | decide +kernel
set_option maxRecDepth 65536 in
theorem pnm3 : plainName "com/example/uraniborg/uraniborg/model/JobSpecOneOffPinLaw" = true := by first | (simp [plainName, overriddenIn]; done) | decide +kernel
set_option maxRecDepth 65536 in
theorem pnm4 : plainName "com/example/uraniborg/uraniborg/model/JobSpec$Parts" = true := by first | (simp [plainName, overriddenIn]; done) | decide +kernel
set_option maxRecDepth 65536 in
theorem pnm5 : plainName "com/example/uraniborg/uraniborg/model/JobSpec" = true := by first | (simp [plainName, overriddenIn]; done) | decide +kernel
set_option maxRecDepth 65536 in
theorem pnm6 : plainName "java/util/Objects" = true := by first | (simp [plainName, overriddenIn]; done) | decide +kernel
set_option maxRecDepth 65536 in
theorem pnm7 : plainName "com/example/uraniborg/uraniborg/model/RetryPolicy" = true := by first | (simp [plainName, overriddenIn]; done) | decide +kernel
abbrev mth0 : MethodName := ⟨"java/lang/StringUTF16", "compress", "([CI[BII)I"⟩
abbrev mth1 : MethodName := ⟨"java/lang/StringUTF16", "compress", "([CII)[B"⟩
abbrev mth2 : MethodName := ⟨"java/lang/StringUTF16", "coderFromArrayLen", "([BI)B"⟩
abbrev mth3 : MethodName := ⟨"java/lang/String", "<init>", "([CIILjava/lang/Void;)V"⟩
abbrev mth4 : MethodName := ⟨"java/lang/String", "<init>", "([C)V"⟩
abbrev mth5 : MethodName := ⟨"java/lang/StringLatin1", "canEncode", "(C)Z"⟩
abbrev mth6 : MethodName := ⟨"java/lang/StringLatin1", "toBytes", "(C)[B"⟩
abbrev mth7 : MethodName := ⟨"java/lang/String", "<init>", "([BB)V"⟩
abbrev mth8 : MethodName := ⟨"java/lang/String", "valueOf", "(C)Ljava/lang/String;"⟩
abbrev mth9 : MethodName := ⟨"com/example/uraniborg/uraniborg/model/JobSpecOneOffPinLaw", "draw", "(II)Ljava/lang/String;"⟩
abbrev mth10 : MethodName := ⟨"com/example/uraniborg/uraniborg/model/JobSpec$Parts", "<init>", "()V"⟩
abbrev mth11 : MethodName := ⟨"com/example/uraniborg/uraniborg/model/JobSpec", "<init>", "(Lcom/example/uraniborg/uraniborg/model/JobSpec$Parts;)V"⟩
abbrev mth12 : MethodName := ⟨"java/util/Objects", "requireNonNull", "(Ljava/lang/Object;Ljava/lang/String;)Ljava/lang/Object;"⟩
abbrev mth13 : MethodName := ⟨"com/example/uraniborg/uraniborg/model/JobSpec", "oneOff", "(Ljava/lang/String;Ljava/lang/String;)Lcom/example/uraniborg/uraniborg/model/JobSpec;"⟩
abbrev mth14 : MethodName := ⟨"com/example/uraniborg/uraniborg/model/JobSpec", "payload", "()Ljava/lang/String;"⟩
abbrev mth15 : MethodName := ⟨"com/example/uraniborg/uraniborg/model/JobSpec", "key", "()Ljava/lang/String;"⟩
abbrev mth16 : MethodName := ⟨"com/example/uraniborg/uraniborg/model/JobSpec", "handler", "()Ljava/lang/String;"⟩
abbrev mth17 : MethodName := ⟨"com/example/uraniborg/uraniborg/model/JobSpec", "retryPolicy", "()Lcom/example/uraniborg/uraniborg/model/RetryPolicy;"⟩
abbrev mth18 : MethodName := ⟨"com/example/uraniborg/uraniborg/model/JobSpec", "priority", "()J"⟩
abbrev mth19 : MethodName := ⟨"java/lang/String", "equals", "(Ljava/lang/Object;)Z"⟩
abbrev mth20 : MethodName := ⟨"java/lang/String", "isEmpty", "()Z"⟩
abbrev mth21 : MethodName := ⟨"com/example/uraniborg/uraniborg/model/RetryPolicy", "equals", "(Ljava/lang/Object;)Z"⟩
theorem d_jdk_52_method_21_code_0 : decode jdk_52_method_21_code 0 = .ok (.iconst 0, 1) := by decide +kernel
theorem d_jdk_52_method_21_code_1 : decode jdk_52_method_21_code 1 = .ok (.istore 5, 2) := by decide +kernel
theorem d_jdk_52_method_21_code_3 : decode jdk_52_method_21_code 3 = .ok (.iload 5, 2) := by decide +kernel
theorem d_jdk_52_method_21_code_5 : decode jdk_52_method_21_code 5 = .ok (.iload 4, 2) := by decide +kernel
theorem d_jdk_52_method_21_code_7 : decode jdk_52_method_21_code 7 = .ok (.if_icmp .ge 37, 3) := by decide +kernel
theorem d_jdk_52_method_21_code_10 : decode jdk_52_method_21_code 10 = .ok (.aload_n 0, 1) := by decide +kernel
theorem d_jdk_52_method_21_code_11 : decode jdk_52_method_21_code 11 = .ok (.iload_n 1, 1) := by decide +kernel
theorem d_jdk_52_method_21_code_12 : decode jdk_52_method_21_code 12 = .ok (.caload, 1) := by decide +kernel
theorem d_jdk_52_method_21_code_13 : decode jdk_52_method_21_code 13 = .ok (.istore 6, 2) := by decide +kernel
theorem d_jdk_52_method_21_code_15 : decode jdk_52_method_21_code 15 = .ok (.iload 6, 2) := by decide +kernel
theorem d_jdk_52_method_21_code_17 : decode jdk_52_method_21_code 17 = .ok (.sipush 255, 3) := by decide +kernel
theorem d_jdk_52_method_21_code_20 : decode jdk_52_method_21_code 20 = .ok (.if_icmp .le 6, 3) := by decide +kernel
theorem d_jdk_52_method_21_code_26 : decode jdk_52_method_21_code 26 = .ok (.aload_n 2, 1) := by decide +kernel
theorem d_jdk_52_method_21_code_27 : decode jdk_52_method_21_code 27 = .ok (.iload_n 3, 1) := by decide +kernel
theorem d_jdk_52_method_21_code_28 : decode jdk_52_method_21_code 28 = .ok (.iload 6, 2) := by decide +kernel
theorem d_jdk_52_method_21_code_30 : decode jdk_52_method_21_code 30 = .ok (.i2b, 1) := by decide +kernel
theorem d_jdk_52_method_21_code_31 : decode jdk_52_method_21_code 31 = .ok (.bastore, 1) := by decide +kernel
theorem d_jdk_52_method_21_code_32 : decode jdk_52_method_21_code 32 = .ok (.iinc 1 1, 3) := by decide +kernel
theorem d_jdk_52_method_21_code_35 : decode jdk_52_method_21_code 35 = .ok (.iinc 3 1, 3) := by decide +kernel
theorem d_jdk_52_method_21_code_38 : decode jdk_52_method_21_code 38 = .ok (.iinc 5 1, 3) := by decide +kernel
theorem d_jdk_52_method_21_code_41 : decode jdk_52_method_21_code 41 = .ok (.goto (-38), 3) := by decide +kernel
theorem d_jdk_52_method_21_code_44 : decode jdk_52_method_21_code 44 = .ok (.iload 4, 2) := by decide +kernel
theorem d_jdk_52_method_21_code_46 : decode jdk_52_method_21_code 46 = .ok (.ireturn, 1) := by decide +kernel
theorem d_jdk_52_method_16_code_0 : decode jdk_52_method_16_code 0 = .ok (.iload_n 2, 1) := by decide +kernel
theorem d_jdk_52_method_16_code_1 : decode jdk_52_method_16_code 1 = .ok (.newarray .byte, 2) := by decide +kernel
theorem d_jdk_52_method_16_code_3 : decode jdk_52_method_16_code 3 = .ok (.astore_n 3, 1) := by decide +kernel
theorem d_jdk_52_method_16_code_4 : decode jdk_52_method_16_code 4 = .ok (.aload_n 0, 1) := by decide +kernel
theorem d_jdk_52_method_16_code_5 : decode jdk_52_method_16_code 5 = .ok (.iload_n 1, 1) := by decide +kernel
theorem d_jdk_52_method_16_code_6 : decode jdk_52_method_16_code 6 = .ok (.aload_n 3, 1) := by decide +kernel
theorem d_jdk_52_method_16_code_7 : decode jdk_52_method_16_code 7 = .ok (.iconst 0, 1) := by decide +kernel
theorem d_jdk_52_method_16_code_8 : decode jdk_52_method_16_code 8 = .ok (.iload_n 2, 1) := by decide +kernel
theorem d_jdk_52_method_16_code_9 : decode jdk_52_method_16_code 9 = .ok (.invokestatic 115, 3) := by decide +kernel
theorem d_jdk_52_method_16_code_12 : decode jdk_52_method_16_code 12 = .ok (.istore 4, 2) := by decide +kernel
theorem d_jdk_52_method_16_code_14 : decode jdk_52_method_16_code 14 = .ok (.iload 4, 2) := by decide +kernel
theorem d_jdk_52_method_16_code_16 : decode jdk_52_method_16_code 16 = .ok (.iload_n 2, 1) := by decide +kernel
theorem d_jdk_52_method_16_code_17 : decode jdk_52_method_16_code 17 = .ok (.if_icmp .eq 40, 3) := by decide +kernel
theorem d_jdk_52_method_16_code_57 : decode jdk_52_method_16_code 57 = .ok (.aload_n 3, 1) := by decide +kernel
theorem d_jdk_52_method_16_code_58 : decode jdk_52_method_16_code 58 = .ok (.areturn, 1) := by decide +kernel
theorem d_jdk_52_method_15_code_0 : decode jdk_52_method_15_code 0 = .ok (.iload_n 1, 1) := by decide +kernel
theorem d_jdk_52_method_15_code_1 : decode jdk_52_method_15_code 1 = .ok (.aload_n 0, 1) := by decide +kernel
theorem d_jdk_52_method_15_code_2 : decode jdk_52_method_15_code 2 = .ok (.arraylength, 1) := by decide +kernel
theorem d_jdk_52_method_15_code_3 : decode jdk_52_method_15_code 3 = .ok (.isub, 1) := by decide +kernel
theorem d_jdk_52_method_15_code_4 : decode jdk_52_method_15_code 4 = .ok (.bipush 31, 2) := by decide +kernel
theorem d_jdk_52_method_15_code_6 : decode jdk_52_method_15_code 6 = .ok (.iushr, 1) := by decide +kernel
theorem d_jdk_52_method_15_code_7 : decode jdk_52_method_15_code 7 = .ok (.i2b, 1) := by decide +kernel
theorem d_jdk_52_method_15_code_8 : decode jdk_52_method_15_code 8 = .ok (.ireturn, 1) := by decide +kernel
theorem d_jdk_42_method_149_code_0 : decode jdk_42_method_149_code 0 = .ok (.aload_n 0, 1) := by decide +kernel
theorem d_jdk_42_method_149_code_1 : decode jdk_42_method_149_code 1 = .ok (.invokespecial 1, 3) := by decide +kernel
theorem d_jdk_42_method_149_code_4 : decode jdk_42_method_149_code 4 = .ok (.iload_n 3, 1) := by decide +kernel
theorem d_jdk_42_method_149_code_5 : decode jdk_42_method_149_code 5 = .ok (.ifCond .ne 22, 3) := by decide +kernel
theorem d_jdk_42_method_149_code_27 : decode jdk_42_method_149_code 27 = .ok (.getstatic 38, 3) := by decide +kernel
theorem d_jdk_42_method_149_code_30 : decode jdk_42_method_149_code 30 = .ok (.ifCond .eq 28, 3) := by decide +kernel
theorem d_jdk_42_method_149_code_33 : decode jdk_42_method_149_code 33 = .ok (.aload_n 1, 1) := by decide +kernel
theorem d_jdk_42_method_149_code_34 : decode jdk_42_method_149_code 34 = .ok (.iload_n 2, 1) := by decide +kernel
theorem d_jdk_42_method_149_code_35 : decode jdk_42_method_149_code 35 = .ok (.iload_n 3, 1) := by decide +kernel
theorem d_jdk_42_method_149_code_36 : decode jdk_42_method_149_code 36 = .ok (.invokestatic 177, 3) := by decide +kernel
theorem d_jdk_42_method_149_code_39 : decode jdk_42_method_149_code 39 = .ok (.astore 5, 2) := by decide +kernel
theorem d_jdk_42_method_149_code_41 : decode jdk_42_method_149_code 41 = .ok (.aload_n 0, 1) := by decide +kernel
theorem d_jdk_42_method_149_code_42 : decode jdk_42_method_149_code 42 = .ok (.aload 5, 2) := by decide +kernel
theorem d_jdk_42_method_149_code_44 : decode jdk_42_method_149_code 44 = .ok (.iload_n 3, 1) := by decide +kernel
theorem d_jdk_42_method_149_code_45 : decode jdk_42_method_149_code 45 = .ok (.invokestatic 47, 3) := by decide +kernel
theorem d_jdk_42_method_149_code_48 : decode jdk_42_method_149_code 48 = .ok (.putfield 15, 3) := by decide +kernel
theorem d_jdk_42_method_149_code_51 : decode jdk_42_method_149_code 51 = .ok (.aload_n 0, 1) := by decide +kernel
theorem d_jdk_42_method_149_code_52 : decode jdk_42_method_149_code 52 = .ok (.aload 5, 2) := by decide +kernel
theorem d_jdk_42_method_149_code_54 : decode jdk_42_method_149_code 54 = .ok (.putfield 9, 3) := by decide +kernel
theorem d_jdk_42_method_149_code_57 : decode jdk_42_method_149_code 57 = .ok (.return_, 1) := by decide +kernel
theorem d_jdk_42_method_3_code_0 : decode jdk_42_method_3_code 0 = .ok (.aload_n 0, 1) := by decide +kernel
theorem d_jdk_42_method_3_code_1 : decode jdk_42_method_3_code 1 = .ok (.aload_n 1, 1) := by decide +kernel
theorem d_jdk_42_method_3_code_2 : decode jdk_42_method_3_code 2 = .ok (.iconst 0, 1) := by decide +kernel
theorem d_jdk_42_method_3_code_3 : decode jdk_42_method_3_code 3 = .ok (.aload_n 1, 1) := by decide +kernel
theorem d_jdk_42_method_3_code_4 : decode jdk_42_method_3_code 4 = .ok (.arraylength, 1) := by decide +kernel
theorem d_jdk_42_method_3_code_5 : decode jdk_42_method_3_code 5 = .ok (.aconst_null, 1) := by decide +kernel
theorem d_jdk_42_method_3_code_6 : decode jdk_42_method_3_code 6 = .ok (.invokespecial 27, 3) := by decide +kernel
theorem d_jdk_42_method_3_code_9 : decode jdk_42_method_3_code 9 = .ok (.return_, 1) := by decide +kernel
theorem d_jdk_42_method_149_code_8 : decode jdk_42_method_149_code 8 = .ok (.aload_n 0, 1) := by decide +kernel
theorem d_jdk_42_method_149_code_9 : decode jdk_42_method_149_code 9 = .ok (.ldc 7, 2) := by decide +kernel
theorem d_jdk_42_method_149_code_11 : decode jdk_42_method_149_code 11 = .ok (.getfield 9, 3) := by decide +kernel
theorem d_jdk_42_method_149_code_14 : decode jdk_42_method_149_code 14 = .ok (.putfield 9, 3) := by decide +kernel
theorem d_jdk_42_method_149_code_17 : decode jdk_42_method_149_code 17 = .ok (.aload_n 0, 1) := by decide +kernel
theorem d_jdk_42_method_149_code_18 : decode jdk_42_method_149_code 18 = .ok (.ldc 7, 2) := by decide +kernel
theorem d_jdk_42_method_149_code_20 : decode jdk_42_method_149_code 20 = .ok (.getfield 15, 3) := by decide +kernel
theorem d_jdk_42_method_149_code_23 : decode jdk_42_method_149_code 23 = .ok (.putfield 15, 3) := by decide +kernel
theorem d_jdk_42_method_149_code_26 : decode jdk_42_method_149_code 26 = .ok (.return_, 1) := by decide +kernel
theorem d_jdk_43_method_3_code_0 : decode jdk_43_method_3_code 0 = .ok (.iload_n 0, 1) := by decide +kernel
theorem d_jdk_43_method_3_code_1 : decode jdk_43_method_3_code 1 = .ok (.sipush 255, 3) := by decide +kernel
theorem d_jdk_43_method_3_code_4 : decode jdk_43_method_3_code 4 = .ok (.if_icmp .gt 7, 3) := by decide +kernel
theorem d_jdk_43_method_3_code_7 : decode jdk_43_method_3_code 7 = .ok (.iconst 1, 1) := by decide +kernel
theorem d_jdk_43_method_3_code_8 : decode jdk_43_method_3_code 8 = .ok (.goto 4, 3) := by decide +kernel
theorem d_jdk_43_method_3_code_12 : decode jdk_43_method_3_code 12 = .ok (.ireturn, 1) := by decide +kernel
theorem d_jdk_43_method_46_code_0 : decode jdk_43_method_46_code 0 = .ok (.iconst 1, 1) := by decide +kernel
theorem d_jdk_43_method_46_code_1 : decode jdk_43_method_46_code 1 = .ok (.newarray .byte, 2) := by decide +kernel
theorem d_jdk_43_method_46_code_3 : decode jdk_43_method_46_code 3 = .ok (.dup, 1) := by decide +kernel
theorem d_jdk_43_method_46_code_4 : decode jdk_43_method_46_code 4 = .ok (.iconst 0, 1) := by decide +kernel
theorem d_jdk_43_method_46_code_5 : decode jdk_43_method_46_code 5 = .ok (.iload_n 0, 1) := by decide +kernel
theorem d_jdk_43_method_46_code_6 : decode jdk_43_method_46_code 6 = .ok (.i2b, 1) := by decide +kernel
theorem d_jdk_43_method_46_code_7 : decode jdk_43_method_46_code 7 = .ok (.bastore, 1) := by decide +kernel
theorem d_jdk_43_method_46_code_8 : decode jdk_43_method_46_code 8 = .ok (.areturn, 1) := by decide +kernel
theorem d_jdk_42_method_151_code_0 : decode jdk_42_method_151_code 0 = .ok (.aload_n 0, 1) := by decide +kernel
theorem d_jdk_42_method_151_code_1 : decode jdk_42_method_151_code 1 = .ok (.invokespecial 1, 3) := by decide +kernel
theorem d_jdk_42_method_151_code_4 : decode jdk_42_method_151_code 4 = .ok (.aload_n 0, 1) := by decide +kernel
theorem d_jdk_42_method_151_code_5 : decode jdk_42_method_151_code 5 = .ok (.aload_n 1, 1) := by decide +kernel
theorem d_jdk_42_method_151_code_6 : decode jdk_42_method_151_code 6 = .ok (.putfield 9, 3) := by decide +kernel
theorem d_jdk_42_method_151_code_9 : decode jdk_42_method_151_code 9 = .ok (.aload_n 0, 1) := by decide +kernel
theorem d_jdk_42_method_151_code_10 : decode jdk_42_method_151_code 10 = .ok (.iload_n 2, 1) := by decide +kernel
theorem d_jdk_42_method_151_code_11 : decode jdk_42_method_151_code 11 = .ok (.putfield 15, 3) := by decide +kernel
theorem d_jdk_42_method_151_code_14 : decode jdk_42_method_151_code 14 = .ok (.return_, 1) := by decide +kernel
theorem d_jdk_42_method_139_code_0 : decode jdk_42_method_139_code 0 = .ok (.getstatic 38, 3) := by decide +kernel
theorem d_jdk_42_method_139_code_3 : decode jdk_42_method_139_code 3 = .ok (.ifCond .eq 23, 3) := by decide +kernel
theorem d_jdk_42_method_139_code_6 : decode jdk_42_method_139_code 6 = .ok (.iload_n 0, 1) := by decide +kernel
theorem d_jdk_42_method_139_code_7 : decode jdk_42_method_139_code 7 = .ok (.invokestatic 1015, 3) := by decide +kernel
theorem d_jdk_42_method_139_code_10 : decode jdk_42_method_139_code 10 = .ok (.ifCond .eq 16, 3) := by decide +kernel
theorem d_jdk_42_method_139_code_13 : decode jdk_42_method_139_code 13 = .ok (.new 10, 3) := by decide +kernel
theorem d_jdk_42_method_139_code_16 : decode jdk_42_method_139_code 16 = .ok (.dup, 1) := by decide +kernel
theorem d_jdk_42_method_139_code_17 : decode jdk_42_method_139_code 17 = .ok (.iload_n 0, 1) := by decide +kernel
theorem d_jdk_42_method_139_code_18 : decode jdk_42_method_139_code 18 = .ok (.invokestatic 1018, 3) := by decide +kernel
theorem d_jdk_42_method_139_code_21 : decode jdk_42_method_139_code 21 = .ok (.iconst 0, 1) := by decide +kernel
theorem d_jdk_42_method_139_code_22 : decode jdk_42_method_139_code 22 = .ok (.invokespecial 209, 3) := by decide +kernel
theorem d_jdk_42_method_139_code_25 : decode jdk_42_method_139_code 25 = .ok (.areturn, 1) := by decide +kernel
theorem d_method_3_code_0 : decode method_3_code 0 = .ok (.iload_n 0, 1) := by decide +kernel
theorem d_method_3_code_1 : decode method_3_code 1 = .ok (.sipush 255, 3) := by decide +kernel
theorem d_method_3_code_4 : decode method_3_code 4 = .ok (.iand, 1) := by decide +kernel
theorem d_method_3_code_5 : decode method_3_code 5 = .ok (.i2c, 1) := by decide +kernel
theorem d_method_3_code_6 : decode method_3_code 6 = .ok (.istore_n 2, 1) := by decide +kernel
theorem d_method_3_code_7 : decode method_3_code 7 = .ok (.iload_n 0, 1) := by decide +kernel
theorem d_method_3_code_8 : decode method_3_code 8 = .ok (.bipush 8, 2) := by decide +kernel
theorem d_method_3_code_10 : decode method_3_code 10 = .ok (.iushr, 1) := by decide +kernel
theorem d_method_3_code_11 : decode method_3_code 11 = .ok (.sipush 255, 3) := by decide +kernel
theorem d_method_3_code_14 : decode method_3_code 14 = .ok (.iand, 1) := by decide +kernel
theorem d_method_3_code_15 : decode method_3_code 15 = .ok (.i2c, 1) := by decide +kernel
theorem d_method_3_code_16 : decode method_3_code 16 = .ok (.istore_n 3, 1) := by decide +kernel
theorem d_method_3_code_17 : decode method_3_code 17 = .ok (.iload_n 0, 1) := by decide +kernel
theorem d_method_3_code_18 : decode method_3_code 18 = .ok (.bipush 16, 2) := by decide +kernel
theorem d_method_3_code_20 : decode method_3_code 20 = .ok (.iushr, 1) := by decide +kernel
theorem d_method_3_code_21 : decode method_3_code 21 = .ok (.sipush 255, 3) := by decide +kernel
theorem d_method_3_code_24 : decode method_3_code 24 = .ok (.iand, 1) := by decide +kernel
theorem d_method_3_code_25 : decode method_3_code 25 = .ok (.i2c, 1) := by decide +kernel
theorem d_method_3_code_26 : decode method_3_code 26 = .ok (.istore 4, 2) := by decide +kernel
theorem d_method_3_code_28 : decode method_3_code 28 = .ok (.iload_n 1, 1) := by decide +kernel
theorem d_method_3_code_29 : decode method_3_code 29 = .ok (.ifCond .ne 14, 3) := by decide +kernel
theorem d_method_3_code_32 : decode method_3_code 32 = .ok (.new 27, 3) := by decide +kernel
theorem d_method_3_code_35 : decode method_3_code 35 = .ok (.dup, 1) := by decide +kernel
theorem d_method_3_code_36 : decode method_3_code 36 = .ok (.iconst 0, 1) := by decide +kernel
theorem d_method_3_code_37 : decode method_3_code 37 = .ok (.newarray .char, 2) := by decide +kernel
theorem d_method_3_code_39 : decode method_3_code 39 = .ok (.invokespecial 54, 3) := by decide +kernel
theorem d_method_3_code_42 : decode method_3_code 42 = .ok (.areturn, 1) := by decide +kernel
theorem d_method_3_code_43 : decode method_3_code 43 = .ok (.iload_n 1, 1) := by decide +kernel
theorem d_method_3_code_44 : decode method_3_code 44 = .ok (.iconst 1, 1) := by decide +kernel
theorem d_method_3_code_45 : decode method_3_code 45 = .ok (.if_icmp .ne 8, 3) := by decide +kernel
theorem d_method_3_code_48 : decode method_3_code 48 = .ok (.iload_n 2, 1) := by decide +kernel
theorem d_method_3_code_49 : decode method_3_code 49 = .ok (.invokestatic 57, 3) := by decide +kernel
theorem d_method_3_code_52 : decode method_3_code 52 = .ok (.areturn, 1) := by decide +kernel
theorem d_method_3_code_53 : decode method_3_code 53 = .ok (.iload_n 1, 1) := by decide +kernel
theorem d_method_3_code_54 : decode method_3_code 54 = .ok (.iconst 2, 1) := by decide +kernel
theorem d_method_3_code_55 : decode method_3_code 55 = .ok (.if_icmp .ne 22, 3) := by decide +kernel
theorem d_method_3_code_58 : decode method_3_code 58 = .ok (.new 27, 3) := by decide +kernel
theorem d_method_3_code_61 : decode method_3_code 61 = .ok (.dup, 1) := by decide +kernel
theorem d_method_3_code_62 : decode method_3_code 62 = .ok (.iconst 2, 1) := by decide +kernel
theorem d_method_3_code_63 : decode method_3_code 63 = .ok (.newarray .char, 2) := by decide +kernel
theorem d_method_3_code_65 : decode method_3_code 65 = .ok (.dup, 1) := by decide +kernel
theorem d_method_3_code_66 : decode method_3_code 66 = .ok (.iconst 0, 1) := by decide +kernel
theorem d_method_3_code_67 : decode method_3_code 67 = .ok (.iload_n 2, 1) := by decide +kernel
theorem d_method_3_code_68 : decode method_3_code 68 = .ok (.castore, 1) := by decide +kernel
theorem d_method_3_code_69 : decode method_3_code 69 = .ok (.dup, 1) := by decide +kernel
theorem d_method_3_code_70 : decode method_3_code 70 = .ok (.iconst 1, 1) := by decide +kernel
theorem d_method_3_code_71 : decode method_3_code 71 = .ok (.iload_n 3, 1) := by decide +kernel
theorem d_method_3_code_72 : decode method_3_code 72 = .ok (.castore, 1) := by decide +kernel
theorem d_method_3_code_73 : decode method_3_code 73 = .ok (.invokespecial 54, 3) := by decide +kernel
theorem d_method_3_code_76 : decode method_3_code 76 = .ok (.areturn, 1) := by decide +kernel
theorem d_method_3_code_77 : decode method_3_code 77 = .ok (.new 27, 3) := by decide +kernel
theorem d_method_3_code_80 : decode method_3_code 80 = .ok (.dup, 1) := by decide +kernel
theorem d_method_3_code_81 : decode method_3_code 81 = .ok (.iconst 3, 1) := by decide +kernel
theorem d_method_3_code_82 : decode method_3_code 82 = .ok (.newarray .char, 2) := by decide +kernel
theorem d_method_3_code_84 : decode method_3_code 84 = .ok (.dup, 1) := by decide +kernel
theorem d_method_3_code_85 : decode method_3_code 85 = .ok (.iconst 0, 1) := by decide +kernel
theorem d_method_3_code_86 : decode method_3_code 86 = .ok (.iload_n 2, 1) := by decide +kernel
theorem d_method_3_code_87 : decode method_3_code 87 = .ok (.castore, 1) := by decide +kernel
theorem d_method_3_code_88 : decode method_3_code 88 = .ok (.dup, 1) := by decide +kernel
theorem d_method_3_code_89 : decode method_3_code 89 = .ok (.iconst 1, 1) := by decide +kernel
theorem d_method_3_code_90 : decode method_3_code 90 = .ok (.iload_n 3, 1) := by decide +kernel
theorem d_method_3_code_91 : decode method_3_code 91 = .ok (.castore, 1) := by decide +kernel
theorem d_method_3_code_92 : decode method_3_code 92 = .ok (.dup, 1) := by decide +kernel
theorem d_method_3_code_93 : decode method_3_code 93 = .ok (.iconst 2, 1) := by decide +kernel
theorem d_method_3_code_94 : decode method_3_code 94 = .ok (.iload 4, 2) := by decide +kernel
theorem d_method_3_code_96 : decode method_3_code 96 = .ok (.castore, 1) := by decide +kernel
theorem d_method_3_code_97 : decode method_3_code 97 = .ok (.invokespecial 54, 3) := by decide +kernel
theorem d_method_3_code_100 : decode method_3_code 100 = .ok (.areturn, 1) := by decide +kernel
theorem d_prog_8_method_1_code_0 : decode prog_8_method_1_code 0 = .ok (.aload_n 0, 1) := by decide +kernel
theorem d_prog_8_method_1_code_1 : decode prog_8_method_1_code 1 = .ok (.invokespecial 1, 3) := by decide +kernel
theorem d_prog_8_method_1_code_4 : decode prog_8_method_1_code 4 = .ok (.return_, 1) := by decide +kernel
theorem d_prog_7_method_1_code_0 : decode prog_7_method_1_code 0 = .ok (.aload_n 0, 1) := by decide +kernel
theorem d_prog_7_method_1_code_1 : decode prog_7_method_1_code 1 = .ok (.invokespecial 1, 3) := by decide +kernel
theorem d_prog_7_method_1_code_4 : decode prog_7_method_1_code 4 = .ok (.aload_n 0, 1) := by decide +kernel
theorem d_prog_7_method_1_code_5 : decode prog_7_method_1_code 5 = .ok (.aload_n 1, 1) := by decide +kernel
theorem d_prog_7_method_1_code_6 : decode prog_7_method_1_code 6 = .ok (.putfield 7, 3) := by decide +kernel
theorem d_prog_7_method_1_code_9 : decode prog_7_method_1_code 9 = .ok (.return_, 1) := by decide +kernel
theorem d_jdk_31_method_11_code_0 : decode jdk_31_method_11_code 0 = .ok (.aload_n 0, 1) := by decide +kernel
theorem d_jdk_31_method_11_code_1 : decode jdk_31_method_11_code 1 = .ok (.ifnonnull 12, 3) := by decide +kernel
theorem d_jdk_31_method_11_code_13 : decode jdk_31_method_11_code 13 = .ok (.aload_n 0, 1) := by decide +kernel
theorem d_jdk_31_method_11_code_14 : decode jdk_31_method_11_code 14 = .ok (.areturn, 1) := by decide +kernel
theorem d_prog_7_method_2_code_0 : decode prog_7_method_2_code 0 = .ok (.new 13, 3) := by decide +kernel
theorem d_prog_7_method_2_code_3 : decode prog_7_method_2_code 3 = .ok (.dup, 1) := by decide +kernel
theorem d_prog_7_method_2_code_4 : decode prog_7_method_2_code 4 = .ok (.invokespecial 15, 3) := by decide +kernel
theorem d_prog_7_method_2_code_7 : decode prog_7_method_2_code 7 = .ok (.astore_n 2, 1) := by decide +kernel
theorem d_prog_7_method_2_code_8 : decode prog_7_method_2_code 8 = .ok (.aload_n 2, 1) := by decide +kernel
theorem d_prog_7_method_2_code_9 : decode prog_7_method_2_code 9 = .ok (.aload_n 0, 1) := by decide +kernel
theorem d_prog_7_method_2_code_10 : decode prog_7_method_2_code 10 = .ok (.ldc 16, 2) := by decide +kernel
theorem d_prog_7_method_2_code_12 : decode prog_7_method_2_code 12 = .ok (.invokestatic 18, 3) := by decide +kernel
theorem d_prog_7_method_2_code_15 : decode prog_7_method_2_code 15 = .ok (.checkcast 24, 3) := by decide +kernel
theorem d_prog_7_method_2_code_18 : decode prog_7_method_2_code 18 = .ok (.putfield 26, 3) := by decide +kernel
theorem d_prog_7_method_2_code_21 : decode prog_7_method_2_code 21 = .ok (.aload_n 2, 1) := by decide +kernel
theorem d_prog_7_method_2_code_22 : decode prog_7_method_2_code 22 = .ok (.aload_n 1, 1) := by decide +kernel
theorem d_prog_7_method_2_code_23 : decode prog_7_method_2_code 23 = .ok (.ldc 29, 2) := by decide +kernel
theorem d_prog_7_method_2_code_25 : decode prog_7_method_2_code 25 = .ok (.invokestatic 18, 3) := by decide +kernel
theorem d_prog_7_method_2_code_28 : decode prog_7_method_2_code 28 = .ok (.checkcast 24, 3) := by decide +kernel
theorem d_prog_7_method_2_code_31 : decode prog_7_method_2_code 31 = .ok (.putfield 31, 3) := by decide +kernel
theorem d_prog_7_method_2_code_34 : decode prog_7_method_2_code 34 = .ok (.aload_n 2, 1) := by decide +kernel
theorem d_prog_7_method_2_code_35 : decode prog_7_method_2_code 35 = .ok (.ldc 33, 2) := by decide +kernel
theorem d_prog_7_method_2_code_37 : decode prog_7_method_2_code 37 = .ok (.putfield 35, 3) := by decide +kernel
theorem d_prog_7_method_2_code_40 : decode prog_7_method_2_code 40 = .ok (.aload_n 2, 1) := by decide +kernel
theorem d_prog_7_method_2_code_41 : decode prog_7_method_2_code 41 = .ok (.getstatic 38, 3) := by decide +kernel
theorem d_prog_7_method_2_code_44 : decode prog_7_method_2_code 44 = .ok (.putfield 44, 3) := by decide +kernel
theorem d_prog_7_method_2_code_47 : decode prog_7_method_2_code 47 = .ok (.new 8, 3) := by decide +kernel
theorem d_prog_7_method_2_code_50 : decode prog_7_method_2_code 50 = .ok (.dup, 1) := by decide +kernel
theorem d_prog_7_method_2_code_51 : decode prog_7_method_2_code 51 = .ok (.aload_n 2, 1) := by decide +kernel
theorem d_prog_7_method_2_code_52 : decode prog_7_method_2_code 52 = .ok (.invokespecial 47, 3) := by decide +kernel
theorem d_prog_7_method_2_code_55 : decode prog_7_method_2_code 55 = .ok (.areturn, 1) := by decide +kernel
theorem d_prog_7_method_16_code_0 : decode prog_7_method_16_code 0 = .ok (.aload_n 0, 1) := by decide +kernel
theorem d_prog_7_method_16_code_1 : decode prog_7_method_16_code 1 = .ok (.getfield 7, 3) := by decide +kernel
theorem d_prog_7_method_16_code_4 : decode prog_7_method_16_code 4 = .ok (.getfield 35, 3) := by decide +kernel
theorem d_prog_7_method_16_code_7 : decode prog_7_method_16_code 7 = .ok (.areturn, 1) := by decide +kernel
theorem d_prog_7_method_14_code_0 : decode prog_7_method_14_code 0 = .ok (.aload_n 0, 1) := by decide +kernel
theorem d_prog_7_method_14_code_1 : decode prog_7_method_14_code 1 = .ok (.getfield 7, 3) := by decide +kernel
theorem d_prog_7_method_14_code_4 : decode prog_7_method_14_code 4 = .ok (.getfield 26, 3) := by decide +kernel
theorem d_prog_7_method_14_code_7 : decode prog_7_method_14_code 7 = .ok (.areturn, 1) := by decide +kernel
theorem d_prog_7_method_15_code_0 : decode prog_7_method_15_code 0 = .ok (.aload_n 0, 1) := by decide +kernel
theorem d_prog_7_method_15_code_1 : decode prog_7_method_15_code 1 = .ok (.getfield 7, 3) := by decide +kernel
theorem d_prog_7_method_15_code_4 : decode prog_7_method_15_code 4 = .ok (.getfield 31, 3) := by decide +kernel
theorem d_prog_7_method_15_code_7 : decode prog_7_method_15_code 7 = .ok (.areturn, 1) := by decide +kernel
theorem d_prog_7_method_22_code_0 : decode prog_7_method_22_code 0 = .ok (.aload_n 0, 1) := by decide +kernel
theorem d_prog_7_method_22_code_1 : decode prog_7_method_22_code 1 = .ok (.getfield 7, 3) := by decide +kernel
theorem d_prog_7_method_22_code_4 : decode prog_7_method_22_code 4 = .ok (.getfield 44, 3) := by decide +kernel
theorem d_prog_7_method_22_code_7 : decode prog_7_method_22_code 7 = .ok (.areturn, 1) := by decide +kernel
theorem d_prog_7_method_20_code_0 : decode prog_7_method_20_code 0 = .ok (.aload_n 0, 1) := by decide +kernel
theorem d_prog_7_method_20_code_1 : decode prog_7_method_20_code 1 = .ok (.getfield 7, 3) := by decide +kernel
theorem d_prog_7_method_20_code_4 : decode prog_7_method_20_code 4 = .ok (.getfield 149, 3) := by decide +kernel
theorem d_prog_7_method_20_code_7 : decode prog_7_method_20_code 7 = .ok (.lreturn, 1) := by decide +kernel
theorem d_jdk_42_method_66_code_0 : decode jdk_42_method_66_code 0 = .ok (.aload_n 0, 1) := by decide +kernel
theorem d_jdk_42_method_66_code_1 : decode jdk_42_method_66_code 1 = .ok (.aload_n 1, 1) := by decide +kernel
theorem d_jdk_42_method_66_code_2 : decode jdk_42_method_66_code 2 = .ok (.if_acmp .ne 5, 3) := by decide +kernel
theorem d_jdk_42_method_66_code_5 : decode jdk_42_method_66_code 5 = .ok (.iconst 1, 1) := by decide +kernel
theorem d_jdk_42_method_66_code_6 : decode jdk_42_method_66_code 6 = .ok (.ireturn, 1) := by decide +kernel
theorem d_jdk_42_method_55_code_0 : decode jdk_42_method_55_code 0 = .ok (.aload_n 0, 1) := by decide +kernel
theorem d_jdk_42_method_55_code_1 : decode jdk_42_method_55_code 1 = .ok (.getfield 9, 3) := by decide +kernel
theorem d_jdk_42_method_55_code_4 : decode jdk_42_method_55_code 4 = .ok (.arraylength, 1) := by decide +kernel
theorem d_jdk_42_method_55_code_5 : decode jdk_42_method_55_code 5 = .ok (.ifCond .ne 7, 3) := by decide +kernel
theorem d_jdk_42_method_55_code_8 : decode jdk_42_method_55_code 8 = .ok (.iconst 1, 1) := by decide +kernel
theorem d_jdk_42_method_55_code_9 : decode jdk_42_method_55_code 9 = .ok (.goto 4, 3) := by decide +kernel
theorem d_jdk_42_method_55_code_13 : decode jdk_42_method_55_code 13 = .ok (.ireturn, 1) := by decide +kernel
theorem d_prog_14_method_6_code_0 : decode prog_14_method_6_code 0 = .ok (.aload_n 0, 1) := by decide +kernel
theorem d_prog_14_method_6_code_1 : decode prog_14_method_6_code 1 = .ok (.aload_n 1, 1) := by decide +kernel
theorem d_prog_14_method_6_code_2 : decode prog_14_method_6_code 2 = .ok (.if_acmp .ne 5, 3) := by decide +kernel
theorem d_prog_14_method_6_code_5 : decode prog_14_method_6_code 5 = .ok (.iconst 1, 1) := by decide +kernel
theorem d_prog_14_method_6_code_6 : decode prog_14_method_6_code 6 = .ok (.ireturn, 1) := by decide +kernel
theorem pd_CI_BII_I : parseMethodDescriptor "([CI[BII)I" = some ⟨[(.array .char), .int, (.array .byte), .int, .int], some .int⟩ := by decide +kernel
theorem pd_CII__B : parseMethodDescriptor "([CII)[B" = some ⟨[(.array .char), .int, .int], some (.array .byte)⟩ := by decide +kernel
theorem pd_BI_B : parseMethodDescriptor "([BI)B" = some ⟨[(.array .byte), .int], some .byte⟩ := by decide +kernel
theorem pd_CIILjava_lang_Void__V : parseMethodDescriptor "([CIILjava/lang/Void;)V" = some ⟨[(.array .char), .int, .int, (.object "java/lang/Void")], none⟩ := by decide +kernel
theorem pd_C_Z : parseMethodDescriptor "(C)Z" = some ⟨[.char], some .boolean⟩ := by decide +kernel
theorem pd_C__B : parseMethodDescriptor "(C)[B" = some ⟨[.char], some (.array .byte)⟩ := by decide +kernel
theorem pd_BB_V : parseMethodDescriptor "([BB)V" = some ⟨[(.array .byte), .byte], none⟩ := by decide +kernel
theorem pd_C_V : parseMethodDescriptor "([C)V" = some ⟨[(.array .char)], none⟩ := by decide +kernel
theorem pd_C_Ljava_lang_String : parseMethodDescriptor "(C)Ljava/lang/String;" = some ⟨[.char], some (.object "java/lang/String")⟩ := by decide +kernel
theorem pd_V : parseMethodDescriptor "()V" = some ⟨[], none⟩ := by decide +kernel
theorem pd_Ljava_lang_Object_Ljava_lang_String__Ljava_lang_Object : parseMethodDescriptor "(Ljava/lang/Object;Ljava/lang/String;)Ljava/lang/Object;" = some ⟨[(.object "java/lang/Object"), (.object "java/lang/String")], some (.object "java/lang/Object")⟩ := by decide +kernel
theorem pd_Lcom_example_uraniborg_uraniborg_model_JobSpec_Parts__V : parseMethodDescriptor "(Lcom/example/uraniborg/uraniborg/model/JobSpec$Parts;)V" = some ⟨[(.object "com/example/uraniborg/uraniborg/model/JobSpec$Parts")], none⟩ := by decide +kernel
theorem pd_II_Ljava_lang_String : parseMethodDescriptor "(II)Ljava/lang/String;" = some ⟨[.int, .int], some (.object "java/lang/String")⟩ := by decide +kernel
theorem pd_Ljava_lang_String_Ljava_lang_String__Lcom_example_uraniborg_uraniborg_model_JobSpec : parseMethodDescriptor "(Ljava/lang/String;Ljava/lang/String;)Lcom/example/uraniborg/uraniborg/model/JobSpec;" = some ⟨[(.object "java/lang/String"), (.object "java/lang/String")], some (.object "com/example/uraniborg/uraniborg/model/JobSpec")⟩ := by decide +kernel
theorem pd_Ljava_lang_String : parseMethodDescriptor "()Ljava/lang/String;" = some ⟨[], some (.object "java/lang/String")⟩ := by decide +kernel
theorem pd_Ljava_lang_Object__Z : parseMethodDescriptor "(Ljava/lang/Object;)Z" = some ⟨[(.object "java/lang/Object")], some .boolean⟩ := by decide +kernel
theorem pd_Z : parseMethodDescriptor "()Z" = some ⟨[], some .boolean⟩ := by decide +kernel
theorem pd_J : parseMethodDescriptor "()J" = some ⟨[], some .long⟩ := by decide +kernel
theorem pd_Lcom_example_uraniborg_uraniborg_model_RetryPolicy : parseMethodDescriptor "()Lcom/example/uraniborg/uraniborg/model/RetryPolicy;" = some ⟨[], some (.object "com/example/uraniborg/uraniborg/model/RetryPolicy")⟩ := by decide +kernel
abbrev own_EL : List (String × Nat) := consts_1
theorem own_nc (y : Int32) : ¬ ((255 : Int32) < nar .char ((y &&& (255 : Int32)).toUInt32.toUInt16.toUInt32.toInt32)) := by
  show ¬ ((255 : Int32) < ((y &&& (255 : Int32)).toUInt32.toUInt16.toUInt32.toInt32).toUInt32.toUInt16.toUInt32.toInt32)
  have a := c_i2c (y &&& (255 : Int32))
  have b := c_mask y (255 : Int32) 8 (by decide) (by decide)
  have c := c_i2c ((y &&& (255 : Int32)).toUInt32.toUInt16.toUInt32.toInt32)
  have d := rng32 (y &&& (255 : Int32))
  simp only [Int32.lt_iff_toInt_lt, Int32.reduceToInt] at a b c d ⊢
  omega
theorem own_sin : ∀ w ∈ Bundle.stringAtoms, w ∈ tables_1 := by decide +kernel
theorem own_ew {Z : State} {a0 : Array Value} (hw : ∀ d ∈ tables_1, d.before a0 Z = true) : EW Z a0 own_EL := (EW.cons (hw _ (List.mem_of_getElem? (i := 48) rfl)) (by decide +kernel) (EW.cons (hw _ (List.mem_of_getElem? (i := 56) rfl)) (by decide +kernel) (EW.cons (hw _ (List.mem_of_getElem? (i := 59) rfl)) (by decide +kernel) (EW.cons (hw _ (List.mem_of_getElem? (i := 34) rfl)) (by decide +kernel) EW.nil))))

theorem ef_cmp2 (m : MethodId) (x0 : Addr) (x1 : Int32) (x2 : Addr) (x3 : Int32) (x4 : Int32) : entryFrame m #[(.ref x0), (.int x1), (.ref x2), (.int x3), (.int x4)] 7 = mkF m 0 #[.val (.ref x0), .val (.int x1), .val (.ref x2), .val (.int x3), .val (.int x4), .unset, .unset] [] := by first | (simp [entryFrame, mkF, argsToLocals, Value.category]; done) | rfl
def Q_cmp2 (Z : State) (a1 : Addr) (k1 : ClassId) (a3 : Addr) (k3 : ClassId) (x0 : Int32) (x1 : Int32) (h0 : Heap) (n0 : Nat) (v : Option Value) (h : Heap) (L : List Loc) : Prop := ∃ (y0 : Value) (y1 : Value), v = some (.int (2 : Int32)) ∧ Fr n0 L ∧ Keep h0 h [a3] ∧ Arv Z h a3 k3 .byte (2 : Int32) [y0, y1] (.int (0 : Int32))
set_option maxRecDepth 65536 in
set_option maxHeartbeats 40000000 in
theorem cmp2 (l : Launch) (Z : State) (a0 : Array Value) (hw : ∀ d ∈ tables_1, d.before a0 Z = true) (ws : List Jvm.Cond) (a1 : Addr) (k1 : ClassId) (a3 : Addr) (k3 : ClassId) (x0 : Int32) (x1 : Int32) (h0 : Heap) (n0 : Nat) (Z0 : n0 ≤ h0.size) (V1 : Arv Z h0 a1 k1 .char (2 : Int32) [(.int x0), (.int x1)] (.int (0 : Int32))) (V3 : Arv Z h0 a3 k3 .byte (2 : Int32) [(.int (0 : Int32)), (.int (0 : Int32))] (.int (0 : Int32))) (G3 : n0 ≤ a3) (NE : a1 ≠ a3) (P0 : ¬ ((255 : Int32) < x0)) (P1 : ¬ ((255 : Int32) < x1)) :
    MetFree l mth0 (head1 (Jvm.Cond.code mth0 jdk_52_method_21_code 7 (some .int) :: ws) rom0) (fun a U => a = #[(.ref a1), (.int (0 : Int32)), (.ref a3), (.int (0 : Int32)), (.int (2 : Int32))] ∧ Z.Warmed39 U.vm ∧ U.heap = h0) (fun _ _ _ _ _ => True) (fun _ U o U' => ∃ v L, o = .returned v ∧ Q_cmp2 Z a1 k1 a3 k3 x0 x1 h0 n0 v U'.heap L ∧ FrameEnd U o U' L rom0.cells rom0.slots) := by
  refine MetFree.of_bodySF (plainFor_of_name pnm0) hisR ?_
  intro p e s m args below meth c s₁ Bd hml0 hP hK
  obtain ⟨rfl, hZ, hh⟩ := hP
  have hx := Bd.exec
  have hby := Bd.bytes
  have hml : c.maxLocals = 7 := hml0
  have hown : s.vm.findClass "java/lang/StringUTF16" = some m.cls := findClass_of_methodNamed Bd.named
  have hnm := (name_of_methodNamed Bd.named Bd.method).1
  have X0 : Stand p l e rom0 s m #[(.ref a1), (.int (0 : Int32)), (.ref a3), (.int (0 : Int32)), (.int (2 : Int32))] below meth c s₁ [] 0 0 := Stand.of_body Bd
  have eh0 : s₁.heap = h0 := by rw [← hh, Bd.state]; rfl
  have N0 := Fr.nil n0
  show Goes p e below (Pq (Q_cmp2 Z a1 k1 a3 k3 x0 x1 h0 n0) s rom0.cells rom0.slots) (s₁.setTop (entryFrame m #[(.ref a1), (.int (0 : Int32)), (.ref a3), (.int (0 : Int32)), (.int (2 : Int32))] 7))
  refine Goes.step (S' := s₁.setTop (mkF m 0 #[.val (.ref a1), .val (.int (0 : Int32)), .val (.ref a3), .val (.int (0 : Int32)), .val (.int (2 : Int32)), .unset, .unset] [])) (fun t k => castTop (ef_cmp2 m a1 (0 : Int32) a3 (0 : Int32) (2 : Int32)) k) ?_
  refine Goes.step (S' := s₁.setTop (mkF m 12 #[.val (.ref a1), .val (.int (0 : Int32)), .val (.ref a3), .val (.int (0 : Int32)), .val (.int (2 : Int32)), .val (.int (0 : Int32)), .unset] [(.int (0 : Int32)), (.ref a1)])) (fun t k => XS.iconst X0.here hx rfl (hb hby d_jdk_52_method_21_code_0) (XS.istore X0.here hx rfl (hb hby d_jdk_52_method_21_code_1) rfl (l' := #[.val (.ref a1), .val (.int (0 : Int32)), .val (.ref a3), .val (.int (0 : Int32)), .val (.int (2 : Int32)), .val (.int (0 : Int32)), .unset]) rfl (XS.iload X0.here hx rfl (hb hby d_jdk_52_method_21_code_3) rfl (XS.iload X0.here hx rfl (hb hby d_jdk_52_method_21_code_5) rfl (XS.icmpNo X0.here hx rfl (hb hby d_jdk_52_method_21_code_7) rfl (tlt ((by decide) : (0 : Int32) < (2 : Int32))).2.1 (XS.aloadN X0.here hx rfl (hb hby d_jdk_52_method_21_code_10) rfl rfl (XS.iloadN X0.here hx rfl (hb hby d_jdk_52_method_21_code_11) rfl k))))))) ?_
  obtain ⟨cl101, Ar101, qk101, Sz101, Nn101, Hs101, Gs101⟩ := id V1
  have hin101 := (inb_of (j := (0 : Int32)) Sz101 ⟨by decide, by decide⟩)
  refine Goes.step (S' := s₁.setTop (mkF m 30 #[.val (.ref a1), .val (.int (0 : Int32)), .val (.ref a3), .val (.int (0 : Int32)), .val (.int (2 : Int32)), .val (.int (0 : Int32)), .val (.int x0)] [(.int x0), (.int (0 : Int32)), (.ref a3)])) (fun t k => X0.caload hx (j := (0 : Int32)) (v := (.int x0)) (by rw [eh0]; exact Ar101.1) (State.isArrayOf_alike hZ.alike Ar101.2.1) Ar101.2.2 hin101 (Has.at Hs101 hin101 rfl) (g := (mkF m 12 #[.val (.ref a1), .val (.int (0 : Int32)), .val (.ref a3), .val (.int (0 : Int32)), .val (.int (2 : Int32)), .val (.int (0 : Int32)), .unset] [(.int (0 : Int32)), (.ref a1)])) rfl rfl (hb hby d_jdk_52_method_21_code_12) _ (XS.istore X0.here hx rfl (hb hby d_jdk_52_method_21_code_13) rfl (l' := #[.val (.ref a1), .val (.int (0 : Int32)), .val (.ref a3), .val (.int (0 : Int32)), .val (.int (2 : Int32)), .val (.int (0 : Int32)), .val (.int x0)]) rfl (XS.iload X0.here hx rfl (hb hby d_jdk_52_method_21_code_15) rfl (XS.sipush X0.here hx rfl (hb hby d_jdk_52_method_21_code_17) (XS.icmpYes X0.here hx rfl (pc0 := 20) (pc' := 26) rfl (hb hby d_jdk_52_method_21_code_20) rfl (flt (P0 : ¬ ((255 : Int32) < x0))).2.2.2 (by decide) (by decide) (XS.aloadN X0.here hx rfl (hb hby d_jdk_52_method_21_code_26) rfl rfl (XS.iloadN X0.here hx rfl (hb hby d_jdk_52_method_21_code_27) rfl (XS.iload X0.here hx rfl (hb hby d_jdk_52_method_21_code_28) rfl k)))))))) ?_
  refine Goes.step (S' := s₁.setTop (mkF m 31 #[.val (.ref a1), .val (.int (0 : Int32)), .val (.ref a3), .val (.int (0 : Int32)), .val (.int (2 : Int32)), .val (.int (0 : Int32)), .val (.int x0)] [(.int (x0.toInt8.toInt32)), (.int (0 : Int32)), (.ref a3)])) (fun t k => XS.i2b X0.here hx rfl (hb hby d_jdk_52_method_21_code_30) rfl k) ?_
  obtain ⟨cl102, Ar102, qk102, Sz102, Nn102, Hs102, Gs102⟩ := id V3
  obtain ⟨T102, h102, X102, e102, W102, st102⟩ := stB X0 hx hZ eh0 Ar102 (j := (0 : Int32)) (inb_of (j := (0 : Int32)) Sz102 ⟨by decide, by decide⟩) (g := (mkF m 31 #[.val (.ref a1), .val (.int (0 : Int32)), .val (.ref a3), .val (.int (0 : Int32)), .val (.int (2 : Int32)), .val (.int (0 : Int32)), .val (.int x0)] [(.int (x0.toInt8.toInt32)), (.int (0 : Int32)), (.ref a3)])) rfl rfl (hb hby d_jdk_52_method_21_code_31)
  have V102 : Arv Z h102 a3 k3 .byte (2 : Int32) [(.int (x0.toInt8.toInt32).toInt8.toInt32), (.int (0 : Int32))] (.int (0 : Int32)) := Arv.set Ar102 qk102 Sz102 Nn102 Hs102 Gs102 (fits_nar_byte _) W102 0 rfl (Nat.le_of_ble_eq_true rfl)
  have N102 := Fr.snoc X102 N0 G3
  refine Goes.step (S' := T102.setTop (mkF m 35 #[.val (.ref a1), .val (.int ((0 : Int32) + (1 : Int32))), .val (.ref a3), .val (.int (0 : Int32)), .val (.int (2 : Int32)), .val (.int (0 : Int32)), .val (.int x0)] [])) (fun t k => st102 _ (XS.iinc X102.here hx rfl (hb hby d_jdk_52_method_21_code_32) rfl (l' := #[.val (.ref a1), .val (.int ((0 : Int32) + (1 : Int32))), .val (.ref a3), .val (.int (0 : Int32)), .val (.int (2 : Int32)), .val (.int (0 : Int32)), .val (.int x0)]) rfl k)) ?_
  rw [show ((0 : Int32) + (1 : Int32)) = (1 : Int32) from by decide]
  refine Goes.step (S' := T102.setTop (mkF m 38 #[.val (.ref a1), .val (.int (1 : Int32)), .val (.ref a3), .val (.int ((0 : Int32) + (1 : Int32))), .val (.int (2 : Int32)), .val (.int (0 : Int32)), .val (.int x0)] [])) (fun t k => XS.iinc X102.here hx rfl (hb hby d_jdk_52_method_21_code_35) rfl (l' := #[.val (.ref a1), .val (.int (1 : Int32)), .val (.ref a3), .val (.int ((0 : Int32) + (1 : Int32))), .val (.int (2 : Int32)), .val (.int (0 : Int32)), .val (.int x0)]) rfl k) ?_
  rw [show ((0 : Int32) + (1 : Int32)) = (1 : Int32) from by decide]
  refine Goes.step (S' := T102.setTop (mkF m 41 #[.val (.ref a1), .val (.int (1 : Int32)), .val (.ref a3), .val (.int (1 : Int32)), .val (.int (2 : Int32)), .val (.int ((0 : Int32) + (1 : Int32))), .val (.int x0)] [])) (fun t k => XS.iinc X102.here hx rfl (hb hby d_jdk_52_method_21_code_38) rfl (l' := #[.val (.ref a1), .val (.int (1 : Int32)), .val (.ref a3), .val (.int (1 : Int32)), .val (.int (2 : Int32)), .val (.int ((0 : Int32) + (1 : Int32))), .val (.int x0)]) rfl k) ?_
  rw [show ((0 : Int32) + (1 : Int32)) = (1 : Int32) from by decide]
  refine Goes.step (S' := T102.setTop (mkF m 12 #[.val (.ref a1), .val (.int (1 : Int32)), .val (.ref a3), .val (.int (1 : Int32)), .val (.int (2 : Int32)), .val (.int (1 : Int32)), .val (.int x0)] [(.int (1 : Int32)), (.ref a1)])) (fun t k => XS.goto X102.here hx rfl (pc0 := 41) (pc' := 3) rfl (hb hby d_jdk_52_method_21_code_41) (by decide) (by decide) (XS.iload X102.here hx rfl (hb hby d_jdk_52_method_21_code_3) rfl (XS.iload X102.here hx rfl (hb hby d_jdk_52_method_21_code_5) rfl (XS.icmpNo X102.here hx rfl (hb hby d_jdk_52_method_21_code_7) rfl (tlt ((by decide) : (1 : Int32) < (2 : Int32))).2.1 (XS.aloadN X102.here hx rfl (hb hby d_jdk_52_method_21_code_10) rfl rfl (XS.iloadN X102.here hx rfl (hb hby d_jdk_52_method_21_code_11) rfl k)))))) ?_
  obtain ⟨cl103, Ar103, qk103, Sz103, Nn103, Hs103, Gs103⟩ := id (V1.other W102 NE)
  have hin103 := (inb_of (j := (1 : Int32)) Sz103 ⟨by decide, by decide⟩)
  refine Goes.step (S' := T102.setTop (mkF m 30 #[.val (.ref a1), .val (.int (1 : Int32)), .val (.ref a3), .val (.int (1 : Int32)), .val (.int (2 : Int32)), .val (.int (1 : Int32)), .val (.int x1)] [(.int x1), (.int (1 : Int32)), (.ref a3)])) (fun t k => X102.caload hx (j := (1 : Int32)) (v := (.int x1)) (by rw [e102]; exact Ar103.1) (State.isArrayOf_alike hZ.alike Ar103.2.1) Ar103.2.2 hin103 (Has.at Hs103 hin103 rfl) (g := (mkF m 12 #[.val (.ref a1), .val (.int (1 : Int32)), .val (.ref a3), .val (.int (1 : Int32)), .val (.int (2 : Int32)), .val (.int (1 : Int32)), .val (.int x0)] [(.int (1 : Int32)), (.ref a1)])) rfl rfl (hb hby d_jdk_52_method_21_code_12) _ (XS.istore X102.here hx rfl (hb hby d_jdk_52_method_21_code_13) rfl (l' := #[.val (.ref a1), .val (.int (1 : Int32)), .val (.ref a3), .val (.int (1 : Int32)), .val (.int (2 : Int32)), .val (.int (1 : Int32)), .val (.int x1)]) rfl (XS.iload X102.here hx rfl (hb hby d_jdk_52_method_21_code_15) rfl (XS.sipush X102.here hx rfl (hb hby d_jdk_52_method_21_code_17) (XS.icmpYes X102.here hx rfl (pc0 := 20) (pc' := 26) rfl (hb hby d_jdk_52_method_21_code_20) rfl (flt (P1 : ¬ ((255 : Int32) < x1))).2.2.2 (by decide) (by decide) (XS.aloadN X102.here hx rfl (hb hby d_jdk_52_method_21_code_26) rfl rfl (XS.iloadN X102.here hx rfl (hb hby d_jdk_52_method_21_code_27) rfl (XS.iload X102.here hx rfl (hb hby d_jdk_52_method_21_code_28) rfl k)))))))) ?_
  refine Goes.step (S' := T102.setTop (mkF m 31 #[.val (.ref a1), .val (.int (1 : Int32)), .val (.ref a3), .val (.int (1 : Int32)), .val (.int (2 : Int32)), .val (.int (1 : Int32)), .val (.int x1)] [(.int (x1.toInt8.toInt32)), (.int (1 : Int32)), (.ref a3)])) (fun t k => XS.i2b X102.here hx rfl (hb hby d_jdk_52_method_21_code_30) rfl k) ?_
  obtain ⟨cl104, Ar104, qk104, Sz104, Nn104, Hs104, Gs104⟩ := id V102
  obtain ⟨T104, h104, X104, e104, W104, st104⟩ := stB X102 hx hZ e102 Ar104 (j := (1 : Int32)) (inb_of (j := (1 : Int32)) Sz104 ⟨by decide, by decide⟩) (g := (mkF m 31 #[.val (.ref a1), .val (.int (1 : Int32)), .val (.ref a3), .val (.int (1 : Int32)), .val (.int (2 : Int32)), .val (.int (1 : Int32)), .val (.int x1)] [(.int (x1.toInt8.toInt32)), (.int (1 : Int32)), (.ref a3)])) rfl rfl (hb hby d_jdk_52_method_21_code_31)
  have V104 : Arv Z h104 a3 k3 .byte (2 : Int32) [(.int (x0.toInt8.toInt32).toInt8.toInt32), (.int (x1.toInt8.toInt32).toInt8.toInt32)] (.int (0 : Int32)) := Arv.set Ar104 qk104 Sz104 Nn104 Hs104 Gs104 (fits_nar_byte _) W104 1 rfl (Nat.le_of_ble_eq_true rfl)
  have N104 := Fr.snoc X104 N102 G3
  refine Goes.step (S' := T104.setTop (mkF m 35 #[.val (.ref a1), .val (.int ((1 : Int32) + (1 : Int32))), .val (.ref a3), .val (.int (1 : Int32)), .val (.int (2 : Int32)), .val (.int (1 : Int32)), .val (.int x1)] [])) (fun t k => st104 _ (XS.iinc X104.here hx rfl (hb hby d_jdk_52_method_21_code_32) rfl (l' := #[.val (.ref a1), .val (.int ((1 : Int32) + (1 : Int32))), .val (.ref a3), .val (.int (1 : Int32)), .val (.int (2 : Int32)), .val (.int (1 : Int32)), .val (.int x1)]) rfl k)) ?_
  rw [show ((1 : Int32) + (1 : Int32)) = (2 : Int32) from by decide]
  refine Goes.step (S' := T104.setTop (mkF m 38 #[.val (.ref a1), .val (.int (2 : Int32)), .val (.ref a3), .val (.int ((1 : Int32) + (1 : Int32))), .val (.int (2 : Int32)), .val (.int (1 : Int32)), .val (.int x1)] [])) (fun t k => XS.iinc X104.here hx rfl (hb hby d_jdk_52_method_21_code_35) rfl (l' := #[.val (.ref a1), .val (.int (2 : Int32)), .val (.ref a3), .val (.int ((1 : Int32) + (1 : Int32))), .val (.int (2 : Int32)), .val (.int (1 : Int32)), .val (.int x1)]) rfl k) ?_
  rw [show ((1 : Int32) + (1 : Int32)) = (2 : Int32) from by decide]
  refine Goes.step (S' := T104.setTop (mkF m 41 #[.val (.ref a1), .val (.int (2 : Int32)), .val (.ref a3), .val (.int (2 : Int32)), .val (.int (2 : Int32)), .val (.int ((1 : Int32) + (1 : Int32))), .val (.int x1)] [])) (fun t k => XS.iinc X104.here hx rfl (hb hby d_jdk_52_method_21_code_38) rfl (l' := #[.val (.ref a1), .val (.int (2 : Int32)), .val (.ref a3), .val (.int (2 : Int32)), .val (.int (2 : Int32)), .val (.int ((1 : Int32) + (1 : Int32))), .val (.int x1)]) rfl k) ?_
  rw [show ((1 : Int32) + (1 : Int32)) = (2 : Int32) from by decide]
  refine Goes.step (S' := T104.setTop (mkF m 46 #[.val (.ref a1), .val (.int (2 : Int32)), .val (.ref a3), .val (.int (2 : Int32)), .val (.int (2 : Int32)), .val (.int (2 : Int32)), .val (.int x1)] [(.int (2 : Int32))])) (fun t k => XS.goto X104.here hx rfl (pc0 := 41) (pc' := 3) rfl (hb hby d_jdk_52_method_21_code_41) (by decide) (by decide) (XS.iload X104.here hx rfl (hb hby d_jdk_52_method_21_code_3) rfl (XS.iload X104.here hx rfl (hb hby d_jdk_52_method_21_code_5) rfl (XS.icmpYes X104.here hx rfl (pc0 := 7) (pc' := 44) rfl (hb hby d_jdk_52_method_21_code_7) rfl (flt ((by decide) : ¬ ((2 : Int32) < (2 : Int32)))).2.1 (by decide) (by decide) (XS.iload X104.here hx rfl (hb hby d_jdk_52_method_21_code_44) rfl k))))) ?_
  refine Goes.leave (g := (mkF m 46 #[.val (.ref a1), .val (.int (2 : Int32)), .val (.ref a3), .val (.int (2 : Int32)), .val (.int (2 : Int32)), .val (.int (2 : Int32)), .val (.int x1)] [(.int (2 : Int32))])) X104 Bd.notSynchronized (v := (some (.int (2 : Int32)))) (fun h => by rw [Bd.returns] at h; cases h) (fun fs hr => retI X104 hx Bd.returns (hb hby d_jdk_52_method_21_code_46) hr) e104 ?_ (by decide) (by decide)
  exact ⟨(.int (x0.toInt8.toInt32).toInt8.toInt32), (.int (x1.toInt8.toInt32).toInt8.toInt32), rfl, N104, (((Keep.refl _ [a3]).wr W102 (Or.inl (List.mem_of_getElem? (i := 0) rfl))).wr W104 (Or.inl (List.mem_of_getElem? (i := 0) rfl))), V104⟩

theorem ef_cmq2 (m : MethodId) (x0 : Addr) (x1 : Int32) (x2 : Int32) : entryFrame m #[(.ref x0), (.int x1), (.int x2)] 6 = mkF m 0 #[.val (.ref x0), .val (.int x1), .val (.int x2), .unset, .unset, .unset] [] := by first | (simp [entryFrame, mkF, argsToLocals, Value.category]; done) | rfl
def Q_cmq2 (Z : State) (a1 : Addr) (k1 : ClassId) (x0 : Int32) (x1 : Int32) (h0 : Heap) (n0 : Nat) (v : Option Value) (h : Heap) (L : List Loc) : Prop := ∃ (b : Addr) (kb : ClassId) (y0 : Value) (y1 : Value), v = some (.ref b) ∧ Fr n0 L ∧ Keep h0 h [] ∧ h0.size ≤ b ∧ Exa Z h b "[B" ∧ Arv Z h b kb .byte (2 : Int32) [y0, y1] (.int (0 : Int32))
set_option maxRecDepth 65536 in
set_option maxHeartbeats 40000000 in
theorem cmq2 (l : Launch) (Z : State) (a0 : Array Value) (hw : ∀ d ∈ tables_1, d.before a0 Z = true) (ws : List Jvm.Cond) (a1 : Addr) (k1 : ClassId) (x0 : Int32) (x1 : Int32) (h0 : Heap) (n0 : Nat) (Z0 : n0 ≤ h0.size) (V1 : Arv Z h0 a1 k1 .char (2 : Int32) [(.int x0), (.int x1)] (.int (0 : Int32))) (P0 : ¬ ((255 : Int32) < x0)) (P1 : ¬ ((255 : Int32) < x1)) :
    MetFree l mth1 (head1 (Jvm.Cond.code mth1 jdk_52_method_16_code 6 (some (.array .byte)) :: ws) rom1) (fun a U => a = #[(.ref a1), (.int (0 : Int32)), (.int (2 : Int32))] ∧ Z.Warmed39 U.vm ∧ U.heap = h0) (fun _ _ _ _ _ => True) (fun _ U o U' => ∃ v L, o = .returned v ∧ Q_cmq2 Z a1 k1 x0 x1 h0 n0 v U'.heap L ∧ FrameEnd U o U' L rom1.cells rom1.slots) := by
  refine MetFree.of_bodySF (plainFor_of_name pnm0) hisR ?_
  intro p e s m args below meth c s₁ Bd hml0 hP hK
  obtain ⟨rfl, hZ, hh⟩ := hP
  have hx := Bd.exec
  have hby := Bd.bytes
  have hml : c.maxLocals = 6 := hml0
  have hown : s.vm.findClass "java/lang/StringUTF16" = some m.cls := findClass_of_methodNamed Bd.named
  have hnm := (name_of_methodNamed Bd.named Bd.method).1
  have X0 : Stand p l e rom1 s m #[(.ref a1), (.int (0 : Int32)), (.int (2 : Int32))] below meth c s₁ [] 0 0 := Stand.of_body Bd
  have eh0 : s₁.heap = h0 := by rw [← hh, Bd.state]; rfl
  have N0 := Fr.nil n0
  have tw21 := hw _ (List.mem_of_getElem? (i := 21) rfl)
  have tw23 := hw _ (List.mem_of_getElem? (i := 23) rfl)
  have tw24 := hw _ (List.mem_of_getElem? (i := 24) rfl)
  have tw25 := hw _ (List.mem_of_getElem? (i := 25) rfl)
  have tw26 := hw _ (List.mem_of_getElem? (i := 26) rfl)
  show Goes p e below (Pq (Q_cmq2 Z a1 k1 x0 x1 h0 n0) s rom1.cells rom1.slots) (s₁.setTop (entryFrame m #[(.ref a1), (.int (0 : Int32)), (.int (2 : Int32))] 6))
  refine Goes.step (S' := s₁.setTop (mkF m 0 #[.val (.ref a1), .val (.int (0 : Int32)), .val (.int (2 : Int32)), .unset, .unset, .unset] [])) (fun t k => castTop (ef_cmq2 m a1 (0 : Int32) (2 : Int32)) k) ?_
  refine Goes.step (S' := s₁.setTop (mkF m 1 #[.val (.ref a1), .val (.int (0 : Int32)), .val (.int (2 : Int32)), .unset, .unset, .unset] [(.int (2 : Int32))])) (fun t k => XS.iloadN X0.here hx rfl (hb hby d_jdk_52_method_16_code_0) rfl k) ?_
  obtain ⟨T101, h101, k101, X101, e101, E101, A101, AE101, st101⟩ := newPE (aty := .byte) X0 hx hZ tw23 eh0 (g := (mkF m 1 #[.val (.ref a1), .val (.int (0 : Int32)), .val (.int (2 : Int32)), .unset, .unset, .unset] [(.int (2 : Int32))])) rfl (hb hby d_jdk_52_method_16_code_1) rfl (by decide) (cap := 2) (by decide) (by decide) (by decide) (by decide) (ad := "[B") rfl
  obtain ⟨b101, g101⟩ : ∃ z, z = h0.size := ⟨_, rfl⟩
  rw [← g101] at A101 AE101 st101
  have V101 : Arv Z h101 b101 k101 .byte (2 : Int32) [(.int (0 : Int32)), (.int (0 : Int32))] (.int (0 : Int32)) := (Arv.new A101 (by decide)).pad (pad_rep [] (.int (0 : Int32)) 2)
  refine Goes.step (S' := T101.setTop (mkF m 9 #[.val (.ref a1), .val (.int (0 : Int32)), .val (.int (2 : Int32)), .val (.ref b101), .unset, .unset] [(.int (2 : Int32)), (.int (0 : Int32)), (.ref b101), (.int (0 : Int32)), (.ref a1)])) (fun t k => st101 _ (XS.astoreN X101.here hx rfl (hb hby d_jdk_52_method_16_code_3) rfl rfl (l' := #[.val (.ref a1), .val (.int (0 : Int32)), .val (.int (2 : Int32)), .val (.ref b101), .unset, .unset]) rfl (XS.aloadN X101.here hx rfl (hb hby d_jdk_52_method_16_code_4) rfl rfl (XS.iloadN X101.here hx rfl (hb hby d_jdk_52_method_16_code_5) rfl (XS.aloadN X101.here hx rfl (hb hby d_jdk_52_method_16_code_6) rfl rfl (XS.iconst X101.here hx rfl (hb hby d_jdk_52_method_16_code_7) (XS.iloadN X101.here hx rfl (hb hby d_jdk_52_method_16_code_8) rfl k))))))) ?_
  obtain ⟨_, _, ⟨T102, L102, k102, n102⟩, -, X102, ⟨Lc102, hQ102, l102, y102, z102⟩, st102⟩ := Jvm.LawKit.callS X101 hx (y := mth0) hown (mvT hZ tw24) (mvT hZ tw25) (mvT hZ tw21) (mvT hZ tw26) (by decide) (backOf (W := 0) (cmp2 l Z a0 hw [] a1 k1 b101 k101 x0 x1 h101 n0 (Nat.le_trans Z0 E101.1) (V1.ext E101) V101 (Nat.le_trans Z0 (Nat.le_of_eq g101.symm)) (Nat.ne_of_lt (Nat.lt_of_lt_of_le V1.lt (Nat.le_of_eq g101.symm))) (P0 : ¬ ((255 : Int32) < x0)) (P1 : ¬ ((255 : Int32) < x1))) hZ tw26 tw21 (by decide) (by decide)) (g := (mkF m 9 #[.val (.ref a1), .val (.int (0 : Int32)), .val (.int (2 : Int32)), .val (.ref b101), .unset, .unset] [(.int (2 : Int32)), (.int (0 : Int32)), (.ref b101), (.int (0 : Int32)), (.ref a1)])) rfl (by rw [hml]; rfl) (argsL := [(.ref a1), (.int (0 : Int32)), (.ref b101), (.int (0 : Int32)), (.int (2 : Int32))]) (rest := []) (lenOf pd_CI_BII_I rfl) rfl (Nat.le_of_eq rfl) (hb hby d_jdk_52_method_16_code_9) (fun _ _ => ⟨rfl, e101, (by decide : 1 + 0 ≤ _), (by decide : 2 + 0 ≤ _)⟩)
  dsimp only [Pt.U, Pt.locs, Pt.cells, Pt.slots] at X102 l102 y102 z102 st102 hQ102
  subst y102 z102
  obtain ⟨y0_102, y1_102, rfl, Nq102, q102_0, q102_1⟩ := hQ102
  have N102 : Fr n0 L102 := by rw [l102]; exact Fr.app N0 Nq102
  refine Goes.step (S' := T102.setTop (mkF m 58 #[.val (.ref a1), .val (.int (0 : Int32)), .val (.int (2 : Int32)), .val (.ref b101), .val (.int (2 : Int32)), .unset] [(.ref b101)])) (fun t k => st102 _ (XS.istore X102.here hx rfl (hb hby d_jdk_52_method_16_code_12) rfl (l' := #[.val (.ref a1), .val (.int (0 : Int32)), .val (.int (2 : Int32)), .val (.ref b101), .val (.int (2 : Int32)), .unset]) rfl (XS.iload X102.here hx rfl (hb hby d_jdk_52_method_16_code_14) rfl (XS.iloadN X102.here hx rfl (hb hby d_jdk_52_method_16_code_16) rfl (XS.icmpYes X102.here hx rfl (pc0 := 17) (pc' := 57) rfl (hb hby d_jdk_52_method_16_code_17) rfl (teq ((by decide) : (2 : Int32) = (2 : Int32))).1 (by decide) (by decide) (XS.aloadN X102.here hx rfl (hb hby d_jdk_52_method_16_code_57) rfl rfl k)))))) ?_
  refine Goes.leave (g := (mkF m 58 #[.val (.ref a1), .val (.int (0 : Int32)), .val (.int (2 : Int32)), .val (.ref b101), .val (.int (2 : Int32)), .unset] [(.ref b101)])) X102 Bd.notSynchronized (v := (some (.ref b101))) (fun h => by rw [Bd.returns] at h; cases h) (fun fs hr => by jvm_step X102.here [X102.here.top, hx, (hb hby d_jdk_52_method_16_code_58), X102.method', Bd.returns, Value.isRef, FieldType.isReference]; (first | (intro acts; rw [hr _ acts rfl rfl rfl]) | rw [hr _ _ rfl rfl rfl]); exact Steps.refl _) rfl ?_ (by decide) (by decide)
  exact ⟨b101, k101, y0_102, y1_102, rfl, N102, (((Keep.refl _ []).ext E101).trans q102_0 (allS (Or.inr (Nat.le_of_eq g101.symm)) all0)), (Nat.le_of_eq g101.symm), (AE101.keep q102_0), q102_1⟩

theorem ef_cfa2 (m : MethodId) (x0 : Addr) (x1 : Int32) : entryFrame m #[(.ref x0), (.int x1)] 2 = mkF m 0 #[.val (.ref x0), .val (.int x1)] [] := by first | (simp [entryFrame, mkF, argsToLocals, Value.category]; done) | rfl
def Q_cfa2 (Z : State) (a1 : Addr) (k1 : ClassId) (y0 : Value) (y1 : Value) (h0 : Heap) (n0 : Nat) (v : Option Value) (h : Heap) (L : List Loc) : Prop := v = some (.int (0 : Int32)) ∧ Fr n0 L ∧ h = h0
set_option maxRecDepth 65536 in
set_option maxHeartbeats 40000000 in
theorem cfa2 (l : Launch) (Z : State) (a0 : Array Value) (hw : ∀ d ∈ tables_1, d.before a0 Z = true) (ws : List Jvm.Cond) (a1 : Addr) (k1 : ClassId) (y0 : Value) (y1 : Value) (h0 : Heap) (n0 : Nat) (Z0 : n0 ≤ h0.size) (V1 : Arv Z h0 a1 k1 .byte (2 : Int32) [y0, y1] (.int (0 : Int32))) :
    MetFree l mth2 (head1 (Jvm.Cond.code mth2 jdk_52_method_15_code 2 (some .byte) :: ws) rom0) (fun a U => a = #[(.ref a1), (.int (2 : Int32))] ∧ Z.Warmed39 U.vm ∧ U.heap = h0) (fun _ _ _ _ _ => True) (fun _ U o U' => ∃ v L, o = .returned v ∧ Q_cfa2 Z a1 k1 y0 y1 h0 n0 v U'.heap L ∧ FrameEnd U o U' L rom0.cells rom0.slots) := by
  refine MetFree.of_bodySF (plainFor_of_name pnm0) hisR ?_
  intro p e s m args below meth c s₁ Bd hml0 hP hK
  obtain ⟨rfl, hZ, hh⟩ := hP
  have hx := Bd.exec
  have hby := Bd.bytes
  have hml : c.maxLocals = 2 := hml0
  have hown : s.vm.findClass "java/lang/StringUTF16" = some m.cls := findClass_of_methodNamed Bd.named
  have hnm := (name_of_methodNamed Bd.named Bd.method).1
  have X0 : Stand p l e rom0 s m #[(.ref a1), (.int (2 : Int32))] below meth c s₁ [] 0 0 := Stand.of_body Bd
  have eh0 : s₁.heap = h0 := by rw [← hh, Bd.state]; rfl
  have N0 := Fr.nil n0
  show Goes p e below (Pq (Q_cfa2 Z a1 k1 y0 y1 h0 n0) s rom0.cells rom0.slots) (s₁.setTop (entryFrame m #[(.ref a1), (.int (2 : Int32))] 2))
  refine Goes.step (S' := s₁.setTop (mkF m 0 #[.val (.ref a1), .val (.int (2 : Int32))] [])) (fun t k => castTop (ef_cfa2 m a1 (2 : Int32)) k) ?_
  refine Goes.step (S' := s₁.setTop (mkF m 2 #[.val (.ref a1), .val (.int (2 : Int32))] [(.ref a1), (.int (2 : Int32))])) (fun t k => XS.iloadN X0.here hx rfl (hb hby d_jdk_52_method_15_code_0) rfl (XS.aloadN X0.here hx rfl (hb hby d_jdk_52_method_15_code_1) rfl rfl k)) ?_
  obtain ⟨cl101, Ar101, qk101, Sz101, Nn101, Hs101, Gs101⟩ := id V1
  refine Goes.step (S' := s₁.setTop (mkF m 3 #[.val (.ref a1), .val (.int (2 : Int32))] [(.int (2 : Int32)), (.int (2 : Int32))])) (fun t k => X0.arraylength hx (by rw [eh0]; exact Ar101.1) (State.isArrayOf_alike hZ.alike Ar101.2.1) (g := (mkF m 2 #[.val (.ref a1), .val (.int (2 : Int32))] [(.ref a1), (.int (2 : Int32))])) rfl rfl (hb hby d_jdk_52_method_15_code_2) _ (by rw [len_of Sz101 Nn101]; exact k)) ?_
  refine Goes.step (S' := s₁.setTop (mkF m 4 #[.val (.ref a1), .val (.int (2 : Int32))] [(.int ((2 : Int32) - (2 : Int32)))])) (fun t k => XS.isub X0.here hx rfl (hb hby d_jdk_52_method_15_code_3) rfl k) ?_
  rw [show ((2 : Int32) - (2 : Int32)) = (0 : Int32) from by decide]
  refine Goes.step (S' := s₁.setTop (mkF m 7 #[.val (.ref a1), .val (.int (2 : Int32))] [(.int (((0 : Int32).toUInt32 >>> ((31 : Int32) &&& 31).toUInt32).toInt32))])) (fun t k => XS.bipush X0.here hx rfl (hb hby d_jdk_52_method_15_code_4) (XS.iushr X0.here hx rfl (hb hby d_jdk_52_method_15_code_6) rfl k)) ?_
  rw [show (((0 : Int32).toUInt32 >>> ((31 : Int32) &&& 31).toUInt32).toInt32) = (0 : Int32) from by decide]
  refine Goes.step (S' := s₁.setTop (mkF m 8 #[.val (.ref a1), .val (.int (2 : Int32))] [(.int ((0 : Int32).toInt8.toInt32))])) (fun t k => XS.i2b X0.here hx rfl (hb hby d_jdk_52_method_15_code_7) rfl k) ?_
  rw [show ((0 : Int32).toInt8.toInt32) = (0 : Int32) from by decide]
  refine Goes.leave (g := (mkF m 8 #[.val (.ref a1), .val (.int (2 : Int32))] [(.int (0 : Int32))])) X0 Bd.notSynchronized (v := (some (.int (0 : Int32)))) (fun h => by rw [Bd.returns] at h; cases h) (fun fs hr => retN X0 hx (t := .byte) Bd.returns (by simp) (hb hby d_jdk_52_method_15_code_8) hr) eh0 ?_ (by decide) (by decide)
  exact ⟨rfl, N0, rfl⟩

theorem ef_sif2 (m : MethodId) (x0 : Addr) (x1 : Addr) (x2 : Int32) (x3 : Int32) : entryFrame m #[(.ref x0), (.ref x1), (.int x2), (.int x3), .null] 6 = mkF m 0 #[.val (.ref x0), .val (.ref x1), .val (.int x2), .val (.int x3), .val .null, .unset] [] := by first | (simp [entryFrame, mkF, argsToLocals, Value.category]; done) | rfl
def Q_sif2 (Z : State) (a1 : Addr) (a2 : Addr) (k1 : ClassId) (cs : Int32) (x0 : Int32) (x1 : Int32) (h0 : Heap) (n0 : Nat) (v : Option Value) (h : Heap) (L : List Loc) : Prop := v = none ∧ Fr n0 L ∧ Keep h0 h [a1]
set_option maxRecDepth 65536 in
set_option maxHeartbeats 40000000 in
theorem sif2 (l : Launch) (Z : State) (a0 : Array Value) (hw : ∀ d ∈ tables_1, d.before a0 Z = true) (ws : List Jvm.Cond) (a1 : Addr) (a2 : Addr) (k1 : ClassId) (cs : Int32) (x0 : Int32) (x1 : Int32) (h0 : Heap) (n0 : Nat) (Z0 : n0 ≤ h0.size) (E1 : Exa Z h0 a1 "java/lang/String") (Fv : Fld Z h0 a1 "java/lang/String" "value" "[B" .null) (Fc : Fld Z h0 a1 "java/lang/String" "coder" "B" (.int (0 : Int32))) (G1 : n0 ≤ a1) (SC : Sta Z h0 "java/lang/String" "COMPACT_STRINGS" "Z" (.int cs)) (PC : ¬ (cs = (0 : Int32))) (V1 : Arv Z h0 a2 k1 .char (2 : Int32) [(.int x0), (.int x1)] (.int (0 : Int32))) (P0 : ¬ ((255 : Int32) < x0)) (P1 : ¬ ((255 : Int32) < x1)) :
    MetFree l mth3 (head1 (Jvm.Cond.code mth3 jdk_42_method_149_code 6 none :: ws) rom2) (fun a U => a = #[(.ref a1), (.ref a2), (.int (0 : Int32)), (.int (2 : Int32)), .null] ∧ Z.Warmed39 U.vm ∧ U.heap = h0) (fun _ _ _ _ _ => True) (fun _ U o U' => ∃ v L, o = .returned v ∧ Q_sif2 Z a1 a2 k1 cs x0 x1 h0 n0 v U'.heap L ∧ FrameEnd U o U' L rom2.cells rom2.slots) := by
  refine MetFree.of_bodySF (plainFor_of_name pnm1) hisR ?_
  intro p e s m args below meth c s₁ Bd hml0 hP hK
  obtain ⟨rfl, hZ, hh⟩ := hP
  have hx := Bd.exec
  have hby := Bd.bytes
  have hml : c.maxLocals = 6 := hml0
  have hown : s.vm.findClass "java/lang/String" = some m.cls := findClass_of_methodNamed Bd.named
  have hnm := (name_of_methodNamed Bd.named Bd.method).1
  have X0 : Stand p l e rom2 s m #[(.ref a1), (.ref a2), (.int (0 : Int32)), (.int (2 : Int32)), .null] below meth c s₁ [] 0 0 := Stand.of_body Bd
  have eh0 : s₁.heap = h0 := by rw [← hh, Bd.state]; rfl
  have N0 := Fr.nil n0
  have tw5 := hw _ (List.mem_of_getElem? (i := 5) rfl)
  have tw15 := hw _ (List.mem_of_getElem? (i := 15) rfl)
  have tw16 := hw _ (List.mem_of_getElem? (i := 16) rfl)
  have tw17 := hw _ (List.mem_of_getElem? (i := 17) rfl)
  have tw18 := hw _ (List.mem_of_getElem? (i := 18) rfl)
  have tw19 := hw _ (List.mem_of_getElem? (i := 19) rfl)
  have tw20 := hw _ (List.mem_of_getElem? (i := 20) rfl)
  have tw21 := hw _ (List.mem_of_getElem? (i := 21) rfl)
  have tw22 := hw _ (List.mem_of_getElem? (i := 22) rfl)
  have tw27 := hw _ (List.mem_of_getElem? (i := 27) rfl)
  have tw28 := hw _ (List.mem_of_getElem? (i := 28) rfl)
  have tw29 := hw _ (List.mem_of_getElem? (i := 29) rfl)
  have tw30 := hw _ (List.mem_of_getElem? (i := 30) rfl)
  have tw31 := hw _ (List.mem_of_getElem? (i := 31) rfl)
  have tw32 := hw _ (List.mem_of_getElem? (i := 32) rfl)
  have tw33 := hw _ (List.mem_of_getElem? (i := 33) rfl)
  show Goes p e below (Pq (Q_sif2 Z a1 a2 k1 cs x0 x1 h0 n0) s rom2.cells rom2.slots) (s₁.setTop (entryFrame m #[(.ref a1), (.ref a2), (.int (0 : Int32)), (.int (2 : Int32)), .null] 6))
  refine Goes.step (S' := s₁.setTop (mkF m 0 #[.val (.ref a1), .val (.ref a2), .val (.int (0 : Int32)), .val (.int (2 : Int32)), .val .null, .unset] [])) (fun t k => castTop (ef_sif2 m a1 a2 (0 : Int32) (2 : Int32)) k) ?_
  refine Goes.step (S' := s₁.setTop (mkF m 1 #[.val (.ref a1), .val (.ref a2), .val (.int (0 : Int32)), .val (.int (2 : Int32)), .val .null, .unset] [(.ref a1)])) (fun t k => XS.aloadN X0.here hx rfl (hb hby d_jdk_42_method_149_code_0) rfl rfl k) ?_
  obtain ⟨T101, X101, e101, st101⟩ := initO X0 hx hZ hown tw15 tw16 tw17 eh0 (g := (mkF m 1 #[.val (.ref a1), .val (.ref a2), .val (.int (0 : Int32)), .val (.int (2 : Int32)), .val .null, .unset] [(.ref a1)])) rfl (by rw [hml]; rfl) rfl (hb hby d_jdk_42_method_149_code_1) (by decide) (W := 0) (Nat.le_of_eq rfl) (by decide)
  refine Goes.step (S' := T101.setTop (mkF m 27 #[.val (.ref a1), .val (.ref a2), .val (.int (0 : Int32)), .val (.int (2 : Int32)), .val .null, .unset] [])) (fun t k => st101 _ (XS.iloadN X101.here hx rfl (hb hby d_jdk_42_method_149_code_4) rfl (XS.ifYes X101.here hx rfl (pc0 := 5) (pc' := 27) rfl (hb hby d_jdk_42_method_149_code_5) rfl ((if0 _ _).trans (feq ((by decide) : ¬ ((2 : Int32) = (0 : Int32)))).2) (by decide) (by decide) k))) ?_
  obtain ⟨T102, X102, e102, st102⟩ := getS2 X101 hx hZ hown (host := "") (Or.inl tw18) Via.refl e101 SC (g := (mkF m 27 #[.val (.ref a1), .val (.ref a2), .val (.int (0 : Int32)), .val (.int (2 : Int32)), .val .null, .unset] [])) rfl (hb hby d_jdk_42_method_149_code_27)
  refine Goes.step (S' := T102.setTop (mkF m 36 #[.val (.ref a1), .val (.ref a2), .val (.int (0 : Int32)), .val (.int (2 : Int32)), .val .null, .unset] [(.int (2 : Int32)), (.int (0 : Int32)), (.ref a2)])) (fun t k => st102 _ (XS.ifNo X102.here hx rfl (hb hby d_jdk_42_method_149_code_30) rfl ((if0 _ _).trans (feq (PC : ¬ (cs = (0 : Int32)))).1) (XS.aloadN X102.here hx rfl (hb hby d_jdk_42_method_149_code_33) rfl rfl (XS.iloadN X102.here hx rfl (hb hby d_jdk_42_method_149_code_34) rfl (XS.iloadN X102.here hx rfl (hb hby d_jdk_42_method_149_code_35) rfl k))))) ?_
  obtain ⟨_, _, ⟨T103, L103, k103, n103⟩, -, X103, ⟨Lc103, hQ103, l103, y103, z103⟩, st103⟩ := Jvm.LawKit.callS X102 hx (y := mth1) hown (mvT hZ tw19) (mvT hZ tw20) (mvT hZ tw21) (mvT hZ tw22) (by decide) (backOf (W := 0) (cmq2 l Z a0 hw [] a2 k1 x0 x1 h0 n0 Z0 V1 (P0 : ¬ ((255 : Int32) < x0)) (P1 : ¬ ((255 : Int32) < x1))) hZ tw22 tw21 (by decide) (by decide)) (g := (mkF m 36 #[.val (.ref a1), .val (.ref a2), .val (.int (0 : Int32)), .val (.int (2 : Int32)), .val .null, .unset] [(.int (2 : Int32)), (.int (0 : Int32)), (.ref a2)])) rfl (by rw [hml]; rfl) (argsL := [(.ref a2), (.int (0 : Int32)), (.int (2 : Int32))]) (rest := []) (lenOf pd_CII__B rfl) rfl (Nat.le_of_eq rfl) (hb hby d_jdk_42_method_149_code_36) (fun _ _ => ⟨rfl, e102, (by decide : 0 + 1 ≤ _), (by decide : 0 + 2 ≤ _)⟩)
  dsimp only [Pt.U, Pt.locs, Pt.cells, Pt.slots] at X103 l103 y103 z103 st103 hQ103
  subst y103 z103
  obtain ⟨b_103, kb_103, y0_103, y1_103, rfl, Nq103, q103_0, q103_1, q103_2, q103_3⟩ := hQ103
  have N103 : Fr n0 L103 := by rw [l103]; exact Fr.app N0 Nq103
  refine Goes.step (S' := T103.setTop (mkF m 45 #[.val (.ref a1), .val (.ref a2), .val (.int (0 : Int32)), .val (.int (2 : Int32)), .val .null, .val (.ref b_103)] [(.int (2 : Int32)), (.ref b_103), (.ref a1)])) (fun t k => st103 _ (XS.astore X103.here hx rfl (hb hby d_jdk_42_method_149_code_39) rfl rfl (l' := #[.val (.ref a1), .val (.ref a2), .val (.int (0 : Int32)), .val (.int (2 : Int32)), .val .null, .val (.ref b_103)]) rfl (XS.aloadN X103.here hx rfl (hb hby d_jdk_42_method_149_code_41) rfl rfl (XS.aload X103.here hx rfl (hb hby d_jdk_42_method_149_code_42) rfl rfl (XS.iloadN X103.here hx rfl (hb hby d_jdk_42_method_149_code_44) rfl k))))) ?_
  obtain ⟨_, _, ⟨T104, L104, k104, n104⟩, -, X104, ⟨Lc104, hQ104, l104, y104, z104⟩, st104⟩ := Jvm.LawKit.callS X103 hx (y := mth2) hown (mvT hZ tw27) (mvT hZ tw28) (mvT hZ tw21) (mvT hZ tw29) (by decide) (backOf (W := 1) (cfa2 l Z a0 hw [] b_103 kb_103 y0_103 y1_103 T103.heap n0 (Nat.le_trans Z0 q103_0.1) q103_3) hZ tw29 tw21 (by decide) (by decide)) (g := (mkF m 45 #[.val (.ref a1), .val (.ref a2), .val (.int (0 : Int32)), .val (.int (2 : Int32)), .val .null, .val (.ref b_103)] [(.int (2 : Int32)), (.ref b_103), (.ref a1)])) rfl (by rw [hml]; rfl) (argsL := [(.ref b_103), (.int (2 : Int32))]) (rest := [(.ref a1)]) (lenOf pd_BI_B rfl) rfl (Nat.le_of_eq rfl) (hb hby d_jdk_42_method_149_code_45) (fun _ _ => ⟨rfl, rfl, (by decide : 1 + 0 ≤ _), (by decide : 2 + 0 ≤ _)⟩)
  dsimp only [Pt.U, Pt.locs, Pt.cells, Pt.slots] at X104 l104 y104 z104 st104 hQ104
  subst y104 z104
  obtain ⟨rfl, Nq104, q104_0⟩ := hQ104
  have N104 : Fr n0 L104 := by rw [l104]; exact Fr.app N103 Nq104
  refine Goes.step (S' := T104.setTop (mkF m 48 #[.val (.ref a1), .val (.ref a2), .val (.int (0 : Int32)), .val (.int (2 : Int32)), .val .null, .val (.ref b_103)] [(.int (0 : Int32)), (.ref a1)])) (fun t k => st104 _ k) ?_
  obtain ⟨T105, h105, X105, e105, W105, st105⟩ := putFN X104 hx hZ hown tw30 Via.refl q104_0 (Fc.keep q103_0 nin0) (E1.keep q103_0) (Or.inr ⟨tw31, rfl, hnm⟩) tw5 (ty := .byte) (v' := (.int (0 : Int32))) (by decide) rfl (by decide) (g := (mkF m 48 #[.val (.ref a1), .val (.ref a2), .val (.int (0 : Int32)), .val (.int (2 : Int32)), .val .null, .val (.ref b_103)] [(.int (0 : Int32)), (.ref a1)])) rfl rfl (hb hby d_jdk_42_method_149_code_48)
  have Fw105 : Fld Z h105 a1 "java/lang/String" "coder" "B" (.int (0 : Int32)) := Fld.same W105 (Fc.keep q103_0 nin0)
  have N105 := Fr.snoc X105 N104 G1
  refine Goes.step (S' := T105.setTop (mkF m 54 #[.val (.ref a1), .val (.ref a2), .val (.int (0 : Int32)), .val (.int (2 : Int32)), .val .null, .val (.ref b_103)] [(.ref b_103), (.ref a1)])) (fun t k => st105 _ (XS.aloadN X105.here hx rfl (hb hby d_jdk_42_method_149_code_51) rfl rfl (XS.aload X105.here hx rfl (hb hby d_jdk_42_method_149_code_52) rfl rfl k))) ?_
  obtain ⟨T106, h106, X106, e106, W106, st106⟩ := putF X105 hx hZ hown (host := "") (Or.inl tw32) Via.refl e105 (Fld.other W105 (Fv.keep q103_0 nin0) (Or.inr (slot_ne (Or.inr tw33) (Or.inr tw31) (by decide) (t := (.array .byte)) (t' := .byte) (by decide) (by decide)))) (Exa.wr W105 (E1.keep q103_0)) (Or.inr ⟨tw33, rfl, hnm⟩) tw5 (ty := (.array .byte)) (by decide) rfl rfl (g := (mkF m 54 #[.val (.ref a1), .val (.ref a2), .val (.int (0 : Int32)), .val (.int (2 : Int32)), .val .null, .val (.ref b_103)] [(.ref b_103), (.ref a1)])) rfl rfl (hb hby d_jdk_42_method_149_code_54)
  have Fw106 : Fld Z h106 a1 "java/lang/String" "value" "[B" (.ref b_103) := Fld.same W106 (Fld.other W105 (Fv.keep q103_0 nin0) (Or.inr (slot_ne (Or.inr tw33) (Or.inr tw31) (by decide) (t := (.array .byte)) (t' := .byte) (by decide) (by decide))))
  have N106 := Fr.snoc X106 N105 G1
  refine Goes.step (S' := T106.setTop (mkF m 57 #[.val (.ref a1), .val (.ref a2), .val (.int (0 : Int32)), .val (.int (2 : Int32)), .val .null, .val (.ref b_103)] [])) (fun t k => st106 _ k) ?_
  refine Goes.leave (g := (mkF m 57 #[.val (.ref a1), .val (.ref a2), .val (.int (0 : Int32)), .val (.int (2 : Int32)), .val .null, .val (.ref b_103)] [])) X106 Bd.notSynchronized (v := none) (fun _ => rfl) (fun fs hr => X106.returnOut hx Bd.returns (hb hby d_jdk_42_method_149_code_57) hr) e106 ?_ (by decide) (by decide)
  exact ⟨rfl, N106, ((((Keep.refl _ [a1]).trans q103_0 all0).wr W105 (Or.inl (List.mem_of_getElem? (i := 0) rfl))).wr W106 (Or.inl (List.mem_of_getElem? (i := 0) rfl)))⟩

theorem ef_sic2 (m : MethodId) (x0 : Addr) (x1 : Addr) : entryFrame m #[(.ref x0), (.ref x1)] 2 = mkF m 0 #[.val (.ref x0), .val (.ref x1)] [] := by first | (simp [entryFrame, mkF, argsToLocals, Value.category]; done) | rfl
def Q_sic2 (Z : State) (a1 : Addr) (a2 : Addr) (k1 : ClassId) (cs : Int32) (x0 : Int32) (x1 : Int32) (h0 : Heap) (n0 : Nat) (v : Option Value) (h : Heap) (L : List Loc) : Prop := v = none ∧ Fr n0 L ∧ Keep h0 h [a1]
set_option maxRecDepth 65536 in
set_option maxHeartbeats 40000000 in
theorem sic2 (l : Launch) (Z : State) (a0 : Array Value) (hw : ∀ d ∈ tables_1, d.before a0 Z = true) (ws : List Jvm.Cond) (a1 : Addr) (a2 : Addr) (k1 : ClassId) (cs : Int32) (x0 : Int32) (x1 : Int32) (h0 : Heap) (n0 : Nat) (Z0 : n0 ≤ h0.size) (E1 : Exa Z h0 a1 "java/lang/String") (Fv : Fld Z h0 a1 "java/lang/String" "value" "[B" .null) (Fc : Fld Z h0 a1 "java/lang/String" "coder" "B" (.int (0 : Int32))) (G1 : n0 ≤ a1) (SC : Sta Z h0 "java/lang/String" "COMPACT_STRINGS" "Z" (.int cs)) (PC : ¬ (cs = (0 : Int32))) (V1 : Arv Z h0 a2 k1 .char (2 : Int32) [(.int x0), (.int x1)] (.int (0 : Int32))) (P0 : ¬ ((255 : Int32) < x0)) (P1 : ¬ ((255 : Int32) < x1)) :
    MetFree l mth4 (head1 (Jvm.Cond.code mth4 jdk_42_method_3_code 2 none :: ws) rom3) (fun a U => a = #[(.ref a1), (.ref a2)] ∧ Z.Warmed39 U.vm ∧ U.heap = h0) (fun _ _ _ _ _ => True) (fun _ U o U' => ∃ v L, o = .returned v ∧ Q_sic2 Z a1 a2 k1 cs x0 x1 h0 n0 v U'.heap L ∧ FrameEnd U o U' L rom3.cells rom3.slots) := by
  refine MetFree.of_bodySF (plainFor_of_name pnm1) hisR ?_
  intro p e s m args below meth c s₁ Bd hml0 hP hK
  obtain ⟨rfl, hZ, hh⟩ := hP
  have hx := Bd.exec
  have hby := Bd.bytes
  have hml : c.maxLocals = 2 := hml0
  have hown : s.vm.findClass "java/lang/String" = some m.cls := findClass_of_methodNamed Bd.named
  have hnm := (name_of_methodNamed Bd.named Bd.method).1
  have X0 : Stand p l e rom3 s m #[(.ref a1), (.ref a2)] below meth c s₁ [] 0 0 := Stand.of_body Bd
  have eh0 : s₁.heap = h0 := by rw [← hh, Bd.state]; rfl
  have N0 := Fr.nil n0
  have tw6 := hw _ (List.mem_of_getElem? (i := 6) rfl)
  have tw11 := hw _ (List.mem_of_getElem? (i := 11) rfl)
  have tw12 := hw _ (List.mem_of_getElem? (i := 12) rfl)
  have tw14 := hw _ (List.mem_of_getElem? (i := 14) rfl)
  show Goes p e below (Pq (Q_sic2 Z a1 a2 k1 cs x0 x1 h0 n0) s rom3.cells rom3.slots) (s₁.setTop (entryFrame m #[(.ref a1), (.ref a2)] 2))
  refine Goes.step (S' := s₁.setTop (mkF m 0 #[.val (.ref a1), .val (.ref a2)] [])) (fun t k => castTop (ef_sic2 m a1 a2) k) ?_
  refine Goes.step (S' := s₁.setTop (mkF m 4 #[.val (.ref a1), .val (.ref a2)] [(.ref a2), (.int (0 : Int32)), (.ref a2), (.ref a1)])) (fun t k => XS.aloadN X0.here hx rfl (hb hby d_jdk_42_method_3_code_0) rfl rfl (XS.aloadN X0.here hx rfl (hb hby d_jdk_42_method_3_code_1) rfl rfl (XS.iconst X0.here hx rfl (hb hby d_jdk_42_method_3_code_2) (XS.aloadN X0.here hx rfl (hb hby d_jdk_42_method_3_code_3) rfl rfl k)))) ?_
  obtain ⟨cl101, Ar101, qk101, Sz101, Nn101, Hs101, Gs101⟩ := id V1
  refine Goes.step (S' := s₁.setTop (mkF m 5 #[.val (.ref a1), .val (.ref a2)] [(.int (2 : Int32)), (.int (0 : Int32)), (.ref a2), (.ref a1)])) (fun t k => X0.arraylength hx (by rw [eh0]; exact Ar101.1) (State.isArrayOf_alike hZ.alike Ar101.2.1) (g := (mkF m 4 #[.val (.ref a1), .val (.ref a2)] [(.ref a2), (.int (0 : Int32)), (.ref a2), (.ref a1)])) rfl rfl (hb hby d_jdk_42_method_3_code_4) _ (by rw [len_of Sz101 Nn101]; exact k)) ?_
  refine Goes.step (S' := s₁.setTop (mkF m 6 #[.val (.ref a1), .val (.ref a2)] [.null, (.int (2 : Int32)), (.int (0 : Int32)), (.ref a2), (.ref a1)])) (fun t k => XS.aconstNull X0.here hx rfl (hb hby d_jdk_42_method_3_code_5) k) ?_
  obtain ⟨_, _, ⟨T102, L102, k102, n102⟩, -, X102, ⟨Lc102, hQ102, l102, y102, z102⟩, st102⟩ := X0.specialBack hx (y := mth3) rfl hown (mvT hZ tw11) (mvT hZ tw12) (mvT hZ tw14) (by decide) (backOf (W := 0) (sif2 l Z a0 hw [] a1 a2 k1 cs x0 x1 h0 n0 Z0 E1 Fv Fc G1 SC (PC : ¬ (cs = (0 : Int32))) V1 (P0 : ¬ ((255 : Int32) < x0)) (P1 : ¬ ((255 : Int32) < x1))) hZ tw14 tw6 (by decide) (by decide)) (g := (mkF m 6 #[.val (.ref a1), .val (.ref a2)] [.null, (.int (2 : Int32)), (.int (0 : Int32)), (.ref a2), (.ref a1)])) rfl (by rw [hml]; rfl) (Steps.refl _) (a := a1) (argsL := [(.ref a2), (.int (0 : Int32)), (.int (2 : Int32)), .null]) (rest := []) (lenOf pd_CIILjava_lang_Void__V rfl) rfl (Nat.le_of_eq rfl) (hb hby d_jdk_42_method_3_code_6) (fun _ _ => ⟨rfl, eh0, (by decide : 0 + 1 ≤ _), (by decide : 0 + 2 ≤ _)⟩)
  dsimp only [Pt.U, Pt.locs, Pt.cells, Pt.slots] at X102 l102 y102 z102 st102 hQ102
  subst y102 z102
  obtain ⟨rfl, Nq102, q102_0⟩ := hQ102
  have N102 : Fr n0 L102 := by rw [l102]; exact Fr.app N0 Nq102
  refine Goes.step (S' := T102.setTop (mkF m 9 #[.val (.ref a1), .val (.ref a2)] [])) (fun t k => st102.trans k) ?_
  refine Goes.leave (g := (mkF m 9 #[.val (.ref a1), .val (.ref a2)] [])) X102 Bd.notSynchronized (v := none) (fun _ => rfl) (fun fs hr => X102.returnOut hx Bd.returns (hb hby d_jdk_42_method_3_code_9) hr) rfl ?_ (by decide) (by decide)
  exact ⟨rfl, N102, ((Keep.refl _ [a1]).trans q102_0 (allS (Or.inl (List.mem_of_getElem? (i := 0) rfl)) all0))⟩

theorem ef_cmp3 (m : MethodId) (x0 : Addr) (x1 : Int32) (x2 : Addr) (x3 : Int32) (x4 : Int32) : entryFrame m #[(.ref x0), (.int x1), (.ref x2), (.int x3), (.int x4)] 7 = mkF m 0 #[.val (.ref x0), .val (.int x1), .val (.ref x2), .val (.int x3), .val (.int x4), .unset, .unset] [] := by first | (simp [entryFrame, mkF, argsToLocals, Value.category]; done) | rfl
def Q_cmp3 (Z : State) (a1 : Addr) (k1 : ClassId) (a3 : Addr) (k3 : ClassId) (x0 : Int32) (x1 : Int32) (x2 : Int32) (h0 : Heap) (n0 : Nat) (v : Option Value) (h : Heap) (L : List Loc) : Prop := ∃ (y0 : Value) (y1 : Value) (y2 : Value), v = some (.int (3 : Int32)) ∧ Fr n0 L ∧ Keep h0 h [a3] ∧ Arv Z h a3 k3 .byte (3 : Int32) [y0, y1, y2] (.int (0 : Int32))
set_option maxRecDepth 65536 in
set_option maxHeartbeats 40000000 in
theorem cmp3 (l : Launch) (Z : State) (a0 : Array Value) (hw : ∀ d ∈ tables_1, d.before a0 Z = true) (ws : List Jvm.Cond) (a1 : Addr) (k1 : ClassId) (a3 : Addr) (k3 : ClassId) (x0 : Int32) (x1 : Int32) (x2 : Int32) (h0 : Heap) (n0 : Nat) (Z0 : n0 ≤ h0.size) (V1 : Arv Z h0 a1 k1 .char (3 : Int32) [(.int x0), (.int x1), (.int x2)] (.int (0 : Int32))) (V3 : Arv Z h0 a3 k3 .byte (3 : Int32) [(.int (0 : Int32)), (.int (0 : Int32)), (.int (0 : Int32))] (.int (0 : Int32))) (G3 : n0 ≤ a3) (NE : a1 ≠ a3) (P0 : ¬ ((255 : Int32) < x0)) (P1 : ¬ ((255 : Int32) < x1)) (P2 : ¬ ((255 : Int32) < x2)) :
    MetFree l mth0 (head1 (Jvm.Cond.code mth0 jdk_52_method_21_code 7 (some .int) :: ws) rom0) (fun a U => a = #[(.ref a1), (.int (0 : Int32)), (.ref a3), (.int (0 : Int32)), (.int (3 : Int32))] ∧ Z.Warmed39 U.vm ∧ U.heap = h0) (fun _ _ _ _ _ => True) (fun _ U o U' => ∃ v L, o = .returned v ∧ Q_cmp3 Z a1 k1 a3 k3 x0 x1 x2 h0 n0 v U'.heap L ∧ FrameEnd U o U' L rom0.cells rom0.slots) := by
  refine MetFree.of_bodySF (plainFor_of_name pnm0) hisR ?_
  intro p e s m args below meth c s₁ Bd hml0 hP hK
  obtain ⟨rfl, hZ, hh⟩ := hP
  have hx := Bd.exec
  have hby := Bd.bytes
  have hml : c.maxLocals = 7 := hml0
  have hown : s.vm.findClass "java/lang/StringUTF16" = some m.cls := findClass_of_methodNamed Bd.named
  have hnm := (name_of_methodNamed Bd.named Bd.method).1
  have X0 : Stand p l e rom0 s m #[(.ref a1), (.int (0 : Int32)), (.ref a3), (.int (0 : Int32)), (.int (3 : Int32))] below meth c s₁ [] 0 0 := Stand.of_body Bd
  have eh0 : s₁.heap = h0 := by rw [← hh, Bd.state]; rfl
  have N0 := Fr.nil n0
  show Goes p e below (Pq (Q_cmp3 Z a1 k1 a3 k3 x0 x1 x2 h0 n0) s rom0.cells rom0.slots) (s₁.setTop (entryFrame m #[(.ref a1), (.int (0 : Int32)), (.ref a3), (.int (0 : Int32)), (.int (3 : Int32))] 7))
  refine Goes.step (S' := s₁.setTop (mkF m 0 #[.val (.ref a1), .val (.int (0 : Int32)), .val (.ref a3), .val (.int (0 : Int32)), .val (.int (3 : Int32)), .unset, .unset] [])) (fun t k => castTop (ef_cmp3 m a1 (0 : Int32) a3 (0 : Int32) (3 : Int32)) k) ?_
  refine Goes.step (S' := s₁.setTop (mkF m 12 #[.val (.ref a1), .val (.int (0 : Int32)), .val (.ref a3), .val (.int (0 : Int32)), .val (.int (3 : Int32)), .val (.int (0 : Int32)), .unset] [(.int (0 : Int32)), (.ref a1)])) (fun t k => XS.iconst X0.here hx rfl (hb hby d_jdk_52_method_21_code_0) (XS.istore X0.here hx rfl (hb hby d_jdk_52_method_21_code_1) rfl (l' := #[.val (.ref a1), .val (.int (0 : Int32)), .val (.ref a3), .val (.int (0 : Int32)), .val (.int (3 : Int32)), .val (.int (0 : Int32)), .unset]) rfl (XS.iload X0.here hx rfl (hb hby d_jdk_52_method_21_code_3) rfl (XS.iload X0.here hx rfl (hb hby d_jdk_52_method_21_code_5) rfl (XS.icmpNo X0.here hx rfl (hb hby d_jdk_52_method_21_code_7) rfl (tlt ((by decide) : (0 : Int32) < (3 : Int32))).2.1 (XS.aloadN X0.here hx rfl (hb hby d_jdk_52_method_21_code_10) rfl rfl (XS.iloadN X0.here hx rfl (hb hby d_jdk_52_method_21_code_11) rfl k))))))) ?_
  obtain ⟨cl101, Ar101, qk101, Sz101, Nn101, Hs101, Gs101⟩ := id V1
  have hin101 := (inb_of (j := (0 : Int32)) Sz101 ⟨by decide, by decide⟩)
  refine Goes.step (S' := s₁.setTop (mkF m 30 #[.val (.ref a1), .val (.int (0 : Int32)), .val (.ref a3), .val (.int (0 : Int32)), .val (.int (3 : Int32)), .val (.int (0 : Int32)), .val (.int x0)] [(.int x0), (.int (0 : Int32)), (.ref a3)])) (fun t k => X0.caload hx (j := (0 : Int32)) (v := (.int x0)) (by rw [eh0]; exact Ar101.1) (State.isArrayOf_alike hZ.alike Ar101.2.1) Ar101.2.2 hin101 (Has.at Hs101 hin101 rfl) (g := (mkF m 12 #[.val (.ref a1), .val (.int (0 : Int32)), .val (.ref a3), .val (.int (0 : Int32)), .val (.int (3 : Int32)), .val (.int (0 : Int32)), .unset] [(.int (0 : Int32)), (.ref a1)])) rfl rfl (hb hby d_jdk_52_method_21_code_12) _ (XS.istore X0.here hx rfl (hb hby d_jdk_52_method_21_code_13) rfl (l' := #[.val (.ref a1), .val (.int (0 : Int32)), .val (.ref a3), .val (.int (0 : Int32)), .val (.int (3 : Int32)), .val (.int (0 : Int32)), .val (.int x0)]) rfl (XS.iload X0.here hx rfl (hb hby d_jdk_52_method_21_code_15) rfl (XS.sipush X0.here hx rfl (hb hby d_jdk_52_method_21_code_17) (XS.icmpYes X0.here hx rfl (pc0 := 20) (pc' := 26) rfl (hb hby d_jdk_52_method_21_code_20) rfl (flt (P0 : ¬ ((255 : Int32) < x0))).2.2.2 (by decide) (by decide) (XS.aloadN X0.here hx rfl (hb hby d_jdk_52_method_21_code_26) rfl rfl (XS.iloadN X0.here hx rfl (hb hby d_jdk_52_method_21_code_27) rfl (XS.iload X0.here hx rfl (hb hby d_jdk_52_method_21_code_28) rfl k)))))))) ?_
  refine Goes.step (S' := s₁.setTop (mkF m 31 #[.val (.ref a1), .val (.int (0 : Int32)), .val (.ref a3), .val (.int (0 : Int32)), .val (.int (3 : Int32)), .val (.int (0 : Int32)), .val (.int x0)] [(.int (x0.toInt8.toInt32)), (.int (0 : Int32)), (.ref a3)])) (fun t k => XS.i2b X0.here hx rfl (hb hby d_jdk_52_method_21_code_30) rfl k) ?_
  obtain ⟨cl102, Ar102, qk102, Sz102, Nn102, Hs102, Gs102⟩ := id V3
  obtain ⟨T102, h102, X102, e102, W102, st102⟩ := stB X0 hx hZ eh0 Ar102 (j := (0 : Int32)) (inb_of (j := (0 : Int32)) Sz102 ⟨by decide, by decide⟩) (g := (mkF m 31 #[.val (.ref a1), .val (.int (0 : Int32)), .val (.ref a3), .val (.int (0 : Int32)), .val (.int (3 : Int32)), .val (.int (0 : Int32)), .val (.int x0)] [(.int (x0.toInt8.toInt32)), (.int (0 : Int32)), (.ref a3)])) rfl rfl (hb hby d_jdk_52_method_21_code_31)
  have V102 : Arv Z h102 a3 k3 .byte (3 : Int32) [(.int (x0.toInt8.toInt32).toInt8.toInt32), (.int (0 : Int32)), (.int (0 : Int32))] (.int (0 : Int32)) := Arv.set Ar102 qk102 Sz102 Nn102 Hs102 Gs102 (fits_nar_byte _) W102 0 rfl (Nat.le_of_ble_eq_true rfl)
  have N102 := Fr.snoc X102 N0 G3
  refine Goes.step (S' := T102.setTop (mkF m 35 #[.val (.ref a1), .val (.int ((0 : Int32) + (1 : Int32))), .val (.ref a3), .val (.int (0 : Int32)), .val (.int (3 : Int32)), .val (.int (0 : Int32)), .val (.int x0)] [])) (fun t k => st102 _ (XS.iinc X102.here hx rfl (hb hby d_jdk_52_method_21_code_32) rfl (l' := #[.val (.ref a1), .val (.int ((0 : Int32) + (1 : Int32))), .val (.ref a3), .val (.int (0 : Int32)), .val (.int (3 : Int32)), .val (.int (0 : Int32)), .val (.int x0)]) rfl k)) ?_
  rw [show ((0 : Int32) + (1 : Int32)) = (1 : Int32) from by decide]
  refine Goes.step (S' := T102.setTop (mkF m 38 #[.val (.ref a1), .val (.int (1 : Int32)), .val (.ref a3), .val (.int ((0 : Int32) + (1 : Int32))), .val (.int (3 : Int32)), .val (.int (0 : Int32)), .val (.int x0)] [])) (fun t k => XS.iinc X102.here hx rfl (hb hby d_jdk_52_method_21_code_35) rfl (l' := #[.val (.ref a1), .val (.int (1 : Int32)), .val (.ref a3), .val (.int ((0 : Int32) + (1 : Int32))), .val (.int (3 : Int32)), .val (.int (0 : Int32)), .val (.int x0)]) rfl k) ?_
  rw [show ((0 : Int32) + (1 : Int32)) = (1 : Int32) from by decide]
  refine Goes.step (S' := T102.setTop (mkF m 41 #[.val (.ref a1), .val (.int (1 : Int32)), .val (.ref a3), .val (.int (1 : Int32)), .val (.int (3 : Int32)), .val (.int ((0 : Int32) + (1 : Int32))), .val (.int x0)] [])) (fun t k => XS.iinc X102.here hx rfl (hb hby d_jdk_52_method_21_code_38) rfl (l' := #[.val (.ref a1), .val (.int (1 : Int32)), .val (.ref a3), .val (.int (1 : Int32)), .val (.int (3 : Int32)), .val (.int ((0 : Int32) + (1 : Int32))), .val (.int x0)]) rfl k) ?_
  rw [show ((0 : Int32) + (1 : Int32)) = (1 : Int32) from by decide]
  refine Goes.step (S' := T102.setTop (mkF m 12 #[.val (.ref a1), .val (.int (1 : Int32)), .val (.ref a3), .val (.int (1 : Int32)), .val (.int (3 : Int32)), .val (.int (1 : Int32)), .val (.int x0)] [(.int (1 : Int32)), (.ref a1)])) (fun t k => XS.goto X102.here hx rfl (pc0 := 41) (pc' := 3) rfl (hb hby d_jdk_52_method_21_code_41) (by decide) (by decide) (XS.iload X102.here hx rfl (hb hby d_jdk_52_method_21_code_3) rfl (XS.iload X102.here hx rfl (hb hby d_jdk_52_method_21_code_5) rfl (XS.icmpNo X102.here hx rfl (hb hby d_jdk_52_method_21_code_7) rfl (tlt ((by decide) : (1 : Int32) < (3 : Int32))).2.1 (XS.aloadN X102.here hx rfl (hb hby d_jdk_52_method_21_code_10) rfl rfl (XS.iloadN X102.here hx rfl (hb hby d_jdk_52_method_21_code_11) rfl k)))))) ?_
  obtain ⟨cl103, Ar103, qk103, Sz103, Nn103, Hs103, Gs103⟩ := id (V1.other W102 NE)
  have hin103 := (inb_of (j := (1 : Int32)) Sz103 ⟨by decide, by decide⟩)
  refine Goes.step (S' := T102.setTop (mkF m 30 #[.val (.ref a1), .val (.int (1 : Int32)), .val (.ref a3), .val (.int (1 : Int32)), .val (.int (3 : Int32)), .val (.int (1 : Int32)), .val (.int x1)] [(.int x1), (.int (1 : Int32)), (.ref a3)])) (fun t k => X102.caload hx (j := (1 : Int32)) (v := (.int x1)) (by rw [e102]; exact Ar103.1) (State.isArrayOf_alike hZ.alike Ar103.2.1) Ar103.2.2 hin103 (Has.at Hs103 hin103 rfl) (g := (mkF m 12 #[.val (.ref a1), .val (.int (1 : Int32)), .val (.ref a3), .val (.int (1 : Int32)), .val (.int (3 : Int32)), .val (.int (1 : Int32)), .val (.int x0)] [(.int (1 : Int32)), (.ref a1)])) rfl rfl (hb hby d_jdk_52_method_21_code_12) _ (XS.istore X102.here hx rfl (hb hby d_jdk_52_method_21_code_13) rfl (l' := #[.val (.ref a1), .val (.int (1 : Int32)), .val (.ref a3), .val (.int (1 : Int32)), .val (.int (3 : Int32)), .val (.int (1 : Int32)), .val (.int x1)]) rfl (XS.iload X102.here hx rfl (hb hby d_jdk_52_method_21_code_15) rfl (XS.sipush X102.here hx rfl (hb hby d_jdk_52_method_21_code_17) (XS.icmpYes X102.here hx rfl (pc0 := 20) (pc' := 26) rfl (hb hby d_jdk_52_method_21_code_20) rfl (flt (P1 : ¬ ((255 : Int32) < x1))).2.2.2 (by decide) (by decide) (XS.aloadN X102.here hx rfl (hb hby d_jdk_52_method_21_code_26) rfl rfl (XS.iloadN X102.here hx rfl (hb hby d_jdk_52_method_21_code_27) rfl (XS.iload X102.here hx rfl (hb hby d_jdk_52_method_21_code_28) rfl k)))))))) ?_
  refine Goes.step (S' := T102.setTop (mkF m 31 #[.val (.ref a1), .val (.int (1 : Int32)), .val (.ref a3), .val (.int (1 : Int32)), .val (.int (3 : Int32)), .val (.int (1 : Int32)), .val (.int x1)] [(.int (x1.toInt8.toInt32)), (.int (1 : Int32)), (.ref a3)])) (fun t k => XS.i2b X102.here hx rfl (hb hby d_jdk_52_method_21_code_30) rfl k) ?_
  obtain ⟨cl104, Ar104, qk104, Sz104, Nn104, Hs104, Gs104⟩ := id V102
  obtain ⟨T104, h104, X104, e104, W104, st104⟩ := stB X102 hx hZ e102 Ar104 (j := (1 : Int32)) (inb_of (j := (1 : Int32)) Sz104 ⟨by decide, by decide⟩) (g := (mkF m 31 #[.val (.ref a1), .val (.int (1 : Int32)), .val (.ref a3), .val (.int (1 : Int32)), .val (.int (3 : Int32)), .val (.int (1 : Int32)), .val (.int x1)] [(.int (x1.toInt8.toInt32)), (.int (1 : Int32)), (.ref a3)])) rfl rfl (hb hby d_jdk_52_method_21_code_31)
  have V104 : Arv Z h104 a3 k3 .byte (3 : Int32) [(.int (x0.toInt8.toInt32).toInt8.toInt32), (.int (x1.toInt8.toInt32).toInt8.toInt32), (.int (0 : Int32))] (.int (0 : Int32)) := Arv.set Ar104 qk104 Sz104 Nn104 Hs104 Gs104 (fits_nar_byte _) W104 1 rfl (Nat.le_of_ble_eq_true rfl)
  have N104 := Fr.snoc X104 N102 G3
  refine Goes.step (S' := T104.setTop (mkF m 35 #[.val (.ref a1), .val (.int ((1 : Int32) + (1 : Int32))), .val (.ref a3), .val (.int (1 : Int32)), .val (.int (3 : Int32)), .val (.int (1 : Int32)), .val (.int x1)] [])) (fun t k => st104 _ (XS.iinc X104.here hx rfl (hb hby d_jdk_52_method_21_code_32) rfl (l' := #[.val (.ref a1), .val (.int ((1 : Int32) + (1 : Int32))), .val (.ref a3), .val (.int (1 : Int32)), .val (.int (3 : Int32)), .val (.int (1 : Int32)), .val (.int x1)]) rfl k)) ?_
  rw [show ((1 : Int32) + (1 : Int32)) = (2 : Int32) from by decide]
  refine Goes.step (S' := T104.setTop (mkF m 38 #[.val (.ref a1), .val (.int (2 : Int32)), .val (.ref a3), .val (.int ((1 : Int32) + (1 : Int32))), .val (.int (3 : Int32)), .val (.int (1 : Int32)), .val (.int x1)] [])) (fun t k => XS.iinc X104.here hx rfl (hb hby d_jdk_52_method_21_code_35) rfl (l' := #[.val (.ref a1), .val (.int (2 : Int32)), .val (.ref a3), .val (.int ((1 : Int32) + (1 : Int32))), .val (.int (3 : Int32)), .val (.int (1 : Int32)), .val (.int x1)]) rfl k) ?_
  rw [show ((1 : Int32) + (1 : Int32)) = (2 : Int32) from by decide]
  refine Goes.step (S' := T104.setTop (mkF m 41 #[.val (.ref a1), .val (.int (2 : Int32)), .val (.ref a3), .val (.int (2 : Int32)), .val (.int (3 : Int32)), .val (.int ((1 : Int32) + (1 : Int32))), .val (.int x1)] [])) (fun t k => XS.iinc X104.here hx rfl (hb hby d_jdk_52_method_21_code_38) rfl (l' := #[.val (.ref a1), .val (.int (2 : Int32)), .val (.ref a3), .val (.int (2 : Int32)), .val (.int (3 : Int32)), .val (.int ((1 : Int32) + (1 : Int32))), .val (.int x1)]) rfl k) ?_
  rw [show ((1 : Int32) + (1 : Int32)) = (2 : Int32) from by decide]
  refine Goes.step (S' := T104.setTop (mkF m 12 #[.val (.ref a1), .val (.int (2 : Int32)), .val (.ref a3), .val (.int (2 : Int32)), .val (.int (3 : Int32)), .val (.int (2 : Int32)), .val (.int x1)] [(.int (2 : Int32)), (.ref a1)])) (fun t k => XS.goto X104.here hx rfl (pc0 := 41) (pc' := 3) rfl (hb hby d_jdk_52_method_21_code_41) (by decide) (by decide) (XS.iload X104.here hx rfl (hb hby d_jdk_52_method_21_code_3) rfl (XS.iload X104.here hx rfl (hb hby d_jdk_52_method_21_code_5) rfl (XS.icmpNo X104.here hx rfl (hb hby d_jdk_52_method_21_code_7) rfl (tlt ((by decide) : (2 : Int32) < (3 : Int32))).2.1 (XS.aloadN X104.here hx rfl (hb hby d_jdk_52_method_21_code_10) rfl rfl (XS.iloadN X104.here hx rfl (hb hby d_jdk_52_method_21_code_11) rfl k)))))) ?_
  obtain ⟨cl105, Ar105, qk105, Sz105, Nn105, Hs105, Gs105⟩ := id ((V1.other W102 NE).other W104 NE)
  have hin105 := (inb_of (j := (2 : Int32)) Sz105 ⟨by decide, by decide⟩)
  refine Goes.step (S' := T104.setTop (mkF m 30 #[.val (.ref a1), .val (.int (2 : Int32)), .val (.ref a3), .val (.int (2 : Int32)), .val (.int (3 : Int32)), .val (.int (2 : Int32)), .val (.int x2)] [(.int x2), (.int (2 : Int32)), (.ref a3)])) (fun t k => X104.caload hx (j := (2 : Int32)) (v := (.int x2)) (by rw [e104]; exact Ar105.1) (State.isArrayOf_alike hZ.alike Ar105.2.1) Ar105.2.2 hin105 (Has.at Hs105 hin105 rfl) (g := (mkF m 12 #[.val (.ref a1), .val (.int (2 : Int32)), .val (.ref a3), .val (.int (2 : Int32)), .val (.int (3 : Int32)), .val (.int (2 : Int32)), .val (.int x1)] [(.int (2 : Int32)), (.ref a1)])) rfl rfl (hb hby d_jdk_52_method_21_code_12) _ (XS.istore X104.here hx rfl (hb hby d_jdk_52_method_21_code_13) rfl (l' := #[.val (.ref a1), .val (.int (2 : Int32)), .val (.ref a3), .val (.int (2 : Int32)), .val (.int (3 : Int32)), .val (.int (2 : Int32)), .val (.int x2)]) rfl (XS.iload X104.here hx rfl (hb hby d_jdk_52_method_21_code_15) rfl (XS.sipush X104.here hx rfl (hb hby d_jdk_52_method_21_code_17) (XS.icmpYes X104.here hx rfl (pc0 := 20) (pc' := 26) rfl (hb hby d_jdk_52_method_21_code_20) rfl (flt (P2 : ¬ ((255 : Int32) < x2))).2.2.2 (by decide) (by decide) (XS.aloadN X104.here hx rfl (hb hby d_jdk_52_method_21_code_26) rfl rfl (XS.iloadN X104.here hx rfl (hb hby d_jdk_52_method_21_code_27) rfl (XS.iload X104.here hx rfl (hb hby d_jdk_52_method_21_code_28) rfl k)))))))) ?_
  refine Goes.step (S' := T104.setTop (mkF m 31 #[.val (.ref a1), .val (.int (2 : Int32)), .val (.ref a3), .val (.int (2 : Int32)), .val (.int (3 : Int32)), .val (.int (2 : Int32)), .val (.int x2)] [(.int (x2.toInt8.toInt32)), (.int (2 : Int32)), (.ref a3)])) (fun t k => XS.i2b X104.here hx rfl (hb hby d_jdk_52_method_21_code_30) rfl k) ?_
  obtain ⟨cl106, Ar106, qk106, Sz106, Nn106, Hs106, Gs106⟩ := id V104
  obtain ⟨T106, h106, X106, e106, W106, st106⟩ := stB X104 hx hZ e104 Ar106 (j := (2 : Int32)) (inb_of (j := (2 : Int32)) Sz106 ⟨by decide, by decide⟩) (g := (mkF m 31 #[.val (.ref a1), .val (.int (2 : Int32)), .val (.ref a3), .val (.int (2 : Int32)), .val (.int (3 : Int32)), .val (.int (2 : Int32)), .val (.int x2)] [(.int (x2.toInt8.toInt32)), (.int (2 : Int32)), (.ref a3)])) rfl rfl (hb hby d_jdk_52_method_21_code_31)
  have V106 : Arv Z h106 a3 k3 .byte (3 : Int32) [(.int (x0.toInt8.toInt32).toInt8.toInt32), (.int (x1.toInt8.toInt32).toInt8.toInt32), (.int (x2.toInt8.toInt32).toInt8.toInt32)] (.int (0 : Int32)) := Arv.set Ar106 qk106 Sz106 Nn106 Hs106 Gs106 (fits_nar_byte _) W106 2 rfl (Nat.le_of_ble_eq_true rfl)
  have N106 := Fr.snoc X106 N104 G3
  refine Goes.step (S' := T106.setTop (mkF m 35 #[.val (.ref a1), .val (.int ((2 : Int32) + (1 : Int32))), .val (.ref a3), .val (.int (2 : Int32)), .val (.int (3 : Int32)), .val (.int (2 : Int32)), .val (.int x2)] [])) (fun t k => st106 _ (XS.iinc X106.here hx rfl (hb hby d_jdk_52_method_21_code_32) rfl (l' := #[.val (.ref a1), .val (.int ((2 : Int32) + (1 : Int32))), .val (.ref a3), .val (.int (2 : Int32)), .val (.int (3 : Int32)), .val (.int (2 : Int32)), .val (.int x2)]) rfl k)) ?_
  rw [show ((2 : Int32) + (1 : Int32)) = (3 : Int32) from by decide]
  refine Goes.step (S' := T106.setTop (mkF m 38 #[.val (.ref a1), .val (.int (3 : Int32)), .val (.ref a3), .val (.int ((2 : Int32) + (1 : Int32))), .val (.int (3 : Int32)), .val (.int (2 : Int32)), .val (.int x2)] [])) (fun t k => XS.iinc X106.here hx rfl (hb hby d_jdk_52_method_21_code_35) rfl (l' := #[.val (.ref a1), .val (.int (3 : Int32)), .val (.ref a3), .val (.int ((2 : Int32) + (1 : Int32))), .val (.int (3 : Int32)), .val (.int (2 : Int32)), .val (.int x2)]) rfl k) ?_
  rw [show ((2 : Int32) + (1 : Int32)) = (3 : Int32) from by decide]
  refine Goes.step (S' := T106.setTop (mkF m 41 #[.val (.ref a1), .val (.int (3 : Int32)), .val (.ref a3), .val (.int (3 : Int32)), .val (.int (3 : Int32)), .val (.int ((2 : Int32) + (1 : Int32))), .val (.int x2)] [])) (fun t k => XS.iinc X106.here hx rfl (hb hby d_jdk_52_method_21_code_38) rfl (l' := #[.val (.ref a1), .val (.int (3 : Int32)), .val (.ref a3), .val (.int (3 : Int32)), .val (.int (3 : Int32)), .val (.int ((2 : Int32) + (1 : Int32))), .val (.int x2)]) rfl k) ?_
  rw [show ((2 : Int32) + (1 : Int32)) = (3 : Int32) from by decide]
  refine Goes.step (S' := T106.setTop (mkF m 46 #[.val (.ref a1), .val (.int (3 : Int32)), .val (.ref a3), .val (.int (3 : Int32)), .val (.int (3 : Int32)), .val (.int (3 : Int32)), .val (.int x2)] [(.int (3 : Int32))])) (fun t k => XS.goto X106.here hx rfl (pc0 := 41) (pc' := 3) rfl (hb hby d_jdk_52_method_21_code_41) (by decide) (by decide) (XS.iload X106.here hx rfl (hb hby d_jdk_52_method_21_code_3) rfl (XS.iload X106.here hx rfl (hb hby d_jdk_52_method_21_code_5) rfl (XS.icmpYes X106.here hx rfl (pc0 := 7) (pc' := 44) rfl (hb hby d_jdk_52_method_21_code_7) rfl (flt ((by decide) : ¬ ((3 : Int32) < (3 : Int32)))).2.1 (by decide) (by decide) (XS.iload X106.here hx rfl (hb hby d_jdk_52_method_21_code_44) rfl k))))) ?_
  refine Goes.leave (g := (mkF m 46 #[.val (.ref a1), .val (.int (3 : Int32)), .val (.ref a3), .val (.int (3 : Int32)), .val (.int (3 : Int32)), .val (.int (3 : Int32)), .val (.int x2)] [(.int (3 : Int32))])) X106 Bd.notSynchronized (v := (some (.int (3 : Int32)))) (fun h => by rw [Bd.returns] at h; cases h) (fun fs hr => retI X106 hx Bd.returns (hb hby d_jdk_52_method_21_code_46) hr) e106 ?_ (by decide) (by decide)
  exact ⟨(.int (x0.toInt8.toInt32).toInt8.toInt32), (.int (x1.toInt8.toInt32).toInt8.toInt32), (.int (x2.toInt8.toInt32).toInt8.toInt32), rfl, N106, ((((Keep.refl _ [a3]).wr W102 (Or.inl (List.mem_of_getElem? (i := 0) rfl))).wr W104 (Or.inl (List.mem_of_getElem? (i := 0) rfl))).wr W106 (Or.inl (List.mem_of_getElem? (i := 0) rfl))), V106⟩

theorem ef_cmq3 (m : MethodId) (x0 : Addr) (x1 : Int32) (x2 : Int32) : entryFrame m #[(.ref x0), (.int x1), (.int x2)] 6 = mkF m 0 #[.val (.ref x0), .val (.int x1), .val (.int x2), .unset, .unset, .unset] [] := by first | (simp [entryFrame, mkF, argsToLocals, Value.category]; done) | rfl
def Q_cmq3 (Z : State) (a1 : Addr) (k1 : ClassId) (x0 : Int32) (x1 : Int32) (x2 : Int32) (h0 : Heap) (n0 : Nat) (v : Option Value) (h : Heap) (L : List Loc) : Prop := ∃ (b : Addr) (kb : ClassId) (y0 : Value) (y1 : Value) (y2 : Value), v = some (.ref b) ∧ Fr n0 L ∧ Keep h0 h [] ∧ h0.size ≤ b ∧ Exa Z h b "[B" ∧ Arv Z h b kb .byte (3 : Int32) [y0, y1, y2] (.int (0 : Int32))
set_option maxRecDepth 65536 in
set_option maxHeartbeats 40000000 in
theorem cmq3 (l : Launch) (Z : State) (a0 : Array Value) (hw : ∀ d ∈ tables_1, d.before a0 Z = true) (ws : List Jvm.Cond) (a1 : Addr) (k1 : ClassId) (x0 : Int32) (x1 : Int32) (x2 : Int32) (h0 : Heap) (n0 : Nat) (Z0 : n0 ≤ h0.size) (V1 : Arv Z h0 a1 k1 .char (3 : Int32) [(.int x0), (.int x1), (.int x2)] (.int (0 : Int32))) (P0 : ¬ ((255 : Int32) < x0)) (P1 : ¬ ((255 : Int32) < x1)) (P2 : ¬ ((255 : Int32) < x2)) :
    MetFree l mth1 (head1 (Jvm.Cond.code mth1 jdk_52_method_16_code 6 (some (.array .byte)) :: ws) rom4) (fun a U => a = #[(.ref a1), (.int (0 : Int32)), (.int (3 : Int32))] ∧ Z.Warmed39 U.vm ∧ U.heap = h0) (fun _ _ _ _ _ => True) (fun _ U o U' => ∃ v L, o = .returned v ∧ Q_cmq3 Z a1 k1 x0 x1 x2 h0 n0 v U'.heap L ∧ FrameEnd U o U' L rom4.cells rom4.slots) := by
  refine MetFree.of_bodySF (plainFor_of_name pnm0) hisR ?_
  intro p e s m args below meth c s₁ Bd hml0 hP hK
  obtain ⟨rfl, hZ, hh⟩ := hP
  have hx := Bd.exec
  have hby := Bd.bytes
  have hml : c.maxLocals = 6 := hml0
  have hown : s.vm.findClass "java/lang/StringUTF16" = some m.cls := findClass_of_methodNamed Bd.named
  have hnm := (name_of_methodNamed Bd.named Bd.method).1
  have X0 : Stand p l e rom4 s m #[(.ref a1), (.int (0 : Int32)), (.int (3 : Int32))] below meth c s₁ [] 0 0 := Stand.of_body Bd
  have eh0 : s₁.heap = h0 := by rw [← hh, Bd.state]; rfl
  have N0 := Fr.nil n0
  have tw21 := hw _ (List.mem_of_getElem? (i := 21) rfl)
  have tw23 := hw _ (List.mem_of_getElem? (i := 23) rfl)
  have tw24 := hw _ (List.mem_of_getElem? (i := 24) rfl)
  have tw25 := hw _ (List.mem_of_getElem? (i := 25) rfl)
  have tw26 := hw _ (List.mem_of_getElem? (i := 26) rfl)
  show Goes p e below (Pq (Q_cmq3 Z a1 k1 x0 x1 x2 h0 n0) s rom4.cells rom4.slots) (s₁.setTop (entryFrame m #[(.ref a1), (.int (0 : Int32)), (.int (3 : Int32))] 6))
  refine Goes.step (S' := s₁.setTop (mkF m 0 #[.val (.ref a1), .val (.int (0 : Int32)), .val (.int (3 : Int32)), .unset, .unset, .unset] [])) (fun t k => castTop (ef_cmq3 m a1 (0 : Int32) (3 : Int32)) k) ?_
  refine Goes.step (S' := s₁.setTop (mkF m 1 #[.val (.ref a1), .val (.int (0 : Int32)), .val (.int (3 : Int32)), .unset, .unset, .unset] [(.int (3 : Int32))])) (fun t k => XS.iloadN X0.here hx rfl (hb hby d_jdk_52_method_16_code_0) rfl k) ?_
  obtain ⟨T101, h101, k101, X101, e101, E101, A101, AE101, st101⟩ := newPE (aty := .byte) X0 hx hZ tw23 eh0 (g := (mkF m 1 #[.val (.ref a1), .val (.int (0 : Int32)), .val (.int (3 : Int32)), .unset, .unset, .unset] [(.int (3 : Int32))])) rfl (hb hby d_jdk_52_method_16_code_1) rfl (by decide) (cap := 3) (by decide) (by decide) (by decide) (by decide) (ad := "[B") rfl
  obtain ⟨b101, g101⟩ : ∃ z, z = h0.size := ⟨_, rfl⟩
  rw [← g101] at A101 AE101 st101
  have V101 : Arv Z h101 b101 k101 .byte (3 : Int32) [(.int (0 : Int32)), (.int (0 : Int32)), (.int (0 : Int32))] (.int (0 : Int32)) := (Arv.new A101 (by decide)).pad (pad_rep [] (.int (0 : Int32)) 3)
  refine Goes.step (S' := T101.setTop (mkF m 9 #[.val (.ref a1), .val (.int (0 : Int32)), .val (.int (3 : Int32)), .val (.ref b101), .unset, .unset] [(.int (3 : Int32)), (.int (0 : Int32)), (.ref b101), (.int (0 : Int32)), (.ref a1)])) (fun t k => st101 _ (XS.astoreN X101.here hx rfl (hb hby d_jdk_52_method_16_code_3) rfl rfl (l' := #[.val (.ref a1), .val (.int (0 : Int32)), .val (.int (3 : Int32)), .val (.ref b101), .unset, .unset]) rfl (XS.aloadN X101.here hx rfl (hb hby d_jdk_52_method_16_code_4) rfl rfl (XS.iloadN X101.here hx rfl (hb hby d_jdk_52_method_16_code_5) rfl (XS.aloadN X101.here hx rfl (hb hby d_jdk_52_method_16_code_6) rfl rfl (XS.iconst X101.here hx rfl (hb hby d_jdk_52_method_16_code_7) (XS.iloadN X101.here hx rfl (hb hby d_jdk_52_method_16_code_8) rfl k))))))) ?_
  obtain ⟨_, _, ⟨T102, L102, k102, n102⟩, -, X102, ⟨Lc102, hQ102, l102, y102, z102⟩, st102⟩ := Jvm.LawKit.callS X101 hx (y := mth0) hown (mvT hZ tw24) (mvT hZ tw25) (mvT hZ tw21) (mvT hZ tw26) (by decide) (backOf (W := 0) (cmp3 l Z a0 hw [] a1 k1 b101 k101 x0 x1 x2 h101 n0 (Nat.le_trans Z0 E101.1) (V1.ext E101) V101 (Nat.le_trans Z0 (Nat.le_of_eq g101.symm)) (Nat.ne_of_lt (Nat.lt_of_lt_of_le V1.lt (Nat.le_of_eq g101.symm))) (P0 : ¬ ((255 : Int32) < x0)) (P1 : ¬ ((255 : Int32) < x1)) (P2 : ¬ ((255 : Int32) < x2))) hZ tw26 tw21 (by decide) (by decide)) (g := (mkF m 9 #[.val (.ref a1), .val (.int (0 : Int32)), .val (.int (3 : Int32)), .val (.ref b101), .unset, .unset] [(.int (3 : Int32)), (.int (0 : Int32)), (.ref b101), (.int (0 : Int32)), (.ref a1)])) rfl (by rw [hml]; rfl) (argsL := [(.ref a1), (.int (0 : Int32)), (.ref b101), (.int (0 : Int32)), (.int (3 : Int32))]) (rest := []) (lenOf pd_CI_BII_I rfl) rfl (Nat.le_of_eq rfl) (hb hby d_jdk_52_method_16_code_9) (fun _ _ => ⟨rfl, e101, (by decide : 1 + 0 ≤ _), (by decide : 3 + 0 ≤ _)⟩)
  dsimp only [Pt.U, Pt.locs, Pt.cells, Pt.slots] at X102 l102 y102 z102 st102 hQ102
  subst y102 z102
  obtain ⟨y0_102, y1_102, y2_102, rfl, Nq102, q102_0, q102_1⟩ := hQ102
  have N102 : Fr n0 L102 := by rw [l102]; exact Fr.app N0 Nq102
  refine Goes.step (S' := T102.setTop (mkF m 58 #[.val (.ref a1), .val (.int (0 : Int32)), .val (.int (3 : Int32)), .val (.ref b101), .val (.int (3 : Int32)), .unset] [(.ref b101)])) (fun t k => st102 _ (XS.istore X102.here hx rfl (hb hby d_jdk_52_method_16_code_12) rfl (l' := #[.val (.ref a1), .val (.int (0 : Int32)), .val (.int (3 : Int32)), .val (.ref b101), .val (.int (3 : Int32)), .unset]) rfl (XS.iload X102.here hx rfl (hb hby d_jdk_52_method_16_code_14) rfl (XS.iloadN X102.here hx rfl (hb hby d_jdk_52_method_16_code_16) rfl (XS.icmpYes X102.here hx rfl (pc0 := 17) (pc' := 57) rfl (hb hby d_jdk_52_method_16_code_17) rfl (teq ((by decide) : (3 : Int32) = (3 : Int32))).1 (by decide) (by decide) (XS.aloadN X102.here hx rfl (hb hby d_jdk_52_method_16_code_57) rfl rfl k)))))) ?_
  refine Goes.leave (g := (mkF m 58 #[.val (.ref a1), .val (.int (0 : Int32)), .val (.int (3 : Int32)), .val (.ref b101), .val (.int (3 : Int32)), .unset] [(.ref b101)])) X102 Bd.notSynchronized (v := (some (.ref b101))) (fun h => by rw [Bd.returns] at h; cases h) (fun fs hr => by jvm_step X102.here [X102.here.top, hx, (hb hby d_jdk_52_method_16_code_58), X102.method', Bd.returns, Value.isRef, FieldType.isReference]; (first | (intro acts; rw [hr _ acts rfl rfl rfl]) | rw [hr _ _ rfl rfl rfl]); exact Steps.refl _) rfl ?_ (by decide) (by decide)
  exact ⟨b101, k101, y0_102, y1_102, y2_102, rfl, N102, (((Keep.refl _ []).ext E101).trans q102_0 (allS (Or.inr (Nat.le_of_eq g101.symm)) all0)), (Nat.le_of_eq g101.symm), (AE101.keep q102_0), q102_1⟩

theorem ef_cfa3 (m : MethodId) (x0 : Addr) (x1 : Int32) : entryFrame m #[(.ref x0), (.int x1)] 2 = mkF m 0 #[.val (.ref x0), .val (.int x1)] [] := by first | (simp [entryFrame, mkF, argsToLocals, Value.category]; done) | rfl
def Q_cfa3 (Z : State) (a1 : Addr) (k1 : ClassId) (y0 : Value) (y1 : Value) (y2 : Value) (h0 : Heap) (n0 : Nat) (v : Option Value) (h : Heap) (L : List Loc) : Prop := v = some (.int (0 : Int32)) ∧ Fr n0 L ∧ h = h0
set_option maxRecDepth 65536 in
set_option maxHeartbeats 40000000 in
theorem cfa3 (l : Launch) (Z : State) (a0 : Array Value) (hw : ∀ d ∈ tables_1, d.before a0 Z = true) (ws : List Jvm.Cond) (a1 : Addr) (k1 : ClassId) (y0 : Value) (y1 : Value) (y2 : Value) (h0 : Heap) (n0 : Nat) (Z0 : n0 ≤ h0.size) (V1 : Arv Z h0 a1 k1 .byte (3 : Int32) [y0, y1, y2] (.int (0 : Int32))) :
    MetFree l mth2 (head1 (Jvm.Cond.code mth2 jdk_52_method_15_code 2 (some .byte) :: ws) rom0) (fun a U => a = #[(.ref a1), (.int (3 : Int32))] ∧ Z.Warmed39 U.vm ∧ U.heap = h0) (fun _ _ _ _ _ => True) (fun _ U o U' => ∃ v L, o = .returned v ∧ Q_cfa3 Z a1 k1 y0 y1 y2 h0 n0 v U'.heap L ∧ FrameEnd U o U' L rom0.cells rom0.slots) := by
  refine MetFree.of_bodySF (plainFor_of_name pnm0) hisR ?_
  intro p e s m args below meth c s₁ Bd hml0 hP hK
  obtain ⟨rfl, hZ, hh⟩ := hP
  have hx := Bd.exec
  have hby := Bd.bytes
  have hml : c.maxLocals = 2 := hml0
  have hown : s.vm.findClass "java/lang/StringUTF16" = some m.cls := findClass_of_methodNamed Bd.named
  have hnm := (name_of_methodNamed Bd.named Bd.method).1
  have X0 : Stand p l e rom0 s m #[(.ref a1), (.int (3 : Int32))] below meth c s₁ [] 0 0 := Stand.of_body Bd
  have eh0 : s₁.heap = h0 := by rw [← hh, Bd.state]; rfl
  have N0 := Fr.nil n0
  show Goes p e below (Pq (Q_cfa3 Z a1 k1 y0 y1 y2 h0 n0) s rom0.cells rom0.slots) (s₁.setTop (entryFrame m #[(.ref a1), (.int (3 : Int32))] 2))
  refine Goes.step (S' := s₁.setTop (mkF m 0 #[.val (.ref a1), .val (.int (3 : Int32))] [])) (fun t k => castTop (ef_cfa3 m a1 (3 : Int32)) k) ?_
  refine Goes.step (S' := s₁.setTop (mkF m 2 #[.val (.ref a1), .val (.int (3 : Int32))] [(.ref a1), (.int (3 : Int32))])) (fun t k => XS.iloadN X0.here hx rfl (hb hby d_jdk_52_method_15_code_0) rfl (XS.aloadN X0.here hx rfl (hb hby d_jdk_52_method_15_code_1) rfl rfl k)) ?_
  obtain ⟨cl101, Ar101, qk101, Sz101, Nn101, Hs101, Gs101⟩ := id V1
  refine Goes.step (S' := s₁.setTop (mkF m 3 #[.val (.ref a1), .val (.int (3 : Int32))] [(.int (3 : Int32)), (.int (3 : Int32))])) (fun t k => X0.arraylength hx (by rw [eh0]; exact Ar101.1) (State.isArrayOf_alike hZ.alike Ar101.2.1) (g := (mkF m 2 #[.val (.ref a1), .val (.int (3 : Int32))] [(.ref a1), (.int (3 : Int32))])) rfl rfl (hb hby d_jdk_52_method_15_code_2) _ (by rw [len_of Sz101 Nn101]; exact k)) ?_
  refine Goes.step (S' := s₁.setTop (mkF m 4 #[.val (.ref a1), .val (.int (3 : Int32))] [(.int ((3 : Int32) - (3 : Int32)))])) (fun t k => XS.isub X0.here hx rfl (hb hby d_jdk_52_method_15_code_3) rfl k) ?_
  rw [show ((3 : Int32) - (3 : Int32)) = (0 : Int32) from by decide]
  refine Goes.step (S' := s₁.setTop (mkF m 7 #[.val (.ref a1), .val (.int (3 : Int32))] [(.int (((0 : Int32).toUInt32 >>> ((31 : Int32) &&& 31).toUInt32).toInt32))])) (fun t k => XS.bipush X0.here hx rfl (hb hby d_jdk_52_method_15_code_4) (XS.iushr X0.here hx rfl (hb hby d_jdk_52_method_15_code_6) rfl k)) ?_
  rw [show (((0 : Int32).toUInt32 >>> ((31 : Int32) &&& 31).toUInt32).toInt32) = (0 : Int32) from by decide]
  refine Goes.step (S' := s₁.setTop (mkF m 8 #[.val (.ref a1), .val (.int (3 : Int32))] [(.int ((0 : Int32).toInt8.toInt32))])) (fun t k => XS.i2b X0.here hx rfl (hb hby d_jdk_52_method_15_code_7) rfl k) ?_
  rw [show ((0 : Int32).toInt8.toInt32) = (0 : Int32) from by decide]
  refine Goes.leave (g := (mkF m 8 #[.val (.ref a1), .val (.int (3 : Int32))] [(.int (0 : Int32))])) X0 Bd.notSynchronized (v := (some (.int (0 : Int32)))) (fun h => by rw [Bd.returns] at h; cases h) (fun fs hr => retN X0 hx (t := .byte) Bd.returns (by simp) (hb hby d_jdk_52_method_15_code_8) hr) eh0 ?_ (by decide) (by decide)
  exact ⟨rfl, N0, rfl⟩

theorem ef_sif3 (m : MethodId) (x0 : Addr) (x1 : Addr) (x2 : Int32) (x3 : Int32) : entryFrame m #[(.ref x0), (.ref x1), (.int x2), (.int x3), .null] 6 = mkF m 0 #[.val (.ref x0), .val (.ref x1), .val (.int x2), .val (.int x3), .val .null, .unset] [] := by first | (simp [entryFrame, mkF, argsToLocals, Value.category]; done) | rfl
def Q_sif3 (Z : State) (a1 : Addr) (a2 : Addr) (k1 : ClassId) (cs : Int32) (x0 : Int32) (x1 : Int32) (x2 : Int32) (h0 : Heap) (n0 : Nat) (v : Option Value) (h : Heap) (L : List Loc) : Prop := v = none ∧ Fr n0 L ∧ Keep h0 h [a1]
set_option maxRecDepth 65536 in
set_option maxHeartbeats 40000000 in
theorem sif3 (l : Launch) (Z : State) (a0 : Array Value) (hw : ∀ d ∈ tables_1, d.before a0 Z = true) (ws : List Jvm.Cond) (a1 : Addr) (a2 : Addr) (k1 : ClassId) (cs : Int32) (x0 : Int32) (x1 : Int32) (x2 : Int32) (h0 : Heap) (n0 : Nat) (Z0 : n0 ≤ h0.size) (E1 : Exa Z h0 a1 "java/lang/String") (Fv : Fld Z h0 a1 "java/lang/String" "value" "[B" .null) (Fc : Fld Z h0 a1 "java/lang/String" "coder" "B" (.int (0 : Int32))) (G1 : n0 ≤ a1) (SC : Sta Z h0 "java/lang/String" "COMPACT_STRINGS" "Z" (.int cs)) (PC : ¬ (cs = (0 : Int32))) (V1 : Arv Z h0 a2 k1 .char (3 : Int32) [(.int x0), (.int x1), (.int x2)] (.int (0 : Int32))) (P0 : ¬ ((255 : Int32) < x0)) (P1 : ¬ ((255 : Int32) < x1)) (P2 : ¬ ((255 : Int32) < x2)) :
    MetFree l mth3 (head1 (Jvm.Cond.code mth3 jdk_42_method_149_code 6 none :: ws) rom5) (fun a U => a = #[(.ref a1), (.ref a2), (.int (0 : Int32)), (.int (3 : Int32)), .null] ∧ Z.Warmed39 U.vm ∧ U.heap = h0) (fun _ _ _ _ _ => True) (fun _ U o U' => ∃ v L, o = .returned v ∧ Q_sif3 Z a1 a2 k1 cs x0 x1 x2 h0 n0 v U'.heap L ∧ FrameEnd U o U' L rom5.cells rom5.slots) := by
  refine MetFree.of_bodySF (plainFor_of_name pnm1) hisR ?_
  intro p e s m args below meth c s₁ Bd hml0 hP hK
  obtain ⟨rfl, hZ, hh⟩ := hP
  have hx := Bd.exec
  have hby := Bd.bytes
  have hml : c.maxLocals = 6 := hml0
  have hown : s.vm.findClass "java/lang/String" = some m.cls := findClass_of_methodNamed Bd.named
  have hnm := (name_of_methodNamed Bd.named Bd.method).1
  have X0 : Stand p l e rom5 s m #[(.ref a1), (.ref a2), (.int (0 : Int32)), (.int (3 : Int32)), .null] below meth c s₁ [] 0 0 := Stand.of_body Bd
  have eh0 : s₁.heap = h0 := by rw [← hh, Bd.state]; rfl
  have N0 := Fr.nil n0
  have tw5 := hw _ (List.mem_of_getElem? (i := 5) rfl)
  have tw15 := hw _ (List.mem_of_getElem? (i := 15) rfl)
  have tw16 := hw _ (List.mem_of_getElem? (i := 16) rfl)
  have tw17 := hw _ (List.mem_of_getElem? (i := 17) rfl)
  have tw18 := hw _ (List.mem_of_getElem? (i := 18) rfl)
  have tw19 := hw _ (List.mem_of_getElem? (i := 19) rfl)
  have tw20 := hw _ (List.mem_of_getElem? (i := 20) rfl)
  have tw21 := hw _ (List.mem_of_getElem? (i := 21) rfl)
  have tw22 := hw _ (List.mem_of_getElem? (i := 22) rfl)
  have tw27 := hw _ (List.mem_of_getElem? (i := 27) rfl)
  have tw28 := hw _ (List.mem_of_getElem? (i := 28) rfl)
  have tw29 := hw _ (List.mem_of_getElem? (i := 29) rfl)
  have tw30 := hw _ (List.mem_of_getElem? (i := 30) rfl)
  have tw31 := hw _ (List.mem_of_getElem? (i := 31) rfl)
  have tw32 := hw _ (List.mem_of_getElem? (i := 32) rfl)
  have tw33 := hw _ (List.mem_of_getElem? (i := 33) rfl)
  show Goes p e below (Pq (Q_sif3 Z a1 a2 k1 cs x0 x1 x2 h0 n0) s rom5.cells rom5.slots) (s₁.setTop (entryFrame m #[(.ref a1), (.ref a2), (.int (0 : Int32)), (.int (3 : Int32)), .null] 6))
  refine Goes.step (S' := s₁.setTop (mkF m 0 #[.val (.ref a1), .val (.ref a2), .val (.int (0 : Int32)), .val (.int (3 : Int32)), .val .null, .unset] [])) (fun t k => castTop (ef_sif3 m a1 a2 (0 : Int32) (3 : Int32)) k) ?_
  refine Goes.step (S' := s₁.setTop (mkF m 1 #[.val (.ref a1), .val (.ref a2), .val (.int (0 : Int32)), .val (.int (3 : Int32)), .val .null, .unset] [(.ref a1)])) (fun t k => XS.aloadN X0.here hx rfl (hb hby d_jdk_42_method_149_code_0) rfl rfl k) ?_
  obtain ⟨T101, X101, e101, st101⟩ := initO X0 hx hZ hown tw15 tw16 tw17 eh0 (g := (mkF m 1 #[.val (.ref a1), .val (.ref a2), .val (.int (0 : Int32)), .val (.int (3 : Int32)), .val .null, .unset] [(.ref a1)])) rfl (by rw [hml]; rfl) rfl (hb hby d_jdk_42_method_149_code_1) (by decide) (W := 0) (Nat.le_of_eq rfl) (by decide)
  refine Goes.step (S' := T101.setTop (mkF m 27 #[.val (.ref a1), .val (.ref a2), .val (.int (0 : Int32)), .val (.int (3 : Int32)), .val .null, .unset] [])) (fun t k => st101 _ (XS.iloadN X101.here hx rfl (hb hby d_jdk_42_method_149_code_4) rfl (XS.ifYes X101.here hx rfl (pc0 := 5) (pc' := 27) rfl (hb hby d_jdk_42_method_149_code_5) rfl ((if0 _ _).trans (feq ((by decide) : ¬ ((3 : Int32) = (0 : Int32)))).2) (by decide) (by decide) k))) ?_
  obtain ⟨T102, X102, e102, st102⟩ := getS2 X101 hx hZ hown (host := "") (Or.inl tw18) Via.refl e101 SC (g := (mkF m 27 #[.val (.ref a1), .val (.ref a2), .val (.int (0 : Int32)), .val (.int (3 : Int32)), .val .null, .unset] [])) rfl (hb hby d_jdk_42_method_149_code_27)
  refine Goes.step (S' := T102.setTop (mkF m 36 #[.val (.ref a1), .val (.ref a2), .val (.int (0 : Int32)), .val (.int (3 : Int32)), .val .null, .unset] [(.int (3 : Int32)), (.int (0 : Int32)), (.ref a2)])) (fun t k => st102 _ (XS.ifNo X102.here hx rfl (hb hby d_jdk_42_method_149_code_30) rfl ((if0 _ _).trans (feq (PC : ¬ (cs = (0 : Int32)))).1) (XS.aloadN X102.here hx rfl (hb hby d_jdk_42_method_149_code_33) rfl rfl (XS.iloadN X102.here hx rfl (hb hby d_jdk_42_method_149_code_34) rfl (XS.iloadN X102.here hx rfl (hb hby d_jdk_42_method_149_code_35) rfl k))))) ?_
  obtain ⟨_, _, ⟨T103, L103, k103, n103⟩, -, X103, ⟨Lc103, hQ103, l103, y103, z103⟩, st103⟩ := Jvm.LawKit.callS X102 hx (y := mth1) hown (mvT hZ tw19) (mvT hZ tw20) (mvT hZ tw21) (mvT hZ tw22) (by decide) (backOf (W := 0) (cmq3 l Z a0 hw [] a2 k1 x0 x1 x2 h0 n0 Z0 V1 (P0 : ¬ ((255 : Int32) < x0)) (P1 : ¬ ((255 : Int32) < x1)) (P2 : ¬ ((255 : Int32) < x2))) hZ tw22 tw21 (by decide) (by decide)) (g := (mkF m 36 #[.val (.ref a1), .val (.ref a2), .val (.int (0 : Int32)), .val (.int (3 : Int32)), .val .null, .unset] [(.int (3 : Int32)), (.int (0 : Int32)), (.ref a2)])) rfl (by rw [hml]; rfl) (argsL := [(.ref a2), (.int (0 : Int32)), (.int (3 : Int32))]) (rest := []) (lenOf pd_CII__B rfl) rfl (Nat.le_of_eq rfl) (hb hby d_jdk_42_method_149_code_36) (fun _ _ => ⟨rfl, e102, (by decide : 0 + 1 ≤ _), (by decide : 0 + 3 ≤ _)⟩)
  dsimp only [Pt.U, Pt.locs, Pt.cells, Pt.slots] at X103 l103 y103 z103 st103 hQ103
  subst y103 z103
  obtain ⟨b_103, kb_103, y0_103, y1_103, y2_103, rfl, Nq103, q103_0, q103_1, q103_2, q103_3⟩ := hQ103
  have N103 : Fr n0 L103 := by rw [l103]; exact Fr.app N0 Nq103
  refine Goes.step (S' := T103.setTop (mkF m 45 #[.val (.ref a1), .val (.ref a2), .val (.int (0 : Int32)), .val (.int (3 : Int32)), .val .null, .val (.ref b_103)] [(.int (3 : Int32)), (.ref b_103), (.ref a1)])) (fun t k => st103 _ (XS.astore X103.here hx rfl (hb hby d_jdk_42_method_149_code_39) rfl rfl (l' := #[.val (.ref a1), .val (.ref a2), .val (.int (0 : Int32)), .val (.int (3 : Int32)), .val .null, .val (.ref b_103)]) rfl (XS.aloadN X103.here hx rfl (hb hby d_jdk_42_method_149_code_41) rfl rfl (XS.aload X103.here hx rfl (hb hby d_jdk_42_method_149_code_42) rfl rfl (XS.iloadN X103.here hx rfl (hb hby d_jdk_42_method_149_code_44) rfl k))))) ?_
  obtain ⟨_, _, ⟨T104, L104, k104, n104⟩, -, X104, ⟨Lc104, hQ104, l104, y104, z104⟩, st104⟩ := Jvm.LawKit.callS X103 hx (y := mth2) hown (mvT hZ tw27) (mvT hZ tw28) (mvT hZ tw21) (mvT hZ tw29) (by decide) (backOf (W := 1) (cfa3 l Z a0 hw [] b_103 kb_103 y0_103 y1_103 y2_103 T103.heap n0 (Nat.le_trans Z0 q103_0.1) q103_3) hZ tw29 tw21 (by decide) (by decide)) (g := (mkF m 45 #[.val (.ref a1), .val (.ref a2), .val (.int (0 : Int32)), .val (.int (3 : Int32)), .val .null, .val (.ref b_103)] [(.int (3 : Int32)), (.ref b_103), (.ref a1)])) rfl (by rw [hml]; rfl) (argsL := [(.ref b_103), (.int (3 : Int32))]) (rest := [(.ref a1)]) (lenOf pd_BI_B rfl) rfl (Nat.le_of_eq rfl) (hb hby d_jdk_42_method_149_code_45) (fun _ _ => ⟨rfl, rfl, (by decide : 1 + 0 ≤ _), (by decide : 3 + 0 ≤ _)⟩)
  dsimp only [Pt.U, Pt.locs, Pt.cells, Pt.slots] at X104 l104 y104 z104 st104 hQ104
  subst y104 z104
  obtain ⟨rfl, Nq104, q104_0⟩ := hQ104
  have N104 : Fr n0 L104 := by rw [l104]; exact Fr.app N103 Nq104
  refine Goes.step (S' := T104.setTop (mkF m 48 #[.val (.ref a1), .val (.ref a2), .val (.int (0 : Int32)), .val (.int (3 : Int32)), .val .null, .val (.ref b_103)] [(.int (0 : Int32)), (.ref a1)])) (fun t k => st104 _ k) ?_
  obtain ⟨T105, h105, X105, e105, W105, st105⟩ := putFN X104 hx hZ hown tw30 Via.refl q104_0 (Fc.keep q103_0 nin0) (E1.keep q103_0) (Or.inr ⟨tw31, rfl, hnm⟩) tw5 (ty := .byte) (v' := (.int (0 : Int32))) (by decide) rfl (by decide) (g := (mkF m 48 #[.val (.ref a1), .val (.ref a2), .val (.int (0 : Int32)), .val (.int (3 : Int32)), .val .null, .val (.ref b_103)] [(.int (0 : Int32)), (.ref a1)])) rfl rfl (hb hby d_jdk_42_method_149_code_48)
  have Fw105 : Fld Z h105 a1 "java/lang/String" "coder" "B" (.int (0 : Int32)) := Fld.same W105 (Fc.keep q103_0 nin0)
  have N105 := Fr.snoc X105 N104 G1
  refine Goes.step (S' := T105.setTop (mkF m 54 #[.val (.ref a1), .val (.ref a2), .val (.int (0 : Int32)), .val (.int (3 : Int32)), .val .null, .val (.ref b_103)] [(.ref b_103), (.ref a1)])) (fun t k => st105 _ (XS.aloadN X105.here hx rfl (hb hby d_jdk_42_method_149_code_51) rfl rfl (XS.aload X105.here hx rfl (hb hby d_jdk_42_method_149_code_52) rfl rfl k))) ?_
  obtain ⟨T106, h106, X106, e106, W106, st106⟩ := putF X105 hx hZ hown (host := "") (Or.inl tw32) Via.refl e105 (Fld.other W105 (Fv.keep q103_0 nin0) (Or.inr (slot_ne (Or.inr tw33) (Or.inr tw31) (by decide) (t := (.array .byte)) (t' := .byte) (by decide) (by decide)))) (Exa.wr W105 (E1.keep q103_0)) (Or.inr ⟨tw33, rfl, hnm⟩) tw5 (ty := (.array .byte)) (by decide) rfl rfl (g := (mkF m 54 #[.val (.ref a1), .val (.ref a2), .val (.int (0 : Int32)), .val (.int (3 : Int32)), .val .null, .val (.ref b_103)] [(.ref b_103), (.ref a1)])) rfl rfl (hb hby d_jdk_42_method_149_code_54)
  have Fw106 : Fld Z h106 a1 "java/lang/String" "value" "[B" (.ref b_103) := Fld.same W106 (Fld.other W105 (Fv.keep q103_0 nin0) (Or.inr (slot_ne (Or.inr tw33) (Or.inr tw31) (by decide) (t := (.array .byte)) (t' := .byte) (by decide) (by decide))))
  have N106 := Fr.snoc X106 N105 G1
  refine Goes.step (S' := T106.setTop (mkF m 57 #[.val (.ref a1), .val (.ref a2), .val (.int (0 : Int32)), .val (.int (3 : Int32)), .val .null, .val (.ref b_103)] [])) (fun t k => st106 _ k) ?_
  refine Goes.leave (g := (mkF m 57 #[.val (.ref a1), .val (.ref a2), .val (.int (0 : Int32)), .val (.int (3 : Int32)), .val .null, .val (.ref b_103)] [])) X106 Bd.notSynchronized (v := none) (fun _ => rfl) (fun fs hr => X106.returnOut hx Bd.returns (hb hby d_jdk_42_method_149_code_57) hr) e106 ?_ (by decide) (by decide)
  exact ⟨rfl, N106, ((((Keep.refl _ [a1]).trans q103_0 all0).wr W105 (Or.inl (List.mem_of_getElem? (i := 0) rfl))).wr W106 (Or.inl (List.mem_of_getElem? (i := 0) rfl)))⟩

theorem ef_sic3 (m : MethodId) (x0 : Addr) (x1 : Addr) : entryFrame m #[(.ref x0), (.ref x1)] 2 = mkF m 0 #[.val (.ref x0), .val (.ref x1)] [] := by first | (simp [entryFrame, mkF, argsToLocals, Value.category]; done) | rfl
def Q_sic3 (Z : State) (a1 : Addr) (a2 : Addr) (k1 : ClassId) (cs : Int32) (x0 : Int32) (x1 : Int32) (x2 : Int32) (h0 : Heap) (n0 : Nat) (v : Option Value) (h : Heap) (L : List Loc) : Prop := v = none ∧ Fr n0 L ∧ Keep h0 h [a1]
set_option maxRecDepth 65536 in
set_option maxHeartbeats 40000000 in
theorem sic3 (l : Launch) (Z : State) (a0 : Array Value) (hw : ∀ d ∈ tables_1, d.before a0 Z = true) (ws : List Jvm.Cond) (a1 : Addr) (a2 : Addr) (k1 : ClassId) (cs : Int32) (x0 : Int32) (x1 : Int32) (x2 : Int32) (h0 : Heap) (n0 : Nat) (Z0 : n0 ≤ h0.size) (E1 : Exa Z h0 a1 "java/lang/String") (Fv : Fld Z h0 a1 "java/lang/String" "value" "[B" .null) (Fc : Fld Z h0 a1 "java/lang/String" "coder" "B" (.int (0 : Int32))) (G1 : n0 ≤ a1) (SC : Sta Z h0 "java/lang/String" "COMPACT_STRINGS" "Z" (.int cs)) (PC : ¬ (cs = (0 : Int32))) (V1 : Arv Z h0 a2 k1 .char (3 : Int32) [(.int x0), (.int x1), (.int x2)] (.int (0 : Int32))) (P0 : ¬ ((255 : Int32) < x0)) (P1 : ¬ ((255 : Int32) < x1)) (P2 : ¬ ((255 : Int32) < x2)) :
    MetFree l mth4 (head1 (Jvm.Cond.code mth4 jdk_42_method_3_code 2 none :: ws) rom6) (fun a U => a = #[(.ref a1), (.ref a2)] ∧ Z.Warmed39 U.vm ∧ U.heap = h0) (fun _ _ _ _ _ => True) (fun _ U o U' => ∃ v L, o = .returned v ∧ Q_sic3 Z a1 a2 k1 cs x0 x1 x2 h0 n0 v U'.heap L ∧ FrameEnd U o U' L rom6.cells rom6.slots) := by
  refine MetFree.of_bodySF (plainFor_of_name pnm1) hisR ?_
  intro p e s m args below meth c s₁ Bd hml0 hP hK
  obtain ⟨rfl, hZ, hh⟩ := hP
  have hx := Bd.exec
  have hby := Bd.bytes
  have hml : c.maxLocals = 2 := hml0
  have hown : s.vm.findClass "java/lang/String" = some m.cls := findClass_of_methodNamed Bd.named
  have hnm := (name_of_methodNamed Bd.named Bd.method).1
  have X0 : Stand p l e rom6 s m #[(.ref a1), (.ref a2)] below meth c s₁ [] 0 0 := Stand.of_body Bd
  have eh0 : s₁.heap = h0 := by rw [← hh, Bd.state]; rfl
  have N0 := Fr.nil n0
  have tw6 := hw _ (List.mem_of_getElem? (i := 6) rfl)
  have tw11 := hw _ (List.mem_of_getElem? (i := 11) rfl)
  have tw12 := hw _ (List.mem_of_getElem? (i := 12) rfl)
  have tw14 := hw _ (List.mem_of_getElem? (i := 14) rfl)
  show Goes p e below (Pq (Q_sic3 Z a1 a2 k1 cs x0 x1 x2 h0 n0) s rom6.cells rom6.slots) (s₁.setTop (entryFrame m #[(.ref a1), (.ref a2)] 2))
  refine Goes.step (S' := s₁.setTop (mkF m 0 #[.val (.ref a1), .val (.ref a2)] [])) (fun t k => castTop (ef_sic3 m a1 a2) k) ?_
  refine Goes.step (S' := s₁.setTop (mkF m 4 #[.val (.ref a1), .val (.ref a2)] [(.ref a2), (.int (0 : Int32)), (.ref a2), (.ref a1)])) (fun t k => XS.aloadN X0.here hx rfl (hb hby d_jdk_42_method_3_code_0) rfl rfl (XS.aloadN X0.here hx rfl (hb hby d_jdk_42_method_3_code_1) rfl rfl (XS.iconst X0.here hx rfl (hb hby d_jdk_42_method_3_code_2) (XS.aloadN X0.here hx rfl (hb hby d_jdk_42_method_3_code_3) rfl rfl k)))) ?_
  obtain ⟨cl101, Ar101, qk101, Sz101, Nn101, Hs101, Gs101⟩ := id V1
  refine Goes.step (S' := s₁.setTop (mkF m 5 #[.val (.ref a1), .val (.ref a2)] [(.int (3 : Int32)), (.int (0 : Int32)), (.ref a2), (.ref a1)])) (fun t k => X0.arraylength hx (by rw [eh0]; exact Ar101.1) (State.isArrayOf_alike hZ.alike Ar101.2.1) (g := (mkF m 4 #[.val (.ref a1), .val (.ref a2)] [(.ref a2), (.int (0 : Int32)), (.ref a2), (.ref a1)])) rfl rfl (hb hby d_jdk_42_method_3_code_4) _ (by rw [len_of Sz101 Nn101]; exact k)) ?_
  refine Goes.step (S' := s₁.setTop (mkF m 6 #[.val (.ref a1), .val (.ref a2)] [.null, (.int (3 : Int32)), (.int (0 : Int32)), (.ref a2), (.ref a1)])) (fun t k => XS.aconstNull X0.here hx rfl (hb hby d_jdk_42_method_3_code_5) k) ?_
  obtain ⟨_, _, ⟨T102, L102, k102, n102⟩, -, X102, ⟨Lc102, hQ102, l102, y102, z102⟩, st102⟩ := X0.specialBack hx (y := mth3) rfl hown (mvT hZ tw11) (mvT hZ tw12) (mvT hZ tw14) (by decide) (backOf (W := 0) (sif3 l Z a0 hw [] a1 a2 k1 cs x0 x1 x2 h0 n0 Z0 E1 Fv Fc G1 SC (PC : ¬ (cs = (0 : Int32))) V1 (P0 : ¬ ((255 : Int32) < x0)) (P1 : ¬ ((255 : Int32) < x1)) (P2 : ¬ ((255 : Int32) < x2))) hZ tw14 tw6 (by decide) (by decide)) (g := (mkF m 6 #[.val (.ref a1), .val (.ref a2)] [.null, (.int (3 : Int32)), (.int (0 : Int32)), (.ref a2), (.ref a1)])) rfl (by rw [hml]; rfl) (Steps.refl _) (a := a1) (argsL := [(.ref a2), (.int (0 : Int32)), (.int (3 : Int32)), .null]) (rest := []) (lenOf pd_CIILjava_lang_Void__V rfl) rfl (Nat.le_of_eq rfl) (hb hby d_jdk_42_method_3_code_6) (fun _ _ => ⟨rfl, eh0, (by decide : 0 + 1 ≤ _), (by decide : 0 + 3 ≤ _)⟩)
  dsimp only [Pt.U, Pt.locs, Pt.cells, Pt.slots] at X102 l102 y102 z102 st102 hQ102
  subst y102 z102
  obtain ⟨rfl, Nq102, q102_0⟩ := hQ102
  have N102 : Fr n0 L102 := by rw [l102]; exact Fr.app N0 Nq102
  refine Goes.step (S' := T102.setTop (mkF m 9 #[.val (.ref a1), .val (.ref a2)] [])) (fun t k => st102.trans k) ?_
  refine Goes.leave (g := (mkF m 9 #[.val (.ref a1), .val (.ref a2)] [])) X102 Bd.notSynchronized (v := none) (fun _ => rfl) (fun fs hr => X102.returnOut hx Bd.returns (hb hby d_jdk_42_method_3_code_9) hr) rfl ?_ (by decide) (by decide)
  exact ⟨rfl, N102, ((Keep.refl _ [a1]).trans q102_0 (allS (Or.inl (List.mem_of_getElem? (i := 0) rfl)) all0))⟩

theorem ef_sif0 (m : MethodId) (x0 : Addr) (x1 : Addr) (x2 : Int32) (x3 : Int32) : entryFrame m #[(.ref x0), (.ref x1), (.int x2), (.int x3), .null] 6 = mkF m 0 #[.val (.ref x0), .val (.ref x1), .val (.int x2), .val (.int x3), .val .null, .unset] [] := by first | (simp [entryFrame, mkF, argsToLocals, Value.category]; done) | rfl
def Q_sif0 (Z : State) (a1 : Addr) (a2 : Addr) (k1 : ClassId) (h0 : Heap) (n0 : Nat) (v : Option Value) (h : Heap) (L : List Loc) : Prop := v = none ∧ Fr n0 L ∧ Keep h0 h [a1]
set_option maxRecDepth 65536 in
set_option maxHeartbeats 40000000 in
theorem sif0 (l : Launch) (Z : State) (a0 : Array Value) (hw : ∀ d ∈ tables_1, d.before a0 Z = true) (ws : List Jvm.Cond) (a1 : Addr) (a2 : Addr) (k1 : ClassId) (h0 : Heap) (n0 : Nat) (Z0 : n0 ≤ h0.size) (E1 : Exa Z h0 a1 "java/lang/String") (Fv : Fld Z h0 a1 "java/lang/String" "value" "[B" .null) (Fc : Fld Z h0 a1 "java/lang/String" "coder" "B" (.int (0 : Int32))) (G1 : n0 ≤ a1) (V1 : Arv Z h0 a2 k1 .char (0 : Int32) [] (.int (0 : Int32))) :
    MetFree l mth3 (head1 (Jvm.Cond.code mth3 jdk_42_method_149_code 6 none :: ws) rom7) (fun a U => a = #[(.ref a1), (.ref a2), (.int (0 : Int32)), (.int (0 : Int32)), .null] ∧ Z.Warmed39 U.vm ∧ U.heap = h0 ∧ CHv Z own_EL U.vm h0) (fun _ _ _ _ _ => True) (fun _ U o U' => ∃ v L, o = .returned v ∧ Q_sif0 Z a1 a2 k1 h0 n0 v U'.heap L ∧ CHr Z own_EL U.vm U.heap U'.vm U'.heap ∧ ReturnedEndW U o U' L rom7.cells rom7.slots) := by
  refine MetFree.of_bodySF (plainFor_of_name pnm1) hisR ?_
  intro p e s m args below meth c s₁ Bd hml0 hP hK
  obtain ⟨rfl, hZ, hh, hC⟩ := hP
  have hx := Bd.exec
  have hby := Bd.bytes
  have hml : c.maxLocals = 6 := hml0
  have hown : s.vm.findClass "java/lang/String" = some m.cls := findClass_of_methodNamed Bd.named
  have hnm := (name_of_methodNamed Bd.named Bd.method).1
  have X0 : Stand p l e rom7 s m #[(.ref a1), (.ref a2), (.int (0 : Int32)), (.int (0 : Int32)), .null] below meth c s₁ [] 0 0 := Stand.of_body Bd
  replace X0 : Stand p l e rom7 (s.setVm s.vm) m #[(.ref a1), (.ref a2), (.int (0 : Int32)), (.int (0 : Int32)), .null] below meth c s₁ [] 0 0 := X0
  have hZ0 := hZ
  have hown0 := hown
  have hS0 := own_s0 s h0.size
  have CR0 : CHr Z own_EL s.vm h0 s.vm h0 := CHr.refl hC
  have eh0 : s₁.heap = h0 := by rw [← hh, Bd.state]; rfl
  have N0 := Fr.nil n0
  have tw5 := hw _ (List.mem_of_getElem? (i := 5) rfl)
  have tw15 := hw _ (List.mem_of_getElem? (i := 15) rfl)
  have tw16 := hw _ (List.mem_of_getElem? (i := 16) rfl)
  have tw17 := hw _ (List.mem_of_getElem? (i := 17) rfl)
  have tw30 := hw _ (List.mem_of_getElem? (i := 30) rfl)
  have tw31 := hw _ (List.mem_of_getElem? (i := 31) rfl)
  have tw32 := hw _ (List.mem_of_getElem? (i := 32) rfl)
  have tw33 := hw _ (List.mem_of_getElem? (i := 33) rfl)
  have tw34 := hw _ (List.mem_of_getElem? (i := 34) rfl)
  show Goes p e below (Ph Z own_EL (Q_sif0 Z a1 a2 k1 h0 n0) s rom7.cells rom7.slots) (s₁.setTop (entryFrame m #[(.ref a1), (.ref a2), (.int (0 : Int32)), (.int (0 : Int32)), .null] 6))
  refine Goes.step (S' := s₁.setTop (mkF m 0 #[.val (.ref a1), .val (.ref a2), .val (.int (0 : Int32)), .val (.int (0 : Int32)), .val .null, .unset] [])) (fun t k => castTop (ef_sif0 m a1 a2 (0 : Int32) (0 : Int32)) k) ?_
  refine Goes.step (S' := s₁.setTop (mkF m 1 #[.val (.ref a1), .val (.ref a2), .val (.int (0 : Int32)), .val (.int (0 : Int32)), .val .null, .unset] [(.ref a1)])) (fun t k => XS.aloadN X0.here hx rfl (hb hby d_jdk_42_method_149_code_0) rfl rfl k) ?_
  obtain ⟨T101, X101, e101, st101⟩ := initO X0 hx hZ hown tw15 tw16 tw17 eh0 (g := (mkF m 1 #[.val (.ref a1), .val (.ref a2), .val (.int (0 : Int32)), .val (.int (0 : Int32)), .val .null, .unset] [(.ref a1)])) rfl (by rw [hml]; rfl) rfl (hb hby d_jdk_42_method_149_code_1) (by decide) (W := 0) (Nat.le_of_eq rfl) (by decide)
  refine Goes.step (S' := T101.setTop (mkF m 9 #[.val (.ref a1), .val (.ref a2), .val (.int (0 : Int32)), .val (.int (0 : Int32)), .val .null, .unset] [(.ref a1)])) (fun t k => st101 _ (XS.iloadN X101.here hx rfl (hb hby d_jdk_42_method_149_code_4) rfl (XS.ifNo X101.here hx rfl (hb hby d_jdk_42_method_149_code_5) rfl ((if0 _ _).trans (teq ((by decide) : (0 : Int32) = (0 : Int32))).2) (XS.aloadN X101.here hx rfl (hb hby d_jdk_42_method_149_code_8) rfl rfl k)))) ?_
  have Q0_a1 : Safe Z own_EL s.vm h0 a1 := own_safeNull hZ0.alike E1 Fv
  obtain ⟨b102, T102, h102, k102, v102, kv102, X102, e102, E102, hS102, hk102, hZ, hown, Ea102, Fc102, Fv102, Va102, lta102, ltb102, CX102, Lt102, Sn102, st102⟩ := ldcCH (s := s) (EL := own_EL) X101 hx hZ hown tw34 (fun d hd => hw d (own_sin d hd)) e101 hS0 (Nat.le_refl _) (own_ew hw) (by decide) CR0.1 (vs := []) (z := (0 : Int32)) ⟨by decide +kernel, by decide +kernel⟩ (by decide) (by decide +kernel) (g := (mkF m 9 #[.val (.ref a1), .val (.ref a2), .val (.int (0 : Int32)), .val (.int (0 : Int32)), .val .null, .unset] [(.ref a1)])) rfl (hb hby d_jdk_42_method_149_code_9) (n := 0) (by decide +kernel) (by decide) (by decide) (by decide)
  have CR102 := CR0.trans CX102
  have Q102_a1 := CX102.safe E1.lt Q0_a1
  refine Goes.step (S' := T102.setTop (mkF m 11 #[.val (.ref a1), .val (.ref a2), .val (.int (0 : Int32)), .val (.int (0 : Int32)), .val .null, .unset] [(.ref b102), (.ref a1)])) (fun t k => st102 _ k) ?_
  obtain ⟨T103, X103, e103, st103⟩ := getF X102 hx hZ hown (host := "") (Or.inl tw32) Via.refl e102 Fv102 (g := (mkF m 11 #[.val (.ref a1), .val (.ref a2), .val (.int (0 : Int32)), .val (.int (0 : Int32)), .val .null, .unset] [(.ref b102), (.ref a1)])) rfl rfl (hb hby d_jdk_42_method_149_code_11)
  refine Goes.step (S' := T103.setTop (mkF m 14 #[.val (.ref a1), .val (.ref a2), .val (.int (0 : Int32)), .val (.int (0 : Int32)), .val .null, .unset] [(.ref v102), (.ref a1)])) (fun t k => st103 _ k) ?_
  obtain ⟨T104, h104, X104, e104, W104, st104⟩ := putF X103 hx hZ hown (host := "") (Or.inl tw32) Via.refl e103 (Fld.ext E102 Fv) (Exa.ext E102 E1) (Or.inr ⟨tw33, rfl, hnm⟩) tw5 (ty := (.array .byte)) (by decide) rfl rfl (g := (mkF m 14 #[.val (.ref a1), .val (.ref a2), .val (.int (0 : Int32)), .val (.int (0 : Int32)), .val .null, .unset] [(.ref v102), (.ref a1)])) rfl rfl (hb hby d_jdk_42_method_149_code_14)
  have Fw104 : Fld Z h104 a1 "java/lang/String" "value" "[B" (.ref v102) := Fld.same W104 (Fld.ext E102 Fv)
  have N104 := Fr.snoc X104 N0 G1
  refine Goes.step (S' := T104.setTop (mkF m 18 #[.val (.ref a1), .val (.ref a2), .val (.int (0 : Int32)), .val (.int (0 : Int32)), .val .null, .unset] [(.ref a1)])) (fun t k => st104 _ (XS.aloadN X104.here hx rfl (hb hby d_jdk_42_method_149_code_17) rfl rfl k)) ?_
  have CR106 := CR102.trans (CHr.wr W104 Q102_a1 CR102.1)
  have Q106_a1 := Safe.wr W104 Q102_a1 CR102.1 Q102_a1
  obtain ⟨b105, T105, h105, k105, v105, kv105, X105, e105, E105, hS105, hk105, hZ, hown, Ea105, Fc105, Fv105, Va105, lta105, ltb105, CX105, Lt105, Sn105, st105⟩ := ldcCH (s := s) (EL := own_EL) X104 hx hZ hown tw34 (fun d hd => hw d (own_sin d hd)) e104 hS102 (Nat.le_trans hk102 (Nat.le_of_eq W104.size.symm)) (own_ew hw) (by decide) CR106.1 (vs := []) (z := (0 : Int32)) ⟨by decide +kernel, by decide +kernel⟩ (by decide) (by decide +kernel) (g := (mkF m 18 #[.val (.ref a1), .val (.ref a2), .val (.int (0 : Int32)), .val (.int (0 : Int32)), .val .null, .unset] [(.ref a1)])) rfl (hb hby d_jdk_42_method_149_code_18) (n := 0) (by decide +kernel) (by decide) (by decide) (by decide)
  have CR105 := CR106.trans CX105
  have Q105_a1 := CX105.safe (Exa.wr W104 (Exa.ext E102 E1)).lt Q106_a1
  refine Goes.step (S' := T105.setTop (mkF m 20 #[.val (.ref a1), .val (.ref a2), .val (.int (0 : Int32)), .val (.int (0 : Int32)), .val .null, .unset] [(.ref b105), (.ref a1)])) (fun t k => st105 _ k) ?_
  obtain ⟨T107, X107, e107, st107⟩ := getF X105 hx hZ hown (host := "") (Or.inl tw30) Via.refl e105 Fc105 (g := (mkF m 20 #[.val (.ref a1), .val (.ref a2), .val (.int (0 : Int32)), .val (.int (0 : Int32)), .val .null, .unset] [(.ref b105), (.ref a1)])) rfl rfl (hb hby d_jdk_42_method_149_code_20)
  refine Goes.step (S' := T107.setTop (mkF m 23 #[.val (.ref a1), .val (.ref a2), .val (.int (0 : Int32)), .val (.int (0 : Int32)), .val .null, .unset] [(.int (0 : Int32)), (.ref a1)])) (fun t k => st107 _ k) ?_
  obtain ⟨T108, h108, X108, e108, W108, st108⟩ := putFN X107 hx hZ hown tw30 Via.refl e107 (Fld.ext E105 (Fld.other W104 (Fld.ext E102 Fc) (Or.inr (slot_ne (Or.inr tw31) (Or.inr tw33) (by decide) (t := .byte) (t' := (.array .byte)) (by decide) (by decide))))) (Exa.ext E105 (Exa.wr W104 (Exa.ext E102 E1))) (Or.inr ⟨tw31, rfl, hnm⟩) tw5 (ty := .byte) (v' := (.int (0 : Int32))) (by decide) rfl (by decide) (g := (mkF m 23 #[.val (.ref a1), .val (.ref a2), .val (.int (0 : Int32)), .val (.int (0 : Int32)), .val .null, .unset] [(.int (0 : Int32)), (.ref a1)])) rfl rfl (hb hby d_jdk_42_method_149_code_23)
  have Fw108 : Fld Z h108 a1 "java/lang/String" "coder" "B" (.int (0 : Int32)) := Fld.same W108 (Fld.ext E105 (Fld.other W104 (Fld.ext E102 Fc) (Or.inr (slot_ne (Or.inr tw31) (Or.inr tw33) (by decide) (t := .byte) (t' := (.array .byte)) (by decide) (by decide)))))
  have N108 := Fr.snoc X108 N104 G1
  refine Goes.step (S' := T108.setTop (mkF m 26 #[.val (.ref a1), .val (.ref a2), .val (.int (0 : Int32)), .val (.int (0 : Int32)), .val .null, .unset] [])) (fun t k => st108 _ k) ?_
  have CR109 := CR105.trans (CHr.wr W108 Q105_a1 CR105.1)
  have Q109_a1 := Safe.wr W108 Q105_a1 CR105.1 Q105_a1
  refine Goes.leaveH (g := (mkF m 26 #[.val (.ref a1), .val (.ref a2), .val (.int (0 : Int32)), .val (.int (0 : Int32)), .val .null, .unset] [])) (own_ew hw) hZ hh CR109 X108 hS105 (Nat.le_trans hk105 (Nat.le_of_eq W108.size.symm)) Bd.notSynchronized (v := none) (fun _ => rfl) (fun fs hr => X108.returnOut hx Bd.returns (hb hby d_jdk_42_method_149_code_26) hr) e108 ?_ (by decide) (by decide)
  exact ⟨rfl, N108, (((((Keep.refl _ [a1]).ext E102).wr W104 (Or.inl (List.mem_of_getElem? (i := 0) rfl))).ext E105).wr W108 (Or.inl (List.mem_of_getElem? (i := 0) rfl)))⟩

theorem ef_sic0 (m : MethodId) (x0 : Addr) (x1 : Addr) : entryFrame m #[(.ref x0), (.ref x1)] 2 = mkF m 0 #[.val (.ref x0), .val (.ref x1)] [] := by first | (simp [entryFrame, mkF, argsToLocals, Value.category]; done) | rfl
def Q_sic0 (Z : State) (a1 : Addr) (a2 : Addr) (k1 : ClassId) (h0 : Heap) (n0 : Nat) (v : Option Value) (h : Heap) (L : List Loc) : Prop := v = none ∧ Fr n0 L ∧ Keep h0 h [a1]
set_option maxRecDepth 65536 in
set_option maxHeartbeats 40000000 in
theorem sic0 (l : Launch) (Z : State) (a0 : Array Value) (hw : ∀ d ∈ tables_1, d.before a0 Z = true) (ws : List Jvm.Cond) (a1 : Addr) (a2 : Addr) (k1 : ClassId) (h0 : Heap) (n0 : Nat) (Z0 : n0 ≤ h0.size) (E1 : Exa Z h0 a1 "java/lang/String") (Fv : Fld Z h0 a1 "java/lang/String" "value" "[B" .null) (Fc : Fld Z h0 a1 "java/lang/String" "coder" "B" (.int (0 : Int32))) (G1 : n0 ≤ a1) (V1 : Arv Z h0 a2 k1 .char (0 : Int32) [] (.int (0 : Int32))) :
    MetFree l mth4 (head1 (Jvm.Cond.code mth4 jdk_42_method_3_code 2 none :: ws) rom8) (fun a U => a = #[(.ref a1), (.ref a2)] ∧ Z.Warmed39 U.vm ∧ U.heap = h0 ∧ CHv Z own_EL U.vm h0) (fun _ _ _ _ _ => True) (fun _ U o U' => ∃ v L, o = .returned v ∧ Q_sic0 Z a1 a2 k1 h0 n0 v U'.heap L ∧ CHr Z own_EL U.vm U.heap U'.vm U'.heap ∧ ReturnedEndW U o U' L rom8.cells rom8.slots) := by
  refine MetFree.of_bodySF (plainFor_of_name pnm1) hisR ?_
  intro p e s m args below meth c s₁ Bd hml0 hP hK
  obtain ⟨rfl, hZ, hh, hC⟩ := hP
  have hx := Bd.exec
  have hby := Bd.bytes
  have hml : c.maxLocals = 2 := hml0
  have hown : s.vm.findClass "java/lang/String" = some m.cls := findClass_of_methodNamed Bd.named
  have hnm := (name_of_methodNamed Bd.named Bd.method).1
  have X0 : Stand p l e rom8 s m #[(.ref a1), (.ref a2)] below meth c s₁ [] 0 0 := Stand.of_body Bd
  replace X0 : Stand p l e rom8 (s.setVm s.vm) m #[(.ref a1), (.ref a2)] below meth c s₁ [] 0 0 := X0
  have hZ0 := hZ
  have hown0 := hown
  have hS0 := own_s0 s h0.size
  have CR0 : CHr Z own_EL s.vm h0 s.vm h0 := CHr.refl hC
  have eh0 : s₁.heap = h0 := by rw [← hh, Bd.state]; rfl
  have N0 := Fr.nil n0
  have tw6 := hw _ (List.mem_of_getElem? (i := 6) rfl)
  have tw11 := hw _ (List.mem_of_getElem? (i := 11) rfl)
  have tw12 := hw _ (List.mem_of_getElem? (i := 12) rfl)
  have tw14 := hw _ (List.mem_of_getElem? (i := 14) rfl)
  show Goes p e below (Ph Z own_EL (Q_sic0 Z a1 a2 k1 h0 n0) s rom8.cells rom8.slots) (s₁.setTop (entryFrame m #[(.ref a1), (.ref a2)] 2))
  refine Goes.step (S' := s₁.setTop (mkF m 0 #[.val (.ref a1), .val (.ref a2)] [])) (fun t k => castTop (ef_sic0 m a1 a2) k) ?_
  refine Goes.step (S' := s₁.setTop (mkF m 4 #[.val (.ref a1), .val (.ref a2)] [(.ref a2), (.int (0 : Int32)), (.ref a2), (.ref a1)])) (fun t k => XS.aloadN X0.here hx rfl (hb hby d_jdk_42_method_3_code_0) rfl rfl (XS.aloadN X0.here hx rfl (hb hby d_jdk_42_method_3_code_1) rfl rfl (XS.iconst X0.here hx rfl (hb hby d_jdk_42_method_3_code_2) (XS.aloadN X0.here hx rfl (hb hby d_jdk_42_method_3_code_3) rfl rfl k)))) ?_
  obtain ⟨cl101, Ar101, qk101, Sz101, Nn101, Hs101, Gs101⟩ := id V1
  refine Goes.step (S' := s₁.setTop (mkF m 5 #[.val (.ref a1), .val (.ref a2)] [(.int (0 : Int32)), (.int (0 : Int32)), (.ref a2), (.ref a1)])) (fun t k => X0.arraylength hx (by rw [eh0]; exact Ar101.1) (State.isArrayOf_alike hZ.alike Ar101.2.1) (g := (mkF m 4 #[.val (.ref a1), .val (.ref a2)] [(.ref a2), (.int (0 : Int32)), (.ref a2), (.ref a1)])) rfl rfl (hb hby d_jdk_42_method_3_code_4) _ (by rw [len_of Sz101 Nn101]; exact k)) ?_
  refine Goes.step (S' := s₁.setTop (mkF m 6 #[.val (.ref a1), .val (.ref a2)] [.null, (.int (0 : Int32)), (.int (0 : Int32)), (.ref a2), (.ref a1)])) (fun t k => XS.aconstNull X0.here hx rfl (hb hby d_jdk_42_method_3_code_5) k) ?_
  have Q0_a1 : Safe Z own_EL s.vm h0 a1 := own_safeNull hZ0.alike E1 Fv
  obtain ⟨_, _, ⟨T102, L102, k102, n102⟩, -, X102, hs102, gr102, ⟨Lc102, hQ102, l102, y102, z102, CX102⟩, st102⟩ := X0.specialBackS hx (y := mth3) rfl hown (mvT hZ tw11) (mvT hZ tw12) (mvT hZ tw14) (by decide) (backOfSH (EL := own_EL) (W := 0) (sif0 l Z a0 hw [] a1 a2 k1 h0 n0 Z0 E1 Fv Fc G1 V1) hZ tw14 tw6 (by decide) (by decide) (own_ew hw) CR0.1) (g := (mkF m 6 #[.val (.ref a1), .val (.ref a2)] [.null, (.int (0 : Int32)), (.int (0 : Int32)), (.ref a2), (.ref a1)])) rfl (by rw [hml]; rfl) (Steps.refl _) (a := a1) (argsL := [(.ref a2), (.int (0 : Int32)), (.int (0 : Int32)), .null]) (rest := []) (lenOf pd_CIILjava_lang_Void__V rfl) rfl (Nat.le_of_eq rfl) (hb hby d_jdk_42_method_3_code_6) (fun _ _ => ⟨rfl, eh0, (by decide : 0 + 4 ≤ _), (by decide : 0 + 8 ≤ _)⟩)
  dsimp only [Pt.U, Pt.locs, Pt.cells, Pt.slots] at X102 l102 y102 z102 st102 hQ102 hs102 gr102 CX102
  subst y102 z102
  replace X102 := own_fold X102
  have hS102 := foldS hS0 (by rw [eh0]; exact (Nat.le_refl _)) hs102 gr102
  obtain ⟨hZ, hown⟩ := own_since hZ0 hown0 hS102
  obtain ⟨rfl, Nq102, q102_0⟩ := hQ102
  have N102 : Fr n0 L102 := by rw [l102]; exact Fr.app N0 Nq102
  have CR102 := CR0.trans CX102
  have Q102_a1 := CX102.safe E1.lt Q0_a1
  refine Goes.step (S' := T102.setTop (mkF m 9 #[.val (.ref a1), .val (.ref a2)] [])) (fun t k => st102.trans k) ?_
  refine Goes.leaveH (g := (mkF m 9 #[.val (.ref a1), .val (.ref a2)] [])) (own_ew hw) hZ hh CR102 X102 hS102 (Nat.le_refl _) Bd.notSynchronized (v := none) (fun _ => rfl) (fun fs hr => X102.returnOut hx Bd.returns (hb hby d_jdk_42_method_3_code_9) hr) rfl ?_ (by decide) (by decide)
  exact ⟨rfl, N102, ((Keep.refl _ [a1]).trans q102_0 (allS (Or.inl (List.mem_of_getElem? (i := 0) rfl)) all0))⟩

theorem ef_can (m : MethodId) (x0 : Int32) : entryFrame m #[(.int x0)] 1 = mkF m 0 #[.val (.int x0)] [] := by first | (simp [entryFrame, mkF, argsToLocals, Value.category]; done) | rfl
def Q_can (Z : State) (x0 : Int32) (h0 : Heap) (n0 : Nat) (v : Option Value) (h : Heap) (L : List Loc) : Prop := v = some (.int (1 : Int32)) ∧ Fr n0 L ∧ h = h0
set_option maxRecDepth 65536 in
set_option maxHeartbeats 40000000 in
theorem can (l : Launch) (Z : State) (a0 : Array Value) (hw : ∀ d ∈ tables_1, d.before a0 Z = true) (ws : List Jvm.Cond) (x0 : Int32) (h0 : Heap) (n0 : Nat) (Z0 : n0 ≤ h0.size) (P0 : ¬ ((255 : Int32) < x0)) :
    MetFree l mth5 (head1 (Jvm.Cond.code mth5 jdk_43_method_3_code 1 (some .boolean) :: ws) rom0) (fun a U => a = #[(.int x0)] ∧ Z.Warmed39 U.vm ∧ U.heap = h0) (fun _ _ _ _ _ => True) (fun _ U o U' => ∃ v L, o = .returned v ∧ Q_can Z x0 h0 n0 v U'.heap L ∧ FrameEnd U o U' L rom0.cells rom0.slots) := by
  refine MetFree.of_bodySF (plainFor_of_name pnm2) hisR ?_
  intro p e s m args below meth c s₁ Bd hml0 hP hK
  obtain ⟨rfl, hZ, hh⟩ := hP
  have hx := Bd.exec
  have hby := Bd.bytes
  have hml : c.maxLocals = 1 := hml0
  have hown : s.vm.findClass "java/lang/StringLatin1" = some m.cls := findClass_of_methodNamed Bd.named
  have hnm := (name_of_methodNamed Bd.named Bd.method).1
  have X0 : Stand p l e rom0 s m #[(.int x0)] below meth c s₁ [] 0 0 := Stand.of_body Bd
  have eh0 : s₁.heap = h0 := by rw [← hh, Bd.state]; rfl
  have N0 := Fr.nil n0
  show Goes p e below (Pq (Q_can Z x0 h0 n0) s rom0.cells rom0.slots) (s₁.setTop (entryFrame m #[(.int x0)] 1))
  refine Goes.step (S' := s₁.setTop (mkF m 0 #[.val (.int x0)] [])) (fun t k => castTop (ef_can m x0) k) ?_
  refine Goes.step (S' := s₁.setTop (mkF m 12 #[.val (.int x0)] [(.int (1 : Int32))])) (fun t k => XS.iloadN X0.here hx rfl (hb hby d_jdk_43_method_3_code_0) rfl (XS.sipush X0.here hx rfl (hb hby d_jdk_43_method_3_code_1) (XS.icmpNo X0.here hx rfl (hb hby d_jdk_43_method_3_code_4) rfl (flt (P0 : ¬ ((255 : Int32) < x0))).2.2.1 (XS.iconst X0.here hx rfl (hb hby d_jdk_43_method_3_code_7) (XS.goto X0.here hx rfl (pc0 := 8) (pc' := 12) rfl (hb hby d_jdk_43_method_3_code_8) (by decide) (by decide) k))))) ?_
  refine Goes.leave (g := (mkF m 12 #[.val (.int x0)] [(.int (1 : Int32))])) X0 Bd.notSynchronized (v := (some (.int (1 : Int32)))) (fun h => by rw [Bd.returns] at h; cases h) (fun fs hr => retN X0 hx (t := .boolean) Bd.returns (by simp) (hb hby d_jdk_43_method_3_code_12) hr) eh0 ?_ (by decide) (by decide)
  exact ⟨rfl, N0, rfl⟩

theorem ef_tob (m : MethodId) (x0 : Int32) : entryFrame m #[(.int x0)] 1 = mkF m 0 #[.val (.int x0)] [] := by first | (simp [entryFrame, mkF, argsToLocals, Value.category]; done) | rfl
def Q_tob (Z : State) (x0 : Int32) (h0 : Heap) (n0 : Nat) (v : Option Value) (h : Heap) (L : List Loc) : Prop := ∃ (b : Addr), v = some (.ref b) ∧ Fr n0 L ∧ Keep h0 h [] ∧ h0.size ≤ b ∧ Exa Z h b "[B"
set_option maxRecDepth 65536 in
set_option maxHeartbeats 40000000 in
theorem tob (l : Launch) (Z : State) (a0 : Array Value) (hw : ∀ d ∈ tables_1, d.before a0 Z = true) (ws : List Jvm.Cond) (x0 : Int32) (h0 : Heap) (n0 : Nat) (Z0 : n0 ≤ h0.size) :
    MetFree l mth6 (head1 (Jvm.Cond.code mth6 jdk_43_method_46_code 1 (some (.array .byte)) :: ws) rom9) (fun a U => a = #[(.int x0)] ∧ Z.Warmed39 U.vm ∧ U.heap = h0) (fun _ _ _ _ _ => True) (fun _ U o U' => ∃ v L, o = .returned v ∧ Q_tob Z x0 h0 n0 v U'.heap L ∧ FrameEnd U o U' L rom9.cells rom9.slots) := by
  refine MetFree.of_bodySF (plainFor_of_name pnm2) hisR ?_
  intro p e s m args below meth c s₁ Bd hml0 hP hK
  obtain ⟨rfl, hZ, hh⟩ := hP
  have hx := Bd.exec
  have hby := Bd.bytes
  have hml : c.maxLocals = 1 := hml0
  have hown : s.vm.findClass "java/lang/StringLatin1" = some m.cls := findClass_of_methodNamed Bd.named
  have hnm := (name_of_methodNamed Bd.named Bd.method).1
  have X0 : Stand p l e rom9 s m #[(.int x0)] below meth c s₁ [] 0 0 := Stand.of_body Bd
  have eh0 : s₁.heap = h0 := by rw [← hh, Bd.state]; rfl
  have N0 := Fr.nil n0
  have tw23 := hw _ (List.mem_of_getElem? (i := 23) rfl)
  show Goes p e below (Pq (Q_tob Z x0 h0 n0) s rom9.cells rom9.slots) (s₁.setTop (entryFrame m #[(.int x0)] 1))
  refine Goes.step (S' := s₁.setTop (mkF m 0 #[.val (.int x0)] [])) (fun t k => castTop (ef_tob m x0) k) ?_
  refine Goes.step (S' := s₁.setTop (mkF m 1 #[.val (.int x0)] [(.int (1 : Int32))])) (fun t k => XS.iconst X0.here hx rfl (hb hby d_jdk_43_method_46_code_0) k) ?_
  obtain ⟨T101, h101, k101, X101, e101, E101, A101, AE101, st101⟩ := newPE (aty := .byte) X0 hx hZ tw23 eh0 (g := (mkF m 1 #[.val (.int x0)] [(.int (1 : Int32))])) rfl (hb hby d_jdk_43_method_46_code_1) rfl (by decide) (cap := 1) (by decide) (by decide) (by decide) (by decide) (ad := "[B") rfl
  obtain ⟨b101, g101⟩ : ∃ z, z = h0.size := ⟨_, rfl⟩
  rw [← g101] at A101 AE101 st101
  have V101 : Arv Z h101 b101 k101 .byte (1 : Int32) [(.int (0 : Int32))] (.int (0 : Int32)) := (Arv.new A101 (by decide)).pad (pad_rep [] (.int (0 : Int32)) 1)
  refine Goes.step (S' := T101.setTop (mkF m 7 #[.val (.int x0)] [(.int (x0.toInt8.toInt32)), (.int (0 : Int32)), (.ref b101), (.ref b101)])) (fun t k => st101 _ (XS.dup X101.here hx rfl (hb hby d_jdk_43_method_46_code_3) rfl rfl (XS.iconst X101.here hx rfl (hb hby d_jdk_43_method_46_code_4) (XS.iloadN X101.here hx rfl (hb hby d_jdk_43_method_46_code_5) rfl (XS.i2b X101.here hx rfl (hb hby d_jdk_43_method_46_code_6) rfl k))))) ?_
  obtain ⟨cl102, Ar102, qk102, Sz102, Nn102, Hs102, Gs102⟩ := id V101
  obtain ⟨T102, h102, X102, e102, W102, st102⟩ := stB X101 hx hZ e101 Ar102 (j := (0 : Int32)) (inb_of (j := (0 : Int32)) Sz102 ⟨by decide, by decide⟩) (g := (mkF m 7 #[.val (.int x0)] [(.int (x0.toInt8.toInt32)), (.int (0 : Int32)), (.ref b101), (.ref b101)])) rfl rfl (hb hby d_jdk_43_method_46_code_7)
  have V102 : Arv Z h102 b101 k101 .byte (1 : Int32) [(.int (x0.toInt8.toInt32).toInt8.toInt32)] (.int (0 : Int32)) := Arv.set Ar102 qk102 Sz102 Nn102 Hs102 Gs102 (fits_nar_byte _) W102 0 rfl (Nat.le_of_ble_eq_true rfl)
  have N102 := Fr.snoc X102 N0 (Nat.le_trans Z0 (Nat.le_of_eq g101.symm))
  refine Goes.step (S' := T102.setTop (mkF m 8 #[.val (.int x0)] [(.ref b101)])) (fun t k => st102 _ k) ?_
  refine Goes.leave (g := (mkF m 8 #[.val (.int x0)] [(.ref b101)])) X102 Bd.notSynchronized (v := (some (.ref b101))) (fun h => by rw [Bd.returns] at h; cases h) (fun fs hr => by jvm_step X102.here [X102.here.top, hx, (hb hby d_jdk_43_method_46_code_8), X102.method', Bd.returns, Value.isRef, FieldType.isReference]; (first | (intro acts; rw [hr _ acts rfl rfl rfl]) | rw [hr _ _ rfl rfl rfl]); exact Steps.refl _) e102 ?_ (by decide) (by decide)
  exact ⟨b101, rfl, N102, (((Keep.refl _ []).ext E101).wr W102 (Or.inr (Nat.le_of_eq g101.symm))), (Nat.le_of_eq g101.symm), (Exa.wr W102 AE101)⟩

theorem ef_sbb (m : MethodId) (x0 : Addr) (x1 : Addr) (x2 : Int32) : entryFrame m #[(.ref x0), (.ref x1), (.int x2)] 3 = mkF m 0 #[.val (.ref x0), .val (.ref x1), .val (.int x2)] [] := by first | (simp [entryFrame, mkF, argsToLocals, Value.category]; done) | rfl
def Q_sbb (Z : State) (a1 : Addr) (a2 : Addr) (h0 : Heap) (n0 : Nat) (v : Option Value) (h : Heap) (L : List Loc) : Prop := v = none ∧ Fr n0 L ∧ Keep h0 h [a1]
set_option maxRecDepth 65536 in
set_option maxHeartbeats 40000000 in
theorem sbb (l : Launch) (Z : State) (a0 : Array Value) (hw : ∀ d ∈ tables_1, d.before a0 Z = true) (ws : List Jvm.Cond) (a1 : Addr) (a2 : Addr) (h0 : Heap) (n0 : Nat) (Z0 : n0 ≤ h0.size) (E1 : Exa Z h0 a1 "java/lang/String") (Fv : Fld Z h0 a1 "java/lang/String" "value" "[B" .null) (Fc : Fld Z h0 a1 "java/lang/String" "coder" "B" (.int (0 : Int32))) (G1 : n0 ≤ a1) (E2 : Exa Z h0 a2 "[B") :
    MetFree l mth7 (head1 (Jvm.Cond.code mth7 jdk_42_method_151_code 3 none :: ws) rom10) (fun a U => a = #[(.ref a1), (.ref a2), (.int (0 : Int32))] ∧ Z.Warmed39 U.vm ∧ U.heap = h0) (fun _ _ _ _ _ => True) (fun _ U o U' => ∃ v L, o = .returned v ∧ Q_sbb Z a1 a2 h0 n0 v U'.heap L ∧ FrameEnd U o U' L rom10.cells rom10.slots) := by
  refine MetFree.of_bodySF (plainFor_of_name pnm1) hisR ?_
  intro p e s m args below meth c s₁ Bd hml0 hP hK
  obtain ⟨rfl, hZ, hh⟩ := hP
  have hx := Bd.exec
  have hby := Bd.bytes
  have hml : c.maxLocals = 3 := hml0
  have hown : s.vm.findClass "java/lang/String" = some m.cls := findClass_of_methodNamed Bd.named
  have hnm := (name_of_methodNamed Bd.named Bd.method).1
  have X0 : Stand p l e rom10 s m #[(.ref a1), (.ref a2), (.int (0 : Int32))] below meth c s₁ [] 0 0 := Stand.of_body Bd
  have eh0 : s₁.heap = h0 := by rw [← hh, Bd.state]; rfl
  have N0 := Fr.nil n0
  have tw5 := hw _ (List.mem_of_getElem? (i := 5) rfl)
  have tw15 := hw _ (List.mem_of_getElem? (i := 15) rfl)
  have tw16 := hw _ (List.mem_of_getElem? (i := 16) rfl)
  have tw17 := hw _ (List.mem_of_getElem? (i := 17) rfl)
  have tw30 := hw _ (List.mem_of_getElem? (i := 30) rfl)
  have tw31 := hw _ (List.mem_of_getElem? (i := 31) rfl)
  have tw32 := hw _ (List.mem_of_getElem? (i := 32) rfl)
  have tw33 := hw _ (List.mem_of_getElem? (i := 33) rfl)
  show Goes p e below (Pq (Q_sbb Z a1 a2 h0 n0) s rom10.cells rom10.slots) (s₁.setTop (entryFrame m #[(.ref a1), (.ref a2), (.int (0 : Int32))] 3))
  refine Goes.step (S' := s₁.setTop (mkF m 0 #[.val (.ref a1), .val (.ref a2), .val (.int (0 : Int32))] [])) (fun t k => castTop (ef_sbb m a1 a2 (0 : Int32)) k) ?_
  refine Goes.step (S' := s₁.setTop (mkF m 1 #[.val (.ref a1), .val (.ref a2), .val (.int (0 : Int32))] [(.ref a1)])) (fun t k => XS.aloadN X0.here hx rfl (hb hby d_jdk_42_method_151_code_0) rfl rfl k) ?_
  obtain ⟨T101, X101, e101, st101⟩ := initO X0 hx hZ hown tw15 tw16 tw17 eh0 (g := (mkF m 1 #[.val (.ref a1), .val (.ref a2), .val (.int (0 : Int32))] [(.ref a1)])) rfl (by rw [hml]; rfl) rfl (hb hby d_jdk_42_method_151_code_1) (by decide) (W := 0) (Nat.le_of_eq rfl) (by decide)
  refine Goes.step (S' := T101.setTop (mkF m 6 #[.val (.ref a1), .val (.ref a2), .val (.int (0 : Int32))] [(.ref a2), (.ref a1)])) (fun t k => st101 _ (XS.aloadN X101.here hx rfl (hb hby d_jdk_42_method_151_code_4) rfl rfl (XS.aloadN X101.here hx rfl (hb hby d_jdk_42_method_151_code_5) rfl rfl k))) ?_
  obtain ⟨T102, h102, X102, e102, W102, st102⟩ := putF X101 hx hZ hown (host := "") (Or.inl tw32) Via.refl e101 Fv E1 (Or.inr ⟨tw33, rfl, hnm⟩) tw5 (ty := (.array .byte)) (by decide) rfl rfl (g := (mkF m 6 #[.val (.ref a1), .val (.ref a2), .val (.int (0 : Int32))] [(.ref a2), (.ref a1)])) rfl rfl (hb hby d_jdk_42_method_151_code_6)
  have Fw102 : Fld Z h102 a1 "java/lang/String" "value" "[B" (.ref a2) := Fld.same W102 Fv
  have N102 := Fr.snoc X102 N0 G1
  refine Goes.step (S' := T102.setTop (mkF m 11 #[.val (.ref a1), .val (.ref a2), .val (.int (0 : Int32))] [(.int (0 : Int32)), (.ref a1)])) (fun t k => st102 _ (XS.aloadN X102.here hx rfl (hb hby d_jdk_42_method_151_code_9) rfl rfl (XS.iloadN X102.here hx rfl (hb hby d_jdk_42_method_151_code_10) rfl k))) ?_
  obtain ⟨T103, h103, X103, e103, W103, st103⟩ := putFN X102 hx hZ hown tw30 Via.refl e102 (Fld.other W102 Fc (Or.inr (slot_ne (Or.inr tw31) (Or.inr tw33) (by decide) (t := .byte) (t' := (.array .byte)) (by decide) (by decide)))) (Exa.wr W102 E1) (Or.inr ⟨tw31, rfl, hnm⟩) tw5 (ty := .byte) (v' := (.int (0 : Int32))) (by decide) rfl (by decide) (g := (mkF m 11 #[.val (.ref a1), .val (.ref a2), .val (.int (0 : Int32))] [(.int (0 : Int32)), (.ref a1)])) rfl rfl (hb hby d_jdk_42_method_151_code_11)
  have Fw103 : Fld Z h103 a1 "java/lang/String" "coder" "B" (.int (0 : Int32)) := Fld.same W103 (Fld.other W102 Fc (Or.inr (slot_ne (Or.inr tw31) (Or.inr tw33) (by decide) (t := .byte) (t' := (.array .byte)) (by decide) (by decide))))
  have N103 := Fr.snoc X103 N102 G1
  refine Goes.step (S' := T103.setTop (mkF m 14 #[.val (.ref a1), .val (.ref a2), .val (.int (0 : Int32))] [])) (fun t k => st103 _ k) ?_
  refine Goes.leave (g := (mkF m 14 #[.val (.ref a1), .val (.ref a2), .val (.int (0 : Int32))] [])) X103 Bd.notSynchronized (v := none) (fun _ => rfl) (fun fs hr => X103.returnOut hx Bd.returns (hb hby d_jdk_42_method_151_code_14) hr) e103 ?_ (by decide) (by decide)
  exact ⟨rfl, N103, (((Keep.refl _ [a1]).wr W102 (Or.inl (List.mem_of_getElem? (i := 0) rfl))).wr W103 (Or.inl (List.mem_of_getElem? (i := 0) rfl)))⟩

theorem ef_vof (m : MethodId) (x0 : Int32) : entryFrame m #[(.int x0)] 1 = mkF m 0 #[.val (.int x0)] [] := by first | (simp [entryFrame, mkF, argsToLocals, Value.category]; done) | rfl
def Q_vof (Z : State) (x0 : Int32) (cs : Int32) (h0 : Heap) (n0 : Nat) (v : Option Value) (h : Heap) (L : List Loc) : Prop := ∃ (b : Addr), v = some (.ref b) ∧ Fr n0 L ∧ Keep h0 h [] ∧ h0.size ≤ b ∧ Exa Z h b "java/lang/String"
set_option maxRecDepth 65536 in
set_option maxHeartbeats 40000000 in
theorem vof (l : Launch) (Z : State) (a0 : Array Value) (hw : ∀ d ∈ tables_1, d.before a0 Z = true) (ws : List Jvm.Cond) (x0 : Int32) (cs : Int32) (h0 : Heap) (n0 : Nat) (Z0 : n0 ≤ h0.size) (P0 : ¬ ((255 : Int32) < x0)) (SC : Sta Z h0 "java/lang/String" "COMPACT_STRINGS" "Z" (.int cs)) (PC : ¬ (cs = (0 : Int32))) :
    MetFree l mth8 (head1 (Jvm.Cond.code mth8 jdk_42_method_139_code 1 (some (.object "java/lang/String")) :: ws) rom11) (fun a U => a = #[(.int x0)] ∧ Z.Warmed39 U.vm ∧ U.heap = h0) (fun _ _ _ _ _ => True) (fun _ U o U' => ∃ v L, o = .returned v ∧ Q_vof Z x0 cs h0 n0 v U'.heap L ∧ FrameEnd U o U' L rom11.cells rom11.slots) := by
  refine MetFree.of_bodySF (plainFor_of_name pnm1) hisR ?_
  intro p e s m args below meth c s₁ Bd hml0 hP hK
  obtain ⟨rfl, hZ, hh⟩ := hP
  have hx := Bd.exec
  have hby := Bd.bytes
  have hml : c.maxLocals = 1 := hml0
  have hown : s.vm.findClass "java/lang/String" = some m.cls := findClass_of_methodNamed Bd.named
  have hnm := (name_of_methodNamed Bd.named Bd.method).1
  have X0 : Stand p l e rom11 s m #[(.int x0)] below meth c s₁ [] 0 0 := Stand.of_body Bd
  have eh0 : s₁.heap = h0 := by rw [← hh, Bd.state]; rfl
  have N0 := Fr.nil n0
  have tw5 := hw _ (List.mem_of_getElem? (i := 5) rfl)
  have tw6 := hw _ (List.mem_of_getElem? (i := 6) rfl)
  have tw18 := hw _ (List.mem_of_getElem? (i := 18) rfl)
  have tw31 := hw _ (List.mem_of_getElem? (i := 31) rfl)
  have tw33 := hw _ (List.mem_of_getElem? (i := 33) rfl)
  have tw121 := hw _ (List.mem_of_getElem? (i := 121) rfl)
  have tw122 := hw _ (List.mem_of_getElem? (i := 122) rfl)
  have tw123 := hw _ (List.mem_of_getElem? (i := 123) rfl)
  have tw124 := hw _ (List.mem_of_getElem? (i := 124) rfl)
  have tw125 := hw _ (List.mem_of_getElem? (i := 125) rfl)
  have tw126 := hw _ (List.mem_of_getElem? (i := 126) rfl)
  have tw127 := hw _ (List.mem_of_getElem? (i := 127) rfl)
  have tw128 := hw _ (List.mem_of_getElem? (i := 128) rfl)
  have tw129 := hw _ (List.mem_of_getElem? (i := 129) rfl)
  have tw130 := hw _ (List.mem_of_getElem? (i := 130) rfl)
  have tw131 := hw _ (List.mem_of_getElem? (i := 131) rfl)
  show Goes p e below (Pq (Q_vof Z x0 cs h0 n0) s rom11.cells rom11.slots) (s₁.setTop (entryFrame m #[(.int x0)] 1))
  refine Goes.step (S' := s₁.setTop (mkF m 0 #[.val (.int x0)] [])) (fun t k => castTop (ef_vof m x0) k) ?_
  obtain ⟨T101, X101, e101, st101⟩ := getS2 X0 hx hZ hown (host := "") (Or.inl tw18) Via.refl eh0 SC (g := (mkF m 0 #[.val (.int x0)] [])) rfl (hb hby d_jdk_42_method_139_code_0)
  refine Goes.step (S' := T101.setTop (mkF m 7 #[.val (.int x0)] [(.int x0)])) (fun t k => st101 _ (XS.ifNo X101.here hx rfl (hb hby d_jdk_42_method_139_code_3) rfl ((if0 _ _).trans (feq (PC : ¬ (cs = (0 : Int32)))).1) (XS.iloadN X101.here hx rfl (hb hby d_jdk_42_method_139_code_6) rfl k))) ?_
  obtain ⟨_, _, ⟨T102, L102, k102, n102⟩, -, X102, ⟨Lc102, hQ102, l102, y102, z102⟩, st102⟩ := Jvm.LawKit.callS X101 hx (y := mth5) hown (mvT hZ tw121) (mvT hZ tw122) (mvT hZ tw123) (mvT hZ tw124) (by decide) (backOf (W := 0) (can l Z a0 hw [] x0 h0 n0 Z0 (P0 : ¬ ((255 : Int32) < x0))) hZ tw124 tw123 (by decide) (by decide)) (g := (mkF m 7 #[.val (.int x0)] [(.int x0)])) rfl (by rw [hml]; rfl) (argsL := [(.int x0)]) (rest := []) (lenOf pd_C_Z rfl) rfl (Nat.le_of_eq rfl) (hb hby d_jdk_42_method_139_code_7) (fun _ _ => ⟨rfl, e101, (by decide : 0 + 0 ≤ _), (by decide : 0 + 0 ≤ _)⟩)
  dsimp only [Pt.U, Pt.locs, Pt.cells, Pt.slots] at X102 l102 y102 z102 st102 hQ102
  subst y102 z102
  obtain ⟨rfl, Nq102, q102_0⟩ := hQ102
  have N102 : Fr n0 L102 := by rw [l102]; exact Fr.app N0 Nq102
  refine Goes.step (S' := T102.setTop (mkF m 13 #[.val (.int x0)] [])) (fun t k => st102 _ (XS.ifNo X102.here hx rfl (hb hby d_jdk_42_method_139_code_10) rfl ((if0 _ _).trans (feq ((by decide) : ¬ ((1 : Int32) = (0 : Int32)))).1) k)) ?_
  obtain ⟨T103, h103, X103, e103, E103, A103, D103, U103, st103⟩ := newO X102 hx hZ hown tw125 tw5 tw6 q102_0 (g := (mkF m 13 #[.val (.int x0)] [])) rfl (hb hby d_jdk_42_method_139_code_13) (by decide) (by decide)
  obtain ⟨b103, g103⟩ : ∃ z, z = h0.size := ⟨_, rfl⟩
  rw [← g103] at A103 D103 U103 st103
  have F103_coder : Fld Z h103 b103 "java/lang/String" "coder" "B" (.int (0 : Int32)) := D103 (Or.inr tw31) (ty := .byte) (by decide)
  have F103_value : Fld Z h103 b103 "java/lang/String" "value" "[B" .null := D103 (Or.inr tw33) (ty := (.array .byte)) (by decide)
  refine Goes.step (S' := T103.setTop (mkF m 18 #[.val (.int x0)] [(.int x0), (.ref b103), (.ref b103)])) (fun t k => st103 _ (XS.dup X103.here hx rfl (hb hby d_jdk_42_method_139_code_16) rfl rfl (XS.iloadN X103.here hx rfl (hb hby d_jdk_42_method_139_code_17) rfl k))) ?_
  obtain ⟨_, _, ⟨T104, L104, k104, n104⟩, -, X104, ⟨Lc104, hQ104, l104, y104, z104⟩, st104⟩ := Jvm.LawKit.callS X103 hx (y := mth6) hown (mvT hZ tw126) (mvT hZ tw127) (mvT hZ tw123) (mvT hZ tw128) (by decide) (backOf (W := 2) (tob l Z a0 hw [] x0 h103 n0 (Nat.le_trans Z0 E103.1) ) hZ tw128 tw123 (by decide) (by decide)) (g := (mkF m 18 #[.val (.int x0)] [(.int x0), (.ref b103), (.ref b103)])) rfl (by rw [hml]; rfl) (argsL := [(.int x0)]) (rest := [(.ref b103), (.ref b103)]) (lenOf pd_C__B rfl) rfl (Nat.le_of_eq rfl) (hb hby d_jdk_42_method_139_code_18) (fun _ _ => ⟨rfl, e103, (by decide : 1 + 1 ≤ _), (by decide : 4 + 1 ≤ _)⟩)
  dsimp only [Pt.U, Pt.locs, Pt.cells, Pt.slots] at X104 l104 y104 z104 st104 hQ104
  subst y104 z104
  obtain ⟨b_104, rfl, Nq104, q104_0, q104_1, q104_2⟩ := hQ104
  have N104 : Fr n0 L104 := by rw [l104]; exact Fr.app N102 Nq104
  refine Goes.step (S' := T104.setTop (mkF m 22 #[.val (.int x0)] [(.int (0 : Int32)), (.ref b_104), (.ref b103), (.ref b103)])) (fun t k => st104 _ (XS.iconst X104.here hx rfl (hb hby d_jdk_42_method_139_code_21) k)) ?_
  obtain ⟨_, _, ⟨T105, L105, k105, n105⟩, -, X105, ⟨Lc105, hQ105, l105, y105, z105⟩, st105⟩ := X104.specialBack hx (y := mth7) rfl hown (mvT hZ tw129) (mvT hZ tw130) (mvT hZ tw131) (by decide) (backOf (W := 1) (sbb l Z a0 hw [] b103 b_104 T104.heap n0 (Nat.le_trans Z0 (Nat.le_trans E103.1 q104_0.1)) (A103.keep q104_0) (F103_value.keep q104_0 nin0) (F103_coder.keep q104_0 nin0) (Nat.le_trans Z0 (Nat.le_of_eq g103.symm)) q104_2) hZ tw131 tw6 (by decide) (by decide)) (g := (mkF m 22 #[.val (.int x0)] [(.int (0 : Int32)), (.ref b_104), (.ref b103), (.ref b103)])) rfl (by rw [hml]; rfl) (Steps.refl _) (a := b103) (argsL := [(.ref b_104), (.int (0 : Int32))]) (rest := [(.ref b103)]) (lenOf pd_BB_V rfl) rfl (Nat.le_of_eq rfl) (hb hby d_jdk_42_method_139_code_22) (fun _ _ => ⟨rfl, rfl, (by decide : 2 + 0 ≤ _), (by decide : 5 + 0 ≤ _)⟩)
  dsimp only [Pt.U, Pt.locs, Pt.cells, Pt.slots] at X105 l105 y105 z105 st105 hQ105
  subst y105 z105
  obtain ⟨rfl, Nq105, q105_0⟩ := hQ105
  have N105 : Fr n0 L105 := by rw [l105]; exact Fr.app N104 Nq105
  refine Goes.step (S' := T105.setTop (mkF m 25 #[.val (.int x0)] [(.ref b103)])) (fun t k => st105.trans k) ?_
  refine Goes.leave (g := (mkF m 25 #[.val (.int x0)] [(.ref b103)])) X105 Bd.notSynchronized (v := (some (.ref b103))) (fun h => by rw [Bd.returns] at h; cases h) (fun fs hr => by jvm_step X105.here [X105.here.top, hx, (hb hby d_jdk_42_method_139_code_25), X105.method', Bd.returns, Value.isRef, FieldType.isReference]; (first | (intro acts; rw [hr _ acts rfl rfl rfl]) | rw [hr _ _ rfl rfl rfl]); exact Steps.refl _) rfl ?_ (by decide) (by decide)
  exact ⟨b103, rfl, N105, ((((Keep.refl _ []).ext E103).trans q104_0 all0).trans q105_0 (allS (Or.inr (Nat.le_of_eq g103.symm)) all0)), (Nat.le_of_eq g103.symm), ((A103.keep q104_0).keep q105_0)⟩

theorem ef_draw (m : MethodId) (x0 : Int32) (x1 : Int32) : entryFrame m #[(.int x0), (.int x1)] 5 = mkF m 0 #[.val (.int x0), .val (.int x1), .unset, .unset, .unset] [] := by first | (simp [entryFrame, mkF, argsToLocals, Value.category]; done) | rfl
def Q_draw (Z : State) (p0 : Int32) (p1 : Int32) (cs : Int32) (h0 : Heap) (n0 : Nat) (v : Option Value) (h : Heap) (L : List Loc) : Prop := ∃ (b : Addr), v = some (.ref b) ∧ Fr n0 L ∧ Keep h0 h [] ∧ h0.size ≤ b ∧ Exa Z h b "java/lang/String"
set_option maxRecDepth 65536 in
set_option maxHeartbeats 40000000 in
theorem draw (l : Launch) (Z : State) (a0 : Array Value) (hw : ∀ d ∈ tables_1, d.before a0 Z = true) (ws : List Jvm.Cond) (p0 : Int32) (p1 : Int32) (cs : Int32) (h0 : Heap) (n0 : Nat) (Z0 : n0 ≤ h0.size) (SC : Sta Z h0 "java/lang/String" "COMPACT_STRINGS" "Z" (.int cs)) (PC : ¬ (cs = (0 : Int32))) :
    MetFree l mth9 (head1 (Jvm.Cond.code mth9 method_3_code 5 (some (.object "java/lang/String")) :: ws) rom12) (fun a U => a = #[(.int p0), (.int p1)] ∧ Z.Warmed39 U.vm ∧ U.heap = h0 ∧ CHv Z own_EL U.vm h0) (fun _ _ _ _ _ => True) (fun _ U o U' => ∃ v L, o = .returned v ∧ Q_draw Z p0 p1 cs h0 n0 v U'.heap L ∧ CHr Z own_EL U.vm U.heap U'.vm U'.heap ∧ ReturnedEndW U o U' L rom12.cells rom12.slots) := by
  refine MetFree.of_bodySF (plainFor_of_name pnm3) hisR ?_
  intro p e s m args below meth c s₁ Bd hml0 hP hK
  obtain ⟨rfl, hZ, hh, hC⟩ := hP
  have hx := Bd.exec
  have hby := Bd.bytes
  have hml : c.maxLocals = 5 := hml0
  have hown : s.vm.findClass "com/example/uraniborg/uraniborg/model/JobSpecOneOffPinLaw" = some m.cls := findClass_of_methodNamed Bd.named
  have hnm := (name_of_methodNamed Bd.named Bd.method).1
  have X0 : Stand p l e rom12 s m #[(.int p0), (.int p1)] below meth c s₁ [] 0 0 := Stand.of_body Bd
  replace X0 : Stand p l e rom12 (s.setVm s.vm) m #[(.int p0), (.int p1)] below meth c s₁ [] 0 0 := X0
  have hZ0 := hZ
  have hown0 := hown
  have hS0 := own_s0 s h0.size
  have CR0 : CHr Z own_EL s.vm h0 s.vm h0 := CHr.refl hC
  have eh0 : s₁.heap = h0 := by rw [← hh, Bd.state]; rfl
  have N0 := Fr.nil n0
  have tw4 := hw _ (List.mem_of_getElem? (i := 4) rfl)
  have tw5 := hw _ (List.mem_of_getElem? (i := 5) rfl)
  have tw6 := hw _ (List.mem_of_getElem? (i := 6) rfl)
  have tw7 := hw _ (List.mem_of_getElem? (i := 7) rfl)
  have tw8 := hw _ (List.mem_of_getElem? (i := 8) rfl)
  have tw9 := hw _ (List.mem_of_getElem? (i := 9) rfl)
  have tw10 := hw _ (List.mem_of_getElem? (i := 10) rfl)
  have tw31 := hw _ (List.mem_of_getElem? (i := 31) rfl)
  have tw33 := hw _ (List.mem_of_getElem? (i := 33) rfl)
  have tw118 := hw _ (List.mem_of_getElem? (i := 118) rfl)
  have tw119 := hw _ (List.mem_of_getElem? (i := 119) rfl)
  have tw120 := hw _ (List.mem_of_getElem? (i := 120) rfl)
  show Goes p e below (Ph Z own_EL (Q_draw Z p0 p1 cs h0 n0) s rom12.cells rom12.slots) (s₁.setTop (entryFrame m #[(.int p0), (.int p1)] 5))
  refine Goes.step (S' := s₁.setTop (mkF m 0 #[.val (.int p0), .val (.int p1), .unset, .unset, .unset] [])) (fun t k => castTop (ef_draw m p0 p1) k) ?_
  refine Goes.step (S' := s₁.setTop (mkF m 11 #[.val (.int p0), .val (.int p1), .val (.int ((p0 &&& (255 : Int32)).toUInt32.toUInt16.toUInt32.toInt32)), .unset, .unset] [(.int ((p0.toUInt32 >>> ((8 : Int32) &&& 31).toUInt32).toInt32))])) (fun t k => XS.iloadN X0.here hx rfl (hb hby d_method_3_code_0) rfl (XS.sipush X0.here hx rfl (hb hby d_method_3_code_1) (XS.iand X0.here hx rfl (hb hby d_method_3_code_4) rfl (XS.i2c X0.here hx rfl (hb hby d_method_3_code_5) rfl (XS.istoreN X0.here hx rfl (hb hby d_method_3_code_6) rfl (l' := #[.val (.int p0), .val (.int p1), .val (.int ((p0 &&& (255 : Int32)).toUInt32.toUInt16.toUInt32.toInt32)), .unset, .unset]) rfl (XS.iloadN X0.here hx rfl (hb hby d_method_3_code_7) rfl (XS.bipush X0.here hx rfl (hb hby d_method_3_code_8) (XS.iushr X0.here hx rfl (hb hby d_method_3_code_10) rfl k)))))))) ?_
  refine Goes.step (S' := s₁.setTop (mkF m 24 #[.val (.int p0), .val (.int p1), .val (.int ((p0 &&& (255 : Int32)).toUInt32.toUInt16.toUInt32.toInt32)), .val (.int ((((p0.toUInt32 >>> ((8 : Int32) &&& 31).toUInt32).toInt32) &&& (255 : Int32)).toUInt32.toUInt16.toUInt32.toInt32)), .unset] [(.int (255 : Int32)), (.int ((p0.toUInt32 >>> ((16 : Int32) &&& 31).toUInt32).toInt32))])) (fun t k => XS.sipush X0.here hx rfl (hb hby d_method_3_code_11) (XS.iand X0.here hx rfl (hb hby d_method_3_code_14) rfl (XS.i2c X0.here hx rfl (hb hby d_method_3_code_15) rfl (XS.istoreN X0.here hx rfl (hb hby d_method_3_code_16) rfl (l' := #[.val (.int p0), .val (.int p1), .val (.int ((p0 &&& (255 : Int32)).toUInt32.toUInt16.toUInt32.toInt32)), .val (.int ((((p0.toUInt32 >>> ((8 : Int32) &&& 31).toUInt32).toInt32) &&& (255 : Int32)).toUInt32.toUInt16.toUInt32.toInt32)), .unset]) rfl (XS.iloadN X0.here hx rfl (hb hby d_method_3_code_17) rfl (XS.bipush X0.here hx rfl (hb hby d_method_3_code_18) (XS.iushr X0.here hx rfl (hb hby d_method_3_code_20) rfl (XS.sipush X0.here hx rfl (hb hby d_method_3_code_21) k)))))))) ?_
  refine Goes.step (S' := s₁.setTop (mkF m 29 #[.val (.int p0), .val (.int p1), .val (.int ((p0 &&& (255 : Int32)).toUInt32.toUInt16.toUInt32.toInt32)), .val (.int ((((p0.toUInt32 >>> ((8 : Int32) &&& 31).toUInt32).toInt32) &&& (255 : Int32)).toUInt32.toUInt16.toUInt32.toInt32)), .val (.int ((((p0.toUInt32 >>> ((16 : Int32) &&& 31).toUInt32).toInt32) &&& (255 : Int32)).toUInt32.toUInt16.toUInt32.toInt32))] [(.int p1)])) (fun t k => XS.iand X0.here hx rfl (hb hby d_method_3_code_24) rfl (XS.i2c X0.here hx rfl (hb hby d_method_3_code_25) rfl (XS.istore X0.here hx rfl (hb hby d_method_3_code_26) rfl (l' := #[.val (.int p0), .val (.int p1), .val (.int ((p0 &&& (255 : Int32)).toUInt32.toUInt16.toUInt32.toInt32)), .val (.int ((((p0.toUInt32 >>> ((8 : Int32) &&& 31).toUInt32).toInt32) &&& (255 : Int32)).toUInt32.toUInt16.toUInt32.toInt32)), .val (.int ((((p0.toUInt32 >>> ((16 : Int32) &&& 31).toUInt32).toInt32) &&& (255 : Int32)).toUInt32.toUInt16.toUInt32.toInt32))]) rfl (XS.iloadN X0.here hx rfl (hb hby d_method_3_code_28) rfl k)))) ?_
  by_cases hc101 : p1 = (0 : Int32)
  case pos =>
    refine Goes.step (S' := s₁.setTop (mkF m 32 #[.val (.int p0), .val (.int p1), .val (.int ((p0 &&& (255 : Int32)).toUInt32.toUInt16.toUInt32.toInt32)), .val (.int ((((p0.toUInt32 >>> ((8 : Int32) &&& 31).toUInt32).toInt32) &&& (255 : Int32)).toUInt32.toUInt16.toUInt32.toInt32)), .val (.int ((((p0.toUInt32 >>> ((16 : Int32) &&& 31).toUInt32).toInt32) &&& (255 : Int32)).toUInt32.toUInt16.toUInt32.toInt32))] [])) (fun t k => XS.ifNo X0.here hx rfl (hb hby d_method_3_code_29) rfl ((if0 _ _).trans (teq hc101).2) k) ?_
    obtain ⟨T102, h102, X102, e102, E102, A102, D102, U102, st102⟩ := newO X0 hx hZ hown tw4 tw5 tw6 eh0 (g := (mkF m 32 #[.val (.int p0), .val (.int p1), .val (.int ((p0 &&& (255 : Int32)).toUInt32.toUInt16.toUInt32.toInt32)), .val (.int ((((p0.toUInt32 >>> ((8 : Int32) &&& 31).toUInt32).toInt32) &&& (255 : Int32)).toUInt32.toUInt16.toUInt32.toInt32)), .val (.int ((((p0.toUInt32 >>> ((16 : Int32) &&& 31).toUInt32).toInt32) &&& (255 : Int32)).toUInt32.toUInt16.toUInt32.toInt32))] [])) rfl (hb hby d_method_3_code_32) (by decide) (by decide)
    obtain ⟨b102, g102⟩ : ∃ z, z = h0.size := ⟨_, rfl⟩
    rw [← g102] at A102 D102 U102 st102
    have F102_coder : Fld Z h102 b102 "java/lang/String" "coder" "B" (.int (0 : Int32)) := D102 (Or.inr tw31) (ty := .byte) (by decide)
    have F102_value : Fld Z h102 b102 "java/lang/String" "value" "[B" .null := D102 (Or.inr tw33) (ty := (.array .byte)) (by decide)
    refine Goes.step (S' := T102.setTop (mkF m 37 #[.val (.int p0), .val (.int p1), .val (.int ((p0 &&& (255 : Int32)).toUInt32.toUInt16.toUInt32.toInt32)), .val (.int ((((p0.toUInt32 >>> ((8 : Int32) &&& 31).toUInt32).toInt32) &&& (255 : Int32)).toUInt32.toUInt16.toUInt32.toInt32)), .val (.int ((((p0.toUInt32 >>> ((16 : Int32) &&& 31).toUInt32).toInt32) &&& (255 : Int32)).toUInt32.toUInt16.toUInt32.toInt32))] [(.int (0 : Int32)), (.ref b102), (.ref b102)])) (fun t k => st102 _ (XS.dup X102.here hx rfl (hb hby d_method_3_code_35) rfl rfl (XS.iconst X102.here hx rfl (hb hby d_method_3_code_36) k))) ?_
    obtain ⟨T103, h103, k103, X103, e103, E103, A103, AE103, st103⟩ := newPE (aty := .char) X102 hx hZ tw7 e102 (g := (mkF m 37 #[.val (.int p0), .val (.int p1), .val (.int ((p0 &&& (255 : Int32)).toUInt32.toUInt16.toUInt32.toInt32)), .val (.int ((((p0.toUInt32 >>> ((8 : Int32) &&& 31).toUInt32).toInt32) &&& (255 : Int32)).toUInt32.toUInt16.toUInt32.toInt32)), .val (.int ((((p0.toUInt32 >>> ((16 : Int32) &&& 31).toUInt32).toInt32) &&& (255 : Int32)).toUInt32.toUInt16.toUInt32.toInt32))] [(.int (0 : Int32)), (.ref b102), (.ref b102)])) rfl (hb hby d_method_3_code_37) rfl (by decide) (cap := 0) (by decide) (by decide) (by decide) (by decide) (ad := "[C") rfl
    obtain ⟨b103, g103⟩ : ∃ z, z = h102.size := ⟨_, rfl⟩
    rw [← g103] at A103 AE103 st103
    have V103 : Arv Z h103 b103 k103 .char (0 : Int32) [] (.int (0 : Int32)) := (Arv.new A103 (by decide)).pad (pad_rep [] (.int (0 : Int32)) 0)
    refine Goes.step (S' := T103.setTop (mkF m 39 #[.val (.int p0), .val (.int p1), .val (.int ((p0 &&& (255 : Int32)).toUInt32.toUInt16.toUInt32.toInt32)), .val (.int ((((p0.toUInt32 >>> ((8 : Int32) &&& 31).toUInt32).toInt32) &&& (255 : Int32)).toUInt32.toUInt16.toUInt32.toInt32)), .val (.int ((((p0.toUInt32 >>> ((16 : Int32) &&& 31).toUInt32).toInt32) &&& (255 : Int32)).toUInt32.toUInt16.toUInt32.toInt32))] [(.ref b103), (.ref b102), (.ref b102)])) (fun t k => st103 _ k) ?_
    have CR105 := CR0.trans (CHr.ext E102 CR0.1)
    have Q105_b102 := Safe.ext E102 CR0.1 (Safe.new (Nat.le_of_eq g102.symm))
    have CR106 := CR105.trans (CHr.ext E103 CR105.1)
    have Q106_b102 := Safe.ext E103 CR105.1 Q105_b102
    obtain ⟨_, _, ⟨T104, L104, k104, n104⟩, -, X104, hs104, gr104, ⟨Lc104, hQ104, l104, y104, z104, CX104⟩, st104⟩ := X103.specialBackS hx (y := mth4) rfl hown (mvT hZ tw8) (mvT hZ tw9) (mvT hZ tw10) (by decide) (backOfSH (EL := own_EL) (W := 1) (sic0 l Z a0 hw [] b102 b103 k103 h103 n0 (Nat.le_trans Z0 (Nat.le_trans E102.1 E103.1)) (Exa.ext E103 A102) (Fld.ext E103 F102_value) (Fld.ext E103 F102_coder) (Nat.le_trans Z0 (Nat.le_of_eq g102.symm)) V103) hZ tw10 tw6 (by decide) (by decide) (own_ew hw) CR106.1) (g := (mkF m 39 #[.val (.int p0), .val (.int p1), .val (.int ((p0 &&& (255 : Int32)).toUInt32.toUInt16.toUInt32.toInt32)), .val (.int ((((p0.toUInt32 >>> ((8 : Int32) &&& 31).toUInt32).toInt32) &&& (255 : Int32)).toUInt32.toUInt16.toUInt32.toInt32)), .val (.int ((((p0.toUInt32 >>> ((16 : Int32) &&& 31).toUInt32).toInt32) &&& (255 : Int32)).toUInt32.toUInt16.toUInt32.toInt32))] [(.ref b103), (.ref b102), (.ref b102)])) rfl (by rw [hml]; rfl) (Steps.refl _) (a := b102) (argsL := [(.ref b103)]) (rest := [(.ref b102)]) (lenOf pd_C_V rfl) rfl (Nat.le_of_eq rfl) (hb hby d_method_3_code_39) (fun _ _ => ⟨rfl, e103, (by decide : 2 + 4 ≤ _), (by decide : 4 + 8 ≤ _)⟩)
    dsimp only [Pt.U, Pt.locs, Pt.cells, Pt.slots] at X104 l104 y104 z104 st104 hQ104 hs104 gr104 CX104
    subst y104 z104
    replace X104 := own_fold X104
    have hS104 := foldS hS0 (by rw [e103]; exact (Nat.le_trans (Nat.le_refl _) (Nat.le_trans E102.1 E103.1))) hs104 gr104
    obtain ⟨hZ, hown⟩ := own_since hZ0 hown0 hS104
    obtain ⟨rfl, Nq104, q104_0⟩ := hQ104
    have N104 : Fr n0 L104 := by rw [l104]; exact Fr.app N0 Nq104
    have CR104 := CR106.trans CX104
    have Q104_b102 := CX104.safe (Exa.ext E103 A102).lt Q106_b102
    refine Goes.step (S' := T104.setTop (mkF m 42 #[.val (.int p0), .val (.int p1), .val (.int ((p0 &&& (255 : Int32)).toUInt32.toUInt16.toUInt32.toInt32)), .val (.int ((((p0.toUInt32 >>> ((8 : Int32) &&& 31).toUInt32).toInt32) &&& (255 : Int32)).toUInt32.toUInt16.toUInt32.toInt32)), .val (.int ((((p0.toUInt32 >>> ((16 : Int32) &&& 31).toUInt32).toInt32) &&& (255 : Int32)).toUInt32.toUInt16.toUInt32.toInt32))] [(.ref b102)])) (fun t k => st104.trans k) ?_
    refine Goes.leaveH (g := (mkF m 42 #[.val (.int p0), .val (.int p1), .val (.int ((p0 &&& (255 : Int32)).toUInt32.toUInt16.toUInt32.toInt32)), .val (.int ((((p0.toUInt32 >>> ((8 : Int32) &&& 31).toUInt32).toInt32) &&& (255 : Int32)).toUInt32.toUInt16.toUInt32.toInt32)), .val (.int ((((p0.toUInt32 >>> ((16 : Int32) &&& 31).toUInt32).toInt32) &&& (255 : Int32)).toUInt32.toUInt16.toUInt32.toInt32))] [(.ref b102)])) (own_ew hw) hZ hh CR104 X104 hS104 (Nat.le_refl _) Bd.notSynchronized (v := (some (.ref b102))) (fun h => by rw [Bd.returns] at h; cases h) (fun fs hr => by jvm_step X104.here [X104.here.top, hx, (hb hby d_method_3_code_42), X104.method', Bd.returns, Value.isRef, FieldType.isReference]; (first | (intro acts; rw [hr _ acts rfl rfl rfl]) | rw [hr _ _ rfl rfl rfl]); exact Steps.refl _) rfl ?_ (by decide) (by decide)
    exact ⟨b102, rfl, N104, ((((Keep.refl _ []).ext E102).ext E103).trans q104_0 (allS (Or.inr (Nat.le_of_eq g102.symm)) all0)), (Nat.le_of_eq g102.symm), ((Exa.ext E103 A102).keep q104_0)⟩
  case neg =>
    refine Goes.step (S' := s₁.setTop (mkF m 45 #[.val (.int p0), .val (.int p1), .val (.int ((p0 &&& (255 : Int32)).toUInt32.toUInt16.toUInt32.toInt32)), .val (.int ((((p0.toUInt32 >>> ((8 : Int32) &&& 31).toUInt32).toInt32) &&& (255 : Int32)).toUInt32.toUInt16.toUInt32.toInt32)), .val (.int ((((p0.toUInt32 >>> ((16 : Int32) &&& 31).toUInt32).toInt32) &&& (255 : Int32)).toUInt32.toUInt16.toUInt32.toInt32))] [(.int (1 : Int32)), (.int p1)])) (fun t k => XS.ifYes X0.here hx rfl (pc0 := 29) (pc' := 43) rfl (hb hby d_method_3_code_29) rfl ((if0 _ _).trans (feq hc101).2) (by decide) (by decide) (XS.iloadN X0.here hx rfl (hb hby d_method_3_code_43) rfl (XS.iconst X0.here hx rfl (hb hby d_method_3_code_44) k))) ?_
    by_cases hc107 : p1 = (1 : Int32)
    case pos =>
      refine Goes.step (S' := s₁.setTop (mkF m 49 #[.val (.int p0), .val (.int p1), .val (.int ((p0 &&& (255 : Int32)).toUInt32.toUInt16.toUInt32.toInt32)), .val (.int ((((p0.toUInt32 >>> ((8 : Int32) &&& 31).toUInt32).toInt32) &&& (255 : Int32)).toUInt32.toUInt16.toUInt32.toInt32)), .val (.int ((((p0.toUInt32 >>> ((16 : Int32) &&& 31).toUInt32).toInt32) &&& (255 : Int32)).toUInt32.toUInt16.toUInt32.toInt32))] [(.int ((p0 &&& (255 : Int32)).toUInt32.toUInt16.toUInt32.toInt32))])) (fun t k => XS.icmpNo X0.here hx rfl (hb hby d_method_3_code_45) rfl (teq hc107).2 (XS.iloadN X0.here hx rfl (hb hby d_method_3_code_48) rfl k)) ?_
      obtain ⟨_, _, ⟨T108, L108, k108, n108⟩, -, X108, ⟨Lc108, hQ108, l108, y108, z108⟩, st108⟩ := Jvm.LawKit.callS X0 hx (y := mth8) hown (mvT hZ tw118) (mvT hZ tw119) (mvT hZ tw6) (mvT hZ tw120) (by decide) (backOf (W := 0) (vof l Z a0 hw [] ((p0 &&& (255 : Int32)).toUInt32.toUInt16.toUInt32.toInt32) cs h0 n0 Z0 ((by have z109_0 := PC; have z109_1 := hc101; have z109_2 := hc107; have z109_3 := rng32 cs; have z109_4 := rng32 p1; have z109_5 := c_i2c (p0 &&& (255 : Int32)); have z109_6 := rng32 (p0 &&& (255 : Int32)); have z109_7 := c_mask p0 (255 : Int32) 8 (by decide) (by decide); have z109_8 := rng32 p0; (try simp only [Int32.lt_iff_toInt_lt, Int64.lt_iff_toInt_lt, ne_eq, ← Int32.toInt_inj, ← Int64.toInt_inj, Int32.reduceToInt, Int64.reduceToInt, Nat.reducePow] at z109_0 z109_1 z109_2 z109_3 z109_4 z109_5 z109_6 z109_7 z109_8 ⊢); try omega) : ¬ ((255 : Int32) < ((p0 &&& (255 : Int32)).toUInt32.toUInt16.toUInt32.toInt32))) SC (PC : ¬ (cs = (0 : Int32)))) hZ tw120 tw6 (by decide) (by decide)) (g := (mkF m 49 #[.val (.int p0), .val (.int p1), .val (.int ((p0 &&& (255 : Int32)).toUInt32.toUInt16.toUInt32.toInt32)), .val (.int ((((p0.toUInt32 >>> ((8 : Int32) &&& 31).toUInt32).toInt32) &&& (255 : Int32)).toUInt32.toUInt16.toUInt32.toInt32)), .val (.int ((((p0.toUInt32 >>> ((16 : Int32) &&& 31).toUInt32).toInt32) &&& (255 : Int32)).toUInt32.toUInt16.toUInt32.toInt32))] [(.int ((p0 &&& (255 : Int32)).toUInt32.toUInt16.toUInt32.toInt32))])) rfl (by rw [hml]; rfl) (argsL := [(.int ((p0 &&& (255 : Int32)).toUInt32.toUInt16.toUInt32.toInt32))]) (rest := []) (lenOf pd_C_Ljava_lang_String rfl) rfl (Nat.le_of_eq rfl) (hb hby d_method_3_code_49) (fun _ _ => ⟨rfl, eh0, (by decide : 0 + 2 ≤ _), (by decide : 0 + 5 ≤ _)⟩)
      dsimp only [Pt.U, Pt.locs, Pt.cells, Pt.slots] at X108 l108 y108 z108 st108 hQ108
      subst y108 z108
      obtain ⟨b_108, rfl, Nq108, q108_0, q108_1, q108_2⟩ := hQ108
      have N108 : Fr n0 L108 := by rw [l108]; exact Fr.app N0 Nq108
      refine Goes.step (S' := T108.setTop (mkF m 52 #[.val (.int p0), .val (.int p1), .val (.int ((p0 &&& (255 : Int32)).toUInt32.toUInt16.toUInt32.toInt32)), .val (.int ((((p0.toUInt32 >>> ((8 : Int32) &&& 31).toUInt32).toInt32) &&& (255 : Int32)).toUInt32.toUInt16.toUInt32.toInt32)), .val (.int ((((p0.toUInt32 >>> ((16 : Int32) &&& 31).toUInt32).toInt32) &&& (255 : Int32)).toUInt32.toUInt16.toUInt32.toInt32))] [(.ref b_108)])) (fun t k => st108 _ k) ?_
      have CR110 := CR0.trans (CHr.keep q108_0 sf0 CR0.1)
      refine Goes.leaveH (g := (mkF m 52 #[.val (.int p0), .val (.int p1), .val (.int ((p0 &&& (255 : Int32)).toUInt32.toUInt16.toUInt32.toInt32)), .val (.int ((((p0.toUInt32 >>> ((8 : Int32) &&& 31).toUInt32).toInt32) &&& (255 : Int32)).toUInt32.toUInt16.toUInt32.toInt32)), .val (.int ((((p0.toUInt32 >>> ((16 : Int32) &&& 31).toUInt32).toInt32) &&& (255 : Int32)).toUInt32.toUInt16.toUInt32.toInt32))] [(.ref b_108)])) (own_ew hw) hZ hh CR110 X108 hS0 (Nat.le_trans (Nat.le_refl _) q108_0.1) Bd.notSynchronized (v := (some (.ref b_108))) (fun h => by rw [Bd.returns] at h; cases h) (fun fs hr => by jvm_step X108.here [X108.here.top, hx, (hb hby d_method_3_code_52), X108.method', Bd.returns, Value.isRef, FieldType.isReference]; (first | (intro acts; rw [hr _ acts rfl rfl rfl]) | rw [hr _ _ rfl rfl rfl]); exact Steps.refl _) rfl ?_ (by decide) (by decide)
      exact ⟨b_108, rfl, N108, ((Keep.refl _ []).trans q108_0 all0), q108_1, q108_2⟩
    case neg =>
      refine Goes.step (S' := s₁.setTop (mkF m 55 #[.val (.int p0), .val (.int p1), .val (.int ((p0 &&& (255 : Int32)).toUInt32.toUInt16.toUInt32.toInt32)), .val (.int ((((p0.toUInt32 >>> ((8 : Int32) &&& 31).toUInt32).toInt32) &&& (255 : Int32)).toUInt32.toUInt16.toUInt32.toInt32)), .val (.int ((((p0.toUInt32 >>> ((16 : Int32) &&& 31).toUInt32).toInt32) &&& (255 : Int32)).toUInt32.toUInt16.toUInt32.toInt32))] [(.int (2 : Int32)), (.int p1)])) (fun t k => XS.icmpYes X0.here hx rfl (pc0 := 45) (pc' := 53) rfl (hb hby d_method_3_code_45) rfl (feq hc107).2 (by decide) (by decide) (XS.iloadN X0.here hx rfl (hb hby d_method_3_code_53) rfl (XS.iconst X0.here hx rfl (hb hby d_method_3_code_54) k))) ?_
      by_cases hc111 : p1 = (2 : Int32)
      case pos =>
        refine Goes.step (S' := s₁.setTop (mkF m 58 #[.val (.int p0), .val (.int p1), .val (.int ((p0 &&& (255 : Int32)).toUInt32.toUInt16.toUInt32.toInt32)), .val (.int ((((p0.toUInt32 >>> ((8 : Int32) &&& 31).toUInt32).toInt32) &&& (255 : Int32)).toUInt32.toUInt16.toUInt32.toInt32)), .val (.int ((((p0.toUInt32 >>> ((16 : Int32) &&& 31).toUInt32).toInt32) &&& (255 : Int32)).toUInt32.toUInt16.toUInt32.toInt32))] [])) (fun t k => XS.icmpNo X0.here hx rfl (hb hby d_method_3_code_55) rfl (teq hc111).2 k) ?_
        obtain ⟨T112, h112, X112, e112, E112, A112, D112, U112, st112⟩ := newO X0 hx hZ hown tw4 tw5 tw6 eh0 (g := (mkF m 58 #[.val (.int p0), .val (.int p1), .val (.int ((p0 &&& (255 : Int32)).toUInt32.toUInt16.toUInt32.toInt32)), .val (.int ((((p0.toUInt32 >>> ((8 : Int32) &&& 31).toUInt32).toInt32) &&& (255 : Int32)).toUInt32.toUInt16.toUInt32.toInt32)), .val (.int ((((p0.toUInt32 >>> ((16 : Int32) &&& 31).toUInt32).toInt32) &&& (255 : Int32)).toUInt32.toUInt16.toUInt32.toInt32))] [])) rfl (hb hby d_method_3_code_58) (by decide) (by decide)
        obtain ⟨b112, g112⟩ : ∃ z, z = h0.size := ⟨_, rfl⟩
        rw [← g112] at A112 D112 U112 st112
        have F112_coder : Fld Z h112 b112 "java/lang/String" "coder" "B" (.int (0 : Int32)) := D112 (Or.inr tw31) (ty := .byte) (by decide)
        have F112_value : Fld Z h112 b112 "java/lang/String" "value" "[B" .null := D112 (Or.inr tw33) (ty := (.array .byte)) (by decide)
        refine Goes.step (S' := T112.setTop (mkF m 63 #[.val (.int p0), .val (.int p1), .val (.int ((p0 &&& (255 : Int32)).toUInt32.toUInt16.toUInt32.toInt32)), .val (.int ((((p0.toUInt32 >>> ((8 : Int32) &&& 31).toUInt32).toInt32) &&& (255 : Int32)).toUInt32.toUInt16.toUInt32.toInt32)), .val (.int ((((p0.toUInt32 >>> ((16 : Int32) &&& 31).toUInt32).toInt32) &&& (255 : Int32)).toUInt32.toUInt16.toUInt32.toInt32))] [(.int (2 : Int32)), (.ref b112), (.ref b112)])) (fun t k => st112 _ (XS.dup X112.here hx rfl (hb hby d_method_3_code_61) rfl rfl (XS.iconst X112.here hx rfl (hb hby d_method_3_code_62) k))) ?_
        obtain ⟨T113, h113, k113, X113, e113, E113, A113, AE113, st113⟩ := newPE (aty := .char) X112 hx hZ tw7 e112 (g := (mkF m 63 #[.val (.int p0), .val (.int p1), .val (.int ((p0 &&& (255 : Int32)).toUInt32.toUInt16.toUInt32.toInt32)), .val (.int ((((p0.toUInt32 >>> ((8 : Int32) &&& 31).toUInt32).toInt32) &&& (255 : Int32)).toUInt32.toUInt16.toUInt32.toInt32)), .val (.int ((((p0.toUInt32 >>> ((16 : Int32) &&& 31).toUInt32).toInt32) &&& (255 : Int32)).toUInt32.toUInt16.toUInt32.toInt32))] [(.int (2 : Int32)), (.ref b112), (.ref b112)])) rfl (hb hby d_method_3_code_63) rfl (by decide) (cap := 2) (by decide) (by decide) (by decide) (by decide) (ad := "[C") rfl
        obtain ⟨b113, g113⟩ : ∃ z, z = h112.size := ⟨_, rfl⟩
        rw [← g113] at A113 AE113 st113
        have V113 : Arv Z h113 b113 k113 .char (2 : Int32) [(.int (0 : Int32)), (.int (0 : Int32))] (.int (0 : Int32)) := (Arv.new A113 (by decide)).pad (pad_rep [] (.int (0 : Int32)) 2)
        refine Goes.step (S' := T113.setTop (mkF m 68 #[.val (.int p0), .val (.int p1), .val (.int ((p0 &&& (255 : Int32)).toUInt32.toUInt16.toUInt32.toInt32)), .val (.int ((((p0.toUInt32 >>> ((8 : Int32) &&& 31).toUInt32).toInt32) &&& (255 : Int32)).toUInt32.toUInt16.toUInt32.toInt32)), .val (.int ((((p0.toUInt32 >>> ((16 : Int32) &&& 31).toUInt32).toInt32) &&& (255 : Int32)).toUInt32.toUInt16.toUInt32.toInt32))] [(.int ((p0 &&& (255 : Int32)).toUInt32.toUInt16.toUInt32.toInt32)), (.int (0 : Int32)), (.ref b113), (.ref b113), (.ref b112), (.ref b112)])) (fun t k => st113 _ (XS.dup X113.here hx rfl (hb hby d_method_3_code_65) rfl rfl (XS.iconst X113.here hx rfl (hb hby d_method_3_code_66) (XS.iloadN X113.here hx rfl (hb hby d_method_3_code_67) rfl k)))) ?_
        obtain ⟨cl114, Ar114, qk114, Sz114, Nn114, Hs114, Gs114⟩ := id V113
        obtain ⟨T114, h114, X114, e114, W114, st114⟩ := stC X113 hx hZ e113 Ar114 (j := (0 : Int32)) (inb_of (j := (0 : Int32)) Sz114 ⟨by decide, by decide⟩) (g := (mkF m 68 #[.val (.int p0), .val (.int p1), .val (.int ((p0 &&& (255 : Int32)).toUInt32.toUInt16.toUInt32.toInt32)), .val (.int ((((p0.toUInt32 >>> ((8 : Int32) &&& 31).toUInt32).toInt32) &&& (255 : Int32)).toUInt32.toUInt16.toUInt32.toInt32)), .val (.int ((((p0.toUInt32 >>> ((16 : Int32) &&& 31).toUInt32).toInt32) &&& (255 : Int32)).toUInt32.toUInt16.toUInt32.toInt32))] [(.int ((p0 &&& (255 : Int32)).toUInt32.toUInt16.toUInt32.toInt32)), (.int (0 : Int32)), (.ref b113), (.ref b113), (.ref b112), (.ref b112)])) rfl rfl (hb hby d_method_3_code_68)
        have V114 : Arv Z h114 b113 k113 .char (2 : Int32) [(.int (nar .char ((p0 &&& (255 : Int32)).toUInt32.toUInt16.toUInt32.toInt32))), (.int (0 : Int32))] (.int (0 : Int32)) := Arv.set Ar114 qk114 Sz114 Nn114 Hs114 Gs114 (fits_nar_char _) W114 0 rfl (Nat.le_of_ble_eq_true rfl)
        have N114 := Fr.snoc X114 N0 (Nat.le_trans Z0 (Nat.le_trans E112.1 (Nat.le_of_eq g113.symm)))
        refine Goes.step (S' := T114.setTop (mkF m 72 #[.val (.int p0), .val (.int p1), .val (.int ((p0 &&& (255 : Int32)).toUInt32.toUInt16.toUInt32.toInt32)), .val (.int ((((p0.toUInt32 >>> ((8 : Int32) &&& 31).toUInt32).toInt32) &&& (255 : Int32)).toUInt32.toUInt16.toUInt32.toInt32)), .val (.int ((((p0.toUInt32 >>> ((16 : Int32) &&& 31).toUInt32).toInt32) &&& (255 : Int32)).toUInt32.toUInt16.toUInt32.toInt32))] [(.int ((((p0.toUInt32 >>> ((8 : Int32) &&& 31).toUInt32).toInt32) &&& (255 : Int32)).toUInt32.toUInt16.toUInt32.toInt32)), (.int (1 : Int32)), (.ref b113), (.ref b113), (.ref b112), (.ref b112)])) (fun t k => st114 _ (XS.dup X114.here hx rfl (hb hby d_method_3_code_69) rfl rfl (XS.iconst X114.here hx rfl (hb hby d_method_3_code_70) (XS.iloadN X114.here hx rfl (hb hby d_method_3_code_71) rfl k)))) ?_
        obtain ⟨cl115, Ar115, qk115, Sz115, Nn115, Hs115, Gs115⟩ := id V114
        obtain ⟨T115, h115, X115, e115, W115, st115⟩ := stC X114 hx hZ e114 Ar115 (j := (1 : Int32)) (inb_of (j := (1 : Int32)) Sz115 ⟨by decide, by decide⟩) (g := (mkF m 72 #[.val (.int p0), .val (.int p1), .val (.int ((p0 &&& (255 : Int32)).toUInt32.toUInt16.toUInt32.toInt32)), .val (.int ((((p0.toUInt32 >>> ((8 : Int32) &&& 31).toUInt32).toInt32) &&& (255 : Int32)).toUInt32.toUInt16.toUInt32.toInt32)), .val (.int ((((p0.toUInt32 >>> ((16 : Int32) &&& 31).toUInt32).toInt32) &&& (255 : Int32)).toUInt32.toUInt16.toUInt32.toInt32))] [(.int ((((p0.toUInt32 >>> ((8 : Int32) &&& 31).toUInt32).toInt32) &&& (255 : Int32)).toUInt32.toUInt16.toUInt32.toInt32)), (.int (1 : Int32)), (.ref b113), (.ref b113), (.ref b112), (.ref b112)])) rfl rfl (hb hby d_method_3_code_72)
        have V115 : Arv Z h115 b113 k113 .char (2 : Int32) [(.int (nar .char ((p0 &&& (255 : Int32)).toUInt32.toUInt16.toUInt32.toInt32))), (.int (nar .char ((((p0.toUInt32 >>> ((8 : Int32) &&& 31).toUInt32).toInt32) &&& (255 : Int32)).toUInt32.toUInt16.toUInt32.toInt32)))] (.int (0 : Int32)) := Arv.set Ar115 qk115 Sz115 Nn115 Hs115 Gs115 (fits_nar_char _) W115 1 rfl (Nat.le_of_ble_eq_true rfl)
        have N115 := Fr.snoc X115 N114 (Nat.le_trans Z0 (Nat.le_trans E112.1 (Nat.le_of_eq g113.symm)))
        refine Goes.step (S' := T115.setTop (mkF m 73 #[.val (.int p0), .val (.int p1), .val (.int ((p0 &&& (255 : Int32)).toUInt32.toUInt16.toUInt32.toInt32)), .val (.int ((((p0.toUInt32 >>> ((8 : Int32) &&& 31).toUInt32).toInt32) &&& (255 : Int32)).toUInt32.toUInt16.toUInt32.toInt32)), .val (.int ((((p0.toUInt32 >>> ((16 : Int32) &&& 31).toUInt32).toInt32) &&& (255 : Int32)).toUInt32.toUInt16.toUInt32.toInt32))] [(.ref b113), (.ref b112), (.ref b112)])) (fun t k => st115 _ k) ?_
        obtain ⟨_, _, ⟨T116, L116, k116, n116⟩, -, X116, ⟨Lc116, hQ116, l116, y116, z116⟩, st116⟩ := X115.specialBack hx (y := mth4) rfl hown (mvT hZ tw8) (mvT hZ tw9) (mvT hZ tw10) (by decide) (backOf (W := 1) (sic2 l Z a0 hw [] b112 b113 k113 cs (nar .char ((p0 &&& (255 : Int32)).toUInt32.toUInt16.toUInt32.toInt32)) (nar .char ((((p0.toUInt32 >>> ((8 : Int32) &&& 31).toUInt32).toInt32) &&& (255 : Int32)).toUInt32.toUInt16.toUInt32.toInt32)) h115 n0 (Nat.le_trans Z0 (Nat.le_trans (Nat.le_trans (Nat.le_trans E112.1 E113.1) (Nat.le_of_eq W114.size.symm)) (Nat.le_of_eq W115.size.symm))) (Exa.wr W115 (Exa.wr W114 (Exa.ext E113 A112))) (Fld.other W115 (Fld.other W114 (Fld.ext E113 F112_value) (Or.inl (Nat.ne_of_lt (Nat.lt_of_lt_of_le A112.lt (Nat.le_of_eq g113.symm))))) (Or.inl (Nat.ne_of_lt (Nat.lt_of_lt_of_le A112.lt (Nat.le_of_eq g113.symm))))) (Fld.other W115 (Fld.other W114 (Fld.ext E113 F112_coder) (Or.inl (Nat.ne_of_lt (Nat.lt_of_lt_of_le A112.lt (Nat.le_of_eq g113.symm))))) (Or.inl (Nat.ne_of_lt (Nat.lt_of_lt_of_le A112.lt (Nat.le_of_eq g113.symm))))) (Nat.le_trans Z0 (Nat.le_of_eq g112.symm)) (Sta.wr W115 (Sta.wr W114 (Sta.ext E113 (Sta.ext E112 SC)))) (PC : ¬ (cs = (0 : Int32))) V115 (own_nc _) (own_nc _)) hZ tw10 tw6 (by decide) (by decide)) (g := (mkF m 73 #[.val (.int p0), .val (.int p1), .val (.int ((p0 &&& (255 : Int32)).toUInt32.toUInt16.toUInt32.toInt32)), .val (.int ((((p0.toUInt32 >>> ((8 : Int32) &&& 31).toUInt32).toInt32) &&& (255 : Int32)).toUInt32.toUInt16.toUInt32.toInt32)), .val (.int ((((p0.toUInt32 >>> ((16 : Int32) &&& 31).toUInt32).toInt32) &&& (255 : Int32)).toUInt32.toUInt16.toUInt32.toInt32))] [(.ref b113), (.ref b112), (.ref b112)])) rfl (by rw [hml]; rfl) (Steps.refl _) (a := b112) (argsL := [(.ref b113)]) (rest := [(.ref b112)]) (lenOf pd_C_V rfl) rfl (Nat.le_of_eq rfl) (hb hby d_method_3_code_73) (fun _ _ => ⟨rfl, e115, (by decide : 2 + 1 ≤ _), (by decide : 6 + 2 ≤ _)⟩)
        dsimp only [Pt.U, Pt.locs, Pt.cells, Pt.slots] at X116 l116 y116 z116 st116 hQ116
        subst y116 z116
        obtain ⟨rfl, Nq116, q116_0⟩ := hQ116
        have N116 : Fr n0 L116 := by rw [l116]; exact Fr.app N115 Nq116
        refine Goes.step (S' := T116.setTop (mkF m 76 #[.val (.int p0), .val (.int p1), .val (.int ((p0 &&& (255 : Int32)).toUInt32.toUInt16.toUInt32.toInt32)), .val (.int ((((p0.toUInt32 >>> ((8 : Int32) &&& 31).toUInt32).toInt32) &&& (255 : Int32)).toUInt32.toUInt16.toUInt32.toInt32)), .val (.int ((((p0.toUInt32 >>> ((16 : Int32) &&& 31).toUInt32).toInt32) &&& (255 : Int32)).toUInt32.toUInt16.toUInt32.toInt32))] [(.ref b112)])) (fun t k => st116.trans k) ?_
        have CR117 := CR0.trans (CHr.ext E112 CR0.1)
        have Q117_b112 := Safe.ext E112 CR0.1 (Safe.new (Nat.le_of_eq g112.symm))
        have CR118 := CR117.trans (CHr.ext E113 CR117.1)
        have Q118_b112 := Safe.ext E113 CR117.1 Q117_b112
        have CR119 := CR118.trans (CHr.wr W114 (Safe.exa hZ.alike AE113 (by decide) (by decide)) CR118.1)
        have Q119_b112 := Safe.wr W114 (Safe.exa hZ.alike AE113 (by decide) (by decide)) CR118.1 Q118_b112
        have CR120 := CR119.trans (CHr.wr W115 (Safe.exa hZ.alike (Exa.wr W114 AE113) (by decide) (by decide)) CR119.1)
        have Q120_b112 := Safe.wr W115 (Safe.exa hZ.alike (Exa.wr W114 AE113) (by decide) (by decide)) CR119.1 Q119_b112
        have CR121 := CR120.trans (CHr.keep q116_0 (sfS Q120_b112 sf0) CR120.1)
        have Q121_b112 := Safe.keep q116_0 (sfS Q120_b112 sf0) CR120.1 Q120_b112
        refine Goes.leaveH (g := (mkF m 76 #[.val (.int p0), .val (.int p1), .val (.int ((p0 &&& (255 : Int32)).toUInt32.toUInt16.toUInt32.toInt32)), .val (.int ((((p0.toUInt32 >>> ((8 : Int32) &&& 31).toUInt32).toInt32) &&& (255 : Int32)).toUInt32.toUInt16.toUInt32.toInt32)), .val (.int ((((p0.toUInt32 >>> ((16 : Int32) &&& 31).toUInt32).toInt32) &&& (255 : Int32)).toUInt32.toUInt16.toUInt32.toInt32))] [(.ref b112)])) (own_ew hw) hZ hh CR121 X116 hS0 (Nat.le_trans (Nat.le_refl _) (Nat.le_trans (Nat.le_trans (Nat.le_trans (Nat.le_trans E112.1 E113.1) (Nat.le_of_eq W114.size.symm)) (Nat.le_of_eq W115.size.symm)) q116_0.1)) Bd.notSynchronized (v := (some (.ref b112))) (fun h => by rw [Bd.returns] at h; cases h) (fun fs hr => by jvm_step X116.here [X116.here.top, hx, (hb hby d_method_3_code_76), X116.method', Bd.returns, Value.isRef, FieldType.isReference]; (first | (intro acts; rw [hr _ acts rfl rfl rfl]) | rw [hr _ _ rfl rfl rfl]); exact Steps.refl _) rfl ?_ (by decide) (by decide)
        exact ⟨b112, rfl, N116, ((((((Keep.refl _ []).ext E112).ext E113).wr W114 (Or.inr (Nat.le_trans E112.1 (Nat.le_of_eq g113.symm)))).wr W115 (Or.inr (Nat.le_trans E112.1 (Nat.le_of_eq g113.symm)))).trans q116_0 (allS (Or.inr (Nat.le_of_eq g112.symm)) all0)), (Nat.le_of_eq g112.symm), ((Exa.wr W115 (Exa.wr W114 (Exa.ext E113 A112))).keep q116_0)⟩
      case neg =>
        refine Goes.step (S' := s₁.setTop (mkF m 77 #[.val (.int p0), .val (.int p1), .val (.int ((p0 &&& (255 : Int32)).toUInt32.toUInt16.toUInt32.toInt32)), .val (.int ((((p0.toUInt32 >>> ((8 : Int32) &&& 31).toUInt32).toInt32) &&& (255 : Int32)).toUInt32.toUInt16.toUInt32.toInt32)), .val (.int ((((p0.toUInt32 >>> ((16 : Int32) &&& 31).toUInt32).toInt32) &&& (255 : Int32)).toUInt32.toUInt16.toUInt32.toInt32))] [])) (fun t k => XS.icmpYes X0.here hx rfl (pc0 := 55) (pc' := 77) rfl (hb hby d_method_3_code_55) rfl (feq hc111).2 (by decide) (by decide) k) ?_
        obtain ⟨T122, h122, X122, e122, E122, A122, D122, U122, st122⟩ := newO X0 hx hZ hown tw4 tw5 tw6 eh0 (g := (mkF m 77 #[.val (.int p0), .val (.int p1), .val (.int ((p0 &&& (255 : Int32)).toUInt32.toUInt16.toUInt32.toInt32)), .val (.int ((((p0.toUInt32 >>> ((8 : Int32) &&& 31).toUInt32).toInt32) &&& (255 : Int32)).toUInt32.toUInt16.toUInt32.toInt32)), .val (.int ((((p0.toUInt32 >>> ((16 : Int32) &&& 31).toUInt32).toInt32) &&& (255 : Int32)).toUInt32.toUInt16.toUInt32.toInt32))] [])) rfl (hb hby d_method_3_code_77) (by decide) (by decide)
        obtain ⟨b122, g122⟩ : ∃ z, z = h0.size := ⟨_, rfl⟩
        rw [← g122] at A122 D122 U122 st122
        have F122_coder : Fld Z h122 b122 "java/lang/String" "coder" "B" (.int (0 : Int32)) := D122 (Or.inr tw31) (ty := .byte) (by decide)
        have F122_value : Fld Z h122 b122 "java/lang/String" "value" "[B" .null := D122 (Or.inr tw33) (ty := (.array .byte)) (by decide)
        refine Goes.step (S' := T122.setTop (mkF m 82 #[.val (.int p0), .val (.int p1), .val (.int ((p0 &&& (255 : Int32)).toUInt32.toUInt16.toUInt32.toInt32)), .val (.int ((((p0.toUInt32 >>> ((8 : Int32) &&& 31).toUInt32).toInt32) &&& (255 : Int32)).toUInt32.toUInt16.toUInt32.toInt32)), .val (.int ((((p0.toUInt32 >>> ((16 : Int32) &&& 31).toUInt32).toInt32) &&& (255 : Int32)).toUInt32.toUInt16.toUInt32.toInt32))] [(.int (3 : Int32)), (.ref b122), (.ref b122)])) (fun t k => st122 _ (XS.dup X122.here hx rfl (hb hby d_method_3_code_80) rfl rfl (XS.iconst X122.here hx rfl (hb hby d_method_3_code_81) k))) ?_
        obtain ⟨T123, h123, k123, X123, e123, E123, A123, AE123, st123⟩ := newPE (aty := .char) X122 hx hZ tw7 e122 (g := (mkF m 82 #[.val (.int p0), .val (.int p1), .val (.int ((p0 &&& (255 : Int32)).toUInt32.toUInt16.toUInt32.toInt32)), .val (.int ((((p0.toUInt32 >>> ((8 : Int32) &&& 31).toUInt32).toInt32) &&& (255 : Int32)).toUInt32.toUInt16.toUInt32.toInt32)), .val (.int ((((p0.toUInt32 >>> ((16 : Int32) &&& 31).toUInt32).toInt32) &&& (255 : Int32)).toUInt32.toUInt16.toUInt32.toInt32))] [(.int (3 : Int32)), (.ref b122), (.ref b122)])) rfl (hb hby d_method_3_code_82) rfl (by decide) (cap := 3) (by decide) (by decide) (by decide) (by decide) (ad := "[C") rfl
        obtain ⟨b123, g123⟩ : ∃ z, z = h122.size := ⟨_, rfl⟩
        rw [← g123] at A123 AE123 st123
        have V123 : Arv Z h123 b123 k123 .char (3 : Int32) [(.int (0 : Int32)), (.int (0 : Int32)), (.int (0 : Int32))] (.int (0 : Int32)) := (Arv.new A123 (by decide)).pad (pad_rep [] (.int (0 : Int32)) 3)
        refine Goes.step (S' := T123.setTop (mkF m 87 #[.val (.int p0), .val (.int p1), .val (.int ((p0 &&& (255 : Int32)).toUInt32.toUInt16.toUInt32.toInt32)), .val (.int ((((p0.toUInt32 >>> ((8 : Int32) &&& 31).toUInt32).toInt32) &&& (255 : Int32)).toUInt32.toUInt16.toUInt32.toInt32)), .val (.int ((((p0.toUInt32 >>> ((16 : Int32) &&& 31).toUInt32).toInt32) &&& (255 : Int32)).toUInt32.toUInt16.toUInt32.toInt32))] [(.int ((p0 &&& (255 : Int32)).toUInt32.toUInt16.toUInt32.toInt32)), (.int (0 : Int32)), (.ref b123), (.ref b123), (.ref b122), (.ref b122)])) (fun t k => st123 _ (XS.dup X123.here hx rfl (hb hby d_method_3_code_84) rfl rfl (XS.iconst X123.here hx rfl (hb hby d_method_3_code_85) (XS.iloadN X123.here hx rfl (hb hby d_method_3_code_86) rfl k)))) ?_
        obtain ⟨cl124, Ar124, qk124, Sz124, Nn124, Hs124, Gs124⟩ := id V123
        obtain ⟨T124, h124, X124, e124, W124, st124⟩ := stC X123 hx hZ e123 Ar124 (j := (0 : Int32)) (inb_of (j := (0 : Int32)) Sz124 ⟨by decide, by decide⟩) (g := (mkF m 87 #[.val (.int p0), .val (.int p1), .val (.int ((p0 &&& (255 : Int32)).toUInt32.toUInt16.toUInt32.toInt32)), .val (.int ((((p0.toUInt32 >>> ((8 : Int32) &&& 31).toUInt32).toInt32) &&& (255 : Int32)).toUInt32.toUInt16.toUInt32.toInt32)), .val (.int ((((p0.toUInt32 >>> ((16 : Int32) &&& 31).toUInt32).toInt32) &&& (255 : Int32)).toUInt32.toUInt16.toUInt32.toInt32))] [(.int ((p0 &&& (255 : Int32)).toUInt32.toUInt16.toUInt32.toInt32)), (.int (0 : Int32)), (.ref b123), (.ref b123), (.ref b122), (.ref b122)])) rfl rfl (hb hby d_method_3_code_87)
        have V124 : Arv Z h124 b123 k123 .char (3 : Int32) [(.int (nar .char ((p0 &&& (255 : Int32)).toUInt32.toUInt16.toUInt32.toInt32))), (.int (0 : Int32)), (.int (0 : Int32))] (.int (0 : Int32)) := Arv.set Ar124 qk124 Sz124 Nn124 Hs124 Gs124 (fits_nar_char _) W124 0 rfl (Nat.le_of_ble_eq_true rfl)
        have N124 := Fr.snoc X124 N0 (Nat.le_trans Z0 (Nat.le_trans E122.1 (Nat.le_of_eq g123.symm)))
        refine Goes.step (S' := T124.setTop (mkF m 91 #[.val (.int p0), .val (.int p1), .val (.int ((p0 &&& (255 : Int32)).toUInt32.toUInt16.toUInt32.toInt32)), .val (.int ((((p0.toUInt32 >>> ((8 : Int32) &&& 31).toUInt32).toInt32) &&& (255 : Int32)).toUInt32.toUInt16.toUInt32.toInt32)), .val (.int ((((p0.toUInt32 >>> ((16 : Int32) &&& 31).toUInt32).toInt32) &&& (255 : Int32)).toUInt32.toUInt16.toUInt32.toInt32))] [(.int ((((p0.toUInt32 >>> ((8 : Int32) &&& 31).toUInt32).toInt32) &&& (255 : Int32)).toUInt32.toUInt16.toUInt32.toInt32)), (.int (1 : Int32)), (.ref b123), (.ref b123), (.ref b122), (.ref b122)])) (fun t k => st124 _ (XS.dup X124.here hx rfl (hb hby d_method_3_code_88) rfl rfl (XS.iconst X124.here hx rfl (hb hby d_method_3_code_89) (XS.iloadN X124.here hx rfl (hb hby d_method_3_code_90) rfl k)))) ?_
        obtain ⟨cl125, Ar125, qk125, Sz125, Nn125, Hs125, Gs125⟩ := id V124
        obtain ⟨T125, h125, X125, e125, W125, st125⟩ := stC X124 hx hZ e124 Ar125 (j := (1 : Int32)) (inb_of (j := (1 : Int32)) Sz125 ⟨by decide, by decide⟩) (g := (mkF m 91 #[.val (.int p0), .val (.int p1), .val (.int ((p0 &&& (255 : Int32)).toUInt32.toUInt16.toUInt32.toInt32)), .val (.int ((((p0.toUInt32 >>> ((8 : Int32) &&& 31).toUInt32).toInt32) &&& (255 : Int32)).toUInt32.toUInt16.toUInt32.toInt32)), .val (.int ((((p0.toUInt32 >>> ((16 : Int32) &&& 31).toUInt32).toInt32) &&& (255 : Int32)).toUInt32.toUInt16.toUInt32.toInt32))] [(.int ((((p0.toUInt32 >>> ((8 : Int32) &&& 31).toUInt32).toInt32) &&& (255 : Int32)).toUInt32.toUInt16.toUInt32.toInt32)), (.int (1 : Int32)), (.ref b123), (.ref b123), (.ref b122), (.ref b122)])) rfl rfl (hb hby d_method_3_code_91)
        have V125 : Arv Z h125 b123 k123 .char (3 : Int32) [(.int (nar .char ((p0 &&& (255 : Int32)).toUInt32.toUInt16.toUInt32.toInt32))), (.int (nar .char ((((p0.toUInt32 >>> ((8 : Int32) &&& 31).toUInt32).toInt32) &&& (255 : Int32)).toUInt32.toUInt16.toUInt32.toInt32))), (.int (0 : Int32))] (.int (0 : Int32)) := Arv.set Ar125 qk125 Sz125 Nn125 Hs125 Gs125 (fits_nar_char _) W125 1 rfl (Nat.le_of_ble_eq_true rfl)
        have N125 := Fr.snoc X125 N124 (Nat.le_trans Z0 (Nat.le_trans E122.1 (Nat.le_of_eq g123.symm)))
        refine Goes.step (S' := T125.setTop (mkF m 96 #[.val (.int p0), .val (.int p1), .val (.int ((p0 &&& (255 : Int32)).toUInt32.toUInt16.toUInt32.toInt32)), .val (.int ((((p0.toUInt32 >>> ((8 : Int32) &&& 31).toUInt32).toInt32) &&& (255 : Int32)).toUInt32.toUInt16.toUInt32.toInt32)), .val (.int ((((p0.toUInt32 >>> ((16 : Int32) &&& 31).toUInt32).toInt32) &&& (255 : Int32)).toUInt32.toUInt16.toUInt32.toInt32))] [(.int ((((p0.toUInt32 >>> ((16 : Int32) &&& 31).toUInt32).toInt32) &&& (255 : Int32)).toUInt32.toUInt16.toUInt32.toInt32)), (.int (2 : Int32)), (.ref b123), (.ref b123), (.ref b122), (.ref b122)])) (fun t k => st125 _ (XS.dup X125.here hx rfl (hb hby d_method_3_code_92) rfl rfl (XS.iconst X125.here hx rfl (hb hby d_method_3_code_93) (XS.iload X125.here hx rfl (hb hby d_method_3_code_94) rfl k)))) ?_
        obtain ⟨cl126, Ar126, qk126, Sz126, Nn126, Hs126, Gs126⟩ := id V125
        obtain ⟨T126, h126, X126, e126, W126, st126⟩ := stC X125 hx hZ e125 Ar126 (j := (2 : Int32)) (inb_of (j := (2 : Int32)) Sz126 ⟨by decide, by decide⟩) (g := (mkF m 96 #[.val (.int p0), .val (.int p1), .val (.int ((p0 &&& (255 : Int32)).toUInt32.toUInt16.toUInt32.toInt32)), .val (.int ((((p0.toUInt32 >>> ((8 : Int32) &&& 31).toUInt32).toInt32) &&& (255 : Int32)).toUInt32.toUInt16.toUInt32.toInt32)), .val (.int ((((p0.toUInt32 >>> ((16 : Int32) &&& 31).toUInt32).toInt32) &&& (255 : Int32)).toUInt32.toUInt16.toUInt32.toInt32))] [(.int ((((p0.toUInt32 >>> ((16 : Int32) &&& 31).toUInt32).toInt32) &&& (255 : Int32)).toUInt32.toUInt16.toUInt32.toInt32)), (.int (2 : Int32)), (.ref b123), (.ref b123), (.ref b122), (.ref b122)])) rfl rfl (hb hby d_method_3_code_96)
        have V126 : Arv Z h126 b123 k123 .char (3 : Int32) [(.int (nar .char ((p0 &&& (255 : Int32)).toUInt32.toUInt16.toUInt32.toInt32))), (.int (nar .char ((((p0.toUInt32 >>> ((8 : Int32) &&& 31).toUInt32).toInt32) &&& (255 : Int32)).toUInt32.toUInt16.toUInt32.toInt32))), (.int (nar .char ((((p0.toUInt32 >>> ((16 : Int32) &&& 31).toUInt32).toInt32) &&& (255 : Int32)).toUInt32.toUInt16.toUInt32.toInt32)))] (.int (0 : Int32)) := Arv.set Ar126 qk126 Sz126 Nn126 Hs126 Gs126 (fits_nar_char _) W126 2 rfl (Nat.le_of_ble_eq_true rfl)
        have N126 := Fr.snoc X126 N125 (Nat.le_trans Z0 (Nat.le_trans E122.1 (Nat.le_of_eq g123.symm)))
        refine Goes.step (S' := T126.setTop (mkF m 97 #[.val (.int p0), .val (.int p1), .val (.int ((p0 &&& (255 : Int32)).toUInt32.toUInt16.toUInt32.toInt32)), .val (.int ((((p0.toUInt32 >>> ((8 : Int32) &&& 31).toUInt32).toInt32) &&& (255 : Int32)).toUInt32.toUInt16.toUInt32.toInt32)), .val (.int ((((p0.toUInt32 >>> ((16 : Int32) &&& 31).toUInt32).toInt32) &&& (255 : Int32)).toUInt32.toUInt16.toUInt32.toInt32))] [(.ref b123), (.ref b122), (.ref b122)])) (fun t k => st126 _ k) ?_
        obtain ⟨_, _, ⟨T127, L127, k127, n127⟩, -, X127, ⟨Lc127, hQ127, l127, y127, z127⟩, st127⟩ := X126.specialBack hx (y := mth4) rfl hown (mvT hZ tw8) (mvT hZ tw9) (mvT hZ tw10) (by decide) (backOf (W := 1) (sic3 l Z a0 hw [] b122 b123 k123 cs (nar .char ((p0 &&& (255 : Int32)).toUInt32.toUInt16.toUInt32.toInt32)) (nar .char ((((p0.toUInt32 >>> ((8 : Int32) &&& 31).toUInt32).toInt32) &&& (255 : Int32)).toUInt32.toUInt16.toUInt32.toInt32)) (nar .char ((((p0.toUInt32 >>> ((16 : Int32) &&& 31).toUInt32).toInt32) &&& (255 : Int32)).toUInt32.toUInt16.toUInt32.toInt32)) h126 n0 (Nat.le_trans Z0 (Nat.le_trans (Nat.le_trans (Nat.le_trans (Nat.le_trans E122.1 E123.1) (Nat.le_of_eq W124.size.symm)) (Nat.le_of_eq W125.size.symm)) (Nat.le_of_eq W126.size.symm))) (Exa.wr W126 (Exa.wr W125 (Exa.wr W124 (Exa.ext E123 A122)))) (Fld.other W126 (Fld.other W125 (Fld.other W124 (Fld.ext E123 F122_value) (Or.inl (Nat.ne_of_lt (Nat.lt_of_lt_of_le A122.lt (Nat.le_of_eq g123.symm))))) (Or.inl (Nat.ne_of_lt (Nat.lt_of_lt_of_le A122.lt (Nat.le_of_eq g123.symm))))) (Or.inl (Nat.ne_of_lt (Nat.lt_of_lt_of_le A122.lt (Nat.le_of_eq g123.symm))))) (Fld.other W126 (Fld.other W125 (Fld.other W124 (Fld.ext E123 F122_coder) (Or.inl (Nat.ne_of_lt (Nat.lt_of_lt_of_le A122.lt (Nat.le_of_eq g123.symm))))) (Or.inl (Nat.ne_of_lt (Nat.lt_of_lt_of_le A122.lt (Nat.le_of_eq g123.symm))))) (Or.inl (Nat.ne_of_lt (Nat.lt_of_lt_of_le A122.lt (Nat.le_of_eq g123.symm))))) (Nat.le_trans Z0 (Nat.le_of_eq g122.symm)) (Sta.wr W126 (Sta.wr W125 (Sta.wr W124 (Sta.ext E123 (Sta.ext E122 SC))))) (PC : ¬ (cs = (0 : Int32))) V126 (own_nc _) (own_nc _) (own_nc _)) hZ tw10 tw6 (by decide) (by decide)) (g := (mkF m 97 #[.val (.int p0), .val (.int p1), .val (.int ((p0 &&& (255 : Int32)).toUInt32.toUInt16.toUInt32.toInt32)), .val (.int ((((p0.toUInt32 >>> ((8 : Int32) &&& 31).toUInt32).toInt32) &&& (255 : Int32)).toUInt32.toUInt16.toUInt32.toInt32)), .val (.int ((((p0.toUInt32 >>> ((16 : Int32) &&& 31).toUInt32).toInt32) &&& (255 : Int32)).toUInt32.toUInt16.toUInt32.toInt32))] [(.ref b123), (.ref b122), (.ref b122)])) rfl (by rw [hml]; rfl) (Steps.refl _) (a := b122) (argsL := [(.ref b123)]) (rest := [(.ref b122)]) (lenOf pd_C_V rfl) rfl (Nat.le_of_eq rfl) (hb hby d_method_3_code_97) (fun _ _ => ⟨rfl, e126, (by decide : 2 + 1 ≤ _), (by decide : 7 + 3 ≤ _)⟩)
        dsimp only [Pt.U, Pt.locs, Pt.cells, Pt.slots] at X127 l127 y127 z127 st127 hQ127
        subst y127 z127
        obtain ⟨rfl, Nq127, q127_0⟩ := hQ127
        have N127 : Fr n0 L127 := by rw [l127]; exact Fr.app N126 Nq127
        refine Goes.step (S' := T127.setTop (mkF m 100 #[.val (.int p0), .val (.int p1), .val (.int ((p0 &&& (255 : Int32)).toUInt32.toUInt16.toUInt32.toInt32)), .val (.int ((((p0.toUInt32 >>> ((8 : Int32) &&& 31).toUInt32).toInt32) &&& (255 : Int32)).toUInt32.toUInt16.toUInt32.toInt32)), .val (.int ((((p0.toUInt32 >>> ((16 : Int32) &&& 31).toUInt32).toInt32) &&& (255 : Int32)).toUInt32.toUInt16.toUInt32.toInt32))] [(.ref b122)])) (fun t k => st127.trans k) ?_
        have CR128 := CR0.trans (CHr.ext E122 CR0.1)
        have Q128_b122 := Safe.ext E122 CR0.1 (Safe.new (Nat.le_of_eq g122.symm))
        have CR129 := CR128.trans (CHr.ext E123 CR128.1)
        have Q129_b122 := Safe.ext E123 CR128.1 Q128_b122
        have CR130 := CR129.trans (CHr.wr W124 (Safe.exa hZ.alike AE123 (by decide) (by decide)) CR129.1)
        have Q130_b122 := Safe.wr W124 (Safe.exa hZ.alike AE123 (by decide) (by decide)) CR129.1 Q129_b122
        have CR131 := CR130.trans (CHr.wr W125 (Safe.exa hZ.alike (Exa.wr W124 AE123) (by decide) (by decide)) CR130.1)
        have Q131_b122 := Safe.wr W125 (Safe.exa hZ.alike (Exa.wr W124 AE123) (by decide) (by decide)) CR130.1 Q130_b122
        have CR132 := CR131.trans (CHr.wr W126 (Safe.exa hZ.alike (Exa.wr W125 (Exa.wr W124 AE123)) (by decide) (by decide)) CR131.1)
        have Q132_b122 := Safe.wr W126 (Safe.exa hZ.alike (Exa.wr W125 (Exa.wr W124 AE123)) (by decide) (by decide)) CR131.1 Q131_b122
        have CR133 := CR132.trans (CHr.keep q127_0 (sfS Q132_b122 sf0) CR132.1)
        have Q133_b122 := Safe.keep q127_0 (sfS Q132_b122 sf0) CR132.1 Q132_b122
        refine Goes.leaveH (g := (mkF m 100 #[.val (.int p0), .val (.int p1), .val (.int ((p0 &&& (255 : Int32)).toUInt32.toUInt16.toUInt32.toInt32)), .val (.int ((((p0.toUInt32 >>> ((8 : Int32) &&& 31).toUInt32).toInt32) &&& (255 : Int32)).toUInt32.toUInt16.toUInt32.toInt32)), .val (.int ((((p0.toUInt32 >>> ((16 : Int32) &&& 31).toUInt32).toInt32) &&& (255 : Int32)).toUInt32.toUInt16.toUInt32.toInt32))] [(.ref b122)])) (own_ew hw) hZ hh CR133 X127 hS0 (Nat.le_trans (Nat.le_refl _) (Nat.le_trans (Nat.le_trans (Nat.le_trans (Nat.le_trans (Nat.le_trans E122.1 E123.1) (Nat.le_of_eq W124.size.symm)) (Nat.le_of_eq W125.size.symm)) (Nat.le_of_eq W126.size.symm)) q127_0.1)) Bd.notSynchronized (v := (some (.ref b122))) (fun h => by rw [Bd.returns] at h; cases h) (fun fs hr => by jvm_step X127.here [X127.here.top, hx, (hb hby d_method_3_code_100), X127.method', Bd.returns, Value.isRef, FieldType.isReference]; (first | (intro acts; rw [hr _ acts rfl rfl rfl]) | rw [hr _ _ rfl rfl rfl]); exact Steps.refl _) rfl ?_ (by decide) (by decide)
        exact ⟨b122, rfl, N127, (((((((Keep.refl _ []).ext E122).ext E123).wr W124 (Or.inr (Nat.le_trans E122.1 (Nat.le_of_eq g123.symm)))).wr W125 (Or.inr (Nat.le_trans E122.1 (Nat.le_of_eq g123.symm)))).wr W126 (Or.inr (Nat.le_trans E122.1 (Nat.le_of_eq g123.symm)))).trans q127_0 (allS (Or.inr (Nat.le_of_eq g122.symm)) all0)), (Nat.le_of_eq g122.symm), ((Exa.wr W126 (Exa.wr W125 (Exa.wr W124 (Exa.ext E123 A122)))).keep q127_0)⟩

theorem ef_pin (m : MethodId) (x0 : Addr) : entryFrame m #[(.ref x0)] 1 = mkF m 0 #[.val (.ref x0)] [] := by first | (simp [entryFrame, mkF, argsToLocals, Value.category]; done) | rfl
def Q_pin (Z : State) (a1 : Addr) (h0 : Heap) (n0 : Nat) (v : Option Value) (h : Heap) (L : List Loc) : Prop := v = none ∧ Fr n0 L ∧ h = h0
set_option maxRecDepth 65536 in
set_option maxHeartbeats 40000000 in
theorem pin (l : Launch) (Z : State) (a0 : Array Value) (hw : ∀ d ∈ tables_1, d.before a0 Z = true) (ws : List Jvm.Cond) (a1 : Addr) (h0 : Heap) (n0 : Nat) (Z0 : n0 ≤ h0.size) :
    MetFree l mth10 (head1 (Jvm.Cond.code mth10 prog_8_method_1_code 1 none :: ws) rom10) (fun a U => a = #[(.ref a1)] ∧ Z.Warmed39 U.vm ∧ U.heap = h0) (fun _ _ _ _ _ => True) (fun _ U o U' => ∃ v L, o = .returned v ∧ Q_pin Z a1 h0 n0 v U'.heap L ∧ FrameEnd U o U' L rom10.cells rom10.slots) := by
  refine MetFree.of_bodySF (plainFor_of_name pnm4) hisR ?_
  intro p e s m args below meth c s₁ Bd hml0 hP hK
  obtain ⟨rfl, hZ, hh⟩ := hP
  have hx := Bd.exec
  have hby := Bd.bytes
  have hml : c.maxLocals = 1 := hml0
  have hown : s.vm.findClass "com/example/uraniborg/uraniborg/model/JobSpec$Parts" = some m.cls := findClass_of_methodNamed Bd.named
  have hnm := (name_of_methodNamed Bd.named Bd.method).1
  have X0 : Stand p l e rom10 s m #[(.ref a1)] below meth c s₁ [] 0 0 := Stand.of_body Bd
  have eh0 : s₁.heap = h0 := by rw [← hh, Bd.state]; rfl
  have N0 := Fr.nil n0
  have tw16 := hw _ (List.mem_of_getElem? (i := 16) rfl)
  have tw17 := hw _ (List.mem_of_getElem? (i := 17) rfl)
  have tw47 := hw _ (List.mem_of_getElem? (i := 47) rfl)
  show Goes p e below (Pq (Q_pin Z a1 h0 n0) s rom10.cells rom10.slots) (s₁.setTop (entryFrame m #[(.ref a1)] 1))
  refine Goes.step (S' := s₁.setTop (mkF m 0 #[.val (.ref a1)] [])) (fun t k => castTop (ef_pin m a1) k) ?_
  refine Goes.step (S' := s₁.setTop (mkF m 1 #[.val (.ref a1)] [(.ref a1)])) (fun t k => XS.aloadN X0.here hx rfl (hb hby d_prog_8_method_1_code_0) rfl rfl k) ?_
  obtain ⟨T101, X101, e101, st101⟩ := initO X0 hx hZ hown tw47 tw16 tw17 eh0 (g := (mkF m 1 #[.val (.ref a1)] [(.ref a1)])) rfl (by rw [hml]; rfl) rfl (hb hby d_prog_8_method_1_code_1) (by decide) (W := 0) (Nat.le_of_eq rfl) (by decide)
  refine Goes.step (S' := T101.setTop (mkF m 4 #[.val (.ref a1)] [])) (fun t k => st101 _ k) ?_
  refine Goes.leave (g := (mkF m 4 #[.val (.ref a1)] [])) X101 Bd.notSynchronized (v := none) (fun _ => rfl) (fun fs hr => X101.returnOut hx Bd.returns (hb hby d_prog_8_method_1_code_4) hr) e101 ?_ (by decide) (by decide)
  exact ⟨rfl, N0, rfl⟩

theorem ef_jin (m : MethodId) (x0 : Addr) (x1 : Addr) : entryFrame m #[(.ref x0), (.ref x1)] 2 = mkF m 0 #[.val (.ref x0), .val (.ref x1)] [] := by first | (simp [entryFrame, mkF, argsToLocals, Value.category]; done) | rfl
def Q_jin (Z : State) (a1 : Addr) (a2 : Addr) (h0 : Heap) (n0 : Nat) (v : Option Value) (h : Heap) (L : List Loc) : Prop := v = none ∧ Fr n0 L ∧ Keep h0 h [a1] ∧ Fld Z h a1 "com/example/uraniborg/uraniborg/model/JobSpec" "parts" "Lcom/example/uraniborg/uraniborg/model/JobSpec$Parts;" (.ref a2)
set_option maxRecDepth 65536 in
set_option maxHeartbeats 40000000 in
theorem jin (l : Launch) (Z : State) (a0 : Array Value) (hw : ∀ d ∈ tables_1, d.before a0 Z = true) (ws : List Jvm.Cond) (a1 : Addr) (a2 : Addr) (h0 : Heap) (n0 : Nat) (Z0 : n0 ≤ h0.size) (E1 : Exa Z h0 a1 "com/example/uraniborg/uraniborg/model/JobSpec") (Fp : Fld Z h0 a1 "com/example/uraniborg/uraniborg/model/JobSpec" "parts" "Lcom/example/uraniborg/uraniborg/model/JobSpec$Parts;" .null) (G1 : n0 ≤ a1) (E2 : Exa Z h0 a2 "com/example/uraniborg/uraniborg/model/JobSpec$Parts") :
    MetFree l mth11 (head1 (Jvm.Cond.code mth11 prog_7_method_1_code 2 none :: ws) rom10) (fun a U => a = #[(.ref a1), (.ref a2)] ∧ Z.Warmed39 U.vm ∧ U.heap = h0) (fun _ _ _ _ _ => True) (fun _ U o U' => ∃ v L, o = .returned v ∧ Q_jin Z a1 a2 h0 n0 v U'.heap L ∧ FrameEnd U o U' L rom10.cells rom10.slots) := by
  refine MetFree.of_bodySF (plainFor_of_name pnm5) hisR ?_
  intro p e s m args below meth c s₁ Bd hml0 hP hK
  obtain ⟨rfl, hZ, hh⟩ := hP
  have hx := Bd.exec
  have hby := Bd.bytes
  have hml : c.maxLocals = 2 := hml0
  have hown : s.vm.findClass "com/example/uraniborg/uraniborg/model/JobSpec" = some m.cls := findClass_of_methodNamed Bd.named
  have hnm := (name_of_methodNamed Bd.named Bd.method).1
  have X0 : Stand p l e rom10 s m #[(.ref a1), (.ref a2)] below meth c s₁ [] 0 0 := Stand.of_body Bd
  have eh0 : s₁.heap = h0 := by rw [← hh, Bd.state]; rfl
  have N0 := Fr.nil n0
  have tw16 := hw _ (List.mem_of_getElem? (i := 16) rfl)
  have tw17 := hw _ (List.mem_of_getElem? (i := 17) rfl)
  have tw68 := hw _ (List.mem_of_getElem? (i := 68) rfl)
  have tw72 := hw _ (List.mem_of_getElem? (i := 72) rfl)
  have tw73 := hw _ (List.mem_of_getElem? (i := 73) rfl)
  have tw74 := hw _ (List.mem_of_getElem? (i := 74) rfl)
  show Goes p e below (Pq (Q_jin Z a1 a2 h0 n0) s rom10.cells rom10.slots) (s₁.setTop (entryFrame m #[(.ref a1), (.ref a2)] 2))
  refine Goes.step (S' := s₁.setTop (mkF m 0 #[.val (.ref a1), .val (.ref a2)] [])) (fun t k => castTop (ef_jin m a1 a2) k) ?_
  refine Goes.step (S' := s₁.setTop (mkF m 1 #[.val (.ref a1), .val (.ref a2)] [(.ref a1)])) (fun t k => XS.aloadN X0.here hx rfl (hb hby d_prog_7_method_1_code_0) rfl rfl k) ?_
  obtain ⟨T101, X101, e101, st101⟩ := initO X0 hx hZ hown tw72 tw16 tw17 eh0 (g := (mkF m 1 #[.val (.ref a1), .val (.ref a2)] [(.ref a1)])) rfl (by rw [hml]; rfl) rfl (hb hby d_prog_7_method_1_code_1) (by decide) (W := 0) (Nat.le_of_eq rfl) (by decide)
  refine Goes.step (S' := T101.setTop (mkF m 6 #[.val (.ref a1), .val (.ref a2)] [(.ref a2), (.ref a1)])) (fun t k => st101 _ (XS.aloadN X101.here hx rfl (hb hby d_prog_7_method_1_code_4) rfl rfl (XS.aloadN X101.here hx rfl (hb hby d_prog_7_method_1_code_5) rfl rfl k))) ?_
  obtain ⟨T102, h102, X102, e102, W102, st102⟩ := putF X101 hx hZ hown (host := "") (Or.inl tw73) Via.refl e101 Fp E1 (Or.inr ⟨tw74, rfl, hnm⟩) tw68 (ty := (.object "com/example/uraniborg/uraniborg/model/JobSpec$Parts")) (by decide) rfl rfl (g := (mkF m 6 #[.val (.ref a1), .val (.ref a2)] [(.ref a2), (.ref a1)])) rfl rfl (hb hby d_prog_7_method_1_code_6)
  have Fw102 : Fld Z h102 a1 "com/example/uraniborg/uraniborg/model/JobSpec" "parts" "Lcom/example/uraniborg/uraniborg/model/JobSpec$Parts;" (.ref a2) := Fld.same W102 Fp
  have N102 := Fr.snoc X102 N0 G1
  refine Goes.step (S' := T102.setTop (mkF m 9 #[.val (.ref a1), .val (.ref a2)] [])) (fun t k => st102 _ k) ?_
  refine Goes.leave (g := (mkF m 9 #[.val (.ref a1), .val (.ref a2)] [])) X102 Bd.notSynchronized (v := none) (fun _ => rfl) (fun fs hr => X102.returnOut hx Bd.returns (hb hby d_prog_7_method_1_code_9) hr) e102 ?_ (by decide) (by decide)
  exact ⟨rfl, N102, ((Keep.refl _ [a1]).wr W102 (Or.inl (List.mem_of_getElem? (i := 0) rfl))), Fw102⟩

theorem ef_rnn (m : MethodId) (x0 : Addr) (x1 : Addr) : entryFrame m #[(.ref x0), (.ref x1)] 2 = mkF m 0 #[.val (.ref x0), .val (.ref x1)] [] := by first | (simp [entryFrame, mkF, argsToLocals, Value.category]; done) | rfl
def Q_rnn (Z : State) (a1 : Addr) (a2 : Addr) (h0 : Heap) (n0 : Nat) (v : Option Value) (h : Heap) (L : List Loc) : Prop := v = some (.ref a1) ∧ Fr n0 L ∧ h = h0
set_option maxRecDepth 65536 in
set_option maxHeartbeats 40000000 in
theorem rnn (l : Launch) (Z : State) (a0 : Array Value) (hw : ∀ d ∈ tables_1, d.before a0 Z = true) (ws : List Jvm.Cond) (a1 : Addr) (a2 : Addr) (h0 : Heap) (n0 : Nat) (Z0 : n0 ≤ h0.size) :
    MetFree l mth12 (head1 (Jvm.Cond.code mth12 jdk_31_method_11_code 2 (some (.object "java/lang/Object")) :: ws) rom0) (fun a U => a = #[(.ref a1), (.ref a2)] ∧ Z.Warmed39 U.vm ∧ U.heap = h0) (fun _ _ _ _ _ => True) (fun _ U o U' => ∃ v L, o = .returned v ∧ Q_rnn Z a1 a2 h0 n0 v U'.heap L ∧ FrameEnd U o U' L rom0.cells rom0.slots) := by
  refine MetFree.of_bodySF (plainFor_of_name pnm6) hisR ?_
  intro p e s m args below meth c s₁ Bd hml0 hP hK
  obtain ⟨rfl, hZ, hh⟩ := hP
  have hx := Bd.exec
  have hby := Bd.bytes
  have hml : c.maxLocals = 2 := hml0
  have hown : s.vm.findClass "java/util/Objects" = some m.cls := findClass_of_methodNamed Bd.named
  have hnm := (name_of_methodNamed Bd.named Bd.method).1
  have X0 : Stand p l e rom0 s m #[(.ref a1), (.ref a2)] below meth c s₁ [] 0 0 := Stand.of_body Bd
  have eh0 : s₁.heap = h0 := by rw [← hh, Bd.state]; rfl
  have N0 := Fr.nil n0
  show Goes p e below (Pq (Q_rnn Z a1 a2 h0 n0) s rom0.cells rom0.slots) (s₁.setTop (entryFrame m #[(.ref a1), (.ref a2)] 2))
  refine Goes.step (S' := s₁.setTop (mkF m 0 #[.val (.ref a1), .val (.ref a2)] [])) (fun t k => castTop (ef_rnn m a1 a2) k) ?_
  refine Goes.step (S' := s₁.setTop (mkF m 14 #[.val (.ref a1), .val (.ref a2)] [(.ref a1)])) (fun t k => XS.aloadN X0.here hx rfl (hb hby d_jdk_31_method_11_code_0) rfl rfl (XS.ifnonnullYes X0.here hx rfl (pc0 := 1) (pc' := 13) rfl (hb hby d_jdk_31_method_11_code_1) rfl (by decide) (by decide) (XS.aloadN X0.here hx rfl (hb hby d_jdk_31_method_11_code_13) rfl rfl k))) ?_
  refine Goes.leave (g := (mkF m 14 #[.val (.ref a1), .val (.ref a2)] [(.ref a1)])) X0 Bd.notSynchronized (v := (some (.ref a1))) (fun h => by rw [Bd.returns] at h; cases h) (fun fs hr => by jvm_step X0.here [X0.here.top, hx, (hb hby d_jdk_31_method_11_code_14), X0.method', Bd.returns, Value.isRef, FieldType.isReference]; (first | (intro acts; rw [hr _ acts rfl rfl rfl]) | rw [hr _ _ rfl rfl rfl]); exact Steps.refl _) eh0 ?_ (by decide) (by decide)
  exact ⟨rfl, N0, rfl⟩

theorem ef_oof (m : MethodId) (x0 : Addr) (x1 : Addr) : entryFrame m #[(.ref x0), (.ref x1)] 3 = mkF m 0 #[.val (.ref x0), .val (.ref x1), .unset] [] := by first | (simp [entryFrame, mkF, argsToLocals, Value.category]; done) | rfl
def Q_oof (Z : State) (k1 : Addr) (k2 : Addr) (w_DEFAULT : Addr) (h0 : Heap) (n0 : Nat) (v : Option Value) (h : Heap) (L : List Loc) : Prop := ∃ (b : Addr) (pt : Addr) (em : Addr) (ev : Addr) (kv : ClassId), v = some (.ref b) ∧ Fr n0 L ∧ Keep h0 h [] ∧ Exa Z h b "com/example/uraniborg/uraniborg/model/JobSpec" ∧ Fld Z h b "com/example/uraniborg/uraniborg/model/JobSpec" "parts" "Lcom/example/uraniborg/uraniborg/model/JobSpec$Parts;" (.ref pt) ∧ Fld Z h pt "com/example/uraniborg/uraniborg/model/JobSpec$Parts" "key" "Ljava/lang/String;" (.ref k1) ∧ Fld Z h pt "com/example/uraniborg/uraniborg/model/JobSpec$Parts" "handler" "Ljava/lang/String;" (.ref k2) ∧ Fld Z h pt "com/example/uraniborg/uraniborg/model/JobSpec$Parts" "payload" "Ljava/lang/String;" (.ref em) ∧ Fld Z h pt "com/example/uraniborg/uraniborg/model/JobSpec$Parts" "retryPolicy" "Lcom/example/uraniborg/uraniborg/model/RetryPolicy;" (.ref w_DEFAULT) ∧ Fld Z h pt "com/example/uraniborg/uraniborg/model/JobSpec$Parts" "priority" "J" (.long (0 : Int64)) ∧ Exa Z h em "java/lang/String" ∧ Fld Z h em "java/lang/String" "value" "[B" (.ref ev) ∧ Arv Z h ev kv .byte (0 : Int32) [] (.int (0 : Int32))
set_option maxRecDepth 65536 in
set_option maxHeartbeats 40000000 in
theorem oof (l : Launch) (Z : State) (a0 : Array Value) (hw : ∀ d ∈ tables_1, d.before a0 Z = true) (ws : List Jvm.Cond) (k1 : Addr) (k2 : Addr) (w_DEFAULT : Addr) (h0 : Heap) (n0 : Nat) (Z0 : n0 ≤ h0.size) (Ek : Exa Z h0 k1 "java/lang/String") (Eh : Exa Z h0 k2 "java/lang/String") (S_DEFAULT : Sta Z h0 "com/example/uraniborg/uraniborg/model/RetryPolicy" "DEFAULT" "Lcom/example/uraniborg/uraniborg/model/RetryPolicy;" (.ref w_DEFAULT)) (E_DEFAULT : Exa Z h0 w_DEFAULT "com/example/uraniborg/uraniborg/model/RetryPolicy") :
    MetFree l mth13 (head1 (Jvm.Cond.code mth13 prog_7_method_2_code 3 (some (.object "com/example/uraniborg/uraniborg/model/JobSpec")) :: ws) rom13) (fun a U => a = #[(.ref k1), (.ref k2)] ∧ Z.Warmed39 U.vm ∧ U.heap = h0 ∧ CHv Z own_EL U.vm h0) (fun _ _ _ _ _ => True) (fun _ U o U' => ∃ v L, o = .returned v ∧ Q_oof Z k1 k2 w_DEFAULT h0 n0 v U'.heap L ∧ CHr Z own_EL U.vm U.heap U'.vm U'.heap ∧ ReturnedEndW U o U' L rom13.cells rom13.slots) := by
  refine MetFree.of_bodySF (plainFor_of_name pnm5) hisR ?_
  intro p e s m args below meth c s₁ Bd hml0 hP hK
  obtain ⟨rfl, hZ, hh, hC⟩ := hP
  have hx := Bd.exec
  have hby := Bd.bytes
  have hml : c.maxLocals = 3 := hml0
  have hown : s.vm.findClass "com/example/uraniborg/uraniborg/model/JobSpec" = some m.cls := findClass_of_methodNamed Bd.named
  have hnm := (name_of_methodNamed Bd.named Bd.method).1
  have X0 : Stand p l e rom13 s m #[(.ref k1), (.ref k2)] below meth c s₁ [] 0 0 := Stand.of_body Bd
  replace X0 : Stand p l e rom13 (s.setVm s.vm) m #[(.ref k1), (.ref k2)] below meth c s₁ [] 0 0 := X0
  have hZ0 := hZ
  have hown0 := hown
  have hS0 := own_s0 s h0.size
  have CR0 : CHr Z own_EL s.vm h0 s.vm h0 := CHr.refl hC
  have eh0 : s₁.heap = h0 := by rw [← hh, Bd.state]; rfl
  have N0 := Fr.nil n0
  have tw39 := hw _ (List.mem_of_getElem? (i := 39) rfl)
  have tw41 := hw _ (List.mem_of_getElem? (i := 41) rfl)
  have tw42 := hw _ (List.mem_of_getElem? (i := 42) rfl)
  have tw43 := hw _ (List.mem_of_getElem? (i := 43) rfl)
  have tw44 := hw _ (List.mem_of_getElem? (i := 44) rfl)
  have tw45 := hw _ (List.mem_of_getElem? (i := 45) rfl)
  have tw46 := hw _ (List.mem_of_getElem? (i := 46) rfl)
  have tw48 := hw _ (List.mem_of_getElem? (i := 48) rfl)
  have tw49 := hw _ (List.mem_of_getElem? (i := 49) rfl)
  have tw50 := hw _ (List.mem_of_getElem? (i := 50) rfl)
  have tw51 := hw _ (List.mem_of_getElem? (i := 51) rfl)
  have tw52 := hw _ (List.mem_of_getElem? (i := 52) rfl)
  have tw53 := hw _ (List.mem_of_getElem? (i := 53) rfl)
  have tw54 := hw _ (List.mem_of_getElem? (i := 54) rfl)
  have tw55 := hw _ (List.mem_of_getElem? (i := 55) rfl)
  have tw56 := hw _ (List.mem_of_getElem? (i := 56) rfl)
  have tw57 := hw _ (List.mem_of_getElem? (i := 57) rfl)
  have tw58 := hw _ (List.mem_of_getElem? (i := 58) rfl)
  have tw59 := hw _ (List.mem_of_getElem? (i := 59) rfl)
  have tw60 := hw _ (List.mem_of_getElem? (i := 60) rfl)
  have tw61 := hw _ (List.mem_of_getElem? (i := 61) rfl)
  have tw62 := hw _ (List.mem_of_getElem? (i := 62) rfl)
  have tw65 := hw _ (List.mem_of_getElem? (i := 65) rfl)
  have tw66 := hw _ (List.mem_of_getElem? (i := 66) rfl)
  have tw67 := hw _ (List.mem_of_getElem? (i := 67) rfl)
  have tw68 := hw _ (List.mem_of_getElem? (i := 68) rfl)
  have tw69 := hw _ (List.mem_of_getElem? (i := 69) rfl)
  have tw70 := hw _ (List.mem_of_getElem? (i := 70) rfl)
  have tw71 := hw _ (List.mem_of_getElem? (i := 71) rfl)
  have tw74 := hw _ (List.mem_of_getElem? (i := 74) rfl)
  have tw106 := hw _ (List.mem_of_getElem? (i := 106) rfl)
  show Goes p e below (Ph Z own_EL (Q_oof Z k1 k2 w_DEFAULT h0 n0) s rom13.cells rom13.slots) (s₁.setTop (entryFrame m #[(.ref k1), (.ref k2)] 3))
  refine Goes.step (S' := s₁.setTop (mkF m 0 #[.val (.ref k1), .val (.ref k2), .unset] [])) (fun t k => castTop (ef_oof m k1 k2) k) ?_
  obtain ⟨T101, h101, X101, e101, E101, A101, D101, U101, st101⟩ := newO X0 hx hZ hown tw41 tw42 tw43 eh0 (g := (mkF m 0 #[.val (.ref k1), .val (.ref k2), .unset] [])) rfl (hb hby d_prog_7_method_2_code_0) (by decide) (by decide)
  obtain ⟨b101, g101⟩ : ∃ z, z = h0.size := ⟨_, rfl⟩
  rw [← g101] at A101 D101 U101 st101
  have F101_key : Fld Z h101 b101 "com/example/uraniborg/uraniborg/model/JobSpec$Parts" "key" "Ljava/lang/String;" .null := D101 (Or.inl tw55) (ty := (.object "java/lang/String")) (by decide)
  have F101_handler : Fld Z h101 b101 "com/example/uraniborg/uraniborg/model/JobSpec$Parts" "handler" "Ljava/lang/String;" .null := D101 (Or.inl tw58) (ty := (.object "java/lang/String")) (by decide)
  have F101_payload : Fld Z h101 b101 "com/example/uraniborg/uraniborg/model/JobSpec$Parts" "payload" "Ljava/lang/String;" .null := D101 (Or.inl tw61) (ty := (.object "java/lang/String")) (by decide)
  have F101_retryPolicy : Fld Z h101 b101 "com/example/uraniborg/uraniborg/model/JobSpec$Parts" "retryPolicy" "Lcom/example/uraniborg/uraniborg/model/RetryPolicy;" .null := D101 (Or.inl tw66) (ty := (.object "com/example/uraniborg/uraniborg/model/RetryPolicy")) (by decide)
  have F101_priority : Fld Z h101 b101 "com/example/uraniborg/uraniborg/model/JobSpec$Parts" "priority" "J" (.long (0 : Int64)) := D101 (Or.inl tw106) (ty := .long) (by decide)
  refine Goes.step (S' := T101.setTop (mkF m 4 #[.val (.ref k1), .val (.ref k2), .unset] [(.ref b101), (.ref b101)])) (fun t k => st101 _ (XS.dup X101.here hx rfl (hb hby d_prog_7_method_2_code_3) rfl rfl k)) ?_
  obtain ⟨_, _, ⟨T102, L102, k102, n102⟩, -, X102, ⟨Lc102, hQ102, l102, y102, z102⟩, st102⟩ := X101.specialBack hx (y := mth10) rfl hown (mvT hZ tw44) (mvT hZ tw45) (mvT hZ tw46) (by decide) (backOf (W := 1) (pin l Z a0 hw [] b101 h101 n0 (Nat.le_trans Z0 E101.1) ) hZ tw46 tw43 (by decide) (by decide)) (g := (mkF m 4 #[.val (.ref k1), .val (.ref k2), .unset] [(.ref b101), (.ref b101)])) rfl (by rw [hml]; rfl) (Steps.refl _) (a := b101) (argsL := []) (rest := [(.ref b101)]) (lenOf pd_V rfl) rfl (Nat.le_of_eq rfl) (hb hby d_prog_7_method_2_code_4) (fun _ _ => ⟨rfl, e101, (by decide : 1 + 0 ≤ _), (by decide : 14 + 0 ≤ _)⟩)
  dsimp only [Pt.U, Pt.locs, Pt.cells, Pt.slots] at X102 l102 y102 z102 st102 hQ102
  subst y102 z102
  obtain ⟨rfl, Nq102, q102_0⟩ := hQ102
  have N102 : Fr n0 L102 := by rw [l102]; exact Fr.app N0 Nq102
  refine Goes.step (S' := T102.setTop (mkF m 10 #[.val (.ref k1), .val (.ref k2), .val (.ref b101)] [(.ref k1), (.ref b101)])) (fun t k => st102.trans (XS.astoreN X102.here hx rfl (hb hby d_prog_7_method_2_code_7) rfl rfl (l' := #[.val (.ref k1), .val (.ref k2), .val (.ref b101)]) rfl (XS.aloadN X102.here hx rfl (hb hby d_prog_7_method_2_code_8) rfl rfl (XS.aloadN X102.here hx rfl (hb hby d_prog_7_method_2_code_9) rfl rfl k)))) ?_
  have CR104 := CR0.trans (CHr.ext E101 CR0.1)
  obtain ⟨b103, T103, h103, k103, X103, e103, E103, hS103, hk103, hZ, hown, CX103, Lt103, st103⟩ := ldcOH (s := s) (EL := own_EL) X102 hx hZ hown tw48 (fun d hd => hw d (own_sin d hd)) q102_0 hS0 (Nat.le_trans (Nat.le_refl _) E101.1) (own_ew hw) CR104.1 (g := (mkF m 10 #[.val (.ref k1), .val (.ref k2), .val (.ref b101)] [(.ref k1), (.ref b101)])) rfl (hb hby d_prog_7_method_2_code_10) (n := 12) (by decide +kernel) (by decide) (by decide) (by decide)
  have CR103 := CR104.trans CX103
  refine Goes.step (S' := T103.setTop (mkF m 12 #[.val (.ref k1), .val (.ref k2), .val (.ref b101)] [(.ref b103), (.ref k1), (.ref b101)])) (fun t k => st103 _ k) ?_
  obtain ⟨_, _, ⟨T105, L105, k105, n105⟩, -, X105, ⟨Lc105, hQ105, l105, y105, z105⟩, st105⟩ := Jvm.LawKit.callS X103 hx (y := mth12) hown (mvT hZ tw49) (mvT hZ tw50) (mvT hZ tw51) (mvT hZ tw52) (by decide) (backOf (W := 1) (rnn l Z a0 hw [] k1 b103 h103 n0 (Nat.le_trans Z0 (Nat.le_trans E101.1 E103.1)) ) hZ tw52 tw51 (by decide) (by decide)) (g := (mkF m 12 #[.val (.ref k1), .val (.ref k2), .val (.ref b101)] [(.ref b103), (.ref k1), (.ref b101)])) rfl (by rw [hml]; rfl) (argsL := [(.ref k1), (.ref b103)]) (rest := [(.ref b101)]) (lenOf pd_Ljava_lang_Object_Ljava_lang_String__Ljava_lang_Object rfl) rfl (Nat.le_of_eq rfl) (hb hby d_prog_7_method_2_code_12) (fun _ _ => ⟨rfl, e103, (by decide : 3 + 0 ≤ _), (by decide : 30 + 0 ≤ _)⟩)
  dsimp only [Pt.U, Pt.locs, Pt.cells, Pt.slots] at X105 l105 y105 z105 st105 hQ105
  subst y105 z105
  obtain ⟨rfl, Nq105, q105_0⟩ := hQ105
  have N105 : Fr n0 L105 := by rw [l105]; exact Fr.app N102 Nq105
  refine Goes.step (S' := T105.setTop (mkF m 15 #[.val (.ref k1), .val (.ref k2), .val (.ref b101)] [(.ref k1), (.ref b101)])) (fun t k => st105 _ k) ?_
  obtain ⟨T106, X106, e106, st106⟩ := castY X105 hx hZ hown tw53 q105_0 (Ins.self (Exa.ext E103 (Exa.ext E101 Ek))) (g := (mkF m 15 #[.val (.ref k1), .val (.ref k2), .val (.ref b101)] [(.ref k1), (.ref b101)])) rfl rfl (hb hby d_prog_7_method_2_code_15)
  refine Goes.step (S' := T106.setTop (mkF m 18 #[.val (.ref k1), .val (.ref k2), .val (.ref b101)] [(.ref k1), (.ref b101)])) (fun t k => st106 _ k) ?_
  obtain ⟨T107, h107, X107, e107, W107, st107⟩ := own_putR X106 hx hZ hown tw54  e106 (Fld.ext E103 F101_key) (Exa.ext E103 A101) (Or.inl tw55) tw42 (ty := (.object "java/lang/String")) (by decide) rfl rfl (g := (mkF m 18 #[.val (.ref k1), .val (.ref k2), .val (.ref b101)] [(.ref k1), (.ref b101)])) rfl rfl (hb hby d_prog_7_method_2_code_18)
  have Fw107 : Fld Z h107 b101 "com/example/uraniborg/uraniborg/model/JobSpec$Parts" "key" "Ljava/lang/String;" (.ref k1) := Fld.same W107 (Fld.ext E103 F101_key)
  have N107 := Fr.snoc X107 N105 (Nat.le_trans Z0 (Nat.le_of_eq g101.symm))
  refine Goes.step (S' := T107.setTop (mkF m 23 #[.val (.ref k1), .val (.ref k2), .val (.ref b101)] [(.ref k2), (.ref b101)])) (fun t k => st107 _ (XS.aloadN X107.here hx rfl (hb hby d_prog_7_method_2_code_21) rfl rfl (XS.aloadN X107.here hx rfl (hb hby d_prog_7_method_2_code_22) rfl rfl k))) ?_
  have CR109 := CR103.trans (CHr.wr W107 (Safe.exa hZ.alike (Exa.ext E103 A101) (by decide) (by decide)) CR103.1)
  obtain ⟨b108, T108, h108, k108, X108, e108, E108, hS108, hk108, hZ, hown, CX108, Lt108, st108⟩ := ldcOH (s := s) (EL := own_EL) X107 hx hZ hown tw56 (fun d hd => hw d (own_sin d hd)) e107 hS103 (Nat.le_trans hk103 (Nat.le_of_eq W107.size.symm)) (own_ew hw) CR109.1 (g := (mkF m 23 #[.val (.ref k1), .val (.ref k2), .val (.ref b101)] [(.ref k2), (.ref b101)])) rfl (hb hby d_prog_7_method_2_code_23) (n := 28) (by decide +kernel) (by decide) (by decide) (by decide)
  have CR108 := CR109.trans CX108
  refine Goes.step (S' := T108.setTop (mkF m 25 #[.val (.ref k1), .val (.ref k2), .val (.ref b101)] [(.ref b108), (.ref k2), (.ref b101)])) (fun t k => st108 _ k) ?_
  obtain ⟨_, _, ⟨T110, L110, k110, n110⟩, -, X110, ⟨Lc110, hQ110, l110, y110, z110⟩, st110⟩ := Jvm.LawKit.callS X108 hx (y := mth12) hown (mvT hZ tw49) (mvT hZ tw50) (mvT hZ tw51) (mvT hZ tw52) (by decide) (backOf (W := 1) (rnn l Z a0 hw [] k2 b108 h108 n0 (Nat.le_trans Z0 (Nat.le_trans (Nat.le_trans (Nat.le_trans E101.1 E103.1) (Nat.le_of_eq W107.size.symm)) E108.1)) ) hZ tw52 tw51 (by decide) (by decide)) (g := (mkF m 25 #[.val (.ref k1), .val (.ref k2), .val (.ref b101)] [(.ref b108), (.ref k2), (.ref b101)])) rfl (by rw [hml]; rfl) (argsL := [(.ref k2), (.ref b108)]) (rest := [(.ref b101)]) (lenOf pd_Ljava_lang_Object_Ljava_lang_String__Ljava_lang_Object rfl) rfl (Nat.le_of_eq rfl) (hb hby d_prog_7_method_2_code_25) (fun _ _ => ⟨rfl, e108, (by decide : 5 + 0 ≤ _), (by decide : 62 + 0 ≤ _)⟩)
  dsimp only [Pt.U, Pt.locs, Pt.cells, Pt.slots] at X110 l110 y110 z110 st110 hQ110
  subst y110 z110
  obtain ⟨rfl, Nq110, q110_0⟩ := hQ110
  have N110 : Fr n0 L110 := by rw [l110]; exact Fr.app N107 Nq110
  refine Goes.step (S' := T110.setTop (mkF m 28 #[.val (.ref k1), .val (.ref k2), .val (.ref b101)] [(.ref k2), (.ref b101)])) (fun t k => st110 _ k) ?_
  obtain ⟨T111, X111, e111, st111⟩ := castY X110 hx hZ hown tw53 q110_0 (Ins.self (Exa.ext E108 (Exa.wr W107 (Exa.ext E103 (Exa.ext E101 Eh))))) (g := (mkF m 28 #[.val (.ref k1), .val (.ref k2), .val (.ref b101)] [(.ref k2), (.ref b101)])) rfl rfl (hb hby d_prog_7_method_2_code_28)
  refine Goes.step (S' := T111.setTop (mkF m 31 #[.val (.ref k1), .val (.ref k2), .val (.ref b101)] [(.ref k2), (.ref b101)])) (fun t k => st111 _ k) ?_
  obtain ⟨T112, h112, X112, e112, W112, st112⟩ := own_putR X111 hx hZ hown tw57  e111 (Fld.ext E108 (Fld.other W107 (Fld.ext E103 F101_handler) (Or.inr (slot_ne (Or.inl tw58) (Or.inl tw55) (by decide) (t := (.object "java/lang/String")) (t' := (.object "java/lang/String")) (by decide) (by decide))))) (Exa.ext E108 (Exa.wr W107 (Exa.ext E103 A101))) (Or.inl tw58) tw42 (ty := (.object "java/lang/String")) (by decide) rfl rfl (g := (mkF m 31 #[.val (.ref k1), .val (.ref k2), .val (.ref b101)] [(.ref k2), (.ref b101)])) rfl rfl (hb hby d_prog_7_method_2_code_31)
  have Fw112 : Fld Z h112 b101 "com/example/uraniborg/uraniborg/model/JobSpec$Parts" "handler" "Ljava/lang/String;" (.ref k2) := Fld.same W112 (Fld.ext E108 (Fld.other W107 (Fld.ext E103 F101_handler) (Or.inr (slot_ne (Or.inl tw58) (Or.inl tw55) (by decide) (t := (.object "java/lang/String")) (t' := (.object "java/lang/String")) (by decide) (by decide)))))
  have N112 := Fr.snoc X112 N110 (Nat.le_trans Z0 (Nat.le_of_eq g101.symm))
  refine Goes.step (S' := T112.setTop (mkF m 35 #[.val (.ref k1), .val (.ref k2), .val (.ref b101)] [(.ref b101)])) (fun t k => st112 _ (XS.aloadN X112.here hx rfl (hb hby d_prog_7_method_2_code_34) rfl rfl k)) ?_
  have CR114 := CR108.trans (CHr.wr W112 (Safe.exa hZ.alike (Exa.ext E108 (Exa.wr W107 (Exa.ext E103 A101))) (by decide) (by decide)) CR108.1)
  obtain ⟨b113, T113, h113, k113, v113, kv113, X113, e113, E113, hS113, hk113, hZ, hown, Ea113, Fc113, Fv113, Va113, lta113, ltb113, CX113, Lt113, Sn113, st113⟩ := ldcCH (s := s) (EL := own_EL) X112 hx hZ hown tw59 (fun d hd => hw d (own_sin d hd)) e112 hS108 (Nat.le_trans hk108 (Nat.le_of_eq W112.size.symm)) (own_ew hw) (by decide) CR114.1 (vs := []) (z := (0 : Int32)) ⟨by decide +kernel, by decide +kernel⟩ (by decide) (by decide +kernel) (g := (mkF m 35 #[.val (.ref k1), .val (.ref k2), .val (.ref b101)] [(.ref b101)])) rfl (hb hby d_prog_7_method_2_code_35) (n := 0) (by decide +kernel) (by decide) (by decide) (by decide)
  have CR113 := CR114.trans CX113
  refine Goes.step (S' := T113.setTop (mkF m 37 #[.val (.ref k1), .val (.ref k2), .val (.ref b101)] [(.ref b113), (.ref b101)])) (fun t k => st113 _ k) ?_
  obtain ⟨T115, h115, X115, e115, W115, st115⟩ := own_putR X113 hx hZ hown tw60  e113 (Fld.ext E113 (Fld.other W112 (Fld.ext E108 (Fld.other W107 (Fld.ext E103 F101_payload) (Or.inr (slot_ne (Or.inl tw61) (Or.inl tw55) (by decide) (t := (.object "java/lang/String")) (t' := (.object "java/lang/String")) (by decide) (by decide))))) (Or.inr (slot_ne (Or.inl tw61) (Or.inl tw58) (by decide) (t := (.object "java/lang/String")) (t' := (.object "java/lang/String")) (by decide) (by decide))))) (Exa.ext E113 (Exa.wr W112 (Exa.ext E108 (Exa.wr W107 (Exa.ext E103 A101))))) (Or.inl tw61) tw42 (ty := (.object "java/lang/String")) (by decide) rfl rfl (g := (mkF m 37 #[.val (.ref k1), .val (.ref k2), .val (.ref b101)] [(.ref b113), (.ref b101)])) rfl rfl (hb hby d_prog_7_method_2_code_37)
  have Fw115 : Fld Z h115 b101 "com/example/uraniborg/uraniborg/model/JobSpec$Parts" "payload" "Ljava/lang/String;" (.ref b113) := Fld.same W115 (Fld.ext E113 (Fld.other W112 (Fld.ext E108 (Fld.other W107 (Fld.ext E103 F101_payload) (Or.inr (slot_ne (Or.inl tw61) (Or.inl tw55) (by decide) (t := (.object "java/lang/String")) (t' := (.object "java/lang/String")) (by decide) (by decide))))) (Or.inr (slot_ne (Or.inl tw61) (Or.inl tw58) (by decide) (t := (.object "java/lang/String")) (t' := (.object "java/lang/String")) (by decide) (by decide)))))
  have N115 := Fr.snoc X115 N112 (Nat.le_trans Z0 (Nat.le_of_eq g101.symm))
  refine Goes.step (S' := T115.setTop (mkF m 41 #[.val (.ref k1), .val (.ref k2), .val (.ref b101)] [(.ref b101)])) (fun t k => st115 _ (XS.aloadN X115.here hx rfl (hb hby d_prog_7_method_2_code_40) rfl rfl k)) ?_
  obtain ⟨T116, X116, e116, st116⟩ := getS2 X115 hx hZ hown (host := "") (Or.inl tw62) Via.refl e115 (Sta.wr W115 (Sta.ext E113 (Sta.wr W112 (Sta.ext E108 (Sta.wr W107 (Sta.ext E103 (Sta.ext E101 S_DEFAULT))))))) (g := (mkF m 41 #[.val (.ref k1), .val (.ref k2), .val (.ref b101)] [(.ref b101)])) rfl (hb hby d_prog_7_method_2_code_41)
  refine Goes.step (S' := T116.setTop (mkF m 44 #[.val (.ref k1), .val (.ref k2), .val (.ref b101)] [(.ref w_DEFAULT), (.ref b101)])) (fun t k => st116 _ k) ?_
  obtain ⟨T117, h117, X117, e117, W117, st117⟩ := own_putR X116 hx hZ hown tw65  e116 (Fld.other W115 (Fld.ext E113 (Fld.other W112 (Fld.ext E108 (Fld.other W107 (Fld.ext E103 F101_retryPolicy) (Or.inr (slot_ne (Or.inl tw66) (Or.inl tw55) (by decide) (t := (.object "com/example/uraniborg/uraniborg/model/RetryPolicy")) (t' := (.object "java/lang/String")) (by decide) (by decide))))) (Or.inr (slot_ne (Or.inl tw66) (Or.inl tw58) (by decide) (t := (.object "com/example/uraniborg/uraniborg/model/RetryPolicy")) (t' := (.object "java/lang/String")) (by decide) (by decide))))) (Or.inr (slot_ne (Or.inl tw66) (Or.inl tw61) (by decide) (t := (.object "com/example/uraniborg/uraniborg/model/RetryPolicy")) (t' := (.object "java/lang/String")) (by decide) (by decide)))) (Exa.wr W115 (Exa.ext E113 (Exa.wr W112 (Exa.ext E108 (Exa.wr W107 (Exa.ext E103 A101)))))) (Or.inl tw66) tw42 (ty := (.object "com/example/uraniborg/uraniborg/model/RetryPolicy")) (by decide) rfl rfl (g := (mkF m 44 #[.val (.ref k1), .val (.ref k2), .val (.ref b101)] [(.ref w_DEFAULT), (.ref b101)])) rfl rfl (hb hby d_prog_7_method_2_code_44)
  have Fw117 : Fld Z h117 b101 "com/example/uraniborg/uraniborg/model/JobSpec$Parts" "retryPolicy" "Lcom/example/uraniborg/uraniborg/model/RetryPolicy;" (.ref w_DEFAULT) := Fld.same W117 (Fld.other W115 (Fld.ext E113 (Fld.other W112 (Fld.ext E108 (Fld.other W107 (Fld.ext E103 F101_retryPolicy) (Or.inr (slot_ne (Or.inl tw66) (Or.inl tw55) (by decide) (t := (.object "com/example/uraniborg/uraniborg/model/RetryPolicy")) (t' := (.object "java/lang/String")) (by decide) (by decide))))) (Or.inr (slot_ne (Or.inl tw66) (Or.inl tw58) (by decide) (t := (.object "com/example/uraniborg/uraniborg/model/RetryPolicy")) (t' := (.object "java/lang/String")) (by decide) (by decide))))) (Or.inr (slot_ne (Or.inl tw66) (Or.inl tw61) (by decide) (t := (.object "com/example/uraniborg/uraniborg/model/RetryPolicy")) (t' := (.object "java/lang/String")) (by decide) (by decide))))
  have N117 := Fr.snoc X117 N115 (Nat.le_trans Z0 (Nat.le_of_eq g101.symm))
  refine Goes.step (S' := T117.setTop (mkF m 47 #[.val (.ref k1), .val (.ref k2), .val (.ref b101)] [])) (fun t k => st117 _ k) ?_
  obtain ⟨T118, h118, X118, e118, E118, A118, D118, U118, st118⟩ := newO X117 hx hZ hown tw67 tw68 tw39 e117 (g := (mkF m 47 #[.val (.ref k1), .val (.ref k2), .val (.ref b101)] [])) rfl (hb hby d_prog_7_method_2_code_47) (by decide) (by decide)
  obtain ⟨b118, g118⟩ : ∃ z, z = h117.size := ⟨_, rfl⟩
  rw [← g118] at A118 D118 U118 st118
  have F118_parts : Fld Z h118 b118 "com/example/uraniborg/uraniborg/model/JobSpec" "parts" "Lcom/example/uraniborg/uraniborg/model/JobSpec$Parts;" .null := D118 (Or.inr tw74) (ty := (.object "com/example/uraniborg/uraniborg/model/JobSpec$Parts")) (by decide)
  refine Goes.step (S' := T118.setTop (mkF m 52 #[.val (.ref k1), .val (.ref k2), .val (.ref b101)] [(.ref b101), (.ref b118), (.ref b118)])) (fun t k => st118 _ (XS.dup X118.here hx rfl (hb hby d_prog_7_method_2_code_50) rfl rfl (XS.aloadN X118.here hx rfl (hb hby d_prog_7_method_2_code_51) rfl rfl k))) ?_
  obtain ⟨_, _, ⟨T119, L119, k119, n119⟩, -, X119, ⟨Lc119, hQ119, l119, y119, z119⟩, st119⟩ := X118.specialBack hx (y := mth11) rfl hown (mvT hZ tw69) (mvT hZ tw70) (mvT hZ tw71) (by decide) (backOf (W := 1) (jin l Z a0 hw [] b118 b101 h118 n0 (Nat.le_trans Z0 (Nat.le_trans (Nat.le_trans (Nat.le_trans (Nat.le_trans (Nat.le_trans (Nat.le_trans (Nat.le_trans (Nat.le_trans E101.1 E103.1) (Nat.le_of_eq W107.size.symm)) E108.1) (Nat.le_of_eq W112.size.symm)) E113.1) (Nat.le_of_eq W115.size.symm)) (Nat.le_of_eq W117.size.symm)) E118.1)) A118 F118_parts (Nat.le_trans Z0 (Nat.le_trans (Nat.le_trans (Nat.le_trans (Nat.le_trans (Nat.le_trans (Nat.le_trans (Nat.le_trans (Nat.le_trans E101.1 E103.1) (Nat.le_of_eq W107.size.symm)) E108.1) (Nat.le_of_eq W112.size.symm)) E113.1) (Nat.le_of_eq W115.size.symm)) (Nat.le_of_eq W117.size.symm)) (Nat.le_of_eq g118.symm))) (Exa.ext E118 (Exa.wr W117 (Exa.wr W115 (Exa.ext E113 (Exa.wr W112 (Exa.ext E108 (Exa.wr W107 (Exa.ext E103 A101))))))))) hZ tw71 tw39 (by decide) (by decide)) (g := (mkF m 52 #[.val (.ref k1), .val (.ref k2), .val (.ref b101)] [(.ref b101), (.ref b118), (.ref b118)])) rfl (by rw [hml]; rfl) (Steps.refl _) (a := b118) (argsL := [(.ref b101)]) (rest := [(.ref b118)]) (lenOf pd_Lcom_example_uraniborg_uraniborg_model_JobSpec_Parts__V rfl) rfl (Nat.le_of_eq rfl) (hb hby d_prog_7_method_2_code_52) (fun _ _ => ⟨rfl, e118, (by decide : 8 + 0 ≤ _), (by decide : 67 + 0 ≤ _)⟩)
  dsimp only [Pt.U, Pt.locs, Pt.cells, Pt.slots] at X119 l119 y119 z119 st119 hQ119
  subst y119 z119
  obtain ⟨rfl, Nq119, q119_0, q119_1⟩ := hQ119
  have N119 : Fr n0 L119 := by rw [l119]; exact Fr.app N117 Nq119
  refine Goes.step (S' := T119.setTop (mkF m 55 #[.val (.ref k1), .val (.ref k2), .val (.ref b101)] [(.ref b118)])) (fun t k => st119.trans k) ?_
  have CR120 := CR113.trans (CHr.wr W115 (Safe.exa hZ.alike (Exa.ext E113 (Exa.wr W112 (Exa.ext E108 (Exa.wr W107 (Exa.ext E103 A101))))) (by decide) (by decide)) CR113.1)
  have CR121 := CR120.trans (CHr.wr W117 (Safe.exa hZ.alike (Exa.wr W115 (Exa.ext E113 (Exa.wr W112 (Exa.ext E108 (Exa.wr W107 (Exa.ext E103 A101)))))) (by decide) (by decide)) CR120.1)
  have CR122 := CR121.trans (CHr.ext E118 CR121.1)
  have CR123 := CR122.trans (CHr.keep q119_0 (sfS (Safe.exa hZ.alike A118 (by decide) (by decide)) sf0) CR122.1)
  refine Goes.leaveH (g := (mkF m 55 #[.val (.ref k1), .val (.ref k2), .val (.ref b101)] [(.ref b118)])) (own_ew hw) hZ hh CR123 X119 hS113 (Nat.le_trans hk113 (Nat.le_trans (Nat.le_trans (Nat.le_trans (Nat.le_of_eq W115.size.symm) (Nat.le_of_eq W117.size.symm)) E118.1) q119_0.1)) Bd.notSynchronized (v := (some (.ref b118))) (fun h => by rw [Bd.returns] at h; cases h) (fun fs hr => by jvm_step X119.here [X119.here.top, hx, (hb hby d_prog_7_method_2_code_55), X119.method', Bd.returns, Value.isRef, FieldType.isReference]; (first | (intro acts; rw [hr _ acts rfl rfl rfl]) | rw [hr _ _ rfl rfl rfl]); exact Steps.refl _) rfl ?_ (by decide) (by decide)
  exact ⟨b118, b101, b113, v113, kv113, rfl, N119, (((((((((((Keep.refl _ []).ext E101).ext E103).wr W107 (Or.inr (Nat.le_of_eq g101.symm))).ext E108).wr W112 (Or.inr (Nat.le_of_eq g101.symm))).ext E113).wr W115 (Or.inr (Nat.le_of_eq g101.symm))).wr W117 (Or.inr (Nat.le_of_eq g101.symm))).ext E118).trans q119_0 (allS (Or.inr (Nat.le_trans (Nat.le_trans (Nat.le_trans (Nat.le_trans (Nat.le_trans (Nat.le_trans (Nat.le_trans (Nat.le_trans E101.1 E103.1) (Nat.le_of_eq W107.size.symm)) E108.1) (Nat.le_of_eq W112.size.symm)) E113.1) (Nat.le_of_eq W115.size.symm)) (Nat.le_of_eq W117.size.symm)) (Nat.le_of_eq g118.symm))) all0)), (A118.keep q119_0), q119_1, ((Fld.ext E118 (Fld.other W117 (Fld.other W115 (Fld.ext E113 (Fld.other W112 (Fld.ext E108 Fw107) (Or.inr (slot_ne (Or.inl tw55) (Or.inl tw58) (by decide) (t := (.object "java/lang/String")) (t' := (.object "java/lang/String")) (by decide) (by decide))))) (Or.inr (slot_ne (Or.inl tw55) (Or.inl tw61) (by decide) (t := (.object "java/lang/String")) (t' := (.object "java/lang/String")) (by decide) (by decide)))) (Or.inr (slot_ne (Or.inl tw55) (Or.inl tw66) (by decide) (t := (.object "java/lang/String")) (t' := (.object "com/example/uraniborg/uraniborg/model/RetryPolicy")) (by decide) (by decide))))).keep q119_0 (ninS (Nat.ne_of_lt (Nat.lt_of_lt_of_le A101.lt (Nat.le_trans (Nat.le_trans (Nat.le_trans (Nat.le_trans (Nat.le_trans (Nat.le_trans (Nat.le_trans E103.1 (Nat.le_of_eq W107.size.symm)) E108.1) (Nat.le_of_eq W112.size.symm)) E113.1) (Nat.le_of_eq W115.size.symm)) (Nat.le_of_eq W117.size.symm)) (Nat.le_of_eq g118.symm)))) nin0)), ((Fld.ext E118 (Fld.other W117 (Fld.other W115 (Fld.ext E113 Fw112) (Or.inr (slot_ne (Or.inl tw58) (Or.inl tw61) (by decide) (t := (.object "java/lang/String")) (t' := (.object "java/lang/String")) (by decide) (by decide)))) (Or.inr (slot_ne (Or.inl tw58) (Or.inl tw66) (by decide) (t := (.object "java/lang/String")) (t' := (.object "com/example/uraniborg/uraniborg/model/RetryPolicy")) (by decide) (by decide))))).keep q119_0 (ninS (Nat.ne_of_lt (Nat.lt_of_lt_of_le A101.lt (Nat.le_trans (Nat.le_trans (Nat.le_trans (Nat.le_trans (Nat.le_trans (Nat.le_trans (Nat.le_trans E103.1 (Nat.le_of_eq W107.size.symm)) E108.1) (Nat.le_of_eq W112.size.symm)) E113.1) (Nat.le_of_eq W115.size.symm)) (Nat.le_of_eq W117.size.symm)) (Nat.le_of_eq g118.symm)))) nin0)), ((Fld.ext E118 (Fld.other W117 Fw115 (Or.inr (slot_ne (Or.inl tw61) (Or.inl tw66) (by decide) (t := (.object "java/lang/String")) (t' := (.object "com/example/uraniborg/uraniborg/model/RetryPolicy")) (by decide) (by decide))))).keep q119_0 (ninS (Nat.ne_of_lt (Nat.lt_of_lt_of_le A101.lt (Nat.le_trans (Nat.le_trans (Nat.le_trans (Nat.le_trans (Nat.le_trans (Nat.le_trans (Nat.le_trans E103.1 (Nat.le_of_eq W107.size.symm)) E108.1) (Nat.le_of_eq W112.size.symm)) E113.1) (Nat.le_of_eq W115.size.symm)) (Nat.le_of_eq W117.size.symm)) (Nat.le_of_eq g118.symm)))) nin0)), ((Fld.ext E118 Fw117).keep q119_0 (ninS (Nat.ne_of_lt (Nat.lt_of_lt_of_le A101.lt (Nat.le_trans (Nat.le_trans (Nat.le_trans (Nat.le_trans (Nat.le_trans (Nat.le_trans (Nat.le_trans E103.1 (Nat.le_of_eq W107.size.symm)) E108.1) (Nat.le_of_eq W112.size.symm)) E113.1) (Nat.le_of_eq W115.size.symm)) (Nat.le_of_eq W117.size.symm)) (Nat.le_of_eq g118.symm)))) nin0)), ((Fld.ext E118 (Fld.other W117 (Fld.other W115 (Fld.ext E113 (Fld.other W112 (Fld.ext E108 (Fld.other W107 (Fld.ext E103 F101_priority) (Or.inr (slot_ne (Or.inl tw106) (Or.inl tw55) (by decide) (t := .long) (t' := (.object "java/lang/String")) (by decide) (by decide))))) (Or.inr (slot_ne (Or.inl tw106) (Or.inl tw58) (by decide) (t := .long) (t' := (.object "java/lang/String")) (by decide) (by decide))))) (Or.inr (slot_ne (Or.inl tw106) (Or.inl tw61) (by decide) (t := .long) (t' := (.object "java/lang/String")) (by decide) (by decide)))) (Or.inr (slot_ne (Or.inl tw106) (Or.inl tw66) (by decide) (t := .long) (t' := (.object "com/example/uraniborg/uraniborg/model/RetryPolicy")) (by decide) (by decide))))).keep q119_0 (ninS (Nat.ne_of_lt (Nat.lt_of_lt_of_le A101.lt (Nat.le_trans (Nat.le_trans (Nat.le_trans (Nat.le_trans (Nat.le_trans (Nat.le_trans (Nat.le_trans E103.1 (Nat.le_of_eq W107.size.symm)) E108.1) (Nat.le_of_eq W112.size.symm)) E113.1) (Nat.le_of_eq W115.size.symm)) (Nat.le_of_eq W117.size.symm)) (Nat.le_of_eq g118.symm)))) nin0)), ((Exa.ext E118 (Exa.wr W117 (Exa.wr W115 Ea113))).keep q119_0), ((Fld.ext E118 (Fld.other W117 (Fld.other W115 Fv113 (Or.inl (Exa.ne Ea113 (Exa.ext E113 (Exa.wr W112 (Exa.ext E108 (Exa.wr W107 (Exa.ext E103 A101))))) (by decide)))) (Or.inl (Exa.ne (Exa.wr W115 Ea113) (Exa.wr W115 (Exa.ext E113 (Exa.wr W112 (Exa.ext E108 (Exa.wr W107 (Exa.ext E103 A101)))))) (by decide))))).keep q119_0 (ninS (Nat.ne_of_lt (Nat.lt_of_lt_of_le Ea113.lt (Nat.le_trans (Nat.le_trans (Nat.le_of_eq W115.size.symm) (Nat.le_of_eq W117.size.symm)) (Nat.le_of_eq g118.symm)))) nin0)), ((((Va113.other W115 (Ne.symm (Exa.neArv (Exa.ext E113 (Exa.wr W112 (Exa.ext E108 (Exa.wr W107 (Exa.ext E103 A101))))) Va113 tw42))).other W117 (Ne.symm (Exa.neArv (Exa.wr W115 (Exa.ext E113 (Exa.wr W112 (Exa.ext E108 (Exa.wr W107 (Exa.ext E103 A101)))))) (Va113.other W115 (Ne.symm (Exa.neArv (Exa.ext E113 (Exa.wr W112 (Exa.ext E108 (Exa.wr W107 (Exa.ext E103 A101))))) Va113 tw42))) tw42))).ext E118).keep q119_0 (ninS (Nat.ne_of_lt (Nat.lt_of_lt_of_le Va113.lt (Nat.le_trans (Nat.le_trans (Nat.le_of_eq W115.size.symm) (Nat.le_of_eq W117.size.symm)) (Nat.le_of_eq g118.symm)))) nin0))⟩

theorem ef_g_payload (m : MethodId) (x0 : Addr) : entryFrame m #[(.ref x0)] 1 = mkF m 0 #[.val (.ref x0)] [] := by first | (simp [entryFrame, mkF, argsToLocals, Value.category]; done) | rfl
def Q_g_payload (Z : State) (b : Addr) (pt : Addr) (z1 : Addr) (h0 : Heap) (n0 : Nat) (v : Option Value) (h : Heap) (L : List Loc) : Prop := v = some (.ref z1) ∧ Fr n0 L ∧ h = h0
set_option maxRecDepth 65536 in
set_option maxHeartbeats 40000000 in
theorem g_payload (l : Launch) (Z : State) (a0 : Array Value) (hw : ∀ d ∈ tables_1, d.before a0 Z = true) (ws : List Jvm.Cond) (b : Addr) (pt : Addr) (z1 : Addr) (h0 : Heap) (n0 : Nat) (Z0 : n0 ≤ h0.size) (Fb : Fld Z h0 b "com/example/uraniborg/uraniborg/model/JobSpec" "parts" "Lcom/example/uraniborg/uraniborg/model/JobSpec$Parts;" (.ref pt)) (Fp : Fld Z h0 pt "com/example/uraniborg/uraniborg/model/JobSpec$Parts" "payload" "Ljava/lang/String;" (.ref z1)) :
    MetFree l mth14 (head1 (Jvm.Cond.code mth14 prog_7_method_16_code 1 (some (.object "java/lang/String")) :: ws) rom0) (fun a U => a = #[(.ref b)] ∧ Z.Warmed39 U.vm ∧ U.heap = h0) (fun _ _ _ _ _ => True) (fun _ U o U' => ∃ v L, o = .returned v ∧ Q_g_payload Z b pt z1 h0 n0 v U'.heap L ∧ FrameEnd U o U' L rom0.cells rom0.slots) := by
  refine MetFree.of_bodySF (plainFor_of_name pnm5) hisR ?_
  intro p e s m args below meth c s₁ Bd hml0 hP hK
  obtain ⟨rfl, hZ, hh⟩ := hP
  have hx := Bd.exec
  have hby := Bd.bytes
  have hml : c.maxLocals = 1 := hml0
  have hown : s.vm.findClass "com/example/uraniborg/uraniborg/model/JobSpec" = some m.cls := findClass_of_methodNamed Bd.named
  have hnm := (name_of_methodNamed Bd.named Bd.method).1
  have X0 : Stand p l e rom0 s m #[(.ref b)] below meth c s₁ [] 0 0 := Stand.of_body Bd
  have eh0 : s₁.heap = h0 := by rw [← hh, Bd.state]; rfl
  have N0 := Fr.nil n0
  have tw60 := hw _ (List.mem_of_getElem? (i := 60) rfl)
  have tw73 := hw _ (List.mem_of_getElem? (i := 73) rfl)
  show Goes p e below (Pq (Q_g_payload Z b pt z1 h0 n0) s rom0.cells rom0.slots) (s₁.setTop (entryFrame m #[(.ref b)] 1))
  refine Goes.step (S' := s₁.setTop (mkF m 0 #[.val (.ref b)] [])) (fun t k => castTop (ef_g_payload m b) k) ?_
  refine Goes.step (S' := s₁.setTop (mkF m 1 #[.val (.ref b)] [(.ref b)])) (fun t k => XS.aloadN X0.here hx rfl (hb hby d_prog_7_method_16_code_0) rfl rfl k) ?_
  obtain ⟨T101, X101, e101, st101⟩ := getF X0 hx hZ hown (host := "") (Or.inl tw73) Via.refl eh0 Fb (g := (mkF m 1 #[.val (.ref b)] [(.ref b)])) rfl rfl (hb hby d_prog_7_method_16_code_1)
  refine Goes.step (S' := T101.setTop (mkF m 4 #[.val (.ref b)] [(.ref pt)])) (fun t k => st101 _ k) ?_
  obtain ⟨T102, X102, e102, st102⟩ := own_getR X101 hx hZ hown tw60  e101 Fp (g := (mkF m 4 #[.val (.ref b)] [(.ref pt)])) rfl rfl (hb hby d_prog_7_method_16_code_4)
  refine Goes.step (S' := T102.setTop (mkF m 7 #[.val (.ref b)] [(.ref z1)])) (fun t k => st102 _ k) ?_
  refine Goes.leave (g := (mkF m 7 #[.val (.ref b)] [(.ref z1)])) X102 Bd.notSynchronized (v := (some (.ref z1))) (fun h => by rw [Bd.returns] at h; cases h) (fun fs hr => by jvm_step X102.here [X102.here.top, hx, (hb hby d_prog_7_method_16_code_7), X102.method', Bd.returns, Value.isRef, FieldType.isReference]; (first | (intro acts; rw [hr _ acts rfl rfl rfl]) | rw [hr _ _ rfl rfl rfl]); exact Steps.refl _) e102 ?_ (by decide) (by decide)
  exact ⟨rfl, N0, rfl⟩

theorem ef_g_key (m : MethodId) (x0 : Addr) : entryFrame m #[(.ref x0)] 1 = mkF m 0 #[.val (.ref x0)] [] := by first | (simp [entryFrame, mkF, argsToLocals, Value.category]; done) | rfl
def Q_g_key (Z : State) (b : Addr) (pt : Addr) (z1 : Addr) (h0 : Heap) (n0 : Nat) (v : Option Value) (h : Heap) (L : List Loc) : Prop := v = some (.ref z1) ∧ Fr n0 L ∧ h = h0
set_option maxRecDepth 65536 in
set_option maxHeartbeats 40000000 in
theorem g_key (l : Launch) (Z : State) (a0 : Array Value) (hw : ∀ d ∈ tables_1, d.before a0 Z = true) (ws : List Jvm.Cond) (b : Addr) (pt : Addr) (z1 : Addr) (h0 : Heap) (n0 : Nat) (Z0 : n0 ≤ h0.size) (Fb : Fld Z h0 b "com/example/uraniborg/uraniborg/model/JobSpec" "parts" "Lcom/example/uraniborg/uraniborg/model/JobSpec$Parts;" (.ref pt)) (Fp : Fld Z h0 pt "com/example/uraniborg/uraniborg/model/JobSpec$Parts" "key" "Ljava/lang/String;" (.ref z1)) :
    MetFree l mth15 (head1 (Jvm.Cond.code mth15 prog_7_method_14_code 1 (some (.object "java/lang/String")) :: ws) rom0) (fun a U => a = #[(.ref b)] ∧ Z.Warmed39 U.vm ∧ U.heap = h0) (fun _ _ _ _ _ => True) (fun _ U o U' => ∃ v L, o = .returned v ∧ Q_g_key Z b pt z1 h0 n0 v U'.heap L ∧ FrameEnd U o U' L rom0.cells rom0.slots) := by
  refine MetFree.of_bodySF (plainFor_of_name pnm5) hisR ?_
  intro p e s m args below meth c s₁ Bd hml0 hP hK
  obtain ⟨rfl, hZ, hh⟩ := hP
  have hx := Bd.exec
  have hby := Bd.bytes
  have hml : c.maxLocals = 1 := hml0
  have hown : s.vm.findClass "com/example/uraniborg/uraniborg/model/JobSpec" = some m.cls := findClass_of_methodNamed Bd.named
  have hnm := (name_of_methodNamed Bd.named Bd.method).1
  have X0 : Stand p l e rom0 s m #[(.ref b)] below meth c s₁ [] 0 0 := Stand.of_body Bd
  have eh0 : s₁.heap = h0 := by rw [← hh, Bd.state]; rfl
  have N0 := Fr.nil n0
  have tw54 := hw _ (List.mem_of_getElem? (i := 54) rfl)
  have tw73 := hw _ (List.mem_of_getElem? (i := 73) rfl)
  show Goes p e below (Pq (Q_g_key Z b pt z1 h0 n0) s rom0.cells rom0.slots) (s₁.setTop (entryFrame m #[(.ref b)] 1))
  refine Goes.step (S' := s₁.setTop (mkF m 0 #[.val (.ref b)] [])) (fun t k => castTop (ef_g_key m b) k) ?_
  refine Goes.step (S' := s₁.setTop (mkF m 1 #[.val (.ref b)] [(.ref b)])) (fun t k => XS.aloadN X0.here hx rfl (hb hby d_prog_7_method_14_code_0) rfl rfl k) ?_
  obtain ⟨T101, X101, e101, st101⟩ := getF X0 hx hZ hown (host := "") (Or.inl tw73) Via.refl eh0 Fb (g := (mkF m 1 #[.val (.ref b)] [(.ref b)])) rfl rfl (hb hby d_prog_7_method_14_code_1)
  refine Goes.step (S' := T101.setTop (mkF m 4 #[.val (.ref b)] [(.ref pt)])) (fun t k => st101 _ k) ?_
  obtain ⟨T102, X102, e102, st102⟩ := own_getR X101 hx hZ hown tw54  e101 Fp (g := (mkF m 4 #[.val (.ref b)] [(.ref pt)])) rfl rfl (hb hby d_prog_7_method_14_code_4)
  refine Goes.step (S' := T102.setTop (mkF m 7 #[.val (.ref b)] [(.ref z1)])) (fun t k => st102 _ k) ?_
  refine Goes.leave (g := (mkF m 7 #[.val (.ref b)] [(.ref z1)])) X102 Bd.notSynchronized (v := (some (.ref z1))) (fun h => by rw [Bd.returns] at h; cases h) (fun fs hr => by jvm_step X102.here [X102.here.top, hx, (hb hby d_prog_7_method_14_code_7), X102.method', Bd.returns, Value.isRef, FieldType.isReference]; (first | (intro acts; rw [hr _ acts rfl rfl rfl]) | rw [hr _ _ rfl rfl rfl]); exact Steps.refl _) e102 ?_ (by decide) (by decide)
  exact ⟨rfl, N0, rfl⟩

theorem ef_g_handler (m : MethodId) (x0 : Addr) : entryFrame m #[(.ref x0)] 1 = mkF m 0 #[.val (.ref x0)] [] := by first | (simp [entryFrame, mkF, argsToLocals, Value.category]; done) | rfl
def Q_g_handler (Z : State) (b : Addr) (pt : Addr) (z1 : Addr) (h0 : Heap) (n0 : Nat) (v : Option Value) (h : Heap) (L : List Loc) : Prop := v = some (.ref z1) ∧ Fr n0 L ∧ h = h0
set_option maxRecDepth 65536 in
set_option maxHeartbeats 40000000 in
theorem g_handler (l : Launch) (Z : State) (a0 : Array Value) (hw : ∀ d ∈ tables_1, d.before a0 Z = true) (ws : List Jvm.Cond) (b : Addr) (pt : Addr) (z1 : Addr) (h0 : Heap) (n0 : Nat) (Z0 : n0 ≤ h0.size) (Fb : Fld Z h0 b "com/example/uraniborg/uraniborg/model/JobSpec" "parts" "Lcom/example/uraniborg/uraniborg/model/JobSpec$Parts;" (.ref pt)) (Fp : Fld Z h0 pt "com/example/uraniborg/uraniborg/model/JobSpec$Parts" "handler" "Ljava/lang/String;" (.ref z1)) :
    MetFree l mth16 (head1 (Jvm.Cond.code mth16 prog_7_method_15_code 1 (some (.object "java/lang/String")) :: ws) rom0) (fun a U => a = #[(.ref b)] ∧ Z.Warmed39 U.vm ∧ U.heap = h0) (fun _ _ _ _ _ => True) (fun _ U o U' => ∃ v L, o = .returned v ∧ Q_g_handler Z b pt z1 h0 n0 v U'.heap L ∧ FrameEnd U o U' L rom0.cells rom0.slots) := by
  refine MetFree.of_bodySF (plainFor_of_name pnm5) hisR ?_
  intro p e s m args below meth c s₁ Bd hml0 hP hK
  obtain ⟨rfl, hZ, hh⟩ := hP
  have hx := Bd.exec
  have hby := Bd.bytes
  have hml : c.maxLocals = 1 := hml0
  have hown : s.vm.findClass "com/example/uraniborg/uraniborg/model/JobSpec" = some m.cls := findClass_of_methodNamed Bd.named
  have hnm := (name_of_methodNamed Bd.named Bd.method).1
  have X0 : Stand p l e rom0 s m #[(.ref b)] below meth c s₁ [] 0 0 := Stand.of_body Bd
  have eh0 : s₁.heap = h0 := by rw [← hh, Bd.state]; rfl
  have N0 := Fr.nil n0
  have tw57 := hw _ (List.mem_of_getElem? (i := 57) rfl)
  have tw73 := hw _ (List.mem_of_getElem? (i := 73) rfl)
  show Goes p e below (Pq (Q_g_handler Z b pt z1 h0 n0) s rom0.cells rom0.slots) (s₁.setTop (entryFrame m #[(.ref b)] 1))
  refine Goes.step (S' := s₁.setTop (mkF m 0 #[.val (.ref b)] [])) (fun t k => castTop (ef_g_handler m b) k) ?_
  refine Goes.step (S' := s₁.setTop (mkF m 1 #[.val (.ref b)] [(.ref b)])) (fun t k => XS.aloadN X0.here hx rfl (hb hby d_prog_7_method_15_code_0) rfl rfl k) ?_
  obtain ⟨T101, X101, e101, st101⟩ := getF X0 hx hZ hown (host := "") (Or.inl tw73) Via.refl eh0 Fb (g := (mkF m 1 #[.val (.ref b)] [(.ref b)])) rfl rfl (hb hby d_prog_7_method_15_code_1)
  refine Goes.step (S' := T101.setTop (mkF m 4 #[.val (.ref b)] [(.ref pt)])) (fun t k => st101 _ k) ?_
  obtain ⟨T102, X102, e102, st102⟩ := own_getR X101 hx hZ hown tw57  e101 Fp (g := (mkF m 4 #[.val (.ref b)] [(.ref pt)])) rfl rfl (hb hby d_prog_7_method_15_code_4)
  refine Goes.step (S' := T102.setTop (mkF m 7 #[.val (.ref b)] [(.ref z1)])) (fun t k => st102 _ k) ?_
  refine Goes.leave (g := (mkF m 7 #[.val (.ref b)] [(.ref z1)])) X102 Bd.notSynchronized (v := (some (.ref z1))) (fun h => by rw [Bd.returns] at h; cases h) (fun fs hr => by jvm_step X102.here [X102.here.top, hx, (hb hby d_prog_7_method_15_code_7), X102.method', Bd.returns, Value.isRef, FieldType.isReference]; (first | (intro acts; rw [hr _ acts rfl rfl rfl]) | rw [hr _ _ rfl rfl rfl]); exact Steps.refl _) e102 ?_ (by decide) (by decide)
  exact ⟨rfl, N0, rfl⟩

theorem ef_g_retryPolicy (m : MethodId) (x0 : Addr) : entryFrame m #[(.ref x0)] 1 = mkF m 0 #[.val (.ref x0)] [] := by first | (simp [entryFrame, mkF, argsToLocals, Value.category]; done) | rfl
def Q_g_retryPolicy (Z : State) (b : Addr) (pt : Addr) (z1 : Addr) (h0 : Heap) (n0 : Nat) (v : Option Value) (h : Heap) (L : List Loc) : Prop := v = some (.ref z1) ∧ Fr n0 L ∧ h = h0
set_option maxRecDepth 65536 in
set_option maxHeartbeats 40000000 in
theorem g_retryPolicy (l : Launch) (Z : State) (a0 : Array Value) (hw : ∀ d ∈ tables_1, d.before a0 Z = true) (ws : List Jvm.Cond) (b : Addr) (pt : Addr) (z1 : Addr) (h0 : Heap) (n0 : Nat) (Z0 : n0 ≤ h0.size) (Fb : Fld Z h0 b "com/example/uraniborg/uraniborg/model/JobSpec" "parts" "Lcom/example/uraniborg/uraniborg/model/JobSpec$Parts;" (.ref pt)) (Fp : Fld Z h0 pt "com/example/uraniborg/uraniborg/model/JobSpec$Parts" "retryPolicy" "Lcom/example/uraniborg/uraniborg/model/RetryPolicy;" (.ref z1)) :
    MetFree l mth17 (head1 (Jvm.Cond.code mth17 prog_7_method_22_code 1 (some (.object "com/example/uraniborg/uraniborg/model/RetryPolicy")) :: ws) rom0) (fun a U => a = #[(.ref b)] ∧ Z.Warmed39 U.vm ∧ U.heap = h0) (fun _ _ _ _ _ => True) (fun _ U o U' => ∃ v L, o = .returned v ∧ Q_g_retryPolicy Z b pt z1 h0 n0 v U'.heap L ∧ FrameEnd U o U' L rom0.cells rom0.slots) := by
  refine MetFree.of_bodySF (plainFor_of_name pnm5) hisR ?_
  intro p e s m args below meth c s₁ Bd hml0 hP hK
  obtain ⟨rfl, hZ, hh⟩ := hP
  have hx := Bd.exec
  have hby := Bd.bytes
  have hml : c.maxLocals = 1 := hml0
  have hown : s.vm.findClass "com/example/uraniborg/uraniborg/model/JobSpec" = some m.cls := findClass_of_methodNamed Bd.named
  have hnm := (name_of_methodNamed Bd.named Bd.method).1
  have X0 : Stand p l e rom0 s m #[(.ref b)] below meth c s₁ [] 0 0 := Stand.of_body Bd
  have eh0 : s₁.heap = h0 := by rw [← hh, Bd.state]; rfl
  have N0 := Fr.nil n0
  have tw65 := hw _ (List.mem_of_getElem? (i := 65) rfl)
  have tw73 := hw _ (List.mem_of_getElem? (i := 73) rfl)
  show Goes p e below (Pq (Q_g_retryPolicy Z b pt z1 h0 n0) s rom0.cells rom0.slots) (s₁.setTop (entryFrame m #[(.ref b)] 1))
  refine Goes.step (S' := s₁.setTop (mkF m 0 #[.val (.ref b)] [])) (fun t k => castTop (ef_g_retryPolicy m b) k) ?_
  refine Goes.step (S' := s₁.setTop (mkF m 1 #[.val (.ref b)] [(.ref b)])) (fun t k => XS.aloadN X0.here hx rfl (hb hby d_prog_7_method_22_code_0) rfl rfl k) ?_
  obtain ⟨T101, X101, e101, st101⟩ := getF X0 hx hZ hown (host := "") (Or.inl tw73) Via.refl eh0 Fb (g := (mkF m 1 #[.val (.ref b)] [(.ref b)])) rfl rfl (hb hby d_prog_7_method_22_code_1)
  refine Goes.step (S' := T101.setTop (mkF m 4 #[.val (.ref b)] [(.ref pt)])) (fun t k => st101 _ k) ?_
  obtain ⟨T102, X102, e102, st102⟩ := own_getR X101 hx hZ hown tw65  e101 Fp (g := (mkF m 4 #[.val (.ref b)] [(.ref pt)])) rfl rfl (hb hby d_prog_7_method_22_code_4)
  refine Goes.step (S' := T102.setTop (mkF m 7 #[.val (.ref b)] [(.ref z1)])) (fun t k => st102 _ k) ?_
  refine Goes.leave (g := (mkF m 7 #[.val (.ref b)] [(.ref z1)])) X102 Bd.notSynchronized (v := (some (.ref z1))) (fun h => by rw [Bd.returns] at h; cases h) (fun fs hr => by jvm_step X102.here [X102.here.top, hx, (hb hby d_prog_7_method_22_code_7), X102.method', Bd.returns, Value.isRef, FieldType.isReference]; (first | (intro acts; rw [hr _ acts rfl rfl rfl]) | rw [hr _ _ rfl rfl rfl]); exact Steps.refl _) e102 ?_ (by decide) (by decide)
  exact ⟨rfl, N0, rfl⟩

theorem ef_g_priority (m : MethodId) (x0 : Addr) : entryFrame m #[(.ref x0)] 1 = mkF m 0 #[.val (.ref x0)] [] := by first | (simp [entryFrame, mkF, argsToLocals, Value.category]; done) | rfl
def Q_g_priority (Z : State) (b : Addr) (pt : Addr) (h0 : Heap) (n0 : Nat) (v : Option Value) (h : Heap) (L : List Loc) : Prop := v = some (.long (0 : Int64)) ∧ Fr n0 L ∧ h = h0
set_option maxRecDepth 65536 in
set_option maxHeartbeats 40000000 in
theorem g_priority (l : Launch) (Z : State) (a0 : Array Value) (hw : ∀ d ∈ tables_1, d.before a0 Z = true) (ws : List Jvm.Cond) (b : Addr) (pt : Addr) (h0 : Heap) (n0 : Nat) (Z0 : n0 ≤ h0.size) (Fb : Fld Z h0 b "com/example/uraniborg/uraniborg/model/JobSpec" "parts" "Lcom/example/uraniborg/uraniborg/model/JobSpec$Parts;" (.ref pt)) (Fp : Fld Z h0 pt "com/example/uraniborg/uraniborg/model/JobSpec$Parts" "priority" "J" (.long (0 : Int64))) :
    MetFree l mth18 (head1 (Jvm.Cond.code mth18 prog_7_method_20_code 1 (some .long) :: ws) rom0) (fun a U => a = #[(.ref b)] ∧ Z.Warmed39 U.vm ∧ U.heap = h0) (fun _ _ _ _ _ => True) (fun _ U o U' => ∃ v L, o = .returned v ∧ Q_g_priority Z b pt h0 n0 v U'.heap L ∧ FrameEnd U o U' L rom0.cells rom0.slots) := by
  refine MetFree.of_bodySF (plainFor_of_name pnm5) hisR ?_
  intro p e s m args below meth c s₁ Bd hml0 hP hK
  obtain ⟨rfl, hZ, hh⟩ := hP
  have hx := Bd.exec
  have hby := Bd.bytes
  have hml : c.maxLocals = 1 := hml0
  have hown : s.vm.findClass "com/example/uraniborg/uraniborg/model/JobSpec" = some m.cls := findClass_of_methodNamed Bd.named
  have hnm := (name_of_methodNamed Bd.named Bd.method).1
  have X0 : Stand p l e rom0 s m #[(.ref b)] below meth c s₁ [] 0 0 := Stand.of_body Bd
  have eh0 : s₁.heap = h0 := by rw [← hh, Bd.state]; rfl
  have N0 := Fr.nil n0
  have tw73 := hw _ (List.mem_of_getElem? (i := 73) rfl)
  have tw105 := hw _ (List.mem_of_getElem? (i := 105) rfl)
  show Goes p e below (Pq (Q_g_priority Z b pt h0 n0) s rom0.cells rom0.slots) (s₁.setTop (entryFrame m #[(.ref b)] 1))
  refine Goes.step (S' := s₁.setTop (mkF m 0 #[.val (.ref b)] [])) (fun t k => castTop (ef_g_priority m b) k) ?_
  refine Goes.step (S' := s₁.setTop (mkF m 1 #[.val (.ref b)] [(.ref b)])) (fun t k => XS.aloadN X0.here hx rfl (hb hby d_prog_7_method_20_code_0) rfl rfl k) ?_
  obtain ⟨T101, X101, e101, st101⟩ := getF X0 hx hZ hown (host := "") (Or.inl tw73) Via.refl eh0 Fb (g := (mkF m 1 #[.val (.ref b)] [(.ref b)])) rfl rfl (hb hby d_prog_7_method_20_code_1)
  refine Goes.step (S' := T101.setTop (mkF m 4 #[.val (.ref b)] [(.ref pt)])) (fun t k => st101 _ k) ?_
  obtain ⟨T102, X102, e102, st102⟩ := own_getR X101 hx hZ hown tw105  e101 Fp (g := (mkF m 4 #[.val (.ref b)] [(.ref pt)])) rfl rfl (hb hby d_prog_7_method_20_code_4)
  refine Goes.step (S' := T102.setTop (mkF m 7 #[.val (.ref b)] [(.long (0 : Int64))])) (fun t k => st102 _ k) ?_
  refine Goes.leave (g := (mkF m 7 #[.val (.ref b)] [(.long (0 : Int64))])) X102 Bd.notSynchronized (v := (some (.long (0 : Int64)))) (fun h => by rw [Bd.returns] at h; cases h) (fun fs hr => retJ X102 hx Bd.returns (hb hby d_prog_7_method_20_code_7) hr) e102 ?_ (by decide) (by decide)
  exact ⟨rfl, N0, rfl⟩

theorem ef_seq (m : MethodId) (x0 : Addr) (x1 : Addr) : entryFrame m #[(.ref x0), (.ref x1)] 3 = mkF m 0 #[.val (.ref x0), .val (.ref x1), .unset] [] := by first | (simp [entryFrame, mkF, argsToLocals, Value.category]; done) | rfl
def Q_seq (Z : State) (a1 : Addr) (h0 : Heap) (n0 : Nat) (v : Option Value) (h : Heap) (L : List Loc) : Prop := v = some (.int (1 : Int32)) ∧ Fr n0 L ∧ h = h0
set_option maxRecDepth 65536 in
set_option maxHeartbeats 40000000 in
theorem seq (l : Launch) (Z : State) (a0 : Array Value) (hw : ∀ d ∈ tables_1, d.before a0 Z = true) (ws : List Jvm.Cond) (a1 : Addr) (h0 : Heap) (n0 : Nat) (Z0 : n0 ≤ h0.size) :
    MetFree l mth19 (head1 (Jvm.Cond.code mth19 jdk_42_method_66_code 3 (some .boolean) :: ws) rom0) (fun a U => a = #[(.ref a1), (.ref a1)] ∧ Z.Warmed39 U.vm ∧ U.heap = h0) (fun _ _ _ _ _ => True) (fun _ U o U' => ∃ v L, o = .returned v ∧ Q_seq Z a1 h0 n0 v U'.heap L ∧ FrameEnd U o U' L rom0.cells rom0.slots) := by
  refine MetFree.of_bodySF (plainFor_of_name pnm1) hisR ?_
  intro p e s m args below meth c s₁ Bd hml0 hP hK
  obtain ⟨rfl, hZ, hh⟩ := hP
  have hx := Bd.exec
  have hby := Bd.bytes
  have hml : c.maxLocals = 3 := hml0
  have hown : s.vm.findClass "java/lang/String" = some m.cls := findClass_of_methodNamed Bd.named
  have hnm := (name_of_methodNamed Bd.named Bd.method).1
  have X0 : Stand p l e rom0 s m #[(.ref a1), (.ref a1)] below meth c s₁ [] 0 0 := Stand.of_body Bd
  have eh0 : s₁.heap = h0 := by rw [← hh, Bd.state]; rfl
  have N0 := Fr.nil n0
  show Goes p e below (Pq (Q_seq Z a1 h0 n0) s rom0.cells rom0.slots) (s₁.setTop (entryFrame m #[(.ref a1), (.ref a1)] 3))
  refine Goes.step (S' := s₁.setTop (mkF m 0 #[.val (.ref a1), .val (.ref a1), .unset] [])) (fun t k => castTop (ef_seq m a1 a1) k) ?_
  refine Goes.step (S' := s₁.setTop (mkF m 6 #[.val (.ref a1), .val (.ref a1), .unset] [(.int (1 : Int32))])) (fun t k => XS.aloadN X0.here hx rfl (hb hby d_jdk_42_method_66_code_0) rfl rfl (XS.aloadN X0.here hx rfl (hb hby d_jdk_42_method_66_code_1) rfl rfl (Jvm.RoadKit.acmp (g := (mkF m 2 #[.val (.ref a1), .val (.ref a1), .unset] [(.ref a1), (.ref a1)])) X0 hx rfl rfl rfl (pc0 := 2) (pc' := 5) (same := true) rfl (hb hby d_jdk_42_method_66_code_2) rfl (decide_eq_true rfl) (by decide) (by decide) (XS.iconst X0.here hx rfl (hb hby d_jdk_42_method_66_code_5) k)))) ?_
  refine Goes.leave (g := (mkF m 6 #[.val (.ref a1), .val (.ref a1), .unset] [(.int (1 : Int32))])) X0 Bd.notSynchronized (v := (some (.int (1 : Int32)))) (fun h => by rw [Bd.returns] at h; cases h) (fun fs hr => retN X0 hx (t := .boolean) Bd.returns (by simp) (hb hby d_jdk_42_method_66_code_6) hr) eh0 ?_ (by decide) (by decide)
  exact ⟨rfl, N0, rfl⟩

theorem ef_isE (m : MethodId) (x0 : Addr) : entryFrame m #[(.ref x0)] 1 = mkF m 0 #[.val (.ref x0)] [] := by first | (simp [entryFrame, mkF, argsToLocals, Value.category]; done) | rfl
def Q_isE (Z : State) (a1 : Addr) (ev : Addr) (kv : ClassId) (h0 : Heap) (n0 : Nat) (v : Option Value) (h : Heap) (L : List Loc) : Prop := v = some (.int (1 : Int32)) ∧ Fr n0 L ∧ h = h0
set_option maxRecDepth 65536 in
set_option maxHeartbeats 40000000 in
theorem isE (l : Launch) (Z : State) (a0 : Array Value) (hw : ∀ d ∈ tables_1, d.before a0 Z = true) (ws : List Jvm.Cond) (a1 : Addr) (ev : Addr) (kv : ClassId) (h0 : Heap) (n0 : Nat) (Z0 : n0 ≤ h0.size) (Fv : Fld Z h0 a1 "java/lang/String" "value" "[B" (.ref ev)) (V1 : Arv Z h0 ev kv .byte (0 : Int32) [] (.int (0 : Int32))) :
    MetFree l mth20 (head1 (Jvm.Cond.code mth20 jdk_42_method_55_code 1 (some .boolean) :: ws) rom0) (fun a U => a = #[(.ref a1)] ∧ Z.Warmed39 U.vm ∧ U.heap = h0) (fun _ _ _ _ _ => True) (fun _ U o U' => ∃ v L, o = .returned v ∧ Q_isE Z a1 ev kv h0 n0 v U'.heap L ∧ FrameEnd U o U' L rom0.cells rom0.slots) := by
  refine MetFree.of_bodySF (plainFor_of_name pnm1) hisR ?_
  intro p e s m args below meth c s₁ Bd hml0 hP hK
  obtain ⟨rfl, hZ, hh⟩ := hP
  have hx := Bd.exec
  have hby := Bd.bytes
  have hml : c.maxLocals = 1 := hml0
  have hown : s.vm.findClass "java/lang/String" = some m.cls := findClass_of_methodNamed Bd.named
  have hnm := (name_of_methodNamed Bd.named Bd.method).1
  have X0 : Stand p l e rom0 s m #[(.ref a1)] below meth c s₁ [] 0 0 := Stand.of_body Bd
  have eh0 : s₁.heap = h0 := by rw [← hh, Bd.state]; rfl
  have N0 := Fr.nil n0
  have tw32 := hw _ (List.mem_of_getElem? (i := 32) rfl)
  show Goes p e below (Pq (Q_isE Z a1 ev kv h0 n0) s rom0.cells rom0.slots) (s₁.setTop (entryFrame m #[(.ref a1)] 1))
  refine Goes.step (S' := s₁.setTop (mkF m 0 #[.val (.ref a1)] [])) (fun t k => castTop (ef_isE m a1) k) ?_
  refine Goes.step (S' := s₁.setTop (mkF m 1 #[.val (.ref a1)] [(.ref a1)])) (fun t k => XS.aloadN X0.here hx rfl (hb hby d_jdk_42_method_55_code_0) rfl rfl k) ?_
  obtain ⟨T101, X101, e101, st101⟩ := getF X0 hx hZ hown (host := "") (Or.inl tw32) Via.refl eh0 Fv (g := (mkF m 1 #[.val (.ref a1)] [(.ref a1)])) rfl rfl (hb hby d_jdk_42_method_55_code_1)
  refine Goes.step (S' := T101.setTop (mkF m 4 #[.val (.ref a1)] [(.ref ev)])) (fun t k => st101 _ k) ?_
  obtain ⟨cl102, Ar102, qk102, Sz102, Nn102, Hs102, Gs102⟩ := id V1
  refine Goes.step (S' := T101.setTop (mkF m 5 #[.val (.ref a1)] [(.int (0 : Int32))])) (fun t k => X101.arraylength hx (by rw [e101]; exact Ar102.1) (State.isArrayOf_alike hZ.alike Ar102.2.1) (g := (mkF m 4 #[.val (.ref a1)] [(.ref ev)])) rfl rfl (hb hby d_jdk_42_method_55_code_4) _ (by rw [len_of Sz102 Nn102]; exact k)) ?_
  refine Goes.step (S' := T101.setTop (mkF m 13 #[.val (.ref a1)] [(.int (1 : Int32))])) (fun t k => XS.ifNo X101.here hx rfl (hb hby d_jdk_42_method_55_code_5) rfl ((if0 _ _).trans (teq ((by decide) : (0 : Int32) = (0 : Int32))).2) (XS.iconst X101.here hx rfl (hb hby d_jdk_42_method_55_code_8) (XS.goto X101.here hx rfl (pc0 := 9) (pc' := 13) rfl (hb hby d_jdk_42_method_55_code_9) (by decide) (by decide) k))) ?_
  refine Goes.leave (g := (mkF m 13 #[.val (.ref a1)] [(.int (1 : Int32))])) X101 Bd.notSynchronized (v := (some (.int (1 : Int32)))) (fun h => by rw [Bd.returns] at h; cases h) (fun fs hr => retN X101 hx (t := .boolean) Bd.returns (by simp) (hb hby d_jdk_42_method_55_code_13) hr) e101 ?_ (by decide) (by decide)
  exact ⟨rfl, N0, rfl⟩

theorem ef_rpe (m : MethodId) (x0 : Addr) (x1 : Addr) : entryFrame m #[(.ref x0), (.ref x1)] 3 = mkF m 0 #[.val (.ref x0), .val (.ref x1), .unset] [] := by first | (simp [entryFrame, mkF, argsToLocals, Value.category]; done) | rfl
def Q_rpe (Z : State) (a1 : Addr) (h0 : Heap) (n0 : Nat) (v : Option Value) (h : Heap) (L : List Loc) : Prop := v = some (.int (1 : Int32)) ∧ Fr n0 L ∧ h = h0
set_option maxRecDepth 65536 in
set_option maxHeartbeats 40000000 in
theorem rpe (l : Launch) (Z : State) (a0 : Array Value) (hw : ∀ d ∈ tables_1, d.before a0 Z = true) (ws : List Jvm.Cond) (a1 : Addr) (h0 : Heap) (n0 : Nat) (Z0 : n0 ≤ h0.size) :
    MetFree l mth21 (head1 (Jvm.Cond.code mth21 prog_14_method_6_code 3 (some .boolean) :: ws) rom0) (fun a U => a = #[(.ref a1), (.ref a1)] ∧ Z.Warmed39 U.vm ∧ U.heap = h0) (fun _ _ _ _ _ => True) (fun _ U o U' => ∃ v L, o = .returned v ∧ Q_rpe Z a1 h0 n0 v U'.heap L ∧ FrameEnd U o U' L rom0.cells rom0.slots) := by
  refine MetFree.of_bodySF (plainFor_of_name pnm7) hisR ?_
  intro p e s m args below meth c s₁ Bd hml0 hP hK
  obtain ⟨rfl, hZ, hh⟩ := hP
  have hx := Bd.exec
  have hby := Bd.bytes
  have hml : c.maxLocals = 3 := hml0
  have hown : s.vm.findClass "com/example/uraniborg/uraniborg/model/RetryPolicy" = some m.cls := findClass_of_methodNamed Bd.named
  have hnm := (name_of_methodNamed Bd.named Bd.method).1
  have X0 : Stand p l e rom0 s m #[(.ref a1), (.ref a1)] below meth c s₁ [] 0 0 := Stand.of_body Bd
  have eh0 : s₁.heap = h0 := by rw [← hh, Bd.state]; rfl
  have N0 := Fr.nil n0
  show Goes p e below (Pq (Q_rpe Z a1 h0 n0) s rom0.cells rom0.slots) (s₁.setTop (entryFrame m #[(.ref a1), (.ref a1)] 3))
  refine Goes.step (S' := s₁.setTop (mkF m 0 #[.val (.ref a1), .val (.ref a1), .unset] [])) (fun t k => castTop (ef_rpe m a1 a1) k) ?_
  refine Goes.step (S' := s₁.setTop (mkF m 6 #[.val (.ref a1), .val (.ref a1), .unset] [(.int (1 : Int32))])) (fun t k => XS.aloadN X0.here hx rfl (hb hby d_prog_14_method_6_code_0) rfl rfl (XS.aloadN X0.here hx rfl (hb hby d_prog_14_method_6_code_1) rfl rfl (Jvm.RoadKit.acmp (g := (mkF m 2 #[.val (.ref a1), .val (.ref a1), .unset] [(.ref a1), (.ref a1)])) X0 hx rfl rfl rfl (pc0 := 2) (pc' := 5) (same := true) rfl (hb hby d_prog_14_method_6_code_2) rfl (decide_eq_true rfl) (by decide) (by decide) (XS.iconst X0.here hx rfl (hb hby d_prog_14_method_6_code_5) k)))) ?_
  refine Goes.leave (g := (mkF m 6 #[.val (.ref a1), .val (.ref a1), .unset] [(.int (1 : Int32))])) X0 Bd.notSynchronized (v := (some (.int (1 : Int32)))) (fun h => by rw [Bd.returns] at h; cases h) (fun fs hr => retN X0 hx (t := .boolean) Bd.returns (by simp) (hb hby d_prog_14_method_6_code_6) hr) eh0 ?_ (by decide) (by decide)
  exact ⟨rfl, N0, rfl⟩

theorem ef_law (m : MethodId) (x0 : Int32) (x1 : Int32) (x2 : Int32) : entryFrame m #[(.int x0), (.int x1), (.int x2)] maxLocals = mkF m 0 #[.val (.int x0), .val (.int x1), .val (.int x2), .unset, .unset, .unset, .unset] [] := by first | (simp [entryFrame, mkF, argsToLocals, Value.category, maxLocals]; done) | rfl
def Q_law (Z : State) (p0 : Int32) (p1 : Int32) (p2 : Int32) (w_DEFAULT : Addr) (cs : Int32) (h0 : Heap) (n0 : Nat) (v : Option Value) (h : Heap) (L : List Loc) : Prop := v = some (.int (1 : Int32)) ∧ Fr n0 L
set_option maxRecDepth 65536 in
set_option maxHeartbeats 40000000 in
theorem law (l : Launch) (Z : State) (a0 : Array Value) (hw : ∀ d ∈ tables_1, d.before a0 Z = true) (ws : List Jvm.Cond) (p0 : Int32) (p1 : Int32) (p2 : Int32) (w_DEFAULT : Addr) (cs : Int32) (h0 : Heap) (n0 : Nat) (Z0 : n0 ≤ h0.size) (S_DEFAULT : Sta Z h0 "com/example/uraniborg/uraniborg/model/RetryPolicy" "DEFAULT" "Lcom/example/uraniborg/uraniborg/model/RetryPolicy;" (.ref w_DEFAULT)) (E_DEFAULT : Exa Z h0 w_DEFAULT "com/example/uraniborg/uraniborg/model/RetryPolicy") (SC : Sta Z h0 "java/lang/String" "COMPACT_STRINGS" "Z" (.int cs)) (PC : ¬ (cs = (0 : Int32))) :
    MetFree l x (head1 (Jvm.Cond.code x code maxLocals ret :: ws) room_1) (fun a U => a = #[(.int p0), (.int p1), (.int p2)] ∧ Z.Warmed39 U.vm ∧ U.heap = h0 ∧ CHv Z own_EL U.vm h0) (fun _ _ _ _ _ => True) (fun _ U o U' => ∃ v L, o = .returned v ∧ Q_law Z p0 p1 p2 w_DEFAULT cs h0 n0 v U'.heap L ∧ CHr Z own_EL U.vm U.heap U'.vm U'.heap ∧ ReturnedEndW U o U' L room_1.cells room_1.slots) := by
  refine MetFree.of_bodySF (plainFor_of_name pnm3) hisR ?_
  intro p e s m args below meth c s₁ Bd hml0 hP hK
  obtain ⟨rfl, hZ, hh, hC⟩ := hP
  have hx := Bd.exec
  have hby := Bd.bytes
  have hml : c.maxLocals = 7 := hml0
  have hown : s.vm.findClass "com/example/uraniborg/uraniborg/model/JobSpecOneOffPinLaw" = some m.cls := findClass_of_methodNamed Bd.named
  have hnm := (name_of_methodNamed Bd.named Bd.method).1
  have X0 : Stand p l e room_1 s m #[(.int p0), (.int p1), (.int p2)] below meth c s₁ [] 0 0 := Stand.of_body Bd
  replace X0 : Stand p l e room_1 (s.setVm s.vm) m #[(.int p0), (.int p1), (.int p2)] below meth c s₁ [] 0 0 := X0
  have hZ0 := hZ
  have hown0 := hown
  have hS0 := own_s0 s h0.size
  have CR0 : CHr Z own_EL s.vm h0 s.vm h0 := CHr.refl hC
  have eh0 : s₁.heap = h0 := by rw [← hh, Bd.state]; rfl
  have N0 := Fr.nil n0
  have tw0 := hw _ (List.mem_of_getElem? (i := 0) rfl)
  have tw1 := hw _ (List.mem_of_getElem? (i := 1) rfl)
  have tw2 := hw _ (List.mem_of_getElem? (i := 2) rfl)
  have tw3 := hw _ (List.mem_of_getElem? (i := 3) rfl)
  have tw6 := hw _ (List.mem_of_getElem? (i := 6) rfl)
  have tw37 := hw _ (List.mem_of_getElem? (i := 37) rfl)
  have tw38 := hw _ (List.mem_of_getElem? (i := 38) rfl)
  have tw39 := hw _ (List.mem_of_getElem? (i := 39) rfl)
  have tw40 := hw _ (List.mem_of_getElem? (i := 40) rfl)
  have tw63 := hw _ (List.mem_of_getElem? (i := 63) rfl)
  have tw75 := hw _ (List.mem_of_getElem? (i := 75) rfl)
  have tw76 := hw _ (List.mem_of_getElem? (i := 76) rfl)
  have tw77 := hw _ (List.mem_of_getElem? (i := 77) rfl)
  have tw78 := hw _ (List.mem_of_getElem? (i := 78) rfl)
  have tw79 := hw _ (List.mem_of_getElem? (i := 79) rfl)
  have tw80 := hw _ (List.mem_of_getElem? (i := 80) rfl)
  have tw81 := hw _ (List.mem_of_getElem? (i := 81) rfl)
  have tw82 := hw _ (List.mem_of_getElem? (i := 82) rfl)
  have tw83 := hw _ (List.mem_of_getElem? (i := 83) rfl)
  have tw84 := hw _ (List.mem_of_getElem? (i := 84) rfl)
  have tw85 := hw _ (List.mem_of_getElem? (i := 85) rfl)
  have tw86 := hw _ (List.mem_of_getElem? (i := 86) rfl)
  have tw87 := hw _ (List.mem_of_getElem? (i := 87) rfl)
  have tw88 := hw _ (List.mem_of_getElem? (i := 88) rfl)
  have tw89 := hw _ (List.mem_of_getElem? (i := 89) rfl)
  have tw90 := hw _ (List.mem_of_getElem? (i := 90) rfl)
  have tw91 := hw _ (List.mem_of_getElem? (i := 91) rfl)
  have tw92 := hw _ (List.mem_of_getElem? (i := 92) rfl)
  have tw93 := hw _ (List.mem_of_getElem? (i := 93) rfl)
  have tw94 := hw _ (List.mem_of_getElem? (i := 94) rfl)
  have tw95 := hw _ (List.mem_of_getElem? (i := 95) rfl)
  have tw96 := hw _ (List.mem_of_getElem? (i := 96) rfl)
  have tw97 := hw _ (List.mem_of_getElem? (i := 97) rfl)
  have tw98 := hw _ (List.mem_of_getElem? (i := 98) rfl)
  have tw99 := hw _ (List.mem_of_getElem? (i := 99) rfl)
  have tw100 := hw _ (List.mem_of_getElem? (i := 100) rfl)
  have tw101 := hw _ (List.mem_of_getElem? (i := 101) rfl)
  have tw102 := hw _ (List.mem_of_getElem? (i := 102) rfl)
  have tw103 := hw _ (List.mem_of_getElem? (i := 103) rfl)
  have tw104 := hw _ (List.mem_of_getElem? (i := 104) rfl)
  have tw107 := hw _ (List.mem_of_getElem? (i := 107) rfl)
  have tw108 := hw _ (List.mem_of_getElem? (i := 108) rfl)
  have tw109 := hw _ (List.mem_of_getElem? (i := 109) rfl)
  have tw110 := hw _ (List.mem_of_getElem? (i := 110) rfl)
  have tw111 := hw _ (List.mem_of_getElem? (i := 111) rfl)
  have tw112 := hw _ (List.mem_of_getElem? (i := 112) rfl)
  have tw113 := hw _ (List.mem_of_getElem? (i := 113) rfl)
  have tw114 := hw _ (List.mem_of_getElem? (i := 114) rfl)
  have tw115 := hw _ (List.mem_of_getElem? (i := 115) rfl)
  have tw116 := hw _ (List.mem_of_getElem? (i := 116) rfl)
  have tw117 := hw _ (List.mem_of_getElem? (i := 117) rfl)
  show Goes p e below (Ph Z own_EL (Q_law Z p0 p1 p2 w_DEFAULT cs h0 n0) s room_1.cells room_1.slots) (s₁.setTop (entryFrame m #[(.int p0), (.int p1), (.int p2)] maxLocals))
  refine Goes.step (S' := s₁.setTop (mkF m 0 #[.val (.int p0), .val (.int p1), .val (.int p2), .unset, .unset, .unset, .unset] [])) (fun t k => castTop (ef_law m p0 p1 p2) k) ?_
  refine Goes.step (S' := s₁.setTop (mkF m 4 #[.val (.int p0), .val (.int p1), .val (.int p2), .unset, .unset, .unset, .unset] [(.int (p2 &&& (3 : Int32))), (.int p0)])) (fun t k => XS.iloadN X0.here hx rfl (hb hby at_0) rfl (XS.iloadN X0.here hx rfl (hb hby at_1) rfl (XS.iconst X0.here hx rfl (hb hby at_2) (XS.iand X0.here hx rfl (hb hby at_3) rfl k)))) ?_
  obtain ⟨_, _, ⟨T101, L101, k101, n101⟩, -, X101, hs101, gr101, ⟨Lc101, hQ101, l101, y101, z101, CX101⟩, st101⟩ := callSS X0 hx (y := mth9) hown (mvT hZ tw0) (mvT hZ tw1) (mvT hZ tw2) (mvT hZ tw3) (by decide) (backOfSH (EL := own_EL) (W := 0) (draw l Z a0 hw [] p0 (p2 &&& (3 : Int32)) cs h0 n0 Z0 SC (PC : ¬ (cs = (0 : Int32)))) hZ tw3 tw2 (by decide) (by decide) (own_ew hw) CR0.1) (g := (mkF m 4 #[.val (.int p0), .val (.int p1), .val (.int p2), .unset, .unset, .unset, .unset] [(.int (p2 &&& (3 : Int32))), (.int p0)])) rfl (by rw [hml]; rfl) (argsL := [(.int p0), (.int (p2 &&& (3 : Int32)))]) (rest := []) (lenOf pd_II_Ljava_lang_String rfl) rfl (Nat.le_of_eq rfl) (hb hby at_4) (fun _ _ => ⟨rfl, eh0, (by decide : 0 + 6 ≤ _), (by decide : 0 + 12 ≤ _)⟩)
  dsimp only [Pt.U, Pt.locs, Pt.cells, Pt.slots] at X101 l101 y101 z101 st101 hQ101 hs101 gr101 CX101
  subst y101 z101
  replace X101 := own_fold X101
  have hS101 := foldS hS0 (by rw [eh0]; exact (Nat.le_refl _)) hs101 gr101
  obtain ⟨hZ, hown⟩ := own_since hZ0 hown0 hS101
  obtain ⟨b_101, rfl, Nq101, q101_0, q101_1, q101_2⟩ := hQ101
  have N101 : Fr n0 L101 := by rw [l101]; exact Fr.app N0 Nq101
  have CR101 := CR0.trans CX101
  refine Goes.step (S' := T101.setTop (mkF m 14 #[.val (.int p0), .val (.int p1), .val (.int p2), .val (.ref b_101), .unset, .unset, .unset] [(.int (((p2.toUInt32 >>> ((2 : Int32) &&& 31).toUInt32).toInt32) &&& (3 : Int32))), (.int p1)])) (fun t k => st101.trans (XS.astoreN X101.here hx rfl (hb hby at_7) rfl rfl (l' := #[.val (.int p0), .val (.int p1), .val (.int p2), .val (.ref b_101), .unset, .unset, .unset]) rfl (XS.iloadN X101.here hx rfl (hb hby at_8) rfl (XS.iloadN X101.here hx rfl (hb hby at_9) rfl (XS.iconst X101.here hx rfl (hb hby at_10) (XS.iushr X101.here hx rfl (hb hby at_11) rfl (XS.iconst X101.here hx rfl (hb hby at_12) (XS.iand X101.here hx rfl (hb hby at_13) rfl k)))))))) ?_
  obtain ⟨_, _, ⟨T102, L102, k102, n102⟩, -, X102, hs102, gr102, ⟨Lc102, hQ102, l102, y102, z102, CX102⟩, st102⟩ := callSS X101 hx (y := mth9) hown (mvT hZ tw0) (mvT hZ tw1) (mvT hZ tw2) (mvT hZ tw3) (by decide) (backOfSH (EL := own_EL) (W := 0) (draw l Z a0 hw [] p1 (((p2.toUInt32 >>> ((2 : Int32) &&& 31).toUInt32).toInt32) &&& (3 : Int32)) cs T101.heap n0 (Nat.le_trans Z0 q101_0.1) (own_stakeep SC q101_0 ns0) (PC : ¬ (cs = (0 : Int32)))) hZ tw3 tw2 (by decide) (by decide) (own_ew hw) CR101.1) (g := (mkF m 14 #[.val (.int p0), .val (.int p1), .val (.int p2), .val (.ref b_101), .unset, .unset, .unset] [(.int (((p2.toUInt32 >>> ((2 : Int32) &&& 31).toUInt32).toInt32) &&& (3 : Int32))), (.int p1)])) rfl (by rw [hml]; rfl) (argsL := [(.int p1), (.int (((p2.toUInt32 >>> ((2 : Int32) &&& 31).toUInt32).toInt32) &&& (3 : Int32)))]) (rest := []) (lenOf pd_II_Ljava_lang_String rfl) rfl (Nat.le_of_eq rfl) (hb hby at_14) (fun _ _ => ⟨rfl, rfl, (by decide : 6 + 6 ≤ _), (by decide : 12 + 12 ≤ _)⟩)
  dsimp only [Pt.U, Pt.locs, Pt.cells, Pt.slots] at X102 l102 y102 z102 st102 hQ102 hs102 gr102 CX102
  subst y102 z102
  replace X102 := own_fold X102
  have hS102 := foldS hS101 (Nat.le_refl _) hs102 gr102
  obtain ⟨hZ, hown⟩ := own_since hZ0 hown0 hS102
  obtain ⟨b_102, rfl, Nq102, q102_0, q102_1, q102_2⟩ := hQ102
  have N102 : Fr n0 L102 := by rw [l102]; exact Fr.app N101 Nq102
  have CR102 := CR101.trans CX102
  refine Goes.step (S' := T102.setTop (mkF m 22 #[.val (.int p0), .val (.int p1), .val (.int p2), .val (.ref b_101), .val (.ref b_102), .unset, .unset] [(.ref b_102), (.ref b_101)])) (fun t k => st102.trans (XS.astore X102.here hx rfl (hb hby at_17) rfl rfl (l' := #[.val (.int p0), .val (.int p1), .val (.int p2), .val (.ref b_101), .val (.ref b_102), .unset, .unset]) rfl (XS.aloadN X102.here hx rfl (hb hby at_19) rfl rfl (XS.aload X102.here hx rfl (hb hby at_20) rfl rfl k)))) ?_
  obtain ⟨_, _, ⟨T103, L103, k103, n103⟩, -, X103, hs103, gr103, ⟨Lc103, hQ103, l103, y103, z103, CX103⟩, st103⟩ := callSS X102 hx (y := mth13) hown (mvT hZ tw37) (mvT hZ tw38) (mvT hZ tw39) (mvT hZ tw40) (by decide) (backOfSH (EL := own_EL) (W := 0) (oof l Z a0 hw [] b_101 b_102 w_DEFAULT T102.heap n0 (Nat.le_trans Z0 (Nat.le_trans q101_0.1 q102_0.1)) (q101_2.keep q102_0) q102_2 (own_stakeep (own_stakeep S_DEFAULT q101_0 ns0) q102_0 ns0) ((E_DEFAULT.keep q101_0).keep q102_0)) hZ tw40 tw39 (by decide) (by decide) (own_ew hw) CR102.1) (g := (mkF m 22 #[.val (.int p0), .val (.int p1), .val (.int p2), .val (.ref b_101), .val (.ref b_102), .unset, .unset] [(.ref b_102), (.ref b_101)])) rfl (by rw [hml]; rfl) (argsL := [(.ref b_101), (.ref b_102)]) (rest := []) (lenOf pd_Ljava_lang_String_Ljava_lang_String__Lcom_example_uraniborg_uraniborg_model_JobSpec rfl) rfl (Nat.le_of_eq rfl) (hb hby at_22) (fun _ _ => ⟨rfl, rfl, (by decide : 12 + 8 ≤ _), (by decide : 24 + 67 ≤ _)⟩)
  dsimp only [Pt.U, Pt.locs, Pt.cells, Pt.slots] at X103 l103 y103 z103 st103 hQ103 hs103 gr103 CX103
  subst y103 z103
  replace X103 := own_fold X103
  have hS103 := foldS hS102 (Nat.le_refl _) hs103 gr103
  obtain ⟨hZ, hown⟩ := own_since hZ0 hown0 hS103
  obtain ⟨b_103, pt_103, em_103, ev_103, kv_103, rfl, Nq103, q103_0, q103_1, q103_2, q103_3, q103_4, q103_5, q103_6, q103_7, q103_8, q103_9, q103_10⟩ := hQ103
  have N103 : Fr n0 L103 := by rw [l103]; exact Fr.app N102 Nq103
  have CR103 := CR102.trans CX103
  refine Goes.step (S' := T103.setTop (mkF m 29 #[.val (.int p0), .val (.int p1), .val (.int p2), .val (.ref b_101), .val (.ref b_102), .val (.ref b_103), .unset] [(.ref b_103)])) (fun t k => st103.trans (XS.astore X103.here hx rfl (hb hby at_25) rfl rfl (l' := #[.val (.int p0), .val (.int p1), .val (.int p2), .val (.ref b_101), .val (.ref b_102), .val (.ref b_103), .unset]) rfl (XS.aload X103.here hx rfl (hb hby at_27) rfl rfl k))) ?_
  obtain ⟨cq104, kq104, q104a, q104b, q104c⟩ := isOf hZ rfl q103_1
  obtain ⟨_, _, ⟨T104, L104, k104, n104⟩, -, X104, ⟨Lc104, hQ104, l104, y104, z104⟩, st104⟩ := X103.virtualBack hx (y := mth14) (z := mth14) hown (mvT hZ tw75) (mvT hZ tw76) (notFace_of_selects (args := #[]) (mvT hZ tw78)) (mvT hZ tw78) (mvT hZ tw77) (by decide) (backOf (W := 0) (g_payload l Z a0 hw [] b_103 pt_103 em_103 T103.heap n0 (Nat.le_trans Z0 (Nat.le_trans (Nat.le_trans q101_0.1 q102_0.1) q103_0.1)) q103_2 q103_5) hZ tw79 tw39 (by decide) (by decide)) q104a q104c (g := (mkF m 29 #[.val (.int p0), .val (.int p1), .val (.int p2), .val (.ref b_101), .val (.ref b_102), .val (.ref b_103), .unset] [(.ref b_103)])) rfl (by rw [hml]; rfl) (Steps.refl _) (argsL := []) (rest := []) (lenOf pd_Ljava_lang_String rfl) rfl (Nat.le_of_eq rfl) (hb hby at_29) (fun _ _ => ⟨rfl, rfl, (by decide : 20 + 0 ≤ _), (by decide : 91 + 0 ≤ _)⟩)
  dsimp only [Pt.U, Pt.locs, Pt.cells, Pt.slots] at X104 l104 y104 z104 st104 hQ104
  subst y104 z104
  obtain ⟨rfl, Nq104, q104_0⟩ := hQ104
  have N104 : Fr n0 L104 := by rw [l104]; exact Fr.app N103 Nq104
  refine Goes.step (S' := T104.setTop (mkF m 37 #[.val (.int p0), .val (.int p1), .val (.int p2), .val (.ref b_101), .val (.ref b_102), .val (.ref b_103), .val (.ref em_103)] [(.ref b_103), (.ref b_101)])) (fun t k => st104.trans (XS.astore X104.here hx rfl (hb hby at_32) rfl rfl (l' := #[.val (.int p0), .val (.int p1), .val (.int p2), .val (.ref b_101), .val (.ref b_102), .val (.ref b_103), .val (.ref em_103)]) rfl (XS.aloadN X104.here hx rfl (hb hby at_34) rfl rfl (XS.aload X104.here hx rfl (hb hby at_35) rfl rfl k)))) ?_
  obtain ⟨cq105, kq105, q105a, q105b, q105c⟩ := isOf hZ q104_0 q103_1
  obtain ⟨_, _, ⟨T105, L105, k105, n105⟩, -, X105, ⟨Lc105, hQ105, l105, y105, z105⟩, st105⟩ := X104.virtualBack hx (y := mth15) (z := mth15) hown (mvT hZ tw80) (mvT hZ tw81) (notFace_of_selects (args := #[]) (mvT hZ tw83)) (mvT hZ tw83) (mvT hZ tw82) (by decide) (backOf (W := 1) (g_key l Z a0 hw [] b_103 pt_103 b_101 T103.heap n0 (Nat.le_trans Z0 (Nat.le_trans (Nat.le_trans q101_0.1 q102_0.1) q103_0.1)) q103_2 q103_3) hZ tw84 tw39 (by decide) (by decide)) q105a q105c (g := (mkF m 37 #[.val (.int p0), .val (.int p1), .val (.int p2), .val (.ref b_101), .val (.ref b_102), .val (.ref b_103), .val (.ref em_103)] [(.ref b_103), (.ref b_101)])) rfl (by rw [hml]; rfl) (Steps.refl _) (argsL := []) (rest := [(.ref b_101)]) (lenOf pd_Ljava_lang_String rfl) rfl (Nat.le_of_eq rfl) (hb hby at_37) (fun _ _ => ⟨rfl, q104_0, (by decide : 20 + 0 ≤ _), (by decide : 91 + 0 ≤ _)⟩)
  dsimp only [Pt.U, Pt.locs, Pt.cells, Pt.slots] at X105 l105 y105 z105 st105 hQ105
  subst y105 z105
  obtain ⟨rfl, Nq105, q105_0⟩ := hQ105
  have N105 : Fr n0 L105 := by rw [l105]; exact Fr.app N104 Nq105
  refine Goes.step (S' := T105.setTop (mkF m 40 #[.val (.int p0), .val (.int p1), .val (.int p2), .val (.ref b_101), .val (.ref b_102), .val (.ref b_103), .val (.ref em_103)] [(.ref b_101), (.ref b_101)])) (fun t k => st105.trans k) ?_
  obtain ⟨cq106, kq106, q106a, q106b, q106c⟩ := isOf hZ q105_0 ((q101_2.keep q102_0).keep q103_0)
  obtain ⟨_, _, ⟨T106, L106, k106, n106⟩, -, X106, ⟨Lc106, hQ106, l106, y106, z106⟩, st106⟩ := X105.virtualBack hx (y := mth19) (z := mth19) hown (mvT hZ tw85) (mvT hZ tw86) (notFace_of_selects (args := #[]) (mvT hZ tw88)) (mvT hZ tw88) (mvT hZ tw87) (by decide) (backOf (W := 0) (seq l Z a0 hw [] b_101 T103.heap n0 (Nat.le_trans Z0 (Nat.le_trans (Nat.le_trans q101_0.1 q102_0.1) q103_0.1)) ) hZ tw89 tw6 (by decide) (by decide)) q106a q106c (g := (mkF m 40 #[.val (.int p0), .val (.int p1), .val (.int p2), .val (.ref b_101), .val (.ref b_102), .val (.ref b_103), .val (.ref em_103)] [(.ref b_101), (.ref b_101)])) rfl (by rw [hml]; rfl) (Steps.refl _) (argsL := [(.ref b_101)]) (rest := []) (lenOf pd_Ljava_lang_Object__Z rfl) rfl (Nat.le_of_eq rfl) (hb hby at_40) (fun _ _ => ⟨rfl, q105_0, (by decide : 20 + 0 ≤ _), (by decide : 91 + 0 ≤ _)⟩)
  dsimp only [Pt.U, Pt.locs, Pt.cells, Pt.slots] at X106 l106 y106 z106 st106 hQ106
  subst y106 z106
  obtain ⟨rfl, Nq106, q106_0⟩ := hQ106
  have N106 : Fr n0 L106 := by rw [l106]; exact Fr.app N105 Nq106
  refine Goes.step (S' := T106.setTop (mkF m 50 #[.val (.int p0), .val (.int p1), .val (.int p2), .val (.ref b_101), .val (.ref b_102), .val (.ref b_103), .val (.ref em_103)] [(.ref b_103), (.ref b_102)])) (fun t k => st106.trans (XS.ifNo X106.here hx rfl (hb hby at_43) rfl ((if0 _ _).trans (feq ((by decide) : ¬ ((1 : Int32) = (0 : Int32)))).1) (XS.aload X106.here hx rfl (hb hby at_46) rfl rfl (XS.aload X106.here hx rfl (hb hby at_48) rfl rfl k)))) ?_
  obtain ⟨cq107, kq107, q107a, q107b, q107c⟩ := isOf hZ q106_0 q103_1
  obtain ⟨_, _, ⟨T107, L107, k107, n107⟩, -, X107, ⟨Lc107, hQ107, l107, y107, z107⟩, st107⟩ := X106.virtualBack hx (y := mth16) (z := mth16) hown (mvT hZ tw90) (mvT hZ tw91) (notFace_of_selects (args := #[]) (mvT hZ tw93)) (mvT hZ tw93) (mvT hZ tw92) (by decide) (backOf (W := 1) (g_handler l Z a0 hw [] b_103 pt_103 b_102 T103.heap n0 (Nat.le_trans Z0 (Nat.le_trans (Nat.le_trans q101_0.1 q102_0.1) q103_0.1)) q103_2 q103_4) hZ tw94 tw39 (by decide) (by decide)) q107a q107c (g := (mkF m 50 #[.val (.int p0), .val (.int p1), .val (.int p2), .val (.ref b_101), .val (.ref b_102), .val (.ref b_103), .val (.ref em_103)] [(.ref b_103), (.ref b_102)])) rfl (by rw [hml]; rfl) (Steps.refl _) (argsL := []) (rest := [(.ref b_102)]) (lenOf pd_Ljava_lang_String rfl) rfl (Nat.le_of_eq rfl) (hb hby at_50) (fun _ _ => ⟨rfl, q106_0, (by decide : 20 + 0 ≤ _), (by decide : 91 + 0 ≤ _)⟩)
  dsimp only [Pt.U, Pt.locs, Pt.cells, Pt.slots] at X107 l107 y107 z107 st107 hQ107
  subst y107 z107
  obtain ⟨rfl, Nq107, q107_0⟩ := hQ107
  have N107 : Fr n0 L107 := by rw [l107]; exact Fr.app N106 Nq107
  refine Goes.step (S' := T107.setTop (mkF m 53 #[.val (.int p0), .val (.int p1), .val (.int p2), .val (.ref b_101), .val (.ref b_102), .val (.ref b_103), .val (.ref em_103)] [(.ref b_102), (.ref b_102)])) (fun t k => st107.trans k) ?_
  obtain ⟨cq108, kq108, q108a, q108b, q108c⟩ := isOf hZ q107_0 (q102_2.keep q103_0)
  obtain ⟨_, _, ⟨T108, L108, k108, n108⟩, -, X108, ⟨Lc108, hQ108, l108, y108, z108⟩, st108⟩ := X107.virtualBack hx (y := mth19) (z := mth19) hown (mvT hZ tw85) (mvT hZ tw86) (notFace_of_selects (args := #[]) (mvT hZ tw88)) (mvT hZ tw88) (mvT hZ tw87) (by decide) (backOf (W := 0) (seq l Z a0 hw [] b_102 T103.heap n0 (Nat.le_trans Z0 (Nat.le_trans (Nat.le_trans q101_0.1 q102_0.1) q103_0.1)) ) hZ tw89 tw6 (by decide) (by decide)) q108a q108c (g := (mkF m 53 #[.val (.int p0), .val (.int p1), .val (.int p2), .val (.ref b_101), .val (.ref b_102), .val (.ref b_103), .val (.ref em_103)] [(.ref b_102), (.ref b_102)])) rfl (by rw [hml]; rfl) (Steps.refl _) (argsL := [(.ref b_102)]) (rest := []) (lenOf pd_Ljava_lang_Object__Z rfl) rfl (Nat.le_of_eq rfl) (hb hby at_53) (fun _ _ => ⟨rfl, q107_0, (by decide : 20 + 0 ≤ _), (by decide : 91 + 0 ≤ _)⟩)
  dsimp only [Pt.U, Pt.locs, Pt.cells, Pt.slots] at X108 l108 y108 z108 st108 hQ108
  subst y108 z108
  obtain ⟨rfl, Nq108, q108_0⟩ := hQ108
  have N108 : Fr n0 L108 := by rw [l108]; exact Fr.app N107 Nq108
  refine Goes.step (S' := T108.setTop (mkF m 66 #[.val (.int p0), .val (.int p1), .val (.int p2), .val (.ref b_101), .val (.ref b_102), .val (.ref b_103), .val (.ref em_103)] [(.ref em_103)])) (fun t k => st108.trans (XS.ifNo X108.here hx rfl (hb hby at_56) rfl ((if0 _ _).trans (feq ((by decide) : ¬ ((1 : Int32) = (0 : Int32)))).1) (XS.aload X108.here hx rfl (hb hby at_59) rfl rfl (XS.ifnullNo X108.here hx rfl (hb hby at_61) rfl (XS.aload X108.here hx rfl (hb hby at_64) rfl rfl k))))) ?_
  obtain ⟨cq109, kq109, q109a, q109b, q109c⟩ := isOf hZ q108_0 q103_8
  obtain ⟨_, _, ⟨T109, L109, k109, n109⟩, -, X109, ⟨Lc109, hQ109, l109, y109, z109⟩, st109⟩ := X108.virtualBack hx (y := mth20) (z := mth20) hown (mvT hZ tw95) (mvT hZ tw96) (notFace_of_selects (args := #[]) (mvT hZ tw98)) (mvT hZ tw98) (mvT hZ tw97) (by decide) (backOf (W := 0) (isE l Z a0 hw [] em_103 ev_103 kv_103 T103.heap n0 (Nat.le_trans Z0 (Nat.le_trans (Nat.le_trans q101_0.1 q102_0.1) q103_0.1)) q103_9 q103_10) hZ tw99 tw6 (by decide) (by decide)) q109a q109c (g := (mkF m 66 #[.val (.int p0), .val (.int p1), .val (.int p2), .val (.ref b_101), .val (.ref b_102), .val (.ref b_103), .val (.ref em_103)] [(.ref em_103)])) rfl (by rw [hml]; rfl) (Steps.refl _) (argsL := []) (rest := []) (lenOf pd_Z rfl) rfl (Nat.le_of_eq rfl) (hb hby at_66) (fun _ _ => ⟨rfl, q108_0, (by decide : 20 + 0 ≤ _), (by decide : 91 + 0 ≤ _)⟩)
  dsimp only [Pt.U, Pt.locs, Pt.cells, Pt.slots] at X109 l109 y109 z109 st109 hQ109
  subst y109 z109
  obtain ⟨rfl, Nq109, q109_0⟩ := hQ109
  have N109 : Fr n0 L109 := by rw [l109]; exact Fr.app N108 Nq109
  refine Goes.step (S' := T109.setTop (mkF m 74 #[.val (.int p0), .val (.int p1), .val (.int p2), .val (.ref b_101), .val (.ref b_102), .val (.ref b_103), .val (.ref em_103)] [(.ref b_103)])) (fun t k => st109.trans (XS.ifNo X109.here hx rfl (hb hby at_69) rfl ((if0 _ _).trans (feq ((by decide) : ¬ ((1 : Int32) = (0 : Int32)))).1) (XS.aload X109.here hx rfl (hb hby at_72) rfl rfl k))) ?_
  obtain ⟨cq110, kq110, q110a, q110b, q110c⟩ := isOf hZ q109_0 q103_1
  obtain ⟨_, _, ⟨T110, L110, k110, n110⟩, -, X110, ⟨Lc110, hQ110, l110, y110, z110⟩, st110⟩ := X109.virtualBack hx (y := mth18) (z := mth18) hown (mvT hZ tw100) (mvT hZ tw101) (notFace_of_selects (args := #[]) (mvT hZ tw103)) (mvT hZ tw103) (mvT hZ tw102) (by decide) (backOf (W := 0) (g_priority l Z a0 hw [] b_103 pt_103 T103.heap n0 (Nat.le_trans Z0 (Nat.le_trans (Nat.le_trans q101_0.1 q102_0.1) q103_0.1)) q103_2 q103_7) hZ tw104 tw39 (by decide) (by decide)) q110a q110c (g := (mkF m 74 #[.val (.int p0), .val (.int p1), .val (.int p2), .val (.ref b_101), .val (.ref b_102), .val (.ref b_103), .val (.ref em_103)] [(.ref b_103)])) rfl (by rw [hml]; rfl) (Steps.refl _) (argsL := []) (rest := []) (lenOf pd_J rfl) rfl (Nat.le_of_eq rfl) (hb hby at_74) (fun _ _ => ⟨rfl, q109_0, (by decide : 20 + 0 ≤ _), (by decide : 91 + 0 ≤ _)⟩)
  dsimp only [Pt.U, Pt.locs, Pt.cells, Pt.slots] at X110 l110 y110 z110 st110 hQ110
  subst y110 z110
  obtain ⟨rfl, Nq110, q110_0⟩ := hQ110
  have N110 : Fr n0 L110 := by rw [l110]; exact Fr.app N109 Nq110
  refine Goes.step (S' := T110.setTop (mkF m 82 #[.val (.int p0), .val (.int p1), .val (.int p2), .val (.ref b_101), .val (.ref b_102), .val (.ref b_103), .val (.ref em_103)] [])) (fun t k => st110.trans (XS.lconst X110.here hx rfl (hb hby at_77) (XS.lcmp X110.here hx rfl (hb hby at_78) rfl (XS.ifNo X110.here hx rfl (hb hby at_79) rfl ((if0 _ _).trans (teq (by decide : (lcmpW (0 : Int64) (0 : Int64)) = (0 : Int32))).2) k)))) ?_
  obtain ⟨T111, X111, e111, st111⟩ := getS2 X110 hx hZ hown (host := "") (Or.inl tw107) Via.refl q110_0 (own_stakeep (own_stakeep (own_stakeep S_DEFAULT q101_0 ns0) q102_0 ns0) q103_0 ns0) (g := (mkF m 82 #[.val (.int p0), .val (.int p1), .val (.int p2), .val (.ref b_101), .val (.ref b_102), .val (.ref b_103), .val (.ref em_103)] [])) rfl (hb hby at_82)
  refine Goes.step (S' := T111.setTop (mkF m 87 #[.val (.int p0), .val (.int p1), .val (.int p2), .val (.ref b_101), .val (.ref b_102), .val (.ref b_103), .val (.ref em_103)] [(.ref b_103), (.ref w_DEFAULT)])) (fun t k => st111 _ (XS.aload X111.here hx rfl (hb hby at_85) rfl rfl k)) ?_
  obtain ⟨cq112, kq112, q112a, q112b, q112c⟩ := isOf hZ e111 q103_1
  obtain ⟨_, _, ⟨T112, L112, k112, n112⟩, -, X112, ⟨Lc112, hQ112, l112, y112, z112⟩, st112⟩ := X111.virtualBack hx (y := mth17) (z := mth17) hown (mvT hZ tw108) (mvT hZ tw109) (notFace_of_selects (args := #[]) (mvT hZ tw111)) (mvT hZ tw111) (mvT hZ tw110) (by decide) (backOf (W := 1) (g_retryPolicy l Z a0 hw [] b_103 pt_103 w_DEFAULT T103.heap n0 (Nat.le_trans Z0 (Nat.le_trans (Nat.le_trans q101_0.1 q102_0.1) q103_0.1)) q103_2 q103_6) hZ tw112 tw39 (by decide) (by decide)) q112a q112c (g := (mkF m 87 #[.val (.int p0), .val (.int p1), .val (.int p2), .val (.ref b_101), .val (.ref b_102), .val (.ref b_103), .val (.ref em_103)] [(.ref b_103), (.ref w_DEFAULT)])) rfl (by rw [hml]; rfl) (Steps.refl _) (argsL := []) (rest := [(.ref w_DEFAULT)]) (lenOf pd_Lcom_example_uraniborg_uraniborg_model_RetryPolicy rfl) rfl (Nat.le_of_eq rfl) (hb hby at_87) (fun _ _ => ⟨rfl, e111, (by decide : 20 + 0 ≤ _), (by decide : 91 + 0 ≤ _)⟩)
  dsimp only [Pt.U, Pt.locs, Pt.cells, Pt.slots] at X112 l112 y112 z112 st112 hQ112
  subst y112 z112
  obtain ⟨rfl, Nq112, q112_0⟩ := hQ112
  have N112 : Fr n0 L112 := by rw [l112]; exact Fr.app N110 Nq112
  refine Goes.step (S' := T112.setTop (mkF m 90 #[.val (.int p0), .val (.int p1), .val (.int p2), .val (.ref b_101), .val (.ref b_102), .val (.ref b_103), .val (.ref em_103)] [(.ref w_DEFAULT), (.ref w_DEFAULT)])) (fun t k => st112.trans k) ?_
  obtain ⟨cq113, kq113, q113a, q113b, q113c⟩ := isOf hZ q112_0 (((E_DEFAULT.keep q101_0).keep q102_0).keep q103_0)
  obtain ⟨_, _, ⟨T113, L113, k113, n113⟩, -, X113, ⟨Lc113, hQ113, l113, y113, z113⟩, st113⟩ := X112.virtualBack hx (y := mth21) (z := mth21) hown (mvT hZ tw113) (mvT hZ tw114) (notFace_of_selects (args := #[]) (mvT hZ tw116)) (mvT hZ tw116) (mvT hZ tw115) (by decide) (backOf (W := 0) (rpe l Z a0 hw [] w_DEFAULT T103.heap n0 (Nat.le_trans Z0 (Nat.le_trans (Nat.le_trans q101_0.1 q102_0.1) q103_0.1)) ) hZ tw117 tw63 (by decide) (by decide)) q113a q113c (g := (mkF m 90 #[.val (.int p0), .val (.int p1), .val (.int p2), .val (.ref b_101), .val (.ref b_102), .val (.ref b_103), .val (.ref em_103)] [(.ref w_DEFAULT), (.ref w_DEFAULT)])) rfl (by rw [hml]; rfl) (Steps.refl _) (argsL := [(.ref w_DEFAULT)]) (rest := []) (lenOf pd_Ljava_lang_Object__Z rfl) rfl (Nat.le_of_eq rfl) (hb hby at_90) (fun _ _ => ⟨rfl, q112_0, (by decide : 20 + 0 ≤ _), (by decide : 91 + 0 ≤ _)⟩)
  dsimp only [Pt.U, Pt.locs, Pt.cells, Pt.slots] at X113 l113 y113 z113 st113 hQ113
  subst y113 z113
  obtain ⟨rfl, Nq113, q113_0⟩ := hQ113
  have N113 : Fr n0 L113 := by rw [l113]; exact Fr.app N112 Nq113
  refine Goes.step (S' := T113.setTop (mkF m 101 #[.val (.int p0), .val (.int p1), .val (.int p2), .val (.ref b_101), .val (.ref b_102), .val (.ref b_103), .val (.ref em_103)] [(.int (1 : Int32))])) (fun t k => st113.trans (XS.ifNo X113.here hx rfl (hb hby at_93) rfl ((if0 _ _).trans (feq ((by decide) : ¬ ((1 : Int32) = (0 : Int32)))).1) (XS.iconst X113.here hx rfl (hb hby at_96) (XS.goto X113.here hx rfl (pc0 := 97) (pc' := 101) rfl (hb hby at_97) (by decide) (by decide) k)))) ?_
  refine Goes.leaveH (g := (mkF m 101 #[.val (.int p0), .val (.int p1), .val (.int p2), .val (.ref b_101), .val (.ref b_102), .val (.ref b_103), .val (.ref em_103)] [(.int (1 : Int32))])) (own_ew hw) hZ hh CR103 X113 hS103 (Nat.le_refl _) Bd.notSynchronized (v := (some (.int (1 : Int32)))) (fun h => by rw [Bd.returns] at h; cases h) (fun fs hr => retN X113 hx (t := .boolean) Bd.returns (by simp) (hb hby at_101) hr) q113_0 ?_ (by decide) (by decide)
  exact ⟨rfl, N113⟩

set_option maxRecDepth 65536 in
set_option maxHeartbeats 40000000 in
theorem comes_1 {Post : Tables → Env → Array Value → State → Outcome → State → Prop} (hpost : ∀ tb e args s v u, (limb_1_1.after args s (.returned v) u = true ∧ limb_1_2.after args s (.returned v) u = true ∧ True) → ReturnedEndW s (.returned v) u (Jvm.fieldLocs frame_1_writes args s ++ Jvm.arrayLocs frame_1_arrays args s ++ Jvm.staticLocs frame_1_statics s) 32 4288 → Post tb e args s (.returned v) u) :
    ArmFor flags0 classFile x code maxLocals ret World_1 tables_1 room_1 Calls_1 rest_1 Pre_1 Post := by
  intro l hfl _ _ p e ha hc hk s m args below hf hA hF happ hP
  obtain ⟨hcalls, hrest, hpre⟩ := hP
  obtain ⟨-, -, -, hnamed, -, -, -, hat⟩ := (Spec.applies_iff hf).mp happ
  obtain ⟨hg, hn⟩ := and_e (Cond.before_iff.mp (show (Jvm.Cond.and given_1 narrow_1).before args s = true from hpre))
  obtain ⟨g1, g2⟩ := and_e hg
  obtain ⟨g3, g4⟩ := and_e g2
  obtain ⟨g5, g6⟩ := and_e g4
  obtain ⟨w0, w1, w2, rfl⟩ : ∃ w0 w1 w2 : Value, args = #[w0, w1, w2] := by
    have hs : args.size = 3 := by simpa [Cond.value, given_1] using g1
    obtain ⟨L⟩ := args
    match L, hs with
    | [w0, w1, w2], _ => exact ⟨w0, w1, w2, rfl⟩
  have hw := fun d (hd : d ∈ tables_1) => atoms_spec (ws := Jvm.Cond.code x code maxLocals ret :: tables_1) hat d (List.mem_cons_of_mem _ hd)
  have hfit : Fit s := fun {y c} hc i hi => by
    obtain ⟨ha, rfl⟩ := Array.getElem?_eq_some_iff.mp hc
    have q := List.all_eq_true.mp ((Array.all_eq_true_iff_forall_mem.mp hF) _ (Array.getElem_mem ha)) i (List.mem_range.mpr hi)
    simpa [Array.getElem?_eq_getElem hi] using q
  obtain ⟨hsets, hown0⟩ := atoms_of _ (rest_1_c_eq ▸ (show rest_1_c.before _ s = true from hrest))
  have hr0 := Cond.before_iff.mp hown0
  obtain ⟨i0, ei0⟩ := is_v g3
  obtain rfl : w0 = (.int i0) := Option.some.inj ei0
  obtain ⟨i1, ei1⟩ := is_v g5
  obtain rfl : w1 = (.int i1) := Option.some.inj ei1
  obtain ⟨i2, ei2⟩ := is_v g6
  obtain rfl : w2 = (.int i2) := Option.some.inj ei2
  obtain ⟨w_DEFAULT, ev_DEFAULT⟩ := exa_v hn
  have E_w_DEFAULT : Exa s s.heap w_DEFAULT "com/example/uraniborg/uraniborg/model/RetryPolicy" := Exa.start ev_DEFAULT hn
  have S_w_DEFAULT : Sta s s.heap "com/example/uraniborg/uraniborg/model/RetryPolicy" "DEFAULT" "Lcom/example/uraniborg/uraniborg/model/RetryPolicy;" (.ref w_DEFAULT) := Sta.start ev_DEFAULT (Or.inr ⟨(hw _ (List.mem_of_getElem? (i := 63) rfl)), (hw _ (List.mem_of_getElem? (i := 64) rfl))⟩)
  obtain ⟨cs, ev_cs⟩ := is_v (Cond.before_iff.mp (hsets _ (List.mem_of_getElem? (i := 1) rfl)))
  have SC : Sta s s.heap "java/lang/String" "COMPACT_STRINGS" "Z" (.int cs) := Sta.start ev_cs (Or.inl (hsets _ (List.mem_of_getElem? (i := 0) rfl)))
  have PC : ¬ (cs = (0 : Int32)) := own_neI (Cond.before_iff.mp (hsets _ (List.mem_of_getElem? (i := 2) rfl))) ev_cs
  have hCH : CHv s own_EL s.vm s.heap := CHv.start (own_ew hw) (fun p hp => hcalls.1 p hp) (hsets _ (List.mem_of_getElem? (i := 2) rfl)) (hw _ (List.mem_of_getElem? (i := 23) rfl)) (hw _ (List.mem_of_getElem? (i := 5) rfl))
  obtain ⟨n, o, h1, h2, h3, _, L, rfl, ⟨rfl, N⟩, hcr, hq⟩ := law l s _ hw tables_1 i0 i1 i2 w_DEFAULT cs s.heap s.heap.size (Nat.le_refl _) S_w_DEFAULT E_w_DEFAULT SC PC p e ha hc hk s m _ below hf ((Spec.applies_iff_loose hf).mp happ).1 ⟨rfl, State.Warmed39.refl s, rfl, hCH⟩ trivial
  refine ⟨n, _, h1, h2, h3, hpost _ _ _ _ _ _ ⟨Cond.after_iff.mpr rfl, Cond.after_iff.mpr (eq_i res_at (Term.int_eval (1)) rfl), trivial⟩ ⟨hq.1, hq.2.1, hq.2.2.1, (hq.2.2.2.sift fun y hy => Or.inr (N y hy)).mono (by decide) (by decide)⟩⟩
theorem main_1_1 : Claimed_1_1 := comes_1 fun _ _ _ _ _ _ h hF => ⟨h.1, hF⟩
theorem main_1_2 : Claimed_1_2 := comes_1 fun _ _ _ _ _ _ h hF => ⟨h.2.1, hF⟩
end Jvm.Pilot.@@N@@
namespace Jvm.Pilot.@@N@@
open Jvm Jvm.ClassFile Sem Op Lib Jvm.Free Jvm.Stand Jvm.Pilot.@@N@@.Jvm.D
/-! MADE BY PROGRAM (witnessworld.py) out of the Statement's table words and the real class files: 23 classes; the members and pool entries that the words name. The judged class is class 1, her method 1. -/
namespace start1
open Jvm.ClassFile
def u (s : String) : CpInfo := .utf8 (stringToUtf16 s)
/-- a pool by its gaps: so many unusable entries, then the entry; so many at the end -/
def gap : Nat → List CpInfo → List CpInfo
  | 0, r => r
  | n + 1, r => .unusable :: gap n r
def poolList (es : List (Nat × CpInfo)) (last : Nat) : List CpInfo := es.foldr (fun e r => gap e.1 (e.2 :: r)) (gap last [])
def pool (es : List (Nat × CpInfo)) (last : Nat) : Array CpInfo := ⟨poolList es last⟩
def fileOf (pool : Array CpInfo) (this : Nat) (attrs : Array Attribute := #[]) (ms : Array MethodInfo := #[]) (fl : Nat := 33) (sup : Nat := 0) (ifs : Array Nat := #[]) (fds : Array FieldInfo := #[]) : ClassFile where
  minorVersion := 0
  majorVersion := 65
  constantPool := pool
  accessFlags := fl
  thisClass := this
  superClass := sup
  interfaces := ifs
  fields := fds
  methods := ms
  attributes := attrs
def plain (name : String) (sup : Option ClassId) : Class where
  name := name
  kind := .ordinary
  loader := none
  accessFlags := 33
  super := sup
  interfaces := #[]
  cf := none
  fields := #[]
  methods := #[]
  instanceTypes := #[]
  staticTypes := #[]
  resolved := #[]
  callSites := []
  init := .initialized
  statics := none
  mirror := none

def pool0 : Array CpInfo := pool [(5, u "<init>"), (0, u "()V"), (1, .class_ 10), (1, u "java/lang/Object")] 113

def k0c0 : Code := { maxStack := 0, maxLocals := 1, code := object_method_1_code, exceptionTable := #[], attributes := #[] }
def k0m0 : Method := { name := "<init>", desc := "()V", sig := { parameters := [], returnType := none }, accessFlags := 1, code := some k0c0 }
/-- java/lang/Object -/
def k0 : Class := { plain "java/lang/Object" none with
  accessFlags := 33
  interfaces := #[]
  cf := some (fileOf pool0 8 #[] #[{ accessFlags := 1, nameIndex := 5, descriptorIndex := 6, attributes := #[] }] 33 0 #[] #[])
  fields := #[]
  methods := #[k0m0]
  instanceTypes := #[]
  staticTypes := #[]
  resolved := Array.replicate 124 none
  statics := none }

def pool1 : Array CpInfo := pool [(2, .class_ 4), (1, u "java/lang/Object"), (0, u "<init>"), (0, u "()V"), (0, .methodref 8 9), (0, .class_ 10), (0, .nameAndType 11 12), (0, u "com/example/uraniborg/uraniborg/model/JobSpecOneOffPinLaw"), (0, u "draw"), (0, u "(II)Ljava/lang/String;"), (0, .methodref 14 15), (0, .class_ 16), (0, .nameAndType 17 18), (0, u "com/example/uraniborg/uraniborg/model/JobSpec"), (0, u "oneOff"), (0, u "(Ljava/lang/String;Ljava/lang/String;)Lcom/example/uraniborg/uraniborg/model/JobSpec;"), (0, .methodref 14 20), (0, .nameAndType 21 22), (0, u "payload"), (0, u "()Ljava/lang/String;"), (0, .methodref 14 24), (0, .nameAndType 25 22), (0, u "key"), (0, .methodref 27 28), (0, .class_ 29), (0, .nameAndType 30 31), (0, u "java/lang/String"), (0, u "equals"), (0, u "(Ljava/lang/Object;)Z"), (0, .methodref 14 33), (0, .nameAndType 34 22), (0, u "handler"), (0, .methodref 27 36), (0, .nameAndType 37 38), (0, u "isEmpty"), (0, u "()Z"), (0, .methodref 14 40), (0, .nameAndType 41 42), (0, u "priority"), (0, u "()J"), (0, .fieldref 44 45), (0, .class_ 46), (0, .nameAndType 47 48), (0, u "com/example/uraniborg/uraniborg/model/RetryPolicy"), (0, u "DEFAULT"), (0, u "Lcom/example/uraniborg/uraniborg/model/RetryPolicy;"), (0, .methodref 14 50), (0, .nameAndType 51 52), (0, u "retryPolicy"), (0, u "()Lcom/example/uraniborg/uraniborg/model/RetryPolicy;"), (0, .methodref 44 28), (0, .methodref 27 55), (0, .nameAndType 5 56), (0, u "([C)V"), (0, .methodref 27 58), (0, .nameAndType 59 60), (0, u "valueOf"), (0, u "(C)Ljava/lang/String;"), (2, u "law"), (0, u "(III)Z")] 3

def k1m0 : Method := { name := "<init>", desc := "()V", sig := { parameters := [], returnType := none }, accessFlags := 1, code := none }
def k1c1 : Code := { maxStack := 4, maxLocals := 7, code := code, exceptionTable := #[], attributes := #[] }
def k1m1 : Method := { name := "law", desc := "(III)Z", sig := { parameters := [.int, .int, .int], returnType := some .boolean }, accessFlags := 9, code := some k1c1 }
def k1c2 : Code := { maxStack := 6, maxLocals := 5, code := method_3_code, exceptionTable := #[], attributes := #[] }
def k1m2 : Method := { name := "draw", desc := "(II)Ljava/lang/String;", sig := { parameters := [.int, .int], returnType := some (.object "java/lang/String") }, accessFlags := 10, code := some k1c2 }
/-- com/example/uraniborg/uraniborg/model/JobSpecOneOffPinLaw -/
def k1 : Class := { plain "com/example/uraniborg/uraniborg/model/JobSpecOneOffPinLaw" (some 0) with
  accessFlags := 49
  interfaces := #[]
  cf := some (fileOf pool1 8 #[] #[{ accessFlags := 1, nameIndex := 5, descriptorIndex := 6, attributes := #[] }, { accessFlags := 9, nameIndex := 63, descriptorIndex := 64, attributes := #[] }, { accessFlags := 10, nameIndex := 11, descriptorIndex := 12, attributes := #[] }] 49 2 #[] #[])
  fields := #[]
  methods := #[k1m0, k1m1, k1m2]
  instanceTypes := #[]
  staticTypes := #[]
  resolved := Array.replicate 68 none
  statics := none }

def pool2 : Array CpInfo := pool [(1, .class_ 2), (0, u "java/io/Serializable"), (0, .class_ 4), (0, u "java/lang/Object")] 2

/-- java/io/Serializable -/
def k2 : Class := { plain "java/io/Serializable" (some 0) with
  accessFlags := 1537
  interfaces := #[]
  cf := some (fileOf pool2 1 #[] #[] 1537 3 #[] #[])
  fields := #[]
  methods := #[]
  instanceTypes := #[]
  staticTypes := #[]
  resolved := Array.replicate 7 none
  statics := none }

def pool3 : Array CpInfo := pool [(1, .class_ 2), (0, u "java/lang/Comparable"), (0, .class_ 4), (0, u "java/lang/Object")] 7

/-- java/lang/Comparable -/
def k3 : Class := { plain "java/lang/Comparable" (some 0) with
  accessFlags := 1537
  interfaces := #[]
  cf := some (fileOf pool3 1 #[] #[] 1537 3 #[] #[])
  fields := #[]
  methods := #[]
  instanceTypes := #[]
  staticTypes := #[]
  resolved := Array.replicate 12 none
  statics := none }

def pool4 : Array CpInfo := pool [(2, .class_ 4), (1, u "java/lang/CharSequence"), (42, .class_ 48), (0, u "java/lang/CharSequence$1CodePointIterator"), (10, .class_ 60), (0, u "java/lang/CharSequence$1CharIterator"), (5, .class_ 67), (0, u "java/lang/Object")] 63

/-- java/lang/CharSequence -/
def k4 : Class := { plain "java/lang/CharSequence" (some 0) with
  accessFlags := 1537
  interfaces := #[]
  cf := some (fileOf pool4 2 #[.nestMembers #[47, 59]] #[] 1537 66 #[] #[])
  fields := #[]
  methods := #[]
  instanceTypes := #[]
  staticTypes := #[]
  resolved := Array.replicate 131 none
  statics := none }

def pool5 : Array CpInfo := pool [(1, .class_ 2), (0, u "java/lang/constant/Constable"), (0, .class_ 4), (0, u "java/lang/Object")] 6

/-- java/lang/constant/Constable -/
def k5 : Class := { plain "java/lang/constant/Constable" (some 0) with
  accessFlags := 1537
  interfaces := #[]
  cf := some (fileOf pool5 1 #[] #[] 1537 3 #[] #[])
  fields := #[]
  methods := #[]
  instanceTypes := #[]
  staticTypes := #[]
  resolved := Array.replicate 11 none
  statics := none }

def pool6 : Array CpInfo := pool [(1, .class_ 2), (0, u "java/lang/constant/ConstantDesc"), (0, .class_ 4), (0, u "java/lang/Object")] 32

/-- java/lang/constant/ConstantDesc -/
def k6 : Class := { plain "java/lang/constant/ConstantDesc" (some 0) with
  accessFlags := 1537
  interfaces := #[]
  cf := some (fileOf pool6 1 #[] #[] 1537 3 #[] #[])
  fields := #[]
  methods := #[]
  instanceTypes := #[]
  staticTypes := #[]
  resolved := Array.replicate 37 none
  statics := none }

def pool7 : Array CpInfo := pool [(1, .methodref 2 3), (0, .class_ 4), (0, .nameAndType 5 6), (0, u "java/lang/Object"), (0, u "<init>"), (0, u "()V"), (0, .string 8), (0, u ""), (0, .fieldref 10 11), (0, .class_ 12), (0, .nameAndType 13 14), (0, u "java/lang/String"), (0, u "value"), (0, u "[B"), (0, .fieldref 10 16), (0, .nameAndType 17 18), (0, u "coder"), (0, u "B"), (2, u "hash"), (0, u "I"), (2, u "hashIsZero"), (0, u "Z"), (0, .methodref 10 28), (0, .nameAndType 5 29), (0, u "([CIILjava/lang/Void;)V"), (8, .fieldref 10 39), (0, .nameAndType 40 26), (0, u "COMPACT_STRINGS"), (1, .class_ 44), (1, u "java/lang/StringUTF16"), (0, u "compress"), (1, .methodref 42 48), (0, .nameAndType 49 50), (0, u "coderFromArrayLen"), (0, u "([BI)B"), (2, u "toBytes"), (53, .class_ 109), (1, u "java/lang/StringLatin1"), (32, u "()Z"), (34, .methodref 42 178), (0, .nameAndType 45 179), (0, u "([CII)[B"), (29, .methodref 10 210), (0, .nameAndType 5 211), (0, u "([BB)V"), (157, u "(C)Z"), (173, u "equals"), (29, u "(Ljava/lang/Object;)Z"), (1, .class_ 576), (0, u "java/lang/CharSequence"), (22, u "CASE_INSENSITIVE_ORDER"), (0, u "Ljava/util/Comparator;"), (91, u "isEmpty"), (89, u "valueOf"), (0, u "(C)Ljava/lang/String;"), (226, u "([C)V"), (4, .methodref 107 1016), (0, .nameAndType 1017 369), (0, u "canEncode"), (0, .methodref 107 1019), (0, .nameAndType 53 1020), (0, u "(C)[B"), (80, u "serialPersistentFields"), (0, u "[Ljava/io/ObjectStreamField;"), (0, .class_ 1104), (0, u "java/lang/String$CaseInsensitiveComparator"), (1, .class_ 1107), (0, u "java/io/Serializable"), (0, .class_ 1109), (0, u "java/lang/Comparable"), (0, .class_ 1111), (0, u "java/lang/constant/Constable"), (0, .class_ 1113), (0, u "java/lang/constant/ConstantDesc"), (2, u "serialVersionUID"), (0, u "J"), (3, u "REPL"), (0, u "C"), (2, u "LATIN1"), (1, u "UTF16")] 323

def k7m0 : Method := { name := "<init>", desc := "()V", sig := { parameters := [], returnType := none }, accessFlags := 1, code := none }
def k7c1 : Code := { maxStack := 5, maxLocals := 2, code := jdk_42_method_3_code, exceptionTable := #[], attributes := #[] }
def k7m1 : Method := { name := "<init>", desc := "([C)V", sig := { parameters := [(.array .char)], returnType := none }, accessFlags := 1, code := some k7c1 }
def k7c2 : Code := { maxStack := 1, maxLocals := 1, code := jdk_42_method_55_code, exceptionTable := #[], attributes := #[] }
def k7m2 : Method := { name := "isEmpty", desc := "()Z", sig := { parameters := [], returnType := some .boolean }, accessFlags := 1, code := some k7c2 }
def k7c3 : Code := { maxStack := 2, maxLocals := 3, code := jdk_42_method_66_code, exceptionTable := #[], attributes := #[] }
def k7m3 : Method := { name := "equals", desc := "(Ljava/lang/Object;)Z", sig := { parameters := [(.object "java/lang/Object")], returnType := some .boolean }, accessFlags := 1, code := some k7c3 }
def k7c4 : Code := { maxStack := 4, maxLocals := 1, code := jdk_42_method_139_code, exceptionTable := #[], attributes := #[] }
def k7m4 : Method := { name := "valueOf", desc := "(C)Ljava/lang/String;", sig := { parameters := [.char], returnType := some (.object "java/lang/String") }, accessFlags := 9, code := some k7c4 }
def k7c5 : Code := { maxStack := 4, maxLocals := 6, code := jdk_42_method_149_code, exceptionTable := #[], attributes := #[] }
def k7m5 : Method := { name := "<init>", desc := "([CIILjava/lang/Void;)V", sig := { parameters := [(.array .char), .int, .int, (.object "java/lang/Void")], returnType := none }, accessFlags := 2, code := some k7c5 }
def k7c6 : Code := { maxStack := 2, maxLocals := 3, code := jdk_42_method_151_code, exceptionTable := #[], attributes := #[] }
def k7m6 : Method := { name := "<init>", desc := "([BB)V", sig := { parameters := [(.array .byte), .byte], returnType := none }, accessFlags := 0, code := some k7c6 }
/-- java/lang/String -/
def k7 : Class := { plain "java/lang/String" (some 0) with
  accessFlags := 49
  interfaces := #[2, 3, 4, 5, 6]
  cf := some (fileOf pool7 10 #[.nestMembers #[1103]] #[{ accessFlags := 1, nameIndex := 5, descriptorIndex := 6, attributes := #[] }, { accessFlags := 1, nameIndex := 5, descriptorIndex := 1010, attributes := #[] }, { accessFlags := 1, nameIndex := 692, descriptorIndex := 142, attributes := #[] }, { accessFlags := 1, nameIndex := 543, descriptorIndex := 573, attributes := #[] }, { accessFlags := 9, nameIndex := 782, descriptorIndex := 783, attributes := #[] }, { accessFlags := 2, nameIndex := 5, descriptorIndex := 29, attributes := #[] }, { accessFlags := 0, nameIndex := 5, descriptorIndex := 211, attributes := #[] }] 49 2 #[1106, 1108, 575, 1110, 1112] #[{ accessFlags := 18, nameIndex := 13, descriptorIndex := 14, attributes := #[] }, { accessFlags := 18, nameIndex := 17, descriptorIndex := 18, attributes := #[] }, { accessFlags := 2, nameIndex := 21, descriptorIndex := 22, attributes := #[] }, { accessFlags := 2, nameIndex := 25, descriptorIndex := 26, attributes := #[] }, { accessFlags := 26, nameIndex := 1116, descriptorIndex := 1117, attributes := #[] }, { accessFlags := 24, nameIndex := 40, descriptorIndex := 26, attributes := #[] }, { accessFlags := 26, nameIndex := 1101, descriptorIndex := 1102, attributes := #[] }, { accessFlags := 26, nameIndex := 1121, descriptorIndex := 1122, attributes := #[] }, { accessFlags := 25, nameIndex := 599, descriptorIndex := 600, attributes := #[] }, { accessFlags := 24, nameIndex := 1125, descriptorIndex := 18, attributes := #[] }, { accessFlags := 24, nameIndex := 1127, descriptorIndex := 18, attributes := #[] }])
  fields := #[{ name := "value", type := (.array .byte), accessFlags := 18, slot := 0, constantValue := 0 }, { name := "coder", type := .byte, accessFlags := 18, slot := 1, constantValue := 0 }, { name := "hash", type := .int, accessFlags := 2, slot := 2, constantValue := 0 }, { name := "hashIsZero", type := .boolean, accessFlags := 2, slot := 3, constantValue := 0 }, { name := "serialVersionUID", type := .long, accessFlags := 26, slot := 0, constantValue := 0 }, { name := "COMPACT_STRINGS", type := .boolean, accessFlags := 24, slot := 1, constantValue := 0 }, { name := "serialPersistentFields", type := (.array (.object "java/io/ObjectStreamField")), accessFlags := 26, slot := 2, constantValue := 0 }, { name := "REPL", type := .char, accessFlags := 26, slot := 3, constantValue := 0 }, { name := "CASE_INSENSITIVE_ORDER", type := (.object "java/util/Comparator"), accessFlags := 25, slot := 4, constantValue := 0 }, { name := "LATIN1", type := .byte, accessFlags := 24, slot := 5, constantValue := 0 }, { name := "UTF16", type := .byte, accessFlags := 24, slot := 6, constantValue := 0 }]
  methods := #[k7m0, k7m1, k7m2, k7m3, k7m4, k7m5, k7m6]
  instanceTypes := #[(.array .byte), .byte, .int, .boolean]
  staticTypes := #[.long, .boolean, (.array (.object "java/io/ObjectStreamField")), .char, (.object "java/util/Comparator"), .byte, .byte]
  resolved := Array.replicate 1451 none
  statics := some 0 }

def pool8 : Array CpInfo := pool [(6, .class_ 8), (1, u "java/lang/Object"), (0, u "<init>"), (0, u "()V"), (1, .class_ 14), (1, u "java/lang/StringUTF16"), (31, u "$assertionsDisabled"), (0, u "Z"), (13, u "HI_BYTE_SHIFT"), (0, u "I"), (2, u "LO_BYTE_SHIFT"), (49, .methodref 12 116), (0, .nameAndType 117 118), (0, u "compress"), (0, u "([CI[BII)I"), (3, u "([CII)[B"), (138, u "coderFromArrayLen"), (0, u "([BI)B"), (106, .class_ 371), (1, u "java/lang/StringUTF16$LinesSpliterator"), (58, u "MAX_LENGTH"), (196, .class_ 628), (0, u "java/lang/StringUTF16$CodePointsSpliterator"), (0, .class_ 630), (0, u "java/lang/StringUTF16$CharsSpliterator")] 4

def k8m0 : Method := { name := "<init>", desc := "()V", sig := { parameters := [], returnType := none }, accessFlags := 0, code := none }
def k8c1 : Code := { maxStack := 2, maxLocals := 2, code := jdk_52_method_15_code, exceptionTable := #[], attributes := #[] }
def k8m1 : Method := { name := "coderFromArrayLen", desc := "([BI)B", sig := { parameters := [(.array .byte), .int], returnType := some .byte }, accessFlags := 8, code := some k8c1 }
def k8c2 : Code := { maxStack := 5, maxLocals := 6, code := jdk_52_method_16_code, exceptionTable := #[], attributes := #[] }
def k8m2 : Method := { name := "compress", desc := "([CII)[B", sig := { parameters := [(.array .char), .int, .int], returnType := some (.array .byte) }, accessFlags := 9, code := some k8c2 }
def k8c3 : Code := { maxStack := 3, maxLocals := 7, code := jdk_52_method_21_code, exceptionTable := #[], attributes := #[] }
def k8m3 : Method := { name := "compress", desc := "([CI[BII)I", sig := { parameters := [(.array .char), .int, (.array .byte), .int, .int], returnType := some .int }, accessFlags := 9, code := some k8c3 }
/-- java/lang/StringUTF16 -/
def k8 : Class := { plain "java/lang/StringUTF16" (some 0) with
  accessFlags := 48
  interfaces := #[]
  cf := some (fileOf pool8 12 #[.nestMembers #[627, 629, 369]] #[{ accessFlags := 0, nameIndex := 9, descriptorIndex := 10, attributes := #[] }, { accessFlags := 8, nameIndex := 261, descriptorIndex := 262, attributes := #[] }, { accessFlags := 9, nameIndex := 117, descriptorIndex := 122, attributes := #[] }, { accessFlags := 9, nameIndex := 117, descriptorIndex := 118, attributes := #[] }] 48 6 #[] #[{ accessFlags := 26, nameIndex := 61, descriptorIndex := 62, attributes := #[] }, { accessFlags := 26, nameIndex := 65, descriptorIndex := 62, attributes := #[] }, { accessFlags := 24, nameIndex := 430, descriptorIndex := 62, attributes := #[] }, { accessFlags := 4120, nameIndex := 46, descriptorIndex := 47, attributes := #[] }])
  fields := #[{ name := "HI_BYTE_SHIFT", type := .int, accessFlags := 26, slot := 0, constantValue := 0 }, { name := "LO_BYTE_SHIFT", type := .int, accessFlags := 26, slot := 1, constantValue := 0 }, { name := "MAX_LENGTH", type := .int, accessFlags := 24, slot := 2, constantValue := 0 }, { name := "$assertionsDisabled", type := .boolean, accessFlags := 4120, slot := 3, constantValue := 0 }]
  methods := #[k8m0, k8m1, k8m2, k8m3]
  instanceTypes := #[]
  staticTypes := #[.int, .int, .int, .boolean]
  resolved := Array.replicate 635 none
  statics := none }

def pool9 : Array CpInfo := pool [(1, .methodref 2 3), (0, .class_ 4), (0, .nameAndType 5 6), (0, u "java/lang/Object"), (0, u "<init>"), (0, u "()V"), (0, .fieldref 8 9), (0, .class_ 10), (0, .nameAndType 11 12), (0, u "com/example/uraniborg/uraniborg/model/JobSpec"), (0, u "parts"), (0, u "Lcom/example/uraniborg/uraniborg/model/JobSpec$Parts;"), (0, .class_ 14), (0, u "com/example/uraniborg/uraniborg/model/JobSpec$Parts"), (0, .methodref 13 3), (0, .string 17), (0, u "key"), (0, .methodref 19 20), (0, .class_ 21), (0, .nameAndType 22 23), (0, u "java/util/Objects"), (0, u "requireNonNull"), (0, u "(Ljava/lang/Object;Ljava/lang/String;)Ljava/lang/Object;"), (0, .class_ 25), (0, u "java/lang/String"), (0, .fieldref 13 27), (0, .nameAndType 17 28), (0, u "Ljava/lang/String;"), (0, .string 30), (0, u "handler"), (0, .fieldref 13 32), (0, .nameAndType 30 28), (0, .string 34), (0, u ""), (0, .fieldref 13 36), (0, .nameAndType 37 28), (0, u "payload"), (0, .fieldref 39 40), (0, .class_ 41), (0, .nameAndType 42 43), (0, u "com/example/uraniborg/uraniborg/model/RetryPolicy"), (0, u "DEFAULT"), (0, u "Lcom/example/uraniborg/uraniborg/model/RetryPolicy;"), (0, .fieldref 13 45), (0, .nameAndType 46 43), (0, u "retryPolicy"), (0, .methodref 8 48), (0, .nameAndType 5 49), (0, u "(Lcom/example/uraniborg/uraniborg/model/JobSpec$Parts;)V"), (4, u "oneOff"), (0, u "(Ljava/lang/String;Ljava/lang/String;)Lcom/example/uraniborg/uraniborg/model/JobSpec;"), (93, .fieldref 13 150), (0, .nameAndType 151 152), (0, u "priority"), (0, u "J"), (41, u "()Ljava/lang/String;"), (5, u "()J"), (0, u "()Lcom/example/uraniborg/uraniborg/model/RetryPolicy;")] 83

def k9c0 : Code := { maxStack := 2, maxLocals := 2, code := prog_7_method_1_code, exceptionTable := #[], attributes := #[] }
def k9m0 : Method := { name := "<init>", desc := "(Lcom/example/uraniborg/uraniborg/model/JobSpec$Parts;)V", sig := { parameters := [(.object "com/example/uraniborg/uraniborg/model/JobSpec$Parts")], returnType := none }, accessFlags := 2, code := some k9c0 }
def k9c1 : Code := { maxStack := 3, maxLocals := 3, code := prog_7_method_2_code, exceptionTable := #[], attributes := #[] }
def k9m1 : Method := { name := "oneOff", desc := "(Ljava/lang/String;Ljava/lang/String;)Lcom/example/uraniborg/uraniborg/model/JobSpec;", sig := { parameters := [(.object "java/lang/String"), (.object "java/lang/String")], returnType := some (.object "com/example/uraniborg/uraniborg/model/JobSpec") }, accessFlags := 9, code := some k9c1 }
def k9c2 : Code := { maxStack := 1, maxLocals := 1, code := prog_7_method_14_code, exceptionTable := #[], attributes := #[] }
def k9m2 : Method := { name := "key", desc := "()Ljava/lang/String;", sig := { parameters := [], returnType := some (.object "java/lang/String") }, accessFlags := 1, code := some k9c2 }
def k9c3 : Code := { maxStack := 1, maxLocals := 1, code := prog_7_method_15_code, exceptionTable := #[], attributes := #[] }
def k9m3 : Method := { name := "handler", desc := "()Ljava/lang/String;", sig := { parameters := [], returnType := some (.object "java/lang/String") }, accessFlags := 1, code := some k9c3 }
def k9c4 : Code := { maxStack := 1, maxLocals := 1, code := prog_7_method_16_code, exceptionTable := #[], attributes := #[] }
def k9m4 : Method := { name := "payload", desc := "()Ljava/lang/String;", sig := { parameters := [], returnType := some (.object "java/lang/String") }, accessFlags := 1, code := some k9c4 }
def k9c5 : Code := { maxStack := 2, maxLocals := 1, code := prog_7_method_20_code, exceptionTable := #[], attributes := #[] }
def k9m5 : Method := { name := "priority", desc := "()J", sig := { parameters := [], returnType := some .long }, accessFlags := 1, code := some k9c5 }
def k9c6 : Code := { maxStack := 1, maxLocals := 1, code := prog_7_method_22_code, exceptionTable := #[], attributes := #[] }
def k9m6 : Method := { name := "retryPolicy", desc := "()Lcom/example/uraniborg/uraniborg/model/RetryPolicy;", sig := { parameters := [], returnType := some (.object "com/example/uraniborg/uraniborg/model/RetryPolicy") }, accessFlags := 1, code := some k9c6 }
/-- com/example/uraniborg/uraniborg/model/JobSpec -/
def k9 : Class := { plain "com/example/uraniborg/uraniborg/model/JobSpec" (some 0) with
  accessFlags := 49
  interfaces := #[]
  cf := some (fileOf pool9 8 #[.nestMembers #[13]] #[{ accessFlags := 2, nameIndex := 5, descriptorIndex := 49, attributes := #[] }, { accessFlags := 9, nameIndex := 54, descriptorIndex := 55, attributes := #[] }, { accessFlags := 1, nameIndex := 17, descriptorIndex := 194, attributes := #[] }, { accessFlags := 1, nameIndex := 30, descriptorIndex := 194, attributes := #[] }, { accessFlags := 1, nameIndex := 37, descriptorIndex := 194, attributes := #[] }, { accessFlags := 1, nameIndex := 151, descriptorIndex := 200, attributes := #[] }, { accessFlags := 1, nameIndex := 46, descriptorIndex := 201, attributes := #[] }] 49 2 #[] #[{ accessFlags := 18, nameIndex := 11, descriptorIndex := 12, attributes := #[] }])
  fields := #[{ name := "parts", type := (.object "com/example/uraniborg/uraniborg/model/JobSpec$Parts"), accessFlags := 18, slot := 0, constantValue := 0 }]
  methods := #[k9m0, k9m1, k9m2, k9m3, k9m4, k9m5, k9m6]
  instanceTypes := #[(.object "com/example/uraniborg/uraniborg/model/JobSpec$Parts")]
  staticTypes := #[]
  resolved := (((((Array.replicate 285 none).set! 26 (some (.field 10 0))).set! 31 (some (.field 10 1))).set! 35 (some (.field 10 2))).set! 44 (some (.field 10 8))).set! 149 (some (.field 10 6))
  statics := none }

def pool10 : Array CpInfo := pool [(1, .methodref 2 3), (0, .class_ 4), (0, .nameAndType 5 6), (0, u "java/lang/Object"), (0, u "<init>"), (0, u "()V"), (1, .class_ 10), (1, u "com/example/uraniborg/uraniborg/model/JobSpec$Parts"), (0, u "key"), (0, u "Ljava/lang/String;"), (2, u "handler"), (2, u "payload"), (2, u "requestor"), (2, u "at"), (0, u "Ljava/time/Instant;"), (2, u "schedule"), (0, u "Lcom/example/uraniborg/uraniborg/model/Schedule;"), (2, u "priority"), (0, u "J"), (2, u "exclusiveGroup"), (2, u "retryPolicy"), (0, u "Lcom/example/uraniborg/uraniborg/model/RetryPolicy;"), (2, u "failureHandler"), (2, u "failureIdentifier"), (2, u "misfire"), (0, u "Lcom/example/uraniborg/uraniborg/model/Misfire;"), (2, u "lateAfter"), (0, u "Ljava/time/Duration;"), (2, u "lateHandler"), (6, .class_ 65), (0, u "com/example/uraniborg/uraniborg/model/JobSpec")] 2

def k10c0 : Code := { maxStack := 1, maxLocals := 1, code := prog_8_method_1_code, exceptionTable := #[], attributes := #[] }
def k10m0 : Method := { name := "<init>", desc := "()V", sig := { parameters := [], returnType := none }, accessFlags := 0, code := some k10c0 }
/-- com/example/uraniborg/uraniborg/model/JobSpec$Parts -/
def k10 : Class := { plain "com/example/uraniborg/uraniborg/model/JobSpec$Parts" (some 0) with
  accessFlags := 48
  interfaces := #[]
  cf := some (fileOf pool10 8 #[.nestHost 64] #[{ accessFlags := 0, nameIndex := 5, descriptorIndex := 6, attributes := #[] }] 48 2 #[] #[{ accessFlags := 2, nameIndex := 11, descriptorIndex := 12, attributes := #[] }, { accessFlags := 2, nameIndex := 15, descriptorIndex := 12, attributes := #[] }, { accessFlags := 2, nameIndex := 18, descriptorIndex := 12, attributes := #[] }, { accessFlags := 2, nameIndex := 21, descriptorIndex := 12, attributes := #[] }, { accessFlags := 2, nameIndex := 24, descriptorIndex := 25, attributes := #[] }, { accessFlags := 2, nameIndex := 28, descriptorIndex := 29, attributes := #[] }, { accessFlags := 2, nameIndex := 32, descriptorIndex := 33, attributes := #[] }, { accessFlags := 2, nameIndex := 36, descriptorIndex := 12, attributes := #[] }, { accessFlags := 2, nameIndex := 39, descriptorIndex := 40, attributes := #[] }, { accessFlags := 2, nameIndex := 43, descriptorIndex := 12, attributes := #[] }, { accessFlags := 2, nameIndex := 46, descriptorIndex := 12, attributes := #[] }, { accessFlags := 2, nameIndex := 49, descriptorIndex := 50, attributes := #[] }, { accessFlags := 2, nameIndex := 53, descriptorIndex := 54, attributes := #[] }, { accessFlags := 2, nameIndex := 57, descriptorIndex := 12, attributes := #[] }])
  fields := #[{ name := "key", type := (.object "java/lang/String"), accessFlags := 2, slot := 0, constantValue := 0 }, { name := "handler", type := (.object "java/lang/String"), accessFlags := 2, slot := 1, constantValue := 0 }, { name := "payload", type := (.object "java/lang/String"), accessFlags := 2, slot := 2, constantValue := 0 }, { name := "requestor", type := (.object "java/lang/String"), accessFlags := 2, slot := 3, constantValue := 0 }, { name := "at", type := (.object "java/time/Instant"), accessFlags := 2, slot := 4, constantValue := 0 }, { name := "schedule", type := (.object "com/example/uraniborg/uraniborg/model/Schedule"), accessFlags := 2, slot := 5, constantValue := 0 }, { name := "priority", type := .long, accessFlags := 2, slot := 6, constantValue := 0 }, { name := "exclusiveGroup", type := (.object "java/lang/String"), accessFlags := 2, slot := 7, constantValue := 0 }, { name := "retryPolicy", type := (.object "com/example/uraniborg/uraniborg/model/RetryPolicy"), accessFlags := 2, slot := 8, constantValue := 0 }, { name := "failureHandler", type := (.object "java/lang/String"), accessFlags := 2, slot := 9, constantValue := 0 }, { name := "failureIdentifier", type := (.object "java/lang/String"), accessFlags := 2, slot := 10, constantValue := 0 }, { name := "misfire", type := (.object "com/example/uraniborg/uraniborg/model/Misfire"), accessFlags := 2, slot := 11, constantValue := 0 }, { name := "lateAfter", type := (.object "java/time/Duration"), accessFlags := 2, slot := 12, constantValue := 0 }, { name := "lateHandler", type := (.object "java/lang/String"), accessFlags := 2, slot := 13, constantValue := 0 }]
  methods := #[k10m0]
  instanceTypes := #[(.object "java/lang/String"), (.object "java/lang/String"), (.object "java/lang/String"), (.object "java/lang/String"), (.object "java/time/Instant"), (.object "com/example/uraniborg/uraniborg/model/Schedule"), .long, (.object "java/lang/String"), (.object "com/example/uraniborg/uraniborg/model/RetryPolicy"), (.object "java/lang/String"), (.object "java/lang/String"), (.object "com/example/uraniborg/uraniborg/model/Misfire"), (.object "java/time/Duration"), (.object "java/lang/String")]
  staticTypes := #[]
  resolved := Array.replicate 68 none
  statics := none }

def pool11 : Array CpInfo := pool [(2, .class_ 4), (1, u "java/lang/Object"), (0, u "<init>"), (0, u "()V"), (35, .class_ 44), (1, u "java/util/Objects"), (0, u "requireNonNull"), (48, u "(Ljava/lang/Object;Ljava/lang/String;)Ljava/lang/Object;")] 89

def k11m0 : Method := { name := "<init>", desc := "()V", sig := { parameters := [], returnType := none }, accessFlags := 2, code := none }
def k11c1 : Code := { maxStack := 3, maxLocals := 2, code := jdk_31_method_11_code, exceptionTable := #[], attributes := #[] }
def k11m1 : Method := { name := "requireNonNull", desc := "(Ljava/lang/Object;Ljava/lang/String;)Ljava/lang/Object;", sig := { parameters := [(.object "java/lang/Object"), (.object "java/lang/String")], returnType := some (.object "java/lang/Object") }, accessFlags := 9, code := some k11c1 }
/-- java/util/Objects -/
def k11 : Class := { plain "java/util/Objects" (some 0) with
  accessFlags := 49
  interfaces := #[]
  cf := some (fileOf pool11 42 #[] #[{ accessFlags := 2, nameIndex := 5, descriptorIndex := 6, attributes := #[] }, { accessFlags := 9, nameIndex := 45, descriptorIndex := 94, attributes := #[] }] 49 2 #[] #[])
  fields := #[]
  methods := #[k11m0, k11m1]
  instanceTypes := #[]
  staticTypes := #[]
  resolved := Array.replicate 184 none
  statics := none }

def pool12 : Array CpInfo := pool [(2, .class_ 4), (1, u "java/lang/Object"), (3, .class_ 10), (1, u "com/example/uraniborg/uraniborg/model/RetryPolicy"), (0, u "retries"), (0, u "I"), (2, u "delays"), (0, u "Ljava/util/List;"), (10, u "REPEATING"), (0, u "Ljava/util/regex/Pattern;"), (76, u "equals"), (0, u "(Ljava/lang/Object;)Z"), (89, u "DEFAULT"), (0, u "Lcom/example/uraniborg/uraniborg/model/RetryPolicy;")] 70

def k12c0 : Code := { maxStack := 2, maxLocals := 3, code := prog_14_method_6_code, exceptionTable := #[], attributes := #[] }
def k12m0 : Method := { name := "equals", desc := "(Ljava/lang/Object;)Z", sig := { parameters := [(.object "java/lang/Object")], returnType := some .boolean }, accessFlags := 1, code := some k12c0 }
/-- com/example/uraniborg/uraniborg/model/RetryPolicy -/
def k12 : Class := { plain "com/example/uraniborg/uraniborg/model/RetryPolicy" (some 0) with
  accessFlags := 49
  interfaces := #[]
  cf := some (fileOf pool12 8 #[] #[{ accessFlags := 1, nameIndex := 105, descriptorIndex := 106, attributes := #[] }] 49 2 #[] #[{ accessFlags := 25, nameIndex := 196, descriptorIndex := 197, attributes := #[] }, { accessFlags := 26, nameIndex := 27, descriptorIndex := 28, attributes := #[] }, { accessFlags := 18, nameIndex := 11, descriptorIndex := 12, attributes := #[] }, { accessFlags := 18, nameIndex := 15, descriptorIndex := 16, attributes := #[] }])
  fields := #[{ name := "DEFAULT", type := (.object "com/example/uraniborg/uraniborg/model/RetryPolicy"), accessFlags := 25, slot := 0, constantValue := 0 }, { name := "REPEATING", type := (.object "java/util/regex/Pattern"), accessFlags := 26, slot := 1, constantValue := 0 }, { name := "retries", type := .int, accessFlags := 18, slot := 0, constantValue := 0 }, { name := "delays", type := (.object "java/util/List"), accessFlags := 18, slot := 1, constantValue := 0 }]
  methods := #[k12m0]
  instanceTypes := #[.int, (.object "java/util/List")]
  staticTypes := #[(.object "com/example/uraniborg/uraniborg/model/RetryPolicy"), (.object "java/util/regex/Pattern")]
  resolved := Array.replicate 268 none
  statics := some 1 }

def pool13 : Array CpInfo := pool [(4, .class_ 6), (1, u "java/lang/Object"), (0, u "<init>"), (0, u "()V"), (5, .class_ 16), (1, u "java/lang/StringLatin1"), (73, u "canEncode"), (14, u "(C)Z"), (15, u "$assertionsDisabled"), (0, u "Z"), (98, .class_ 223), (1, u "java/lang/StringLatin1$LinesSpliterator"), (156, u "toBytes"), (1, u "(C)[B"), (7, .class_ 391), (0, u "java/lang/StringLatin1$CharsSpliterator")] 3

def k13m0 : Method := { name := "<init>", desc := "()V", sig := { parameters := [], returnType := none }, accessFlags := 0, code := none }
def k13c1 : Code := { maxStack := 2, maxLocals := 1, code := jdk_43_method_3_code, exceptionTable := #[], attributes := #[] }
def k13m1 : Method := { name := "canEncode", desc := "(C)Z", sig := { parameters := [.char], returnType := some .boolean }, accessFlags := 9, code := some k13c1 }
def k13c2 : Code := { maxStack := 4, maxLocals := 1, code := jdk_43_method_46_code, exceptionTable := #[], attributes := #[] }
def k13m2 : Method := { name := "toBytes", desc := "(C)[B", sig := { parameters := [.char], returnType := some (.array .byte) }, accessFlags := 9, code := some k13c2 }
/-- java/lang/StringLatin1 -/
def k13 : Class := { plain "java/lang/StringLatin1" (some 0) with
  accessFlags := 48
  interfaces := #[]
  cf := some (fileOf pool13 14 #[.nestMembers #[390, 221]] #[{ accessFlags := 0, nameIndex := 7, descriptorIndex := 8, attributes := #[] }, { accessFlags := 9, nameIndex := 90, descriptorIndex := 105, attributes := #[] }, { accessFlags := 9, nameIndex := 380, descriptorIndex := 382, attributes := #[] }] 48 4 #[] #[{ accessFlags := 4120, nameIndex := 121, descriptorIndex := 122, attributes := #[] }])
  fields := #[{ name := "$assertionsDisabled", type := .boolean, accessFlags := 4120, slot := 0, constantValue := 0 }]
  methods := #[k13m0, k13m1, k13m2]
  instanceTypes := #[]
  staticTypes := #[.boolean]
  resolved := Array.replicate 395 none
  statics := none }

def pool14 : Array CpInfo := pool [(2, .class_ 4), (1, u "java/lang/Object"), (0, u "<init>"), (0, u "()V"), (17, .class_ 26), (1, u "jdk/internal/util/Preconditions"), (28, .class_ 56), (0, u "jdk/internal/util/Preconditions$4"), (57, .class_ 115), (0, u "jdk/internal/util/Preconditions$1"), (7, u "SIOOBE_FORMATTER"), (0, u "Ljava/util/function/BiFunction;"), (0, .class_ 126), (0, u "jdk/internal/util/Preconditions$2"), (3, u "AIOOBE_FORMATTER"), (0, .class_ 132), (0, u "jdk/internal/util/Preconditions$3"), (3, u "IOOBE_FORMATTER")] 57

def k14m0 : Method := { name := "<init>", desc := "()V", sig := { parameters := [], returnType := none }, accessFlags := 1, code := none }
/-- jdk/internal/util/Preconditions -/
def k14 : Class := { plain "jdk/internal/util/Preconditions" (some 0) with
  accessFlags := 33
  interfaces := #[]
  cf := some (fileOf pool14 24 #[.nestMembers #[55, 131, 125, 114]] #[{ accessFlags := 1, nameIndex := 5, descriptorIndex := 6, attributes := #[] }] 33 2 #[] #[{ accessFlags := 25, nameIndex := 123, descriptorIndex := 124, attributes := #[] }, { accessFlags := 25, nameIndex := 130, descriptorIndex := 124, attributes := #[] }, { accessFlags := 25, nameIndex := 136, descriptorIndex := 124, attributes := #[] }])
  fields := #[{ name := "SIOOBE_FORMATTER", type := (.object "java/util/function/BiFunction"), accessFlags := 25, slot := 0, constantValue := 0 }, { name := "AIOOBE_FORMATTER", type := (.object "java/util/function/BiFunction"), accessFlags := 25, slot := 1, constantValue := 0 }, { name := "IOOBE_FORMATTER", type := (.object "java/util/function/BiFunction"), accessFlags := 25, slot := 2, constantValue := 0 }]
  methods := #[k14m0]
  instanceTypes := #[]
  staticTypes := #[(.object "java/util/function/BiFunction"), (.object "java/util/function/BiFunction"), (.object "java/util/function/BiFunction")]
  resolved := Array.replicate 194 none
  statics := some 2 }

def pool15 : Array CpInfo := pool [(9, u "<init>"), (6, .class_ 18), (1, u "java/lang/Object"), (0, u "()V"), (1, .class_ 23), (1, u "jdk/internal/util/ArraysSupport"), (0, u "LOG2_ARRAY_LONG_INDEX_SCALE"), (0, u "I"), (2, u "U"), (0, u "Ljdk/internal/misc/Unsafe;"), (8, u "BIG_ENDIAN"), (0, u "Z"), (8, u "LOG2_BYTE_BIT_SIZE"), (4, u "LOG2_ARRAY_INT_INDEX_SCALE"), (54, u "JLA"), (0, u "Ljdk/internal/access/JavaLangAccess;"), (11, u "LOG2_ARRAY_BOOLEAN_INDEX_SCALE"), (9, u "LOG2_ARRAY_BYTE_INDEX_SCALE"), (5, u "LOG2_ARRAY_CHAR_INDEX_SCALE"), (5, u "LOG2_ARRAY_SHORT_INDEX_SCALE"), (18, u "LOG2_ARRAY_FLOAT_INDEX_SCALE"), (24, u "LOG2_ARRAY_DOUBLE_INDEX_SCALE"), (89, u "T_BOOLEAN"), (2, u "T_CHAR"), (1, u "T_FLOAT"), (1, u "T_DOUBLE"), (1, u "T_BYTE"), (1, u "T_SHORT"), (1, u "T_INT"), (1, u "T_LONG"), (1, u "SOFT_MAX_ARRAY_LENGTH")] 83

def k15m0 : Method := { name := "<init>", desc := "()V", sig := { parameters := [], returnType := none }, accessFlags := 2, code := none }
/-- jdk/internal/util/ArraysSupport -/
def k15 : Class := { plain "jdk/internal/util/ArraysSupport" (some 0) with
  accessFlags := 33
  interfaces := #[]
  cf := some (fileOf pool15 21 #[] #[{ accessFlags := 2, nameIndex := 9, descriptorIndex := 19, attributes := #[] }] 33 16 #[] #[{ accessFlags := 24, nameIndex := 28, descriptorIndex := 29, attributes := #[] }, { accessFlags := 26, nameIndex := 38, descriptorIndex := 39, attributes := #[] }, { accessFlags := 25, nameIndex := 121, descriptorIndex := 25, attributes := #[] }, { accessFlags := 25, nameIndex := 131, descriptorIndex := 25, attributes := #[] }, { accessFlags := 25, nameIndex := 137, descriptorIndex := 25, attributes := #[] }, { accessFlags := 25, nameIndex := 143, descriptorIndex := 25, attributes := #[] }, { accessFlags := 25, nameIndex := 53, descriptorIndex := 25, attributes := #[] }, { accessFlags := 25, nameIndex := 24, descriptorIndex := 25, attributes := #[] }, { accessFlags := 25, nameIndex := 162, descriptorIndex := 25, attributes := #[] }, { accessFlags := 25, nameIndex := 187, descriptorIndex := 25, attributes := #[] }, { accessFlags := 26, nameIndex := 48, descriptorIndex := 25, attributes := #[] }, { accessFlags := 25, nameIndex := 277, descriptorIndex := 25, attributes := #[] }, { accessFlags := 25, nameIndex := 280, descriptorIndex := 25, attributes := #[] }, { accessFlags := 25, nameIndex := 282, descriptorIndex := 25, attributes := #[] }, { accessFlags := 25, nameIndex := 284, descriptorIndex := 25, attributes := #[] }, { accessFlags := 25, nameIndex := 286, descriptorIndex := 25, attributes := #[] }, { accessFlags := 25, nameIndex := 288, descriptorIndex := 25, attributes := #[] }, { accessFlags := 25, nameIndex := 290, descriptorIndex := 25, attributes := #[] }, { accessFlags := 25, nameIndex := 292, descriptorIndex := 25, attributes := #[] }, { accessFlags := 26, nameIndex := 108, descriptorIndex := 109, attributes := #[] }, { accessFlags := 25, nameIndex := 294, descriptorIndex := 25, attributes := #[] }])
  fields := #[{ name := "U", type := (.object "jdk/internal/misc/Unsafe"), accessFlags := 24, slot := 0, constantValue := 0 }, { name := "BIG_ENDIAN", type := .boolean, accessFlags := 26, slot := 1, constantValue := 0 }, { name := "LOG2_ARRAY_BOOLEAN_INDEX_SCALE", type := .int, accessFlags := 25, slot := 2, constantValue := 0 }, { name := "LOG2_ARRAY_BYTE_INDEX_SCALE", type := .int, accessFlags := 25, slot := 3, constantValue := 0 }, { name := "LOG2_ARRAY_CHAR_INDEX_SCALE", type := .int, accessFlags := 25, slot := 4, constantValue := 0 }, { name := "LOG2_ARRAY_SHORT_INDEX_SCALE", type := .int, accessFlags := 25, slot := 5, constantValue := 0 }, { name := "LOG2_ARRAY_INT_INDEX_SCALE", type := .int, accessFlags := 25, slot := 6, constantValue := 0 }, { name := "LOG2_ARRAY_LONG_INDEX_SCALE", type := .int, accessFlags := 25, slot := 7, constantValue := 0 }, { name := "LOG2_ARRAY_FLOAT_INDEX_SCALE", type := .int, accessFlags := 25, slot := 8, constantValue := 0 }, { name := "LOG2_ARRAY_DOUBLE_INDEX_SCALE", type := .int, accessFlags := 25, slot := 9, constantValue := 0 }, { name := "LOG2_BYTE_BIT_SIZE", type := .int, accessFlags := 26, slot := 10, constantValue := 0 }, { name := "T_BOOLEAN", type := .int, accessFlags := 25, slot := 11, constantValue := 0 }, { name := "T_CHAR", type := .int, accessFlags := 25, slot := 12, constantValue := 0 }, { name := "T_FLOAT", type := .int, accessFlags := 25, slot := 13, constantValue := 0 }, { name := "T_DOUBLE", type := .int, accessFlags := 25, slot := 14, constantValue := 0 }, { name := "T_BYTE", type := .int, accessFlags := 25, slot := 15, constantValue := 0 }, { name := "T_SHORT", type := .int, accessFlags := 25, slot := 16, constantValue := 0 }, { name := "T_INT", type := .int, accessFlags := 25, slot := 17, constantValue := 0 }, { name := "T_LONG", type := .int, accessFlags := 25, slot := 18, constantValue := 0 }, { name := "JLA", type := (.object "jdk/internal/access/JavaLangAccess"), accessFlags := 26, slot := 19, constantValue := 0 }, { name := "SOFT_MAX_ARRAY_LENGTH", type := .int, accessFlags := 25, slot := 20, constantValue := 0 }]
  methods := #[k15m0]
  instanceTypes := #[]
  staticTypes := #[(.object "jdk/internal/misc/Unsafe"), .boolean, .int, .int, .int, .int, .int, .int, .int, .int, .int, .int, .int, .int, .int, .int, .int, .int, .int, (.object "jdk/internal/access/JavaLangAccess"), .int]
  resolved := Array.replicate 378 none
  statics := none }

def pool16 : Array CpInfo := pool [(1, u "java/lang/Cloneable"), (0, .class_ 1), (0, u "java/lang/Object"), (0, .class_ 3)] 3

/-- java/lang/Cloneable -/
def k16 : Class := { plain "java/lang/Cloneable" (some 0) with
  accessFlags := 1537
  interfaces := #[]
  cf := some (fileOf pool16 2 #[] #[] 1537 4 #[] #[])
  fields := #[]
  methods := #[]
  instanceTypes := #[]
  staticTypes := #[]
  resolved := Array.replicate 8 none
  statics := none }

/-- the primitive byte -/
def k17 : Class := { plain "byte" none with kind := .primitive 'B', accessFlags := 0x411 }
/-- [B -/
def k18 : Class := { plain "[B" (some 0) with kind := .array 17 .byte, interfaces := #[16, 2], accessFlags := 1041 }

/-- the primitive char -/
def k19 : Class := { plain "char" none with kind := .primitive 'C', accessFlags := 0x411 }
/-- [C -/
def k20 : Class := { plain "[C" (some 0) with kind := .array 19 .char, interfaces := #[16, 2], accessFlags := 1041 }

/-- the primitive int -/
def k21 : Class := { plain "int" none with kind := .primitive 'I', accessFlags := 0x411 }
/-- [I -/
def k22 : Class := { plain "[I" (some 0) with kind := .array 21 .int, interfaces := #[16, 2], accessFlags := 1041 }

def heap : Heap := #[{ cls := 7, slots := #[.long 0, .int 1, .null, .int 0, .null, .int 0, .int 0], vm := .statics 7 },
  { cls := 12, slots := #[.ref 3, .null], vm := .statics 12 },
  { cls := 14, slots := #[.null, .null, .null], vm := .statics 14 },
  { cls := 12, slots := #[.int 0, .null], vm := .none }]
def classes : Array Class := #[k0, k1, k2, k3, k4, k5, k6, k7, k8, k9, k10, k11, k12, k13, k14, k15, k16, k17, k18, k19, k20, k21, k22]
def interned : List (Array UInt16 × Addr) := []
def slotsUsed : Nat := 14
def theMethod : MethodId := ⟨1, 1⟩
def args0 : Array Value := #[.int 5, .int 6, .int 9]
def aboutOver (below : List Frame) : State where
  vm := { classes := classes, interned := interned.toArray }
  heap := heap
  slotsUsed := slotsUsed
  threads := #[{ frames := .invoking theMethod args0 :: below }]
def below0 : List Frame := [.native { method := ⟨0, 0⟩, args := #[] }]
def about1 : State := aboutOver below0
def p0 : Program := .bare "" "" ""
def e0 : Env := launch0.env 0 0 0
theorem w_frames : about1.frames = Frame.invoking theMethod args0 :: below0 := rfl
set_option maxRecDepth 65536 in
theorem w_args : argsFit about1.vm theMethod args0 = true := by decide +kernel
set_option maxRecDepth 65536 in
theorem w_heap : heapFits about1 = true := by decide +kernel
set_option maxRecDepth 65536 in
theorem w_runnable : about1.curStatus? = some .runnable := by decide +kernel
set_option maxRecDepth 65536 in
theorem w_alone : about1.alone = true := by decide +kernel
set_option maxRecDepth 65536 in
theorem w_named : about1.methodNamed? x = some theMethod := by decide +kernel
set_option maxRecDepth 65536 in
theorem w_hears : about1.hears theMethod below0 = true := by decide +kernel
set_option maxRecDepth 65536 in
theorem w_ripe : about1.ripe theMethod args0 below0 = true := by decide +kernel
theorem w_running : about1.status = .running := rfl
set_option maxRecDepth 65536 in
theorem w_room : about1.hasRoom e0.platform room_1 = true :=
  launch0.hasRoom_least _ room_1 (by decide +kernel) (by decide +kernel) (by decide +kernel) (by decide +kernel) (by decide +kernel) (by decide +kernel)
theorem allAtoms_all (ts : List Jvm.Cond) (a : Array Jvm.Value) (st : Jvm.State) : (allAtoms ts).before a st = ts.all (fun c => c.before a st) := by
  induction ts with
  | nil => rfl
  | cons c t ih =>
    show (Jvm.Cond.and c (allAtoms t)).before a st = _
    rw [Jvm.Cond.before_and, ih, List.all_cons]
def words1 : List Jvm.Cond := Jvm.Cond.code x code maxLocals ret :: tables_1
/-- a 'code' word, met by the world's own term for the bytes: nothing is compared byte by byte -/
theorem code_word {y : MethodName} {bytes : ByteArray} {mx : Nat} {rt : Option FieldType} {a : Array Value} {s : State} {m : MethodId} {meth : Method} {c : Code} (h1 : s.methodNamed? y = some m) (h2 : s.vm.method? m = some meth) (h3 : meth.code = some c) (h4 : c.code = bytes)
    (h5 : (c.maxLocals == mx && c.exceptionTable.isEmpty && decide (c.maxStack ≤ mostOperands) && decide (meth.sig.returnType = rt) && !meth.locks && decide (parseMethodDescriptor y.desc = some meth.sig)) = true) : (Jvm.Cond.code y bytes mx rt).before a s = true := by
  simp only [Bool.and_eq_true, beq_iff_eq, Bool.not_eq_true', decide_eq_true_eq] at h5
  obtain ⟨⟨⟨⟨⟨g1, g2⟩, g3⟩, g4⟩, g5⟩, g6⟩ := h5
  simp [Cond.before, Cond.holds, Cond.value, h1, h2, h3, h4, g1, g2, g3, g4, g5, g6]
def isCode : Jvm.Cond → Bool
  | .code _ _ _ _ => true
  | _ => false
theorem all_split {L : List Jvm.Cond} {P : Jvm.Cond → Bool} (h1 : L.all (fun c => isCode c || P c) = true) (h2 : ∀ c ∈ L.filter isCode, P c = true) : L.all P = true := by
  refine List.all_eq_true.mpr fun c hc => ?_
  have h := List.all_eq_true.mp h1 c hc
  rcases Bool.eq_false_or_eq_true (isCode c) with hi | hi
  · exact h2 c (List.mem_filter.mpr ⟨hc, hi⟩)
  · simpa [hi] using h
set_option maxRecDepth 65536 in
theorem w_c0 : (Jvm.Cond.code x code maxLocals ret).before args0 about1 = true := code_word (m := ⟨1, 1⟩) (meth := k1m1) (c := k1c1) (by decide +kernel) rfl rfl rfl (by decide +kernel)
set_option maxRecDepth 65536 in
theorem w_c1 : (Jvm.Cond.code ({ cls := "com/example/uraniborg/uraniborg/model/JobSpecOneOffPinLaw", name := "draw", desc := "(II)Ljava/lang/String;" } : Jvm.MethodName) method_3_code (5 : Nat) (Option.some (Jvm.ClassFile.FieldType.object "java/lang/String"))).before args0 about1 = true := code_word (m := ⟨1, 2⟩) (meth := k1m2) (c := k1c2) (by decide +kernel) rfl rfl rfl (by decide +kernel)
set_option maxRecDepth 65536 in
theorem w_c2 : (Jvm.Cond.code ({ cls := "java/lang/String", name := "<init>", desc := "([C)V" } : Jvm.MethodName) jdk_42_method_3_code (2 : Nat) (Option.none : Option Jvm.ClassFile.FieldType)).before args0 about1 = true := code_word (m := ⟨7, 1⟩) (meth := k7m1) (c := k7c1) (by decide +kernel) rfl rfl rfl (by decide +kernel)
set_option maxRecDepth 65536 in
theorem w_c3 : (Jvm.Cond.code ({ cls := "java/lang/String", name := "<init>", desc := "([CIILjava/lang/Void;)V" } : Jvm.MethodName) jdk_42_method_149_code (6 : Nat) (Option.none : Option Jvm.ClassFile.FieldType)).before args0 about1 = true := code_word (m := ⟨7, 5⟩) (meth := k7m5) (c := k7c5) (by decide +kernel) rfl rfl rfl (by decide +kernel)
set_option maxRecDepth 65536 in
theorem w_c4 : (Jvm.Cond.code ({ cls := "java/lang/Object", name := "<init>", desc := "()V" } : Jvm.MethodName) object_method_1_code (1 : Nat) (Option.none : Option Jvm.ClassFile.FieldType)).before args0 about1 = true := code_word (m := ⟨0, 0⟩) (meth := k0m0) (c := k0c0) (by decide +kernel) rfl rfl rfl (by decide +kernel)
set_option maxRecDepth 65536 in
theorem w_c5 : (Jvm.Cond.code ({ cls := "java/lang/StringUTF16", name := "compress", desc := "([CII)[B" } : Jvm.MethodName) jdk_52_method_16_code (6 : Nat) (Option.some (Jvm.ClassFile.FieldType.array Jvm.ClassFile.FieldType.byte))).before args0 about1 = true := code_word (m := ⟨8, 2⟩) (meth := k8m2) (c := k8c2) (by decide +kernel) rfl rfl rfl (by decide +kernel)
set_option maxRecDepth 65536 in
theorem w_c6 : (Jvm.Cond.code ({ cls := "java/lang/StringUTF16", name := "compress", desc := "([CI[BII)I" } : Jvm.MethodName) jdk_52_method_21_code (7 : Nat) (Option.some Jvm.ClassFile.FieldType.int)).before args0 about1 = true := code_word (m := ⟨8, 3⟩) (meth := k8m3) (c := k8c3) (by decide +kernel) rfl rfl rfl (by decide +kernel)
set_option maxRecDepth 65536 in
theorem w_c7 : (Jvm.Cond.code ({ cls := "java/lang/StringUTF16", name := "coderFromArrayLen", desc := "([BI)B" } : Jvm.MethodName) jdk_52_method_15_code (2 : Nat) (Option.some Jvm.ClassFile.FieldType.byte)).before args0 about1 = true := code_word (m := ⟨8, 1⟩) (meth := k8m1) (c := k8c1) (by decide +kernel) rfl rfl rfl (by decide +kernel)
set_option maxRecDepth 65536 in
theorem w_c8 : (Jvm.Cond.code ({ cls := "com/example/uraniborg/uraniborg/model/JobSpec", name := "oneOff", desc := "(Ljava/lang/String;Ljava/lang/String;)Lcom/example/uraniborg/uraniborg/model/JobSpec;" } : Jvm.MethodName) prog_7_method_2_code (3 : Nat) (Option.some (Jvm.ClassFile.FieldType.object "com/example/uraniborg/uraniborg/model/JobSpec"))).before args0 about1 = true := code_word (m := ⟨9, 1⟩) (meth := k9m1) (c := k9c1) (by decide +kernel) rfl rfl rfl (by decide +kernel)
set_option maxRecDepth 65536 in
theorem w_c9 : (Jvm.Cond.code ({ cls := "com/example/uraniborg/uraniborg/model/JobSpec$Parts", name := "<init>", desc := "()V" } : Jvm.MethodName) prog_8_method_1_code (1 : Nat) (Option.none : Option Jvm.ClassFile.FieldType)).before args0 about1 = true := code_word (m := ⟨10, 0⟩) (meth := k10m0) (c := k10c0) (by decide +kernel) rfl rfl rfl (by decide +kernel)
set_option maxRecDepth 65536 in
theorem w_c10 : (Jvm.Cond.code ({ cls := "java/util/Objects", name := "requireNonNull", desc := "(Ljava/lang/Object;Ljava/lang/String;)Ljava/lang/Object;" } : Jvm.MethodName) jdk_31_method_11_code (2 : Nat) (Option.some (Jvm.ClassFile.FieldType.object "java/lang/Object"))).before args0 about1 = true := code_word (m := ⟨11, 1⟩) (meth := k11m1) (c := k11c1) (by decide +kernel) rfl rfl rfl (by decide +kernel)
set_option maxRecDepth 65536 in
theorem w_c11 : (Jvm.Cond.code ({ cls := "com/example/uraniborg/uraniborg/model/JobSpec", name := "<init>", desc := "(Lcom/example/uraniborg/uraniborg/model/JobSpec$Parts;)V" } : Jvm.MethodName) prog_7_method_1_code (2 : Nat) (Option.none : Option Jvm.ClassFile.FieldType)).before args0 about1 = true := code_word (m := ⟨9, 0⟩) (meth := k9m0) (c := k9c0) (by decide +kernel) rfl rfl rfl (by decide +kernel)
set_option maxRecDepth 65536 in
theorem w_c12 : (Jvm.Cond.code ({ cls := "com/example/uraniborg/uraniborg/model/JobSpec", name := "payload", desc := "()Ljava/lang/String;" } : Jvm.MethodName) prog_7_method_16_code (1 : Nat) (Option.some (Jvm.ClassFile.FieldType.object "java/lang/String"))).before args0 about1 = true := code_word (m := ⟨9, 4⟩) (meth := k9m4) (c := k9c4) (by decide +kernel) rfl rfl rfl (by decide +kernel)
set_option maxRecDepth 65536 in
theorem w_c13 : (Jvm.Cond.code ({ cls := "com/example/uraniborg/uraniborg/model/JobSpec", name := "key", desc := "()Ljava/lang/String;" } : Jvm.MethodName) prog_7_method_14_code (1 : Nat) (Option.some (Jvm.ClassFile.FieldType.object "java/lang/String"))).before args0 about1 = true := code_word (m := ⟨9, 2⟩) (meth := k9m2) (c := k9c2) (by decide +kernel) rfl rfl rfl (by decide +kernel)
set_option maxRecDepth 65536 in
theorem w_c14 : (Jvm.Cond.code ({ cls := "java/lang/String", name := "equals", desc := "(Ljava/lang/Object;)Z" } : Jvm.MethodName) jdk_42_method_66_code (3 : Nat) (Option.some Jvm.ClassFile.FieldType.boolean)).before args0 about1 = true := code_word (m := ⟨7, 3⟩) (meth := k7m3) (c := k7c3) (by decide +kernel) rfl rfl rfl (by decide +kernel)
set_option maxRecDepth 65536 in
theorem w_c15 : (Jvm.Cond.code ({ cls := "com/example/uraniborg/uraniborg/model/JobSpec", name := "handler", desc := "()Ljava/lang/String;" } : Jvm.MethodName) prog_7_method_15_code (1 : Nat) (Option.some (Jvm.ClassFile.FieldType.object "java/lang/String"))).before args0 about1 = true := code_word (m := ⟨9, 3⟩) (meth := k9m3) (c := k9c3) (by decide +kernel) rfl rfl rfl (by decide +kernel)
set_option maxRecDepth 65536 in
theorem w_c16 : (Jvm.Cond.code ({ cls := "java/lang/String", name := "isEmpty", desc := "()Z" } : Jvm.MethodName) jdk_42_method_55_code (1 : Nat) (Option.some Jvm.ClassFile.FieldType.boolean)).before args0 about1 = true := code_word (m := ⟨7, 2⟩) (meth := k7m2) (c := k7c2) (by decide +kernel) rfl rfl rfl (by decide +kernel)
set_option maxRecDepth 65536 in
theorem w_c17 : (Jvm.Cond.code ({ cls := "com/example/uraniborg/uraniborg/model/JobSpec", name := "priority", desc := "()J" } : Jvm.MethodName) prog_7_method_20_code (1 : Nat) (Option.some Jvm.ClassFile.FieldType.long)).before args0 about1 = true := code_word (m := ⟨9, 5⟩) (meth := k9m5) (c := k9c5) (by decide +kernel) rfl rfl rfl (by decide +kernel)
set_option maxRecDepth 65536 in
theorem w_c18 : (Jvm.Cond.code ({ cls := "com/example/uraniborg/uraniborg/model/JobSpec", name := "retryPolicy", desc := "()Lcom/example/uraniborg/uraniborg/model/RetryPolicy;" } : Jvm.MethodName) prog_7_method_22_code (1 : Nat) (Option.some (Jvm.ClassFile.FieldType.object "com/example/uraniborg/uraniborg/model/RetryPolicy"))).before args0 about1 = true := code_word (m := ⟨9, 6⟩) (meth := k9m6) (c := k9c6) (by decide +kernel) rfl rfl rfl (by decide +kernel)
set_option maxRecDepth 65536 in
theorem w_c19 : (Jvm.Cond.code ({ cls := "com/example/uraniborg/uraniborg/model/RetryPolicy", name := "equals", desc := "(Ljava/lang/Object;)Z" } : Jvm.MethodName) prog_14_method_6_code (3 : Nat) (Option.some Jvm.ClassFile.FieldType.boolean)).before args0 about1 = true := code_word (m := ⟨12, 0⟩) (meth := k12m0) (c := k12c0) (by decide +kernel) rfl rfl rfl (by decide +kernel)
set_option maxRecDepth 65536 in
theorem w_c20 : (Jvm.Cond.code ({ cls := "java/lang/String", name := "valueOf", desc := "(C)Ljava/lang/String;" } : Jvm.MethodName) jdk_42_method_139_code (1 : Nat) (Option.some (Jvm.ClassFile.FieldType.object "java/lang/String"))).before args0 about1 = true := code_word (m := ⟨7, 4⟩) (meth := k7m4) (c := k7c4) (by decide +kernel) rfl rfl rfl (by decide +kernel)
set_option maxRecDepth 65536 in
theorem w_c21 : (Jvm.Cond.code ({ cls := "java/lang/StringLatin1", name := "canEncode", desc := "(C)Z" } : Jvm.MethodName) jdk_43_method_3_code (1 : Nat) (Option.some Jvm.ClassFile.FieldType.boolean)).before args0 about1 = true := code_word (m := ⟨13, 1⟩) (meth := k13m1) (c := k13c1) (by decide +kernel) rfl rfl rfl (by decide +kernel)
set_option maxRecDepth 65536 in
theorem w_c22 : (Jvm.Cond.code ({ cls := "java/lang/StringLatin1", name := "toBytes", desc := "(C)[B" } : Jvm.MethodName) jdk_43_method_46_code (1 : Nat) (Option.some (Jvm.ClassFile.FieldType.array Jvm.ClassFile.FieldType.byte))).before args0 about1 = true := code_word (m := ⟨13, 2⟩) (meth := k13m2) (c := k13c2) (by decide +kernel) rfl rfl rfl (by decide +kernel)
set_option maxRecDepth 65536 in
theorem w_c23 : (Jvm.Cond.code ({ cls := "java/lang/String", name := "<init>", desc := "([BB)V" } : Jvm.MethodName) jdk_42_method_151_code (3 : Nat) (Option.none : Option Jvm.ClassFile.FieldType)).before args0 about1 = true := code_word (m := ⟨7, 6⟩) (meth := k7m6) (c := k7c6) (by decide +kernel) rfl rfl rfl (by decide +kernel)
def codes1 : List Jvm.Cond := [Jvm.Cond.code x code maxLocals ret, Jvm.Cond.code ({ cls := "com/example/uraniborg/uraniborg/model/JobSpecOneOffPinLaw", name := "draw", desc := "(II)Ljava/lang/String;" } : Jvm.MethodName) method_3_code (5 : Nat) (Option.some (Jvm.ClassFile.FieldType.object "java/lang/String")), Jvm.Cond.code ({ cls := "java/lang/String", name := "<init>", desc := "([C)V" } : Jvm.MethodName) jdk_42_method_3_code (2 : Nat) (Option.none : Option Jvm.ClassFile.FieldType), Jvm.Cond.code ({ cls := "java/lang/String", name := "<init>", desc := "([CIILjava/lang/Void;)V" } : Jvm.MethodName) jdk_42_method_149_code (6 : Nat) (Option.none : Option Jvm.ClassFile.FieldType), Jvm.Cond.code ({ cls := "java/lang/Object", name := "<init>", desc := "()V" } : Jvm.MethodName) object_method_1_code (1 : Nat) (Option.none : Option Jvm.ClassFile.FieldType), Jvm.Cond.code ({ cls := "java/lang/StringUTF16", name := "compress", desc := "([CII)[B" } : Jvm.MethodName) jdk_52_method_16_code (6 : Nat) (Option.some (Jvm.ClassFile.FieldType.array Jvm.ClassFile.FieldType.byte)), Jvm.Cond.code ({ cls := "java/lang/StringUTF16", name := "compress", desc := "([CI[BII)I" } : Jvm.MethodName) jdk_52_method_21_code (7 : Nat) (Option.some Jvm.ClassFile.FieldType.int), Jvm.Cond.code ({ cls := "java/lang/StringUTF16", name := "coderFromArrayLen", desc := "([BI)B" } : Jvm.MethodName) jdk_52_method_15_code (2 : Nat) (Option.some Jvm.ClassFile.FieldType.byte), Jvm.Cond.code ({ cls := "com/example/uraniborg/uraniborg/model/JobSpec", name := "oneOff", desc := "(Ljava/lang/String;Ljava/lang/String;)Lcom/example/uraniborg/uraniborg/model/JobSpec;" } : Jvm.MethodName) prog_7_method_2_code (3 : Nat) (Option.some (Jvm.ClassFile.FieldType.object "com/example/uraniborg/uraniborg/model/JobSpec")), Jvm.Cond.code ({ cls := "com/example/uraniborg/uraniborg/model/JobSpec$Parts", name := "<init>", desc := "()V" } : Jvm.MethodName) prog_8_method_1_code (1 : Nat) (Option.none : Option Jvm.ClassFile.FieldType), Jvm.Cond.code ({ cls := "java/util/Objects", name := "requireNonNull", desc := "(Ljava/lang/Object;Ljava/lang/String;)Ljava/lang/Object;" } : Jvm.MethodName) jdk_31_method_11_code (2 : Nat) (Option.some (Jvm.ClassFile.FieldType.object "java/lang/Object")), Jvm.Cond.code ({ cls := "com/example/uraniborg/uraniborg/model/JobSpec", name := "<init>", desc := "(Lcom/example/uraniborg/uraniborg/model/JobSpec$Parts;)V" } : Jvm.MethodName) prog_7_method_1_code (2 : Nat) (Option.none : Option Jvm.ClassFile.FieldType), Jvm.Cond.code ({ cls := "com/example/uraniborg/uraniborg/model/JobSpec", name := "payload", desc := "()Ljava/lang/String;" } : Jvm.MethodName) prog_7_method_16_code (1 : Nat) (Option.some (Jvm.ClassFile.FieldType.object "java/lang/String")), Jvm.Cond.code ({ cls := "com/example/uraniborg/uraniborg/model/JobSpec", name := "key", desc := "()Ljava/lang/String;" } : Jvm.MethodName) prog_7_method_14_code (1 : Nat) (Option.some (Jvm.ClassFile.FieldType.object "java/lang/String")), Jvm.Cond.code ({ cls := "java/lang/String", name := "equals", desc := "(Ljava/lang/Object;)Z" } : Jvm.MethodName) jdk_42_method_66_code (3 : Nat) (Option.some Jvm.ClassFile.FieldType.boolean), Jvm.Cond.code ({ cls := "com/example/uraniborg/uraniborg/model/JobSpec", name := "handler", desc := "()Ljava/lang/String;" } : Jvm.MethodName) prog_7_method_15_code (1 : Nat) (Option.some (Jvm.ClassFile.FieldType.object "java/lang/String")), Jvm.Cond.code ({ cls := "java/lang/String", name := "isEmpty", desc := "()Z" } : Jvm.MethodName) jdk_42_method_55_code (1 : Nat) (Option.some Jvm.ClassFile.FieldType.boolean), Jvm.Cond.code ({ cls := "com/example/uraniborg/uraniborg/model/JobSpec", name := "priority", desc := "()J" } : Jvm.MethodName) prog_7_method_20_code (1 : Nat) (Option.some Jvm.ClassFile.FieldType.long), Jvm.Cond.code ({ cls := "com/example/uraniborg/uraniborg/model/JobSpec", name := "retryPolicy", desc := "()Lcom/example/uraniborg/uraniborg/model/RetryPolicy;" } : Jvm.MethodName) prog_7_method_22_code (1 : Nat) (Option.some (Jvm.ClassFile.FieldType.object "com/example/uraniborg/uraniborg/model/RetryPolicy")), Jvm.Cond.code ({ cls := "com/example/uraniborg/uraniborg/model/RetryPolicy", name := "equals", desc := "(Ljava/lang/Object;)Z" } : Jvm.MethodName) prog_14_method_6_code (3 : Nat) (Option.some Jvm.ClassFile.FieldType.boolean), Jvm.Cond.code ({ cls := "java/lang/String", name := "valueOf", desc := "(C)Ljava/lang/String;" } : Jvm.MethodName) jdk_42_method_139_code (1 : Nat) (Option.some (Jvm.ClassFile.FieldType.object "java/lang/String")), Jvm.Cond.code ({ cls := "java/lang/StringLatin1", name := "canEncode", desc := "(C)Z" } : Jvm.MethodName) jdk_43_method_3_code (1 : Nat) (Option.some Jvm.ClassFile.FieldType.boolean), Jvm.Cond.code ({ cls := "java/lang/StringLatin1", name := "toBytes", desc := "(C)[B" } : Jvm.MethodName) jdk_43_method_46_code (1 : Nat) (Option.some (Jvm.ClassFile.FieldType.array Jvm.ClassFile.FieldType.byte)), Jvm.Cond.code ({ cls := "java/lang/String", name := "<init>", desc := "([BB)V" } : Jvm.MethodName) jdk_42_method_151_code (3 : Nat) (Option.none : Option Jvm.ClassFile.FieldType)]
set_option maxRecDepth 65536 in
theorem codes_eq : words1.filter isCode = codes1 := rfl
theorem w_codes : ∀ c ∈ words1.filter isCode, c.before args0 about1 = true := by
  rw [codes_eq]
  intro c hc
  simp only [codes1, List.mem_cons, List.not_mem_nil, or_false] at hc
  rcases hc with rfl | rfl | rfl | rfl | rfl | rfl | rfl | rfl | rfl | rfl | rfl | rfl | rfl | rfl | rfl | rfl | rfl | rfl | rfl | rfl | rfl | rfl | rfl | rfl
  · exact w_c0
  · exact w_c1
  · exact w_c2
  · exact w_c3
  · exact w_c4
  · exact w_c5
  · exact w_c6
  · exact w_c7
  · exact w_c8
  · exact w_c9
  · exact w_c10
  · exact w_c11
  · exact w_c12
  · exact w_c13
  · exact w_c14
  · exact w_c15
  · exact w_c16
  · exact w_c17
  · exact w_c18
  · exact w_c19
  · exact w_c20
  · exact w_c21
  · exact w_c22
  · exact w_c23
set_option maxRecDepth 65536 in
theorem w_t1 : (words1.take 24).all (fun c => isCode c || c.before args0 about1) = true := by decide +kernel
set_option maxRecDepth 65536 in
theorem w_t2 : ((words1.drop 24).take 24).all (fun c => isCode c || c.before args0 about1) = true := by decide +kernel
set_option maxRecDepth 65536 in
theorem w_t3 : (((words1.drop 24).drop 24).take 24).all (fun c => isCode c || c.before args0 about1) = true := by decide +kernel
set_option maxRecDepth 65536 in
theorem w_t4 : ((((words1.drop 24).drop 24).drop 24).take 24).all (fun c => isCode c || c.before args0 about1) = true := by decide +kernel
set_option maxRecDepth 65536 in
theorem w_t5 : (((((words1.drop 24).drop 24).drop 24).drop 24).take 24).all (fun c => isCode c || c.before args0 about1) = true := by decide +kernel
set_option maxRecDepth 65536 in
theorem w_t6 : (((((words1.drop 24).drop 24).drop 24).drop 24).drop 24).all (fun c => isCode c || c.before args0 about1) = true := by decide +kernel
theorem w_tables : (allAtoms (Jvm.Cond.code x code maxLocals ret :: tables_1)).before args0 about1 = true := by
  rw [allAtoms_all]
  show words1.all (fun c => c.before args0 about1) = true
  refine all_split ?_ w_codes
  rw [← List.take_append_drop 24 words1, List.all_append, w_t1, ← List.take_append_drop 24 (words1.drop 24), List.all_append, w_t2, ← List.take_append_drop 24 ((words1.drop 24).drop 24), List.all_append, w_t3, ← List.take_append_drop 24 (((words1.drop 24).drop 24).drop 24), List.all_append, w_t4, ← List.take_append_drop 24 ((((words1.drop 24).drop 24).drop 24).drop 24), List.all_append, w_t5, w_t6]
  rfl
set_option maxRecDepth 65536 in
theorem w_rest : rest_1_c.before args0 about1 = true := by decide +kernel
set_option maxRecDepth 65536 in
theorem w_case : (Jvm.Cond.and given_1 narrow_1).before args0 about1 = true := by decide +kernel
set_option maxRecDepth 65536 in
theorem w_consts : constsHeld consts_1 about1 := Jvm.Lit.constsHeldB_iff.mp (by decide +kernel)
theorem w_applies : (headSpec (Jvm.Cond.code x code maxLocals ret :: tables_1) room_1).applies x e0.platform about1 = true :=
  (Spec.applies_iff w_frames).mpr ⟨w_running, w_runnable, w_alone, w_named, w_hears, w_ripe, w_room, w_tables⟩
set_option maxRecDepth 65536 in
theorem atStart : AtStart classFile x code maxLocals ret World_1 tables_1 room_1 Calls_1 rest_1 Pre_1 launch0 p0 e0 about1 theMethod args0 below0 :=
  ⟨lists_1, trivial, launch0.admits_env _ _ _, launch0.least_env, fairChoices_fair.cas, fairChoices_fair.clock, w_frames, w_args, w_heap, w_applies, ⟨w_consts, trivial⟩, w_rest, w_case⟩
end start1
theorem witness_1 : WitnessClaimed_1 := ⟨start1.p0, start1.e0, start1.about1, start1.theMethod, start1.args0, start1.below0, start1.atStart⟩
end Jvm.Pilot.@@N@@
