import JvmDerived
import JvmDerived.Pilot.@@N@@Statement
import JvmDerived.Pilot.@@N@@Code
set_option linter.unusedVariables false
set_option linter.unusedSimpArgs false
namespace Jvm.RoadKit
open Sem ClassFile Op Lib Jvm.Stand Jvm.Free Jvm.LawKit
section New
variable {p : Program} {l : Launch} {e : Env} {R : Room} {s : State} {m : MethodId} {args : Array Value} {below : List Frame} {meth : Method} {c : Code} {T : State} {locs : List Loc} {cells slots : Nat}
theorem retI (X : Stand p l e R s m args below meth c T locs cells slots) (hx : p.tables.exec = Jvm.exec) {pc : Nat} {Ls : Array Slot} {z : Int32} {rest : List Value} (hret : meth.sig.returnType = some .int) (hd : decode c.code pc = .ok (.ireturn, 1)) {fs : List Frame}
    (hl : ∀ (f : JFrame) (acts : List Action), f.method = m → f.locked = none → f.entered = [] → (doReturn e (T.setTop f) acts (some (.int z))).1 = T.setFrames fs) : Steps p.tables e below (T.setTop (mkF m pc Ls (.int z :: rest))) (T.setFrames fs) := by
  have hm' : T.vm.method? m = some meth := X.method'
  have hn : narrow .int (.int z) = .int z := rfl
  show Steps p.tables e below (T.setTop { method := m, pc := pc, locals := Ls, stack := _ :: rest, locked := none }) _
  jvm_step X.here [X.here.top, hx, hd, hm', hret, hn]
  first | (intro acts; rw [hl _ acts rfl rfl rfl]) | rw [hl _ _ rfl rfl rfl]
  exact Steps.refl _
theorem retJ (X : Stand p l e R s m args below meth c T locs cells slots) (hx : p.tables.exec = Jvm.exec) {pc : Nat} {Ls : Array Slot} {z : Int64} {rest : List Value} (hret : meth.sig.returnType = some .long) (hd : decode c.code pc = .ok (.lreturn, 1)) {fs : List Frame}
    (hl : ∀ (f : JFrame) (acts : List Action), f.method = m → f.locked = none → f.entered = [] → (doReturn e (T.setTop f) acts (some (.long z))).1 = T.setFrames fs) : Steps p.tables e below (T.setTop (mkF m pc Ls (.long z :: rest))) (T.setFrames fs) := by
  have hm' : T.vm.method? m = some meth := X.method'
  have hn : narrow .long (.long z) = .long z := rfl
  show Steps p.tables e below (T.setTop { method := m, pc := pc, locals := Ls, stack := _ :: rest, locked := none }) _
  jvm_step X.here [X.here.top, hx, hd, hm', hret, hn]
  first | (intro acts; rw [hl _ acts rfl rfl rfl]) | rw [hl _ _ rfl rfl rfl]
  exact Steps.refl _
/-- from S the run comes to an end of which P holds -/
def Goes (p : Program) (e : Env) (below : List Frame) (P : State → Outcome → Prop) (S : State) : Prop := ∃ t o, Steps p.tables e below S t ∧ t.status = .running ∧ Ended t below o ∧ P t o
theorem Goes.step {P : State → Outcome → Prop} {S S' : State} (h : ∀ t, Steps p.tables e below S' t → Steps p.tables e below S t) (k : Goes p e below P S') : Goes p e below P S := by
  obtain ⟨t, o, h1, h2⟩ := k
  exact ⟨t, o, h t h1, h2⟩
/-- what a contract says of its end -/
def Pq (Q : Option Value → Heap → List Loc → Prop) (s : State) (kc ks : Nat) (t : State) (o : Outcome) : Prop := ∃ v L, o = .returned v ∧ Q v t.heap L ∧ FrameEnd s o t L kc ks
theorem Goes.leave {Q : Option Value → Heap → List Loc → Prop} {kc ks : Nat} {g : JFrame} {v : Option Value} {h : Heap} (X : Stand p l e R s m args below meth c T locs cells slots) (hlk : meth.locks = false) (hv : meth.sig.returnType = none → v = none)
    (st : ∀ fs, (∀ (f : JFrame) (acts : List Action), f.method = m → f.locked = none → f.entered = [] → (doReturn e (T.setTop f) acts v).1 = T.setFrames fs) → Steps p.tables e below (T.setTop g) (T.setFrames fs))
    (eT : T.heap = h) (hQ : Q v h locs) (hc : cells ≤ kc) (hs : slots ≤ ks) : Goes p e below (Pq Q s kc ks) (T.setTop g) := by
  obtain ⟨fs, hr, hrun, hended, hW, hsame⟩ := X.leave (v := v) hv hlk
  exact ⟨_, _, st fs hr, hrun, hended, v, locs, rfl, eT ▸ hQ, ⟨_, rfl⟩, hW, hsame.mono hc hs⟩
theorem own_eqI {args : Array Value} {first s : State} {o : Option Outcome} {idx : List Nat} {t : Term} {k : Int32} (h : (Cond.eq t (.int k)).value args first o s idx = some true) : t.eval args first o idx s = some (.int k) := by
  simp only [Cond.value, Term.eval] at h
  cases ht : t.eval args first o idx s with
  | none => simp [ht] at h
  | some x => cases x <;> simp [ht] at h ⊢; exact h
theorem own_stakeep {Z : State} {h h' : Heap} {ws : List Addr} {C n d : String} {w : Value} (F : Sta Z h C n d w) (K : Keep h h' ws) (q : ∀ x ∈ ws, ∀ cell : Cell, h[x]? = some cell → cell.vm.isStatics = false) : Sta Z h' C n d w := by
  obtain ⟨cf, i, k, f, st, cell, h1, h2, h3, h4, h5, h6, h7⟩ := F
  exact ⟨cf, i, k, f, st, cell, h1, h2, h3, h4, K.2.1 st cell h5 (fun hm => by rw [q st hm cell h5] at h6; cases h6), h6, h7⟩
theorem own_selP {s : State} {args : Array Value} {y : MethodName} {k : Nat} (w1 : (Cond.instanceMethod y).before args s = true) (w2 : (Cond.privateMethod y).before args s = true) (w3 : (Cond.instantiable y.cls k).before args s = true)
    (hy : y.cls ≠ "java/lang/invoke/MethodHandle" ∧ y.cls ≠ "java/lang/invoke/VarHandle") : (Cond.selects y.cls y y).before args s = true := by
  obtain ⟨mk, meth, hn, hm, -, -⟩ := Cond.instanceMethod_spec w1
  have hp := Cond.privateMethod_at w2 mk meth hn hm
  have hf := State.methodFound?_of_named hn hy
  have hc := findClass_of_methodNamed hn
  obtain ⟨c2, k2, i1, i2, -, i4, -⟩ := Cond.instantiable_spec w3
  cases hc.symm.trans i1
  simp only [Bool.or_eq_false_iff] at i4
  simp [Cond.before, Cond.holds, Cond.value, hc, hf, hn, selectMethod_private hm hp, i2, i4.1]
theorem own_neVV {Z : State} {h : Heap} {a b : Addr} {k1 k2 : ClassId} {t1 t2 : FieldType} {z1 z2 : Int32} {v1 v2 : List Value} {d1 d2 : Value} (A : Arv Z h a k1 t1 z1 v1 d1) (B : Arv Z h b k2 t2 z2 v2 d2) (q : t1 ≠ t2) : a ≠ b := fun e => by
  subst e
  obtain ⟨c1, A1, -⟩ := A
  obtain ⟨c2, B1, -⟩ := B
  cases A1.1.symm.trans B1.1
  obtain ⟨-, k, g1, comp, g2⟩ := A1.2.1
  obtain ⟨-, k', g1', comp', g2'⟩ := B1.2.1
  cases g1.symm.trans g1'
  rw [g2] at g2'
  cases g2'
  exact q rfl
end New
end Jvm.RoadKit
namespace Jvm.RoadKit
open Sem ClassFile Op Lib Jvm.Stand Jvm.Free Jvm.LawKit
section NewS
variable {p : Program} {l : Launch} {e : Env} {R : Room} {s : State} {m : MethodId} {args : Array Value} {below : List Frame} {meth : Method} {c : Code} {T : State} {locs : List Loc} {cells slots : Nat} {Z : State} {a0 : Array Value} {h : Heap}
/-- what a contract says of its end, where it may intern -/
def Pw (Q : Option Value → Heap → List Loc → Prop) (s : State) (kc ks : Nat) (t : State) (o : Outcome) : Prop := ∃ v L, o = .returned v ∧ Q v t.heap L ∧ ReturnedEndW s o t L kc ks
theorem Goes.leaveW {Q : Option Value → Heap → List Loc → Prop} {kc ks : Nat} {g : JFrame} {v : Option Value} {h : Heap} {vm₁ : Vm} (X : Stand p l e R (s.setVm vm₁) m args below meth c T locs cells slots) {k0 : Nat} (hS : s.Since vm₁ k0) (hk : k0 ≤ h.size) (hlk : meth.locks = false) (hv : meth.sig.returnType = none → v = none)
    (st : ∀ fs, (∀ (f : JFrame) (acts : List Action), f.method = m → f.locked = none → f.entered = [] → (doReturn e (T.setTop f) acts v).1 = T.setFrames fs) → Steps p.tables e below (T.setTop g) (T.setFrames fs))
    (eT : T.heap = h) (hQ : Q v h locs) (hc : cells ≤ kc) (hs : slots ≤ ks) : Goes p e below (Pw Q s kc ks) (T.setTop g) := by
  subst eT
  obtain ⟨fs, hr, hrun, hended, h1, h2, h3, h4⟩ := X.leaveW hS hk (v := v) hv hlk
  exact ⟨_, _, st fs hr, hrun, hended, v, locs, rfl, hQ, h1, h2, h3, h4.mono hc hs⟩
theorem own_fold {vm₁ vm₂ : Vm} (X : Stand p l e R ((s.setVm vm₁).setVm vm₂) m args below meth c T locs cells slots) : Stand p l e R (s.setVm vm₂) m args below meth c T locs cells slots := X
theorem own_since {own : String} {vm : Vm} {k : Nat} {cid : ClassId} (hZ0 : Z.Warmed39 s.vm) (ho : s.vm.findClass own = some cid) (hS : s.Since vm k) : Z.Warmed39 (s.setVm vm).vm ∧ (s.setVm vm).vm.findClass own = some cid :=
  ⟨State.Warmed39.trans (t := s) hZ0 hS.1, by rw [show (s.setVm vm).vm = vm from rfl, hS.1.alike.findClass]; exact ho⟩
theorem own_s0 (s : State) (k : Nat) : s.Since s.vm k := State.WarmedH.since (State.WarmedH.refl s) k
theorem own_neI {args : Array Value} {first s : State} {o : Option Outcome} {idx : List Nat} {t : Term} {k x : Int32} (h : (Cond.not (Cond.eq t (.int k))).value args first o s idx = some true) (e : t.eval args first o idx s = some (.int x)) : ¬ x = k := by
  intro z; subst z; simp only [Cond.value, e, Term.eval] at h; simp at h
def own_lv : Cond → List Cond
  | .and a b => own_lv a ++ own_lv b
  | .tt => []
  | c => [c]
theorem own_of_lv {args : Array Value} {s : State} (c : Cond) (h : ∀ w ∈ own_lv c, w.before args s = true) : c.before args s = true := by
  induction c with
  | and a b iha ihb => rw [Cond.before_and, Bool.and_eq_true]; exact ⟨iha fun w hw => h w (List.mem_append_left _ hw), ihb fun w hw => h w (List.mem_append_right _ hw)⟩
  | tt => rfl
  | _ => exact h _ (List.mem_singleton.mpr rfl)
end NewS
end Jvm.RoadKit
namespace Jvm.RoadKit
open Sem ClassFile Op Lib Bundle Jvm.Stand Jvm.Free Jvm.LawKit Jvm.Free.SB Jvm.Free.SBG
section NewH
variable {p : Program} {l : Launch} {e : Env} {R : Room} {s : State} {m : MethodId} {args : Array Value} {below : List Frame} {meth : Method} {c : Code} {T : State} {locs : List Loc} {cells slots : Nat} {Z : State} {a0 : Array Value} {h : Heap} {EL : List (String × Nat)} {vm : Vm}
/-- what a contract says of its end, where it may intern and keeps what the constants say -/
def Ph (Z : State) (EL : List (String × Nat)) (Q : Option Value → Heap → List Loc → Prop) (s : State) (kc ks : Nat) (t : State) (o : Outcome) : Prop := ∃ v L, o = .returned v ∧ Q v t.heap L ∧ CHr Z EL s.vm s.heap t.vm t.heap ∧ ReturnedEndW s o t L kc ks
theorem Goes.leaveH {Q : Option Value → Heap → List Loc → Prop} {kc ks : Nat} {g : JFrame} {v : Option Value} {h h0 : Heap} {vm₁ : Vm} (hEL : EW Z a0 EL) (hZ : Z.Warmed39 vm₁) (hh : s.heap = h0) (C : CHr Z EL s.vm h0 vm₁ h) (X : Stand p l e R (s.setVm vm₁) m args below meth c T locs cells slots) {k0 : Nat} (hS : s.Since vm₁ k0) (hk : k0 ≤ h.size) (hlk : meth.locks = false) (hv : meth.sig.returnType = none → v = none)
    (st : ∀ fs, (∀ (f : JFrame) (acts : List Action), f.method = m → f.locked = none → f.entered = [] → (doReturn e (T.setTop f) acts v).1 = T.setFrames fs) → Steps p.tables e below (T.setTop g) (T.setFrames fs))
    (eT : T.heap = h) (hQ : Q v h locs) (hc : cells ≤ kc) (hs : slots ≤ ks) : Goes p e below (Ph Z EL Q s kc ks) (T.setTop g) := by
  subst eT
  subst hh
  obtain ⟨fs, hr, hrun, hended, h1, h2, h3, h4⟩ := X.leaveW hS hk (v := v) hv hlk
  exact ⟨_, _, st fs hr, hrun, hended, v, locs, rfl, hQ, (show CHr Z EL s.vm s.heap T.vm T.heap from C.trans (CHv.at X hZ hEL C.1)), h1, h2, h3, h4.mono hc hs⟩
theorem own_safeNull {x : Addr} (hal : Z.vm.Alike vm) (E : Exa Z h x "java/lang/String") (F : Fld Z h x "java/lang/String" "value" "[B" .null) : Safe Z EL vm h x := fun B => by
  obtain ⟨p, -, u, a, -, q, -, F', rfl | rfl⟩ := B
  · obtain ⟨cell, cf, k, i, f, h1, h2, h3, h4, h5, h6, h7⟩ := F
    cases (show h[q.sa]? = some q.sC from F'.ha).symm.trans h1
    obtain ⟨cS, ⟨⟨s1, s2, s3, ⟨cv, kv, iv, s4, s4'⟩, ⟨cc, kc, ic, s5, s5'⟩, s6, s7, s8, s9, -⟩, hfS, hcS⟩, -⟩ := F'
    obtain ⟨kv', z4⟩ := ff_back (U := Wst Z vm h) hal s4
    cases h2.symm.trans z4
    rw [s8] at h7
    cases h7
  · obtain ⟨cell, k, e1, e2, e3, -, -⟩ := E
    cases (show h[q.sd]? = some q.SA from F'.hd).symm.trans e1
    obtain ⟨cS, -, -, f, -⟩ := F'
    have f' : vm.findClass "[B" = some q.SA.cls := f
    rw [hal.findClass] at f'
    obtain ⟨k1, q1, q2⟩ := Vm.findClass_spec f'
    obtain ⟨k2, q3, q4⟩ := Vm.findClass_spec e2
    cases q1.symm.trans q3
    exact absurd (q2.symm.trans q4) (by decide)
theorem own_getR (X : Stand p l e R s m args below meth c T locs cells slots) (hx : p.tables.exec = Jvm.exec) (hZ : Z.Warmed39 s.vm) {own O n d : String} {index : Nat} (hown : s.vm.findClass own = some m.cls) (w : (Cond.fieldRef own index O n d).before a0 Z = true)
    (eT : T.heap = h) {a : Addr} {v : Value} (F : Fld Z h a O n d v) {g : JFrame} (hg : g.method = m) {rest : List Value} (hs : g.stack = .ref a :: rest) (hd : decode c.code g.pc = .ok (.getfield index, 3)) : ∃ T', Stand p l e R s m args below meth c T' locs cells slots ∧ T'.heap = h ∧ ∀ target, Steps p.tables e below (T'.setTop { g with pc := g.pc + 3, stack := v :: rest }) target → Steps p.tables e below (T.setTop g) target := by
  obtain ⟨cell, cf, k, i, f, h1, h2, h3, h4, -, -, h7⟩ := F
  have hZT : Z.Warmed39 T.vm := wtrans hZ X.warmed
  obtain ⟨k', hi, -⟩ := State.fieldFound?_setVm (s := Z) hZT.alike h2
  obtain ⟨c1, k1, i1, f1, q1, q2⟩ := Cond.fieldRef_spec (s := Z.setVm T.vm) (cur := m.cls) (show T.vm.findClass own = some m.cls by rw [X.warmed.alike.findClass]; exact hown) (Cond.fieldRef_warmed39 hZT w)
  cases hi.symm.trans q1
  exact ⟨T, X, eT, fun target q => (X.getfieldR hx hg q2 h3 hs (by rw [eT]; exact h1) h4 h7 hd (Steps.refl _)).trans q⟩
theorem own_putR (X : Stand p l e R s m args below meth c T locs cells slots) (hx : p.tables.exec = Jvm.exec) (hZ : Z.Warmed39 s.vm) {own O n d C : String} {index kk : Nat} {ty : FieldType} (hown : s.vm.findClass own = some m.cls) (w : (Cond.fieldRef own index O n d).before a0 Z = true)
    (eT : T.heap = h) {a : Addr} {v old : Value} (F : Fld Z h a O n d old) (E : Exa Z h a C) (L : (Cond.lays C O n d).before a0 Z = true ∨ False) (wi : (Cond.instantiable C kk).before a0 Z = true)
    (hty : parseFieldDescriptor d = some ty) (hn : narrow ty v = v) (hf : fits ty v = true) {g : JFrame} (hg : g.method = m) {rest : List Value} (hs : g.stack = v :: .ref a :: rest) (hd : decode c.code g.pc = .ok (.putfield index, 3)) :
    ∃ T' h', Stand p l e R s m args below meth c T' (locs ++ [⟨a, slotOf Z O n d⟩]) cells slots ∧ T'.heap = h' ∧ Wr h h' a (slotOf Z O n d) v ∧ ∀ target, Steps p.tables e below (T'.setTop { g with pc := g.pc + 3, stack := rest }) target → Steps p.tables e below (T.setTop g) target := by
  replace L := L.resolve_right id
  obtain ⟨cell, cf, k, i, f, h1, h2, h3, h4, h5, -, h7⟩ := F
  obtain ⟨cell', kc, e1, e2, e3, -⟩ := E
  cases h1.symm.trans e1
  obtain ⟨c1, k1, cf1, kf1, i1, f1, a1, a2, a3, -, b5, -, a6, -⟩ := Cond.lays_spec L
  cases h2.symm.trans a3
  cases e2.symm.trans a1
  obtain ⟨c2, k2, j1, j2, j3, -⟩ := Cond.instantiable_spec wi
  cases e2.symm.trans j1
  cases a2.symm.trans j2
  have ht := (State.fieldFound?_type h2 hty).2
  have hZT : Z.Warmed39 T.vm := wtrans hZ X.warmed
  have hfit : Z.fitsSlot cell.cls cell.vm f.slot v = true := by
    have q : Z.slotType? cell.cls cell.vm f.slot = some ty := by
      simp only [State.slotType?, a2, Option.bind_eq_bind, Option.bind_some, j3]
      cases hq : cell.vm <;> first | (rw [hq] at h5; exact Bool.noConfusion h5) | (rw [a6, ht])
    simp [State.fitsSlot, q, hf]
  have hfit' : T.fitsSlot cell.cls cell.vm f.slot v = true := by
    show (Z.setVm T.vm).fitsSlot cell.cls cell.vm f.slot v = true
    rw [State.fitsSlot_setVm hZT.alike]; exact hfit
  obtain ⟨k', hi, -⟩ := State.fieldFound?_setVm (s := Z) hZT.alike h2
  obtain ⟨c3, k3, i3, f3, q1, q2⟩ := Cond.fieldRef_spec (s := Z.setVm T.vm) (cur := m.cls) (show T.vm.findClass own = some m.cls by rw [X.warmed.alike.findClass]; exact hown) (Cond.fieldRef_warmed39 hZT w)
  cases hi.symm.trans q1
  have hlt := (Array.getElem?_eq_some_iff.mp h7).1
  have es : slotOf Z O n d = f.slot := by simp [slotOf, h2]
  rw [es]
  obtain ⟨X', st⟩ := X.putfieldReady hx q2 h3 (Or.inl b5) (by rw [eT]; exact h1) h4 hlt (by rw [ht]; exact hn) hfit' hg hs hd
  exact ⟨_, _, X', rfl, ⟨cell, h1, h5, hlt, by rw [← eT]; rfl⟩, st⟩
end NewH
end Jvm.RoadKit
namespace Jvm.RoadKit
open Sem ClassFile Op Lib Jvm.Stand Jvm.Free Jvm.LawKit Bundle Jvm.Free.AList Jvm.Free.SB Jvm.Free.SBG Jvm.Free.SubstrLeaves
section OwnDig
variable {p : Program} {l : Launch} {e : Env} {R : Room} {s : State} {m : MethodId} {args : Array Value} {below : List Frame} {meth : Method} {c : Code} {T : State} {locs : List Loc} {cells slots : Nat} {Z : State} {a0 : Array Value} {h : Heap}
abbrev dz : Value := .int (0 : Int32)
def own_ones : List Value := (List.range 100).map fun r => .int (Int32.ofNat (48 + r % 10))
def own_tens : List Value := (List.range 100).map fun r => .int (Int32.ofNat (48 + r / 10))
/-- the number's bytes: its sign, its digits from the highest down -/
def own_rep (v : Int64) (nn : Nat) : List Value := (if v < 0 then [Value.int 45] else []) ++ (List.range (digitsL nn)).map fun i => .int (Int32.ofNat (48 + nn / 10 ^ (digitsL nn - 1 - i) % 10))
/-- nn is the number without its sign -/
def own_abs (v : Int64) (nn : Nat) : Prop := nn ≤ 2 ^ 63 ∧ (if v < 0 then v else -v) = negL nn
theorem own_repLen (v : Int64) (nn : Nat) : (own_rep v nn).length = digitsL nn + GetCharsL.sgnL v := by
  unfold own_rep GetCharsL.sgnL; split <;> simp [Nat.add_comm]
theorem own_repB (v : Int64) (nn : Nat) : 1 ≤ (own_rep v nn).length ∧ (own_rep v nn).length ≤ 21 := by
  have q := digitsL_pos nn
  rw [own_repLen]; unfold GetCharsL.sgnL; split <;> omega
theorem own_repS {v : Int64} {nn : Nat} (q : v < 0) : (own_rep v nn).getD 0 dz = .int 45 := by simp [own_rep, q]
theorem own_repD {v : Int64} {nn t : Nat} (q : t < digitsL nn) : (own_rep v nn).getD (GetCharsL.sgnL v + t) dz = .int (Int32.ofNat (48 + nn / 10 ^ (digitsL nn - 1 - t) % 10)) := by
  unfold own_rep GetCharsL.sgnL
  split <;> simp [List.getD_eq_getElem?_getD, List.getElem?_append, q, Nat.add_comm 1 t]
theorem own_ofI {k : Nat} (q : k < 2 ^ 31) : (Int32.ofNat k).toInt = k := Int32.toInt_ofNat_of_lt q
theorem own_clamp {k : Nat} (q : k < 2 ^ 31) : (Int32.ofNat k).toNatClampNeg = k := by show (Int32.ofNat k).toInt.toNat = k; rw [own_ofI q]; rfl
/-- the array behind Long.getChars -/
theorem own_gcAt (g : GetCharsL.G) (h1 : Ones g.D1) (h2 : Tens g.D2) (hn : g.n ≤ 2 ^ 63) (hroom : digitsL g.n + GetCharsL.sgnL g.x ≤ g.idx) (hidx : g.idx ≤ g.A.slots.size) :
    (∀ i, i < digitsL g.n → (GetCharsL.outCell g).slots[g.idx - 1 - i]? = some (.int (Int32.ofNat (48 + g.n / 10 ^ i % 10)))) ∧
    (g.x < 0 → (GetCharsL.outCell g).slots[g.idx - digitsL g.n - 1]? = some (.int 45)) := by
  have hlt : g.n < 100 ^ 10 := Nat.lt_of_le_of_lt hn (by decide)
  obtain ⟨hA, -⟩ := digLoop_at h1 h2 10 g.A g.n g.idx hlt (show wN 10 g.n ≤ g.idx from Nat.le_trans (Nat.le_add_right _ _) hroom) hidx
  obtain ⟨-, -, hsz, hpos⟩ := digLoop_facts g.D1 g.D2 10 g.A g.n g.idx
  change (∀ i, i < digitsL g.n → _) at hA
  change _ = g.idx - digitsL g.n at hpos
  unfold GetCharsL.outCell
  by_cases hx : g.x < 0
  · have hs : GetCharsL.sgnL g.x = 1 := by simp [GetCharsL.sgnL, hx]
    rw [hs] at hroom
    rw [if_pos hx, hpos]
    exact ⟨fun i hi => by rw [dgPutNe _ (by omega)]; exact hA i hi, fun _ => by rw [dgPutAt _ (by rw [hsz]; omega)]; rfl⟩
  · rw [if_neg hx]
    exact ⟨hA, fun q => absurd q hx⟩
/-- the two tables lie in the same class -/
def own_same (Z : State) : Prop := ∀ cf k i f cf' k' i' f', Z.fieldFound? "java/lang/Integer" "DigitOnes" "[B" = some (cf, k, i, f) → Z.fieldFound? "java/lang/Integer" "DigitTens" "[B" = some (cf', k', i', f') → k = k'
theorem own_sameOf (w1 : (Cond.laysStatic "java/lang/Integer" "DigitOnes" "[B").before a0 Z = true) (w2 : (Cond.laysStatic "java/lang/Integer" "DigitTens" "[B").before a0 Z = true) : own_same Z := by
  obtain ⟨c1, k1, i1, f1, -, -, g1, g2, -⟩ := Cond.laysStatic_spec w1
  obtain ⟨c2, k2, i2, f2, -, -, j1, j2, -⟩ := Cond.laysStatic_spec w2
  intro cf k i f cf' k' i' f' q1 q2
  cases g2.symm.trans q1
  cases j2.symm.trans q2
  cases g1.symm.trans j1
  exact Option.some.inj ((State.fieldFound?_spec q1).1.symm.trans (State.fieldFound?_spec q2).1)
theorem own_iAt {D : Cell} {vs : List Value} {r : Nat} {x : Int32} (H : Has D vs dz) (q : r < D.slots.size) (e : vs.getD r dz = .int x) : iAt D r = x := by
  have z := H r q
  rw [e] at z
  have : D.slots.getD r .null = .int x := by rw [Array.getD_eq_getD_getElem?, z]; rfl
  simp [iAt, this]
theorem own_tbl {U : State} {name : String} {d st : Addr} {vs : List Value} {cf i : Nat} {k : Class} {f : Field} {cell D : Cell} (hU : Z.Warmed39 U.vm) (hh : U.heap = h)
    (s1 : Z.fieldFound? "java/lang/Integer" name "[B" = some (cf, k, i, f)) (s2 : f.isStatic = true) (s3 : k.init = .initialized) (s4 : k.statics = some st) (s5 : h[st]? = some cell) (s6 : cell.vm.isStatics = true) (s7 : cell.slots[f.slot]? = some (.ref d))
    (A : Arr Z h d D .byte) (Sz : D.slots.size = 100) (H : Has D vs dz) (hv : ∀ r, r < 100 → ∃ x, vs.getD r dz = .int x) : Tbl U name st d D := by
  obtain ⟨k', hi, hek⟩ := State.fieldFound?_setVm (s := Z) hU.alike s1
  refine ⟨cf, i, k', f, cell, (show (Z.setVm U.vm).fieldFound? _ _ _ = _ from hi), s2, by rw [hek]; exact s3, by rw [hek]; exact s4, by rw [hh]; exact s5, (fun z => by rw [z] at s6; cases s6), s7, by rw [hh]; exact A.1, (show (Z.setVm U.vm).isArrayOf D .byte from State.isArrayOf_alike hU.alike A.2.1), A.2.2, Sz, fun r hr => ?_⟩
  obtain ⟨x, e⟩ := hv r hr
  rw [own_iAt H (by omega) e, H r (by omega), e]
theorem own_onesAt {r : Nat} (q : r < 100) : own_ones.getD r dz = .int (Int32.ofNat (48 + r % 10)) := by simp [own_ones, List.getD_eq_getElem?_getD, q]
theorem own_tensAt {r : Nat} (q : r < 100) : own_tens.getD r dz = .int (Int32.ofNat (48 + r / 10)) := by simp [own_tens, List.getD_eq_getElem?_getD, q]
theorem own_tabAt {args : Array Value} (hZ : Z.Warmed39 s.vm) (t : Cond) (w : ∀ d ∈ own_lv t, d.before a0 Z = true) (ok : (own_lv t).all (fun d => d.onTables && d.keepsFace) = true) : t.before args s = true :=
  own_of_lv t fun d hd => mv hZ (w d hd) (List.all_eq_true.mp ok d hd)
/-- Long.stringSize, in the walk's facts -/
theorem own_ss (hZ : Z.Warmed39 s.vm) (w : ∀ d ∈ own_lv StrSizeL.tab, d.before a0 Z = true) (wz : (Cond.initialized "java/lang/Long").before a0 Z = true) {n0 : Nat} {v : Int64} {nn : Nat} {sz : Int32} (ha : own_abs v nn) (hs : sz = Int32.ofNat (own_rep v nn).length) {W : Nat} (hf : 2 ≤ R.frames) (hlo : W + 57 ≤ R.locals) :
    Back l R p e below s args StrSizeL.ssN 3 W (fun A as => as = #[.long v] ∧ A.U.heap = h ∧ A.cells + 0 ≤ R.cells ∧ A.slots + 0 ≤ R.slots)
      (fun A _ r B => ∃ L, (r = some (.int sz) ∧ Fr n0 L ∧ B.U.heap = h) ∧ B.locs = A.locs ++ L ∧ B.cells = A.cells + 0 ∧ B.slots = A.slots + 0) := by
  refine Back.mono (StrSizeL.pays (W := W) hf hlo (own_tabAt hZ _ w rfl) (mv hZ wz)) (fun A as q => ⟨q.2.2.1, q.2.2.2, v, q.1⟩) ?_
  rintro A as r B ⟨q1, q2, -, -⟩ ⟨⟨b1, b2, b3, b4⟩, b5⟩
  refine ⟨[], ⟨?_, Fr.nil _, b1.trans q2⟩, by simpa using b2, b3, b4⟩
  rw [b5 v q1, hs, own_repLen, strSizeOfL_eq ha.1 ha.2]
set_option maxHeartbeats 2000000 in
/-- Long.getChars, in the walk's facts: the number's bytes behind what the array held -/
theorem own_gc (hZ : Z.Warmed39 s.vm) (w : ∀ d ∈ own_lv GetCharsL.tab, d.before a0 Z = true) (wz : (Cond.initialized "java/lang/Long").before a0 Z = true) (hsm : own_same Z) {n0 : Nat} {v : Int64} {nn : Nat} {idx C : Int32} {va d1 d2 : Addr} {kv k1 k2 : ClassId} {vs : List Value} (ha : own_abs v nn) (hn : n0 ≤ va)
    (V : Arv Z h va kv .byte C vs dz) (S1 : Sta Z h "java/lang/Integer" "DigitOnes" "[B" (.ref d1)) (W1 : Arv Z h d1 k1 .byte 100 own_ones dz) (S2 : Sta Z h "java/lang/Integer" "DigitTens" "[B" (.ref d2)) (W2 : Arv Z h d2 k2 .byte 100 own_tens dz) (ne1 : va ≠ d1) (ne2 : va ≠ d2)
    (hi : idx = Int32.ofNat (vs.length + (own_rep v nn).length)) (hle : vs.length + (own_rep v nn).length ≤ C.toNatClampNeg) {W : Nat} (hf : 2 ≤ R.frames) (hlo : W + 102 ≤ R.locals) :
    Back l R p e below s args GetCharsL.gcN 3 W (fun A as => as = #[.long v, .int idx, .ref va] ∧ A.U.heap = h ∧ A.cells + 0 ≤ R.cells ∧ A.slots + 0 ≤ R.slots)
      (fun A _ r B => ∃ L, (∃ z : Int32, r = some (.int z) ∧ Fr n0 L ∧ Keep h B.U.heap [va] ∧ Arv Z B.U.heap va kv .byte C (vs ++ own_rep v nn) dz) ∧ B.locs = A.locs ++ L ∧ B.cells = A.cells + 0 ∧ B.slots = A.slots + 0) := by
  obtain ⟨c0, A1, ck, Sz, Nn, Hs, Gs⟩ := V
  obtain ⟨_, _, k, f, st, cell, s1, s2, s3, s4, s5, s6, s7⟩ := S1
  obtain ⟨_, _, k', f', st', cell', t1, t2, t3, t4, t5, t6, t7⟩ := S2
  cases hsm _ _ _ _ _ _ _ _ s1 t1
  cases s4.symm.trans t4
  cases s5.symm.trans t5
  obtain ⟨D1, A2, -, Sz1, -, H1, -⟩ := W1
  obtain ⟨D2, A3, -, Sz2, -, H2, -⟩ := W2
  have z1 : D1.slots.size = 100 := Sz1
  have z2 : D2.slots.size = 100 := Sz2
  have O1 : Ones D1 := fun r hr => own_iAt H1 (by omega) (own_onesAt hr)
  have O2 : Tens D2 := fun r hr => own_iAt H2 (by omega) (own_tensAt hr)
  have nst : va ≠ st := fun z => by
    rw [← z, A1.1] at s5; cases s5
    have q := A1.plain
    rw [q] at s6; cases s6
  have hC : C.toNatClampNeg < 2 ^ 31 := by
    have q := Int32.toInt_lt C
    show C.toInt.toNat < _
    omega
  let G : GetCharsL.G := ⟨v, nn, vs.length + (own_rep v nn).length, va, c0, st, d1, D1, d2, D2⟩
  have rm : digitsL nn + GetCharsL.sgnL v ≤ vs.length + (own_rep v nn).length := by rw [own_repLen]; omega
  have P : ∀ U : State, Z.Warmed39 U.vm → U.heap = h → GetCharsL.P G #[.long v, .int idx, .ref va] U := fun U hU hh =>
    ⟨by rw [hi], by rw [hh]; exact A1.1, (show (Z.setVm U.vm).isArrayOf c0 .byte from State.isArrayOf_alike hU.alike A1.2.1), A1.2.2, by rw [Sz]; exact hC, by rw [Sz]; exact hle, rm, ha.1, ha.2,
      own_tbl hU hh s1 s2 s3 s4 s5 s6 s7 A2 z1 H1 (fun r hr => ⟨_, own_onesAt hr⟩), own_tbl hU hh t1 t2 t3 t4 s5 s6 t7 A3 z2 H2 (fun r hr => ⟨_, own_tensAt hr⟩), nst, ne1, ne2⟩
  intro m' meth' c' A fr ig mk as X' hg hsize hdg hWd hmk hPre
  obtain ⟨has, hA, hce, hsl⟩ := hPre
  obtain ⟨r, Bp, Y, ⟨hv, hout, hcB, hsB, hsz, hkp, L, hL, hLb⟩, stp⟩ := GetCharsL.pays (l := l) (R := R) (p := p) (e := e) (below := below) (s := s) (sargs := args) G W (own_tabAt hZ _ w rfl) (mv hZ wz) hf hlo m' meth' c' A fr ig mk as X' hg hsize hdg hWd hmk
    ⟨by rw [has, hi], hce, hsl, by rw [has]; exact P A.U (wtrans hZ X'.warmed) hA⟩
  obtain ⟨o1, o2, o3, o4, o5⟩ := GetCharsL.outCell_facts G ha.1 rm (fun i q => by
    have z := Hs i q
    show fits .byte (c0.slots.getD i .null) = true
    rw [Array.getD_eq_getD_getElem?, z]; exact Gs i q)
  obtain ⟨g1, g2⟩ := own_gcAt G O1 O2 ha.1 rm (show _ ≤ c0.slots.size by rw [Sz]; exact hle)
  have hkeep : Keep h Bp.U.heap [va] := by
    refine ⟨by rw [← hA, hsz]; exact Nat.le_refl _, fun y cy hy hny => hkp y cy (fun z => hny (by rw [z]; exact List.mem_singleton.mpr rfl)) (by rw [hA]; exact hy), fun y cy hy => ?_⟩
    by_cases z : y = va
    · subst z; cases A1.1.symm.trans hy; exact ⟨_, hout, o1, o2, o3⟩
    · exact ⟨cy, hkp y cy z (by rw [hA]; exact hy), rfl, rfl, rfl⟩
  have hHas : Has (GetCharsL.outCell G) (vs ++ own_rep v nn) dz := by
    intro j hj
    rw [o3] at hj
    by_cases c1 : j < vs.length
    · rw [o5 j (Or.inl (by show j < vs.length + (own_rep v nn).length - (digitsL nn + GetCharsL.sgnL v); rw [own_repLen]; omega))]
      rw [Hs j hj]; simp [List.getD_eq_getElem?_getD, List.getElem?_append, c1]
    · by_cases c2 : j < vs.length + (own_rep v nn).length
      · have e0 : (vs ++ own_rep v nn).getD j dz = (own_rep v nn).getD (j - vs.length) dz := by simp [List.getD_eq_getElem?_getD, List.getElem?_append, c1]
        rw [e0]
        have lenE := own_repLen v nn
        by_cases c3 : v < 0 ∧ j = vs.length
        · have hs : GetCharsL.sgnL v = 1 := by simp [GetCharsL.sgnL, c3.1]
          have q := g2 c3.1
          have ei : (vs.length + (own_rep v nn).length) - digitsL nn - 1 = j := by omega
          rw [show G.idx - digitsL G.n - 1 = j from ei] at q
          rw [q, c3.2, Nat.sub_self, own_repS c3.1]
        · have hb : GetCharsL.sgnL v ≤ j - vs.length := by
            unfold GetCharsL.sgnL; split
            · rename_i hv'; have : j ≠ vs.length := fun z => c3 ⟨hv', z⟩; omega
            · omega
          obtain ⟨t, ht⟩ : ∃ t, j - vs.length = GetCharsL.sgnL v + t := ⟨j - vs.length - GetCharsL.sgnL v, by omega⟩
          have htd : t < digitsL nn := by omega
          have q := g1 (digitsL nn - 1 - t) (by show _ < digitsL nn; omega)
          have ei : (vs.length + (own_rep v nn).length) - 1 - (digitsL nn - 1 - t) = j := by omega
          rw [show G.idx - 1 - (digitsL nn - 1 - t) = j from ei] at q
          rw [q, ht, own_repD htd]
      · rw [o5 j (Or.inr (by show vs.length + (own_rep v nn).length ≤ j; omega)), Hs j hj]
        rw [List.getD_eq_getElem?_getD, List.getD_eq_getElem?_getD, List.getElem?_eq_none (by omega), List.getElem?_eq_none (by rw [List.length_append]; omega)]
  refine ⟨r, Bp, Y, ⟨L, ⟨_, hv, fun y hy => by rw [hLb y hy]; exact hn, hkeep, ⟨_, ⟨hout, ?_, by rw [o2]; exact A1.2.2⟩, by rw [o1]; exact ck, by rw [o3]; exact Sz, Nn, hHas, fun i q => ?_⟩⟩, hL, hcB, hsB⟩, stp⟩
  · obtain ⟨b1, kA, b2, comp, b3⟩ := A1.2.1
    exact ⟨by rw [o2]; exact b1, kA, by rw [o1]; exact b2, comp, b3⟩
  · have z := o4 i q
    rw [Array.getD_eq_getD_getElem?, hHas i q] at z
    exact z
/-- the tables, out of the sheet's words -/
theorem own_eqV {first : State} {o : Option Outcome} {ix : List Nat} {t u : Term} {x : Int32} (q : (Cond.eq t u).value args first o s ix = some true) (e : u.eval args first o ix s = some (.int x)) : t.eval args first o ix s = some (.int x) := by
  simp only [Cond.value, e] at q
  cases ht : t.eval args first o ix s with
  | none => simp [ht] at q
  | some v => cases v <;> simp [ht] at q ⊢; exact q
theorem own_lenE {t : Term} {d : Addr} {D : Cell} (hev : t.eval a0 Z none [] Z = some (.ref d)) (harr : Z.arrayAt? d = some D) (h31 : D.slots.size < 2 ^ 31) : (Term.length t).eval a0 Z none [] Z = some (.int (Int32.ofNat D.slots.size)) := by simp [Term.eval, hev, harr, h31]
theorem own_tabV {name : String} {F : Nat → Nat} {rhs : Term} (wf : (Cond.initializedFor "java/lang/Integer" name "[B").before a0 Z = true) (we : (Cond.exactly (.static "java/lang/Integer" name "[B") "[B").before a0 Z = true) (wl : (Cond.eq (.length (.static "java/lang/Integer" name "[B")) (.int 100)).before a0 Z = true)
    (wa : (Cond.all (.static "java/lang/Integer" name "[B") (.eq (.elem (.static "java/lang/Integer" name "[B") (.index 0)) rhs)).before a0 Z = true) (wb : (Cond.arrayClass .byte).before a0 Z = true)
    (hr : ∀ r, r < 100 → rhs.eval a0 Z none [r] Z = some (.int (Int32.ofNat (F r)))) (hb : ∀ r, r < 100 → fits .byte (.int (Int32.ofNat (F r))) = true) :
    ∃ (d : Addr) (k : ClassId), Sta Z Z.heap "java/lang/Integer" name "[B" (.ref d) ∧ Exa Z Z.heap d "[B" ∧ Arv Z Z.heap d k .byte 100 ((List.range 100).map fun r => .int (Int32.ofNat (F r))) dz := by
  obtain ⟨d, cB, D, kB, hev, hfB, hcD, hkB, hstD, hclsD, -⟩ := Cond.exactly_spec we
  have hevA : ∀ ix, (Term.static "java/lang/Integer" name "[B").eval a0 Z none ix Z = some (.ref d) := fun ix => by
    have : (Term.static "java/lang/Integer" name "[B").eval a0 Z none ix Z = (Term.static "java/lang/Integer" name "[B").eval a0 Z none [] Z := by simp only [Term.eval]
    rw [this]; exact hev
  have hl := own_eqI (Cond.before_iff.mp wl)
  obtain ⟨_, _, hev', harr, -⟩ := Term.length_spec hl
  cases hev.symm.trans hev'
  obtain ⟨hcD', hkn, -, -⟩ := State.arrayAt?_spec harr
  cases hcD.symm.trans hcD'
  have h31 := length_lt hev harr hl
  have hsz : D.slots.size = 100 := by
    have e := own_lenE hev harr h31
    have q := Option.some.inj (e.symm.trans hl)
    have q2 : Int32.ofNat D.slots.size = Int32.ofNat 100 := by simpa using q
    have q3 := congrArg Int32.toInt q2
    rw [own_ofI h31, own_ofI (by omega)] at q3; omega
  obtain ⟨cB', kB', comp, hnB, hkB', hkind⟩ := Cond.arrayClass_spec wb
  rw [show ("[" ++ FieldType.toString .byte) = "[B" by decide] at hnB
  cases hfB.symm.trans hnB
  cases hkB.symm.trans hkB'
  have at_ : ∀ r, r < 100 → D.slots[r]? = some (.int (Int32.ofNat (F r))) := fun r hr' => by
    have q := Cond.all_elim (hevA []) harr (Cond.before_iff.mp wa) r (by omega)
    rw [← elem_at (ix := .index 0) (hevA [r]) harr (by omega) (by omega) rfl]
    exact own_eqV q (hr r hr')
  have gd : ∀ r, r < 100 → ((List.range 100).map fun r => Value.int (Int32.ofNat (F r))).getD r dz = .int (Int32.ofNat (F r)) := fun r q => by simp [List.getD_eq_getElem?_getD, q]
  refine ⟨d, D.cls, Sta.start hev (Or.inl wf), Exa.start hev (Cond.before_iff.mp we), D, ⟨hcD, ⟨(fun q z => by rw [z] at hstD; cases hstD), kB, by rw [hclsD]; exact hkB, comp, hkind⟩, hkn⟩, rfl, hsz, by decide, fun i q => ?_, fun i q => ?_⟩
  · rw [hsz] at q; rw [gd i q]; exact at_ i q
  · rw [hsz] at q; rw [gd i q]; exact hb i q
theorem own_onesE {r : Nat} (q : r < 100) : (Term.add (.int 48) (.rem (.index 0) (.int 10))).eval a0 Z none [r] Z = some (.int (Int32.ofNat (48 + r % 10))) := by rw [← ones_num r q]; rfl
theorem own_tensE {r : Nat} (q : r < 100) : (Term.add (.int 48) (.div (.index 0) (.int 10))).eval a0 Z none [r] Z = some (.int (Int32.ofNat (48 + r / 10))) := by rw [← tens_num r q]; rfl
theorem own_fitB : ∀ k, k < 128 → fits .byte (.int (Int32.ofNat k)) = true := by decide +kernel
/-- what num counts: one, and one for each of the bounds that the number has reached -/
def own_cnt : List Int64 → Int64 → Int32
  | [], _ => 1
  | b :: r, z => own_cnt r z + (if b < z then 0 else 1)
theorem own_cntT {b z : Int64} {r : List Int64} {q : Int32} (c : b < z) (e : q = own_cnt r z) : q + 0 = own_cnt (b :: r) z := by rw [own_cnt, if_pos c, e]
theorem own_cntF {b z : Int64} {r : List Int64} {q : Int32} (c : ¬ b < z) (e : q = own_cnt r z) : q + 1 = own_cnt (b :: r) z := by rw [own_cnt, if_neg c, e]
def own_bnd : List Int64 := (List.range 18).reverse.map fun k => negL (10 ^ (k + 1))
theorem own_cntN {n : Nat} (q : n ≤ 2 ^ 63) : ∀ k, k ≤ 18 → own_cnt ((List.range k).reverse.map fun j => negL (10 ^ (j + 1))) (negL n) = Int32.ofNat (1 + ((List.range k).filter fun j => decide (10 ^ (j + 1) ≤ n)).length)
  | 0, _ => rfl
  | k + 1, hk => by
    have ih := own_cntN q k (by omega)
    rw [List.range_succ, List.reverse_append, List.filter_append, List.length_append]
    show own_cnt (negL (10 ^ (k + 1)) :: ((List.range k).reverse.map fun j => negL (10 ^ (j + 1)))) (negL n) = _
    have hp : (10 : Nat) ^ (k + 1) ≤ 2 ^ 63 := Nat.le_trans (Nat.pow_le_pow_right (by omega) (show k + 1 ≤ 18 by omega)) (by decide)
    rw [own_cnt, ih]
    by_cases c1 : 10 ^ (k + 1) ≤ n
    · rw [if_neg (by rw [negL_lt q _ hp]; omega)]
      simp only [List.filter_cons, c1, decide_true, if_true, List.filter_nil, List.length_cons, List.length_nil]
      rw [← Nat.add_assoc, Int32.ofNat_add (1 + _)]; rfl
    · rw [if_pos (by rw [negL_lt q _ hp]; omega)]
      simp [List.filter_cons, c1]
end OwnDig
end Jvm.RoadKit
namespace Jvm.RoadKit
open Sem ClassFile Op Lib Jvm.Stand Jvm.Free Jvm.LawKit Bundle Jvm.Free.AList Jvm.Free.SB Jvm.Free.SBG Jvm.Free.SubstrLeaves
section OwnDig2
theorem own_nf {s : State} {args : Array Value} {K : String} {y y' : MethodName} (w0 : (Cond.selects K y' y').before args s = true) (e : y'.cls = y.cls) : NotFace s y := fun r0 h0 => by
  obtain ⟨c2, r2, m2, -, -, q3, -, kP, hkP, hkPi⟩ := Cond.selects_spec w0
  have h1 := findClass_of_methodNamed q3
  rw [e] at h1
  have em : m2.cls = r0.cls := Option.some.inj (h1.symm.trans (findClass_of_methodNamed h0))
  rw [em] at hkP
  exact ⟨kP, hkP, hkPi⟩
theorem own_sameM {Z : State} {a0 : Array Value} {K : String} {y y' : MethodName} (w0 : (Cond.selects K y' y').before a0 Z = true) (w : (Cond.instanceMethod y).before a0 Z = true) (e : y'.cls = y.cls)
    (hy : y.cls ≠ "java/lang/invoke/MethodHandle" ∧ y.cls ≠ "java/lang/invoke/VarHandle") : (Cond.sameMethod y.cls y.cls y.name y.desc).before a0 Z = true := by
  obtain ⟨yc, yn, yd⟩ := y
  obtain ⟨c2, r2, m2, -, -, q3, -, kP, hkP, hkPi⟩ := Cond.selects_spec w0
  obtain ⟨mk, meth, hn, hm, -, -⟩ := Cond.instanceMethod_spec w
  have hf := State.methodFound?_of_named hn hy
  have hc := findClass_of_methodNamed hn
  have hc' := findClass_of_methodNamed q3
  rw [e] at hc'
  have em : m2.cls = mk.cls := Option.some.inj (hc'.symm.trans hc)
  rw [em] at hkP
  dsimp only at hf hc hn
  simp [Cond.before, Cond.holds, Cond.value, hc, hf, hn, hkP, hkPi]
theorem own_selU {s : State} {args : Array Value} {K : String} {y : MethodName} (w : (Cond.selects K y y).before args s = true) (w1 : (Cond.instanceMethod y).before args s = true) (w2 : (Cond.privateMethod y).before args s = true)
    (hy : y.cls ≠ "java/lang/invoke/MethodHandle" ∧ y.cls ≠ "java/lang/invoke/VarHandle") : (Cond.selects y.cls y y).before args s = true := by
  obtain ⟨c2, r2, m2, -, -, q3, -, kP, hkP, hkPi⟩ := Cond.selects_spec w
  exact selects_self_of_private (findClass_of_methodNamed q3) hkP hkPi (Cond.privateMethod_at w2) w1 hy
/-- how many of the first k powers of ten n has reached -/
def own_pc (k n : Nat) : Nat := ((List.range k).filter fun j => decide (10 ^ (j + 1) ≤ n)).length
theorem own_pc0 : ∀ k, own_pc k 0 = 0 := fun k => by
  unfold own_pc
  rw [List.length_eq_zero_iff, List.filter_eq_nil_iff]
  intro j _
  have q : 0 < 10 ^ (j + 1) := Nat.pow_pos (by omega)
  rw [decide_eq_true_eq]; omega
theorem own_pcS (k n : Nat) : own_pc (k + 2) n = (if 10 ≤ n then 1 else 0) + (if 100 ≤ n then 1 else 0) + own_pc k (n / 100) := by
  unfold own_pc
  have e : List.range (k + 2) = 0 :: 1 :: (List.range k).map (· + 2) := by
    rw [List.range_succ_eq_map, List.range_succ_eq_map]; simp [List.map_map, Function.comp_def]
  have f : ∀ j, (10 ^ (j + 2 + 1) ≤ n) ↔ (10 ^ (j + 1) ≤ n / 100) := fun j => by
    rw [Nat.le_div_iff_mul_le (by omega), show 10 ^ (j + 2 + 1) = 10 ^ (j + 1) * 100 by rw [show j + 2 + 1 = (j + 1) + 2 by omega, Nat.pow_add]]
  have ff : (fun j => decide (10 ^ (j + 1) ≤ n)) ∘ (· + 2) = fun j => decide (10 ^ (j + 1) ≤ n / 100) := by
    funext j; simp only [Function.comp_apply]; exact decide_eq_decide.mpr (f j)
  rw [e, List.filter_cons, List.filter_cons, List.filter_map, ff]
  by_cases c1 : 10 ≤ n <;> by_cases c2 : 100 ≤ n <;> simp [c1, c2] <;> omega
theorem own_wN : ∀ f n, n < 100 ^ (f + 1) → wN (f + 1) n = 1 + own_pc (2 * f + 1) n
  | 0, n, h => by
    have e : own_pc (2 * 0 + 1) n = if 10 ≤ n then 1 else 0 := by
      unfold own_pc; by_cases c : 10 ≤ n <;> simp [List.range_succ, c]
    rw [e]; simp only [wN]
    have : n < 100 := by simpa using h
    rw [if_neg (by omega)]; by_cases c : 10 ≤ n
    · rw [if_pos (by omega), if_pos c]
    · rw [if_neg (by omega), if_neg c]
  | f + 1, n, h => by
    rw [show 2 * (f + 1) + 1 = (2 * f + 1) + 2 by omega, own_pcS, wN]
    by_cases c : 100 ≤ n
    · have ih := own_wN f (n / 100) (by rw [Nat.div_lt_iff_lt_mul (by omega), ← Nat.pow_succ]; exact h)
      rw [if_pos c, ih, if_pos (by omega), if_pos c]; omega
    · rw [if_neg c, if_neg c, Nat.div_eq_of_lt (by omega), own_pc0]
      by_cases c2 : 10 ≤ n
      · rw [if_pos (by omega), if_pos c2]
      · rw [if_neg (by omega), if_neg c2]
theorem own_digPc {n : Nat} (q : n ≤ 2 ^ 63) : digitsL n = 1 + own_pc 18 n := by
  have e := own_wN 9 n (Nat.lt_of_le_of_lt q (by decide))
  have e2 : own_pc (2 * 9 + 1) n = own_pc 18 n := by
    have c : ¬ 10 ^ (18 + 1) ≤ n := fun z => absurd (Nat.le_trans z q) (by decide)
    unfold own_pc
    rw [show 2 * 9 + 1 = 18 + 1 from rfl, List.range_succ, List.filter_append]
    simp [c]
  rw [← e2]; exact e
theorem own_cntD {n : Nat} {z : Int64} (q : n ≤ 2 ^ 63) (e : z = negL n) : own_cnt own_bnd z = Int32.ofNat (digitsL n) := by
  rw [e, own_bnd, own_cntN q 18 (by omega), own_digPc q]; rfl
/-- the sign that dig wants -/
def own_dch (z pw : Int64) : Int32 := (((48 : Int64) + (-((z / pw) - ((z / pw) / (10 : Int64)) * (10 : Int64)))).toInt32).toUInt32.toUInt16.toUInt32.toInt32
theorem own_negDiv {x P : Nat} {pw : Int64} (q : x ≤ 2 ^ 63) (hp : pw.toInt = P) (h0 : 0 < P) : negL x / pw = negL (x / P) := by
  apply Int64.toInt_inj.mp
  rw [Int64.toInt_div_of_ne_right _ _ (by intro z; rw [z] at hp; have e : (-1 : Int64).toInt = -1 := by decide
                                          omega), negL_toInt q, negL_toInt (Nat.le_trans (Nat.div_le_self _ _) q), hp, Int.neg_tdiv, Int.tdiv_eq_ediv_of_nonneg (by omega)]
  simp
theorem own_negRem {x : Nat} (q : x ≤ 2 ^ 63) : negL x - negL (x / 10) * 10 = negL (x % 10) := by
  apply Int64.toInt_inj.mp
  have e10 : (10 : Int64).toInt = 10 := by decide
  have h1 : (negL (x / 10) * 10).toInt = -((x / 10 * 10 : Nat) : Int) := by
    rw [Int64.toInt_mul, negL_toInt (by omega), e10, bmL (by omega) (by omega)]; omega
  rw [Int64.toInt_sub, h1, negL_toInt q, negL_toInt (by omega), bmL (by omega) (by omega)]; omega
theorem own_ten : ∀ t, t < 10 → Int32.ofNat (48 + t) = (((48 : Int64) + (-(negL t))).toInt32).toUInt32.toUInt16.toUInt32.toInt32 := by decide +kernel
theorem own_digR {nn P : Nat} {pw z : Int64} (q : nn ≤ 2 ^ 63) (hz : z = negL nn) (hp : pw.toInt = P) (h0 : 0 < P) : Int32.ofNat (48 + nn / P % 10) = own_dch z pw := by
  have qx : nn / P ≤ 2 ^ 63 := Nat.le_trans (Nat.div_le_self _ _) q
  unfold own_dch
  rw [hz, own_negDiv q hp h0, own_negDiv qx (show (10 : Int64).toInt = ((10 : Nat) : Int) by decide) (by omega), own_negRem qx]
  exact own_ten _ (Nat.mod_lt _ (by omega))
/-- L lies in vs from ps on -/
def own_in (vs : List Value) (ps : Nat) (L : List Value) : Prop := ∀ j, j < L.length → vs.getD (ps + j) dz = L.getD j dz
theorem own_inMid (a b c : List Value) : own_in ((a ++ b) ++ c) a.length b := fun j hj => by
  simp only [List.getD_eq_getElem?_getD]
  rw [List.getElem?_append_left (by rw [List.length_append]; omega), List.getElem?_append_right (by omega), Nat.add_sub_cancel_left]
theorem own_inEnd (a b : List Value) : own_in (a ++ b) a.length b := fun j hj => by
  simp only [List.getD_eq_getElem?_getD]
  rw [List.getElem?_append_right (by omega), Nat.add_sub_cancel_left]
theorem own_yB (nn P : Nat) : ¬ (Int32.ofNat (48 + nn / P % 10) < (0 : Int32)) ∧ ¬ ((127 : Int32) < Int32.ofNat (48 + nn / P % 10)) := by
  have q : nn / P % 10 < 10 := Nat.mod_lt _ (by omega)
  generalize nn / P % 10 = t at q
  simp only [Int32.lt_iff_toInt_lt, own_ofI (show 48 + t < 2 ^ 31 by omega), Int32.reduceToInt]; omega
/-- what num's k-th look finds -/
theorem own_chk {vs : List Value} {v : Int64} {nn ps k P : Nat} {i dd N kk : Int32} {zz pp : Int64} (ha : own_abs v nn) (hc : own_in vs ps (own_rep v nn)) (hi : i = Int32.ofNat (ps + GetCharsL.sgnL v)) (hd : dd = Int32.ofNat (digitsL nn))
    (hN : N = Int32.ofNat vs.length) (hL : vs.length ≤ 100) (hle : ps + (own_rep v nn).length ≤ vs.length) (hk1 : 1 ≤ k) (hk : k ≤ digitsL nn) (ek : kk.toInt = k) (hz : zz = negL nn) (hp : pp.toInt = P) (hP : P = 10 ^ (k - 1)) :
    ¬ (((i + dd) - kk) < (0 : Int32)) ∧ ((i + dd) - kk) < N ∧ vs.getD ((i + dd) - kk).toNatClampNeg dz = .int (Int32.ofNat (48 + nn / P % 10)) ∧ Int32.ofNat (48 + nn / P % 10) = own_dch zz pp := by
  have hl := own_repLen v nn
  have db := digitsL_pos nn
  have sb : GetCharsL.sgnL v ≤ 1 := by unfold GetCharsL.sgnL; split <;> omega
  have ei : ((i + dd) - kk) = Int32.ofNat (ps + GetCharsL.sgnL v + digitsL nn - k) := by
    apply Int32.toInt_inj.mp
    rw [Int32.toInt_sub, hi, hd, ← Int32.ofNat_add, own_ofI (by omega), own_ofI (by omega), ek]
    rw [Int.bmod_eq_of_le (by omega) (by omega)]; omega
  have hkP : 0 < P := by rw [hP]; exact Nat.pow_pos (by omega)
  refine ⟨?_, ?_, ?_, own_digR ha.1 hz hp hkP⟩
  · rw [ei, Int32.lt_iff_toInt_lt, own_ofI (by omega)]; simp only [Int32.reduceToInt]; omega
  · rw [ei, hN, Int32.lt_iff_toInt_lt, own_ofI (by omega), own_ofI (by omega)]; omega
  · have q := hc (GetCharsL.sgnL v + (digitsL nn - k)) (by omega)
    rw [own_repD (by omega), show digitsL nn - 1 - (digitsL nn - k) = k - 1 by omega, ← hP] at q
    rw [ei, own_clamp (by omega), show ps + GetCharsL.sgnL v + digitsL nn - k = ps + (GetCharsL.sgnL v + (digitsL nn - k)) by omega]
    exact q
theorem own_idx {n sz : Int32} {vs ws : List Value} (h1 : n = Int32.ofNat vs.length) (h2 : sz = Int32.ofNat ws.length) : (n + sz) = Int32.ofNat (vs.length + ws.length) := by rw [h1, h2, Int32.ofNat_add]
theorem own_idx2 {n sz : Int32} {vs ws : List Value} (h1 : n = Int32.ofNat vs.length) (h2 : sz = Int32.ofNat ws.length) : (n + sz) = Int32.ofNat (vs ++ ws).length := by rw [List.length_append]; exact own_idx h1 h2
theorem own_hle {n sz C : Int32} {vs ws : List Value} (h1 : n = Int32.ofNat vs.length) (h2 : sz = Int32.ofNat ws.length) (b1 : vs.length ≤ 64) (b2 : ws.length ≤ 64) (q : ¬ C < (n + sz)) : vs.length + ws.length ≤ C.toNatClampNeg := by
  rw [own_idx h1 h2, Int32.lt_iff_toInt_lt, own_ofI (by omega)] at q
  show _ ≤ C.toInt.toNat
  omega
theorem own_hle1 {n C : Int32} {vs : List Value} (h1 : n = Int32.ofNat vs.length) (b1 : vs.length ≤ 64) (q : ¬ C < n) : vs.length ≤ C.toNatClampNeg := by
  rw [h1, Int32.lt_iff_toInt_lt, own_ofI (by omega)] at q
  show _ ≤ C.toInt.toNat
  omega
theorem own_capp {n k : Int32} {c : Nat} (e : k.toInt = c) (q : ¬ k < n) : n.toNatClampNeg ≤ c := by
  rw [Int32.lt_iff_toInt_lt] at q
  show n.toInt.toNat ≤ c
  omega
theorem own_getApp (a b : List Value) (i : Nat) : (a ++ b).getD i dz = if i < a.length then a.getD i dz else b.getD (i - a.length) dz := by
  simp only [List.getD_eq_getElem?_getD, List.getElem?_append]; split <;> rfl
theorem own_getRep (k i : Nat) : (List.replicate k dz).getD i dz = dz := by
  simp only [List.getD_eq_getElem?_getD, List.getElem?_replicate]; split <;> rfl
theorem own_padR (vs : List Value) (k : Nat) : ∀ i, (vs ++ List.replicate k dz).getD i dz = vs.getD i dz := pad_rep vs dz k
/-- a copy of the first c places into an array of zeros -/
theorem own_cpG {vs : List Value} {c K : Nat} (q : vs.length ≤ c) : ∀ i, vs.getD i dz = (((List.replicate K dz).take 0 ++ (List.range c).map fun i => vs.getD (0 + i) dz) ++ (List.replicate K dz).drop (0 + c)).getD i dz := fun i => by
  rw [List.take_zero, List.nil_append, own_getApp, List.drop_replicate, own_getRep, List.length_map, List.length_range]
  split
  · rename_i h; simp [List.getD_eq_getElem?_getD, h]
  · rename_i h; rw [List.getD_eq_getElem?_getD, List.getElem?_eq_none (by omega)]; rfl
/-- two places behind vs -/
theorem own_cpD {vs : List Value} {n K : Nat} {x y : Value} (q : n = vs.length) : ∀ i, (vs ++ [x, y]).getD i dz = (((vs ++ List.replicate (K + 2) dz).take n ++ (List.range 2).map fun i => [x, y].getD (0 + i) dz) ++ (vs ++ List.replicate (K + 2) dz).drop (n + 2)).getD i dz := fun i => by
  subst q
  rw [List.take_left, List.drop_append, List.drop_eq_nil_of_le (by omega), List.nil_append, show vs.length + 2 - vs.length = 2 by omega, List.drop_replicate]
  show _ = ((vs ++ [x, y]) ++ List.replicate (K + 2 - 2) dz).getD i dz
  exact (pad_rep _ dz _ i).symm
theorem own_shl0 (x : Int32) : x <<< ((0 : Int32) &&& 31) = x := by
  rw [show ((0 : Int32) &&& 31) = 0 by decide]; exact Int32.shiftLeft_zero
theorem own_shr0 (x : Int32) : x >>> ((0 : Int32) &&& 31) = x := by
  rw [show ((0 : Int32) &&& 31) = 0 by decide]; exact Int32.shiftRight_zero
theorem own_ch {y : Int32} (a : ¬ (y < (0 : Int32))) (b : ¬ ((127 : Int32) < y)) : nar .char ((y &&& (255 : Int32)).toUInt32.toUInt16.toUInt32.toInt32) = y := by
  show ((y &&& (255 : Int32)).toUInt32.toUInt16.toUInt32.toInt32).toUInt32.toUInt16.toUInt32.toInt32 = y
  have c1 := c_i2c (y &&& (255 : Int32))
  have c2 := c_i2c ((y &&& (255 : Int32)).toUInt32.toUInt16.toUInt32.toInt32)
  have c3 := c_mask y (255 : Int32) 8 (by decide) (by decide)
  have r := rng32 y
  rw [← Int32.toInt_inj]
  simp only [Int32.lt_iff_toInt_lt, Int32.reduceToInt] at a b c1 c2 c3 r ⊢
  omega
theorem own_narc {y : Int32} (a : ¬ (y < (0 : Int32))) (b : ¬ ((127 : Int32) < y)) : nar .char y = y := by
  show y.toUInt32.toUInt16.toUInt32.toInt32 = y
  have c1 := c_i2c y
  rw [← Int32.toInt_inj]
  simp only [Int32.lt_iff_toInt_lt, Int32.reduceToInt] at a b c1 ⊢
  omega
theorem own_bndE : own_bnd = [(-1000000000000000000 : Int64), (-100000000000000000 : Int64), (-10000000000000000 : Int64), (-1000000000000000 : Int64), (-100000000000000 : Int64), (-10000000000000 : Int64), (-1000000000000 : Int64), (-100000000000 : Int64), (-10000000000 : Int64), (-1000000000 : Int64), (-100000000 : Int64), (-10000000 : Int64), (-1000000 : Int64), (-100000 : Int64), (-10000 : Int64), (-1000 : Int64), (-100 : Int64), (-10 : Int64)] := by decide +kernel
theorem own_cntL {nn : Nat} {z : Int64} {q : Int32} (ha : nn ≤ 2 ^ 63) (hz : z = negL nn) (e : q = own_cnt [(-1000000000000000000 : Int64), (-100000000000000000 : Int64), (-10000000000000000 : Int64), (-1000000000000000 : Int64), (-100000000000000 : Int64), (-10000000000000 : Int64), (-1000000000000 : Int64), (-100000000000 : Int64), (-10000000000 : Int64), (-1000000000 : Int64), (-100000000 : Int64), (-10000000 : Int64), (-1000000 : Int64), (-100000 : Int64), (-10000 : Int64), (-1000 : Int64), (-100 : Int64), (-10 : Int64)] z) : q = Int32.ofNat (digitsL nn) := by
  rw [e, ← own_bndE]; exact own_cntD ha hz
theorem own_gtT {z b : Int64} (q : (0 : Int32) < lcmpW z b) : b < z := by
  have c := c_lcmp z b
  simp only [Int32.lt_iff_toInt_lt, Int64.lt_iff_toInt_lt, Int32.reduceToInt] at *
  omega
theorem own_gtF {z b : Int64} (q : ¬ ((0 : Int32) < lcmpW z b)) : ¬ (b < z) := by
  have c := c_lcmp z b
  simp only [Int32.lt_iff_toInt_lt, Int64.lt_iff_toInt_lt, Int32.reduceToInt] at *
  omega
def own_nn (v : Int64) : Nat := v.toInt.natAbs
theorem own_absOf (v : Int64) : own_abs v (own_nn v) := by
  obtain ⟨n, q1, q2⟩ := negL_of v
  have e := negL_toInt q1
  rw [← q2] at e
  have r1 := Int64.le_toInt v
  have r2 := Int64.toInt_lt v
  have z0 : (0 : Int64).toInt = 0 := by decide
  have h : n = own_nn v := by
    unfold own_nn
    split at e
    · omega
    · rename_i hv
      rw [Int64.lt_iff_toInt_lt, z0] at hv
      rw [Int64.toInt_neg, bmL (by omega) (by omega)] at e
      omega
  rw [← h]; exact ⟨q1, q2⟩
theorem own_szB (v : Int64) (nn : Nat) : (0 : Int32) < Int32.ofNat (own_rep v nn).length ∧ ¬ ((21 : Int32) < Int32.ofNat (own_rep v nn).length) := by
  have q := own_repB v nn
  simp only [Int32.lt_iff_toInt_lt, own_ofI (show (own_rep v nn).length < 2 ^ 31 by omega), Int32.reduceToInt]; omega
theorem own_b1 (v : Int64) (nn : Nat) : (([] : List Value) ++ own_rep v nn).length ≤ 40 := by
  have q := own_repB v nn
  rw [List.nil_append]; omega
theorem own_b2 (v : Int64) (nn : Nat) (x y : Value) : ((([] : List Value) ++ own_rep v nn) ++ [x, y]).length ≤ 40 := by
  have q := own_repB v nn
  rw [List.nil_append, List.length_append]; simp; omega
def own_all (lo : Int64) (n1 : Nat) (hi : Int64) (n2 : Nat) : List Value := (((([] : List Value) ++ own_rep lo n1) ++ [(.int (46 : Int32)), (.int (46 : Int32))]) ++ own_rep hi n2)
variable {lo hi : Int64} {n1 n2 : Nat}
theorem own_allLen : (own_all lo n1 hi n2).length = (own_rep lo n1).length + 2 + (own_rep hi n2).length := by unfold own_all; simp only [List.nil_append, List.length_append, List.length_cons, List.length_nil]
theorem own_allB : (own_all lo n1 hi n2).length ≤ 44 := by
  have a := own_repB lo n1
  have b := own_repB hi n2
  rw [own_allLen]; omega
theorem own_in1 : own_in (own_all lo n1 hi n2) 0 (own_rep lo n1) := by
  unfold own_all
  rw [List.append_assoc]
  exact own_inMid [] _ _
theorem own_in2 : own_in (own_all lo n1 hi n2) ((own_rep lo n1).length + 2) (own_rep hi n2) := by
  have q := own_inEnd ((([] : List Value) ++ own_rep lo n1) ++ [(.int (46 : Int32)), (.int (46 : Int32))]) (own_rep hi n2)
  have e : ((([] : List Value) ++ own_rep lo n1) ++ [(.int (46 : Int32)), (.int (46 : Int32))] : List Value).length = (own_rep lo n1).length + 2 := by simp
  rw [e] at q
  exact q
theorem own_dots : own_in (own_all lo n1 hi n2) (own_rep lo n1).length [(.int (46 : Int32)), (.int (46 : Int32))] := by
  unfold own_all
  rw [List.nil_append]
  exact own_inMid _ _ _
theorem own_ncl {n : Int32} {vs : List Value} (h1 : n = Int32.ofNat vs.length) (b1 : vs.length ≤ 64) : n.toNatClampNeg = vs.length := by rw [h1]; exact own_clamp (by omega)
theorem own_castN {Z : State} {h : Heap} {a : Addr} {k : ClassId} {ty : FieldType} {n C : Int32} {vs : List Value} {d : Value} (e : n = C) (V : Arv Z h a k ty C vs d) : Arv Z h a k ty n vs d := e ▸ V
theorem own_sub0 (x : Int32) : x - (0 : Int32) = x := by
  rw [← Int32.toInt_inj, Int32.toInt_sub]
  have r := rng32 x
  simp only [Int32.reduceToInt] at r ⊢
  rw [Int.sub_zero]; exact Int.bmod_eq_of_le (by omega) (by omega)
theorem own_lcT {v : Int64} (q : v < (0 : Int64)) : lcmpW v (0 : Int64) < (0 : Int32) := by
  have c := c_lcmp v (0 : Int64)
  simp only [Int32.lt_iff_toInt_lt, Int64.lt_iff_toInt_lt, Int32.reduceToInt, Int64.reduceToInt] at *
  omega
theorem own_lcF {v : Int64} (q : ¬ (v < (0 : Int64))) : ¬ (lcmpW v (0 : Int64) < (0 : Int32)) := by
  have c := c_lcmp v (0 : Int64)
  simp only [Int32.lt_iff_toInt_lt, Int64.lt_iff_toInt_lt, Int32.reduceToInt, Int64.reduceToInt] at *
  omega
theorem own_z1 {v : Int64} {nn : Nat} (ha : own_abs v nn) (q : v < (0 : Int64)) : v = negL nn := by have e := ha.2; rwa [if_pos q] at e
theorem own_z2 {v : Int64} {nn : Nat} (ha : own_abs v nn) (q : ¬ (v < (0 : Int64))) : (-v) = negL nn := by have e := ha.2; rwa [if_neg q] at e
theorem own_i1 {v : Int64} {p1 : Int32} {ps : Nat} (hp : p1 = Int32.ofNat ps) (q : v < (0 : Int64)) : (p1 + (1 : Int32)) = Int32.ofNat (ps + GetCharsL.sgnL v) := by
  rw [hp, GetCharsL.sgnL, if_pos q, Int32.ofNat_add]; rfl
theorem own_i2 {v : Int64} {p1 : Int32} {ps : Nat} (hp : p1 = Int32.ofNat ps) (q : ¬ (v < (0 : Int64))) : p1 = Int32.ofNat (ps + GetCharsL.sgnL v) := by
  rw [hp, GetCharsL.sgnL, if_neg q]; rfl
theorem own_sgn {ws : List Value} {v : Int64} {nn ps : Nat} {p1 : Int32} (hc : own_in ws ps (own_rep v nn)) (hp : p1 = Int32.ofNat ps) (hle : ps + (own_rep v nn).length ≤ ws.length) (hL : ws.length ≤ 100) (q : v < (0 : Int64)) : ws.getD p1.toNatClampNeg dz = .int (45 : Int32) := by
  have e := hc 0 (own_repB v nn).1
  rw [own_repS q] at e
  rw [hp, own_clamp (by omega)]; exact e
theorem own_kD {dd kk : Int32} {nn k : Nat} (hd : dd = Int32.ofNat (digitsL nn)) (e : kk.toInt = k) (q : kk < dd) : k + 1 ≤ digitsL nn := by
  have b := digitsL_pos nn
  rw [hd, Int32.lt_iff_toInt_lt, own_ofI (by omega), e] at q
  omega
theorem own_ddB {dd : Int32} {nn : Nat} (hd : dd = Int32.ofNat (digitsL nn)) : (0 : Int32) < dd ∧ ¬ ((20 : Int32) < dd) := by
  have b := digitsL_pos nn
  simp only [hd, Int32.lt_iff_toInt_lt, own_ofI (show digitsL nn < 2 ^ 31 by omega), Int32.reduceToInt]; omega
theorem own_res {v : Int64} {nn ps : Nat} {i dd : Int32} (hi : i = Int32.ofNat (ps + GetCharsL.sgnL v)) (hd : dd = Int32.ofNat (digitsL nn)) : (i + dd) = Int32.ofNat (ps + (own_rep v nn).length) := by
  rw [hi, hd, ← Int32.ofNat_add, own_repLen, Nat.add_assoc, Nat.add_comm (digitsL nn)]
theorem own_resB {x N : Int32} {k : Nat} {ws : List Value} (hx : x = Int32.ofNat k) (hN : N = Int32.ofNat ws.length) (hL : ws.length ≤ 100) (hle : k ≤ ws.length) : ¬ (x < (0 : Int32)) ∧ ¬ (N < x) := by
  simp only [hx, hN, Int32.lt_iff_toInt_lt, own_ofI (show k < 2 ^ 31 by omega), own_ofI (show ws.length < 2 ^ 31 by omega), Int32.reduceToInt]; omega
theorem own_ltN {x N : Int32} {k : Nat} {ws : List Value} (hx : x = Int32.ofNat k) (hN : N = Int32.ofNat ws.length) (hL : ws.length ≤ 100) (hle : k < ws.length) : x < N := by
  simp only [hx, hN, Int32.lt_iff_toInt_lt, own_ofI (show k < 2 ^ 31 by omega), own_ofI (show ws.length < 2 ^ 31 by omega)]; omega
theorem own_at {ws M : List Value} {x : Int32} {k j : Nat} {y : Int32} (hc : own_in ws k M) (hj : j < M.length) (e : M.getD j dz = .int y) (hx : x = Int32.ofNat (k + j)) (hb : k + j ≤ 1000) : ws.getD x.toNatClampNeg dz = .int y := by
  rw [hx, own_clamp (by omega), hc j hj]; exact e
theorem own_isRef {args : Array Value} {s : State} {t : Term} (h : (Cond.isRef t).before args s = true) : ∃ v, t.eval args s none [] s = some v ∧ v.isRef = true := by
  simp only [Cond.before, Cond.holds, Cond.value] at h
  cases ht : t.eval args s none [] s with
  | none => simp [ht] at h
  | some v => exact ⟨v, rfl, by cases v <;> simp [ht] at h ⊢ <;> rfl⟩
end OwnDig2
end Jvm.RoadKit
namespace Jvm.RoadKit
open Sem ClassFile Op Lib Jvm.Stand Jvm.Free Jvm.LawKit Bundle Jvm.Free.AList Jvm.Free.SB Jvm.Free.SBG Jvm.Free.SubstrLeaves
theorem own_add {r jj : Int32} {k j : Nat} (h : r = Int32.ofNat k) (e : jj = Int32.ofNat j) : (r + jj) = Int32.ofNat (k + j) := by rw [h, e, Int32.ofNat_add]
end Jvm.RoadKit
namespace Jvm.Pilot.@@N@@
open Jvm Jvm.ClassFile Sem Op Lib Jvm.Free Jvm.Stand Jvm.LawKit Jvm.RoadKit Bundle Jvm.Pilot.@@N@@.Jvm.D
abbrev rom0 : Room := { frames := 1, cells := 1, slots := 16, locals := 12 }
abbrev rom1 : Room := { frames := 2, cells := 1, slots := 16, locals := 25 }
abbrev rom2 : Room := { frames := 0, cells := 0, slots := 0, locals := 0 }
abbrev rom3 : Room := { frames := 1, cells := 0, slots := 0, locals := 14 }
abbrev rom4 : Room := { frames := 2, cells := 0, slots := 0, locals := 29 }
abbrev rom5 : Room := { frames := 1, cells := 1, slots := 70, locals := 18 }
abbrev rom6 : Room := { frames := 3, cells := 1, slots := 70, locals := 48 }
abbrev rom7 : Room := { frames := 2, cells := 0, slots := 0, locals := 102 }
abbrev rom8 : Room := { frames := 3, cells := 0, slots := 0, locals := 118 }
abbrev rom9 : Room := { frames := 4, cells := 1, slots := 70, locals := 102 }
abbrev rom10 : Room := { frames := 5, cells := 1, slots := 70, locals := 118 }
abbrev rom11 : Room := { frames := 1, cells := 0, slots := 0, locals := 13 }
abbrev rom12 : Room := { frames := 1, cells := 0, slots := 0, locals := 18 }
abbrev rom13 : Room := { frames := 2, cells := 0, slots := 0, locals := 33 }
abbrev rom14 : Room := { frames := 3, cells := 0, slots := 0, locals := 47 }
abbrev rom15 : Room := { frames := 4, cells := 0, slots := 0, locals := 61 }
abbrev rom16 : Room := { frames := 4, cells := 1, slots := 70, locals := 62 }
abbrev rom17 : Room := { frames := 5, cells := 1, slots := 70, locals := 76 }
abbrev rom18 : Room := { frames := 2, cells := 1, slots := 70, locals := 34 }
abbrev rom19 : Room := { frames := 1, cells := 1, slots := 70, locals := 14 }
abbrev rom20 : Room := { frames := 1, cells := 0, slots := 0, locals := 12 }
abbrev rom21 : Room := { frames := 3, cells := 1, slots := 70, locals := 49 }
abbrev rom22 : Room := { frames := 4, cells := 1, slots := 70, locals := 65 }
abbrev rom23 : Room := { frames := 5, cells := 2, slots := 74, locals := 79 }
abbrev rom24 : Room := { frames := 2, cells := 1, slots := 70, locals := 29 }
abbrev rom25 : Room := { frames := 3, cells := 1, slots := 70, locals := 45 }
abbrev rom26 : Room := { frames := 4, cells := 2, slots := 74, locals := 59 }
abbrev rom27 : Room := { frames := 2, cells := 0, slots := 0, locals := 24 }
abbrev rom28 : Room := { frames := 6, cells := 8, slots := 246, locals := 132 }
abbrev rom29 : Room := { frames := 2, cells := 0, slots := 0, locals := 27 }
abbrev rom30 : Room := { frames := 3, cells := 0, slots := 0, locals := 40 }
abbrev rom31 : Room := { frames := 4, cells := 0, slots := 0, locals := 53 }
abbrev rom32 : Room := { frames := 5, cells := 0, slots := 0, locals := 72 }
set_option maxRecDepth 65536 in
theorem pnm0 : plainName "java/lang/AbstractStringBuilder" = true := by first | (simp [plainName, overriddenIn]; done) | decide +kernel
set_option maxRecDepth 65536 in
theorem pnm1 : plainName "java/lang/StringBuilder" = true := by first | (simp [plainName, overriddenIn]; done) | decide +kernel
set_option maxRecDepth 65536 in
theorem pnm2 : plainName "jdk/internal/util/ArraysSupport" = true := by first | (simp [plainName, overriddenIn]; done) | decide +kernel
set_option maxRecDepth 65536 in
theorem pnm3 : plainName "java/util/Arrays" = true := by first | (simp [plainName, overriddenIn]; done) | decide +kernel
set_option maxRecDepth 65536 in
theorem pnm4 : plainName "java/lang/String" = true := by first | (simp [plainName, overriddenIn]; done) | decide +kernel
set_option maxRecDepth 65536 in
theorem pnm5 : plainName "java/lang/Record" = true := by first | (simp [plainName, overriddenIn]; done) | decide +kernel
set_option maxRecDepth 65536 in
theorem pnm6 : plainName "com/example/uraniborg/uraniborg/model/PriorityRange" = true := by first | (simp [plainName, overriddenIn]; done) | decide +kernel
set_option maxRecDepth 65536 in
theorem pnm7 : plainName "jdk/internal/util/Preconditions" = true := by first | (simp [plainName, overriddenIn]; done) | decide +kernel
set_option maxRecDepth 65536 in
theorem pnm8 : plainName "java/lang/StringLatin1" = true := by first | (simp [plainName, overriddenIn]; done) | decide +kernel
set_option maxRecDepth 65536 in
theorem pnm9 : plainName "com/example/uraniborg/uraniborg/model/PriorityRangeToStringPinLaw" = true := by first | (simp [plainName, overriddenIn]; done) | decide +kernel
abbrev mth0 : MethodName := ⟨"java/lang/AbstractStringBuilder", "<init>", "(I)V"⟩
abbrev mth1 : MethodName := ⟨"java/lang/StringBuilder", "<init>", "()V"⟩
abbrev mth2 : MethodName := ⟨"java/lang/Math", "max", "(II)I"⟩
abbrev mth3 : MethodName := ⟨"java/lang/Math", "min", "(II)I"⟩
abbrev mth4 : MethodName := ⟨"jdk/internal/util/ArraysSupport", "newLength", "(III)I"⟩
abbrev mth5 : MethodName := ⟨"java/lang/AbstractStringBuilder", "newCapacity", "(I)I"⟩
abbrev mth6 : MethodName := ⟨"java/util/Arrays", "copyOf", "([BI)[B"⟩
abbrev mth7 : MethodName := ⟨"java/lang/AbstractStringBuilder", "ensureCapacityInternal", "(I)V"⟩
abbrev mth8 : MethodName := ⟨"java/lang/AbstractStringBuilder", "isLatin1", "()Z"⟩
abbrev mth9 : MethodName := ⟨"java/lang/Long", "stringSize", "(J)I"⟩
abbrev mth10 : MethodName := ⟨"java/lang/Long", "getChars", "(JI[B)I"⟩
abbrev mth11 : MethodName := ⟨"java/lang/AbstractStringBuilder", "append", "(J)Ljava/lang/AbstractStringBuilder;"⟩
abbrev mth12 : MethodName := ⟨"java/lang/StringBuilder", "append", "(J)Ljava/lang/StringBuilder;"⟩
abbrev mth13 : MethodName := ⟨"java/lang/String", "coder", "()B"⟩
abbrev mth14 : MethodName := ⟨"java/lang/String", "length", "()I"⟩
abbrev mth15 : MethodName := ⟨"java/lang/String", "isLatin1", "()Z"⟩
abbrev mth16 : MethodName := ⟨"java/lang/AbstractStringBuilder", "inflateIfNeededFor", "(Ljava/lang/String;)V"⟩
abbrev mth17 : MethodName := ⟨"java/lang/String", "getBytes", "([BIB)V"⟩
abbrev mth18 : MethodName := ⟨"java/lang/AbstractStringBuilder", "putStringAt", "(ILjava/lang/String;)V"⟩
abbrev mth19 : MethodName := ⟨"java/lang/AbstractStringBuilder", "append", "(Ljava/lang/String;)Ljava/lang/AbstractStringBuilder;"⟩
abbrev mth20 : MethodName := ⟨"java/lang/StringBuilder", "append", "(Ljava/lang/String;)Ljava/lang/StringBuilder;"⟩
abbrev mth21 : MethodName := ⟨"java/util/Arrays", "checkLength", "(II)V"⟩
abbrev mth22 : MethodName := ⟨"java/util/Arrays", "copyOfRangeByte", "([BII)[B"⟩
abbrev mth23 : MethodName := ⟨"java/util/Arrays", "copyOfRange", "([BII)[B"⟩
abbrev mth24 : MethodName := ⟨"java/lang/AbstractStringBuilder", "getValue", "()[B"⟩
abbrev mth25 : MethodName := ⟨"java/lang/AbstractStringBuilder", "length", "()I"⟩
abbrev mth26 : MethodName := ⟨"java/lang/StringBuilder", "length", "()I"⟩
abbrev mth27 : MethodName := ⟨"java/lang/String", "<init>", "(Ljava/lang/AbstractStringBuilder;Ljava/lang/Void;)V"⟩
abbrev mth28 : MethodName := ⟨"java/lang/String", "<init>", "(Ljava/lang/StringBuilder;)V"⟩
abbrev mth29 : MethodName := ⟨"java/lang/StringBuilder", "toString", "()Ljava/lang/String;"⟩
abbrev mth30 : MethodName := ⟨"java/lang/Record", "<init>", "()V"⟩
abbrev mth31 : MethodName := ⟨"com/example/uraniborg/uraniborg/model/PriorityRange", "<init>", "(JJ)V"⟩
abbrev mth32 : MethodName := ⟨"com/example/uraniborg/uraniborg/model/PriorityRange", "toString", "()Ljava/lang/String;"⟩
abbrev mth33 : MethodName := ⟨"jdk/internal/util/Preconditions", "checkIndex", "(IILjava/util/function/BiFunction;)I"⟩
abbrev mth34 : MethodName := ⟨"java/lang/String", "checkIndex", "(II)V"⟩
abbrev mth35 : MethodName := ⟨"java/lang/StringLatin1", "charAt", "([BI)C"⟩
abbrev mth36 : MethodName := ⟨"java/lang/String", "charAt", "(I)C"⟩
abbrev mth37 : MethodName := ⟨"com/example/uraniborg/uraniborg/model/PriorityRangeToStringPinLaw", "dig", "(Ljava/lang/String;IJJ)Z"⟩
abbrev mth38 : MethodName := ⟨"com/example/uraniborg/uraniborg/model/PriorityRangeToStringPinLaw", "num", "(Ljava/lang/String;IJ)I"⟩
abbrev mth39 : MethodName := ⟨"java/lang/Math", "min", "(JJ)J"⟩
abbrev mth40 : MethodName := ⟨"java/lang/Math", "max", "(JJ)J"⟩
theorem dk0 : decode jdk_68_method_2_code 0 = .ok (.aload_n 0, 1) := by decide +kernel
theorem dk1 : decode jdk_68_method_2_code 1 = .ok (.invokespecial 3, 3) := by decide +kernel
theorem dk2 : decode jdk_68_method_2_code 4 = .ok (.getstatic 18, 3) := by decide +kernel
theorem dk3 : decode jdk_68_method_2_code 7 = .ok (.ifCond .eq 18, 3) := by decide +kernel
theorem dk4 : decode jdk_68_method_2_code 10 = .ok (.aload_n 0, 1) := by decide +kernel
theorem dk5 : decode jdk_68_method_2_code 11 = .ok (.iload_n 1, 1) := by decide +kernel
theorem dk6 : decode jdk_68_method_2_code 12 = .ok (.newarray .byte, 2) := by decide +kernel
theorem dk7 : decode jdk_68_method_2_code 14 = .ok (.putfield 15, 3) := by decide +kernel
theorem dk8 : decode jdk_68_method_2_code 17 = .ok (.aload_n 0, 1) := by decide +kernel
theorem dk9 : decode jdk_68_method_2_code 18 = .ok (.iconst 0, 1) := by decide +kernel
theorem dk10 : decode jdk_68_method_2_code 19 = .ok (.putfield 22, 3) := by decide +kernel
theorem dk11 : decode jdk_68_method_2_code 22 = .ok (.goto 16, 3) := by decide +kernel
theorem dk12 : decode jdk_68_method_2_code 38 = .ok (.return_, 1) := by decide +kernel
theorem dk13 : decode jdk_67_method_1_code 0 = .ok (.aload_n 0, 1) := by decide +kernel
theorem dk14 : decode jdk_67_method_1_code 1 = .ok (.bipush 16, 2) := by decide +kernel
theorem dk15 : decode jdk_67_method_1_code 3 = .ok (.invokespecial 1, 3) := by decide +kernel
theorem dk16 : decode jdk_67_method_1_code 6 = .ok (.return_, 1) := by decide +kernel
theorem dk17 : decode jdk_29_method_65_code 0 = .ok (.iload_n 0, 1) := by decide +kernel
theorem dk18 : decode jdk_29_method_65_code 1 = .ok (.iload_n 1, 1) := by decide +kernel
theorem dk19 : decode jdk_29_method_65_code 2 = .ok (.if_icmp .lt 7, 3) := by decide +kernel
theorem dk20 : decode jdk_29_method_65_code 5 = .ok (.iload_n 0, 1) := by decide +kernel
theorem dk21 : decode jdk_29_method_65_code 6 = .ok (.goto 4, 3) := by decide +kernel
theorem dk22 : decode jdk_29_method_65_code 9 = .ok (.iload_n 1, 1) := by decide +kernel
theorem dk23 : decode jdk_29_method_65_code 10 = .ok (.ireturn, 1) := by decide +kernel
theorem dk24 : decode jdk_29_method_69_code 0 = .ok (.iload_n 0, 1) := by decide +kernel
theorem dk25 : decode jdk_29_method_69_code 1 = .ok (.iload_n 1, 1) := by decide +kernel
theorem dk26 : decode jdk_29_method_69_code 2 = .ok (.if_icmp .gt 7, 3) := by decide +kernel
theorem dk27 : decode jdk_29_method_69_code 5 = .ok (.iload_n 0, 1) := by decide +kernel
theorem dk28 : decode jdk_29_method_69_code 6 = .ok (.goto 4, 3) := by decide +kernel
theorem dk29 : decode jdk_29_method_69_code 10 = .ok (.ireturn, 1) := by decide +kernel
theorem dk30 : decode jdk_29_method_69_code 9 = .ok (.iload_n 1, 1) := by decide +kernel
theorem dk31 : decode jdk_48_method_27_code 0 = .ok (.iload_n 0, 1) := by decide +kernel
theorem dk32 : decode jdk_48_method_27_code 1 = .ok (.iload_n 1, 1) := by decide +kernel
theorem dk33 : decode jdk_48_method_27_code 2 = .ok (.iload_n 2, 1) := by decide +kernel
theorem dk34 : decode jdk_48_method_27_code 3 = .ok (.invokestatic 194, 3) := by decide +kernel
theorem dk35 : decode jdk_48_method_27_code 6 = .ok (.iadd, 1) := by decide +kernel
theorem dk36 : decode jdk_48_method_27_code 7 = .ok (.istore_n 3, 1) := by decide +kernel
theorem dk37 : decode jdk_48_method_27_code 8 = .ok (.iconst 0, 1) := by decide +kernel
theorem dk38 : decode jdk_48_method_27_code 9 = .ok (.iload_n 3, 1) := by decide +kernel
theorem dk39 : decode jdk_48_method_27_code 10 = .ok (.if_icmp .ge 11, 3) := by decide +kernel
theorem dk40 : decode jdk_48_method_27_code 13 = .ok (.iload_n 3, 1) := by decide +kernel
theorem dk41 : decode jdk_48_method_27_code 14 = .ok (.ldc 200, 2) := by decide +kernel
theorem dk42 : decode jdk_48_method_27_code 16 = .ok (.if_icmp .gt 5, 3) := by decide +kernel
theorem dk43 : decode jdk_48_method_27_code 19 = .ok (.iload_n 3, 1) := by decide +kernel
theorem dk44 : decode jdk_48_method_27_code 20 = .ok (.ireturn, 1) := by decide +kernel
theorem dk45 : decode jdk_68_method_10_code 0 = .ok (.aload_n 0, 1) := by decide +kernel
theorem dk46 : decode jdk_68_method_10_code 1 = .ok (.getfield 15, 3) := by decide +kernel
theorem dk47 : decode jdk_68_method_10_code 4 = .ok (.arraylength, 1) := by decide +kernel
theorem dk48 : decode jdk_68_method_10_code 5 = .ok (.istore_n 2, 1) := by decide +kernel
theorem dk49 : decode jdk_68_method_10_code 6 = .ok (.iload_n 1, 1) := by decide +kernel
theorem dk50 : decode jdk_68_method_10_code 7 = .ok (.aload_n 0, 1) := by decide +kernel
theorem dk51 : decode jdk_68_method_10_code 8 = .ok (.getfield 22, 3) := by decide +kernel
theorem dk52 : decode jdk_68_method_10_code 11 = .ok (.ishl, 1) := by decide +kernel
theorem dk53 : decode jdk_68_method_10_code 12 = .ok (.istore_n 3, 1) := by decide +kernel
theorem dk54 : decode jdk_68_method_10_code 13 = .ok (.iload_n 3, 1) := by decide +kernel
theorem dk55 : decode jdk_68_method_10_code 14 = .ok (.iload_n 2, 1) := by decide +kernel
theorem dk56 : decode jdk_68_method_10_code 15 = .ok (.isub, 1) := by decide +kernel
theorem dk57 : decode jdk_68_method_10_code 16 = .ok (.istore 4, 2) := by decide +kernel
theorem dk58 : decode jdk_68_method_10_code 18 = .ok (.iload_n 2, 1) := by decide +kernel
theorem dk59 : decode jdk_68_method_10_code 19 = .ok (.iload 4, 2) := by decide +kernel
theorem dk60 : decode jdk_68_method_10_code 21 = .ok (.iload_n 2, 1) := by decide +kernel
theorem dk61 : decode jdk_68_method_10_code 22 = .ok (.iconst 2, 1) := by decide +kernel
theorem dk62 : decode jdk_68_method_10_code 23 = .ok (.aload_n 0, 1) := by decide +kernel
theorem dk63 : decode jdk_68_method_10_code 24 = .ok (.getfield 22, 3) := by decide +kernel
theorem dk64 : decode jdk_68_method_10_code 27 = .ok (.ishl, 1) := by decide +kernel
theorem dk65 : decode jdk_68_method_10_code 28 = .ok (.iadd, 1) := by decide +kernel
theorem dk66 : decode jdk_68_method_10_code 29 = .ok (.invokestatic 114, 3) := by decide +kernel
theorem dk67 : decode jdk_68_method_10_code 32 = .ok (.istore 5, 2) := by decide +kernel
theorem dk68 : decode jdk_68_method_10_code 34 = .ok (.iload 5, 2) := by decide +kernel
theorem dk69 : decode jdk_68_method_10_code 36 = .ok (.ldc 39, 2) := by decide +kernel
theorem dk70 : decode jdk_68_method_10_code 38 = .ok (.if_icmp .ne 13, 3) := by decide +kernel
theorem dk71 : decode jdk_68_method_10_code 51 = .ok (.iload 5, 2) := by decide +kernel
theorem dk72 : decode jdk_68_method_10_code 53 = .ok (.aload_n 0, 1) := by decide +kernel
theorem dk73 : decode jdk_68_method_10_code 54 = .ok (.getfield 22, 3) := by decide +kernel
theorem dk74 : decode jdk_68_method_10_code 57 = .ok (.ishr, 1) := by decide +kernel
theorem dk75 : decode jdk_68_method_10_code 58 = .ok (.ireturn, 1) := by decide +kernel
theorem dk76 : decode jdk_65_method_121_code 0 = .ok (.iload_n 1, 1) := by decide +kernel
theorem dk77 : decode jdk_65_method_121_code 1 = .ok (.aload_n 0, 1) := by decide +kernel
theorem dk78 : decode jdk_65_method_121_code 2 = .ok (.arraylength, 1) := by decide +kernel
theorem dk79 : decode jdk_65_method_121_code 3 = .ok (.if_icmp .ne 11, 3) := by decide +kernel
theorem dk80 : decode jdk_65_method_121_code 14 = .ok (.iload_n 1, 1) := by decide +kernel
theorem dk81 : decode jdk_65_method_121_code 15 = .ok (.newarray .byte, 2) := by decide +kernel
theorem dk82 : decode jdk_65_method_121_code 17 = .ok (.astore_n 2, 1) := by decide +kernel
theorem dk83 : decode jdk_65_method_121_code 18 = .ok (.aload_n 0, 1) := by decide +kernel
theorem dk84 : decode jdk_65_method_121_code 19 = .ok (.iconst 0, 1) := by decide +kernel
theorem dk85 : decode jdk_65_method_121_code 20 = .ok (.aload_n 2, 1) := by decide +kernel
theorem dk86 : decode jdk_65_method_121_code 21 = .ok (.iconst 0, 1) := by decide +kernel
theorem dk87 : decode jdk_65_method_121_code 22 = .ok (.aload_n 0, 1) := by decide +kernel
theorem dk88 : decode jdk_65_method_121_code 23 = .ok (.arraylength, 1) := by decide +kernel
theorem dk89 : decode jdk_65_method_121_code 24 = .ok (.iload_n 1, 1) := by decide +kernel
theorem dk90 : decode jdk_65_method_121_code 25 = .ok (.invokestatic 304, 3) := by decide +kernel
theorem dk91 : decode jdk_65_method_121_code 28 = .ok (.invokestatic 150, 3) := by decide +kernel
theorem dk92 : decode jdk_65_method_121_code 31 = .ok (.aload_n 2, 1) := by decide +kernel
theorem dk93 : decode jdk_65_method_121_code 32 = .ok (.areturn, 1) := by decide +kernel
theorem dk94 : decode jdk_68_method_9_code 0 = .ok (.aload_n 0, 1) := by decide +kernel
theorem dk95 : decode jdk_68_method_9_code 1 = .ok (.getfield 15, 3) := by decide +kernel
theorem dk96 : decode jdk_68_method_9_code 4 = .ok (.arraylength, 1) := by decide +kernel
theorem dk97 : decode jdk_68_method_9_code 5 = .ok (.aload_n 0, 1) := by decide +kernel
theorem dk98 : decode jdk_68_method_9_code 6 = .ok (.getfield 22, 3) := by decide +kernel
theorem dk99 : decode jdk_68_method_9_code 9 = .ok (.ishr, 1) := by decide +kernel
theorem dk100 : decode jdk_68_method_9_code 10 = .ok (.istore_n 2, 1) := by decide +kernel
theorem dk101 : decode jdk_68_method_9_code 11 = .ok (.iload_n 1, 1) := by decide +kernel
theorem dk102 : decode jdk_68_method_9_code 12 = .ok (.iload_n 2, 1) := by decide +kernel
theorem dk103 : decode jdk_68_method_9_code 13 = .ok (.isub, 1) := by decide +kernel
theorem dk104 : decode jdk_68_method_9_code 14 = .ok (.ifCond .le 24, 3) := by decide +kernel
theorem dk105 : decode jdk_68_method_9_code 38 = .ok (.return_, 1) := by decide +kernel
theorem dk106 : decode jdk_68_method_9_code 17 = .ok (.aload_n 0, 1) := by decide +kernel
theorem dk107 : decode jdk_68_method_9_code 18 = .ok (.aload_n 0, 1) := by decide +kernel
theorem dk108 : decode jdk_68_method_9_code 19 = .ok (.getfield 15, 3) := by decide +kernel
theorem dk109 : decode jdk_68_method_9_code 22 = .ok (.aload_n 0, 1) := by decide +kernel
theorem dk110 : decode jdk_68_method_9_code 23 = .ok (.iload_n 1, 1) := by decide +kernel
theorem dk111 : decode jdk_68_method_9_code 24 = .ok (.invokevirtual 104, 3) := by decide +kernel
theorem dk112 : decode jdk_68_method_9_code 27 = .ok (.aload_n 0, 1) := by decide +kernel
theorem dk113 : decode jdk_68_method_9_code 28 = .ok (.getfield 22, 3) := by decide +kernel
theorem dk114 : decode jdk_68_method_9_code 31 = .ok (.ishl, 1) := by decide +kernel
theorem dk115 : decode jdk_68_method_9_code 32 = .ok (.invokestatic 108, 3) := by decide +kernel
theorem dk116 : decode jdk_68_method_9_code 35 = .ok (.putfield 15, 3) := by decide +kernel
theorem dk117 : decode jdk_68_method_68_code 0 = .ok (.getstatic 18, 3) := by decide +kernel
theorem dk118 : decode jdk_68_method_68_code 3 = .ok (.ifCond .eq 14, 3) := by decide +kernel
theorem dk119 : decode jdk_68_method_68_code 6 = .ok (.aload_n 0, 1) := by decide +kernel
theorem dk120 : decode jdk_68_method_68_code 7 = .ok (.getfield 22, 3) := by decide +kernel
theorem dk121 : decode jdk_68_method_68_code 10 = .ok (.ifCond .ne 7, 3) := by decide +kernel
theorem dk122 : decode jdk_68_method_68_code 13 = .ok (.iconst 1, 1) := by decide +kernel
theorem dk123 : decode jdk_68_method_68_code 14 = .ok (.goto 4, 3) := by decide +kernel
theorem dk124 : decode jdk_68_method_68_code 18 = .ok (.ireturn, 1) := by decide +kernel
theorem dk125 : decode jdk_68_method_33_code 0 = .ok (.aload_n 0, 1) := by decide +kernel
theorem dk126 : decode jdk_68_method_33_code 1 = .ok (.getfield 79, 3) := by decide +kernel
theorem dk127 : decode jdk_68_method_33_code 4 = .ok (.istore_n 3, 1) := by decide +kernel
theorem dk128 : decode jdk_68_method_33_code 5 = .ok (.iload_n 3, 1) := by decide +kernel
theorem dk129 : decode jdk_68_method_33_code 6 = .ok (.lload_n 1, 1) := by decide +kernel
theorem dk130 : decode jdk_68_method_33_code 7 = .ok (.invokestatic 254, 3) := by decide +kernel
theorem dk131 : decode jdk_68_method_33_code 10 = .ok (.iadd, 1) := by decide +kernel
theorem dk132 : decode jdk_68_method_33_code 11 = .ok (.istore 4, 2) := by decide +kernel
theorem dk133 : decode jdk_68_method_33_code 13 = .ok (.aload_n 0, 1) := by decide +kernel
theorem dk134 : decode jdk_68_method_33_code 14 = .ok (.iload 4, 2) := by decide +kernel
theorem dk135 : decode jdk_68_method_33_code 16 = .ok (.invokevirtual 100, 3) := by decide +kernel
theorem dk136 : decode jdk_68_method_33_code 19 = .ok (.aload_n 0, 1) := by decide +kernel
theorem dk137 : decode jdk_68_method_33_code 20 = .ok (.invokevirtual 83, 3) := by decide +kernel
theorem dk138 : decode jdk_68_method_33_code 23 = .ok (.ifCond .eq 17, 3) := by decide +kernel
theorem dk139 : decode jdk_68_method_33_code 26 = .ok (.lload_n 1, 1) := by decide +kernel
theorem dk140 : decode jdk_68_method_33_code 27 = .ok (.iload 4, 2) := by decide +kernel
theorem dk141 : decode jdk_68_method_33_code 29 = .ok (.aload_n 0, 1) := by decide +kernel
theorem dk142 : decode jdk_68_method_33_code 30 = .ok (.getfield 15, 3) := by decide +kernel
theorem dk143 : decode jdk_68_method_33_code 33 = .ok (.invokestatic 259, 3) := by decide +kernel
theorem dk144 : decode jdk_68_method_33_code 36 = .ok (.pop, 1) := by decide +kernel
theorem dk145 : decode jdk_68_method_33_code 37 = .ok (.goto 15, 3) := by decide +kernel
theorem dk146 : decode jdk_68_method_33_code 52 = .ok (.aload_n 0, 1) := by decide +kernel
theorem dk147 : decode jdk_68_method_33_code 53 = .ok (.iload 4, 2) := by decide +kernel
theorem dk148 : decode jdk_68_method_33_code 55 = .ok (.putfield 79, 3) := by decide +kernel
theorem dk149 : decode jdk_68_method_33_code 58 = .ok (.aload_n 0, 1) := by decide +kernel
theorem dk150 : decode jdk_68_method_33_code 59 = .ok (.areturn, 1) := by decide +kernel
theorem dk151 : decode jdk_67_method_16_code 0 = .ok (.aload_n 0, 1) := by decide +kernel
theorem dk152 : decode jdk_67_method_16_code 1 = .ok (.lload_n 1, 1) := by decide +kernel
theorem dk153 : decode jdk_67_method_16_code 2 = .ok (.invokespecial 56, 3) := by decide +kernel
theorem dk154 : decode jdk_67_method_16_code 5 = .ok (.pop, 1) := by decide +kernel
theorem dk155 : decode jdk_67_method_16_code 6 = .ok (.aload_n 0, 1) := by decide +kernel
theorem dk156 : decode jdk_67_method_16_code 7 = .ok (.areturn, 1) := by decide +kernel
theorem dk157 : decode jdk_42_method_152_code 0 = .ok (.getstatic 38, 3) := by decide +kernel
theorem dk158 : decode jdk_42_method_152_code 3 = .ok (.ifCond .eq 10, 3) := by decide +kernel
theorem dk159 : decode jdk_42_method_152_code 6 = .ok (.aload_n 0, 1) := by decide +kernel
theorem dk160 : decode jdk_42_method_152_code 7 = .ok (.getfield 15, 3) := by decide +kernel
theorem dk161 : decode jdk_42_method_152_code 10 = .ok (.goto 4, 3) := by decide +kernel
theorem dk162 : decode jdk_42_method_152_code 14 = .ok (.ireturn, 1) := by decide +kernel
theorem dk163 : decode jdk_42_method_54_code 0 = .ok (.aload_n 0, 1) := by decide +kernel
theorem dk164 : decode jdk_42_method_54_code 1 = .ok (.getfield 9, 3) := by decide +kernel
theorem dk165 : decode jdk_42_method_54_code 4 = .ok (.arraylength, 1) := by decide +kernel
theorem dk166 : decode jdk_42_method_54_code 5 = .ok (.aload_n 0, 1) := by decide +kernel
theorem dk167 : decode jdk_42_method_54_code 6 = .ok (.invokevirtual 335, 3) := by decide +kernel
theorem dk168 : decode jdk_42_method_54_code 9 = .ok (.ishr, 1) := by decide +kernel
theorem dk169 : decode jdk_42_method_54_code 10 = .ok (.ireturn, 1) := by decide +kernel
theorem dk170 : decode jdk_42_method_154_code 0 = .ok (.getstatic 38, 3) := by decide +kernel
theorem dk171 : decode jdk_42_method_154_code 3 = .ok (.ifCond .eq 14, 3) := by decide +kernel
theorem dk172 : decode jdk_42_method_154_code 6 = .ok (.aload_n 0, 1) := by decide +kernel
theorem dk173 : decode jdk_42_method_154_code 7 = .ok (.getfield 15, 3) := by decide +kernel
theorem dk174 : decode jdk_42_method_154_code 10 = .ok (.ifCond .ne 7, 3) := by decide +kernel
theorem dk175 : decode jdk_42_method_154_code 13 = .ok (.iconst 1, 1) := by decide +kernel
theorem dk176 : decode jdk_42_method_154_code 14 = .ok (.goto 4, 3) := by decide +kernel
theorem dk177 : decode jdk_42_method_154_code 18 = .ok (.ireturn, 1) := by decide +kernel
theorem dk178 : decode jdk_68_method_71_code 0 = .ok (.getstatic 18, 3) := by decide +kernel
theorem dk179 : decode jdk_68_method_71_code 3 = .ok (.ifCond .eq 18, 3) := by decide +kernel
theorem dk180 : decode jdk_68_method_71_code 6 = .ok (.aload_n 0, 1) := by decide +kernel
theorem dk181 : decode jdk_68_method_71_code 7 = .ok (.getfield 22, 3) := by decide +kernel
theorem dk182 : decode jdk_68_method_71_code 10 = .ok (.aload_n 1, 1) := by decide +kernel
theorem dk183 : decode jdk_68_method_71_code 11 = .ok (.invokevirtual 40, 3) := by decide +kernel
theorem dk184 : decode jdk_68_method_71_code 14 = .ok (.if_icmp .eq 7, 3) := by decide +kernel
theorem dk185 : decode jdk_68_method_71_code 21 = .ok (.return_, 1) := by decide +kernel
theorem dk186 : decode jdk_42_method_147_code 0 = .ok (.aload_n 0, 1) := by decide +kernel
theorem dk187 : decode jdk_42_method_147_code 1 = .ok (.invokevirtual 335, 3) := by decide +kernel
theorem dk188 : decode jdk_42_method_147_code 4 = .ok (.iload_n 3, 1) := by decide +kernel
theorem dk189 : decode jdk_42_method_147_code 5 = .ok (.if_icmp .ne 23, 3) := by decide +kernel
theorem dk190 : decode jdk_42_method_147_code 8 = .ok (.aload_n 0, 1) := by decide +kernel
theorem dk191 : decode jdk_42_method_147_code 9 = .ok (.getfield 9, 3) := by decide +kernel
theorem dk192 : decode jdk_42_method_147_code 12 = .ok (.iconst 0, 1) := by decide +kernel
theorem dk193 : decode jdk_42_method_147_code 13 = .ok (.aload_n 1, 1) := by decide +kernel
theorem dk194 : decode jdk_42_method_147_code 14 = .ok (.iload_n 2, 1) := by decide +kernel
theorem dk195 : decode jdk_42_method_147_code 15 = .ok (.iload_n 3, 1) := by decide +kernel
theorem dk196 : decode jdk_42_method_147_code 16 = .ok (.ishl, 1) := by decide +kernel
theorem dk197 : decode jdk_42_method_147_code 17 = .ok (.aload_n 0, 1) := by decide +kernel
theorem dk198 : decode jdk_42_method_147_code 18 = .ok (.getfield 9, 3) := by decide +kernel
theorem dk199 : decode jdk_42_method_147_code 21 = .ok (.arraylength, 1) := by decide +kernel
theorem dk200 : decode jdk_42_method_147_code 22 = .ok (.invokestatic 212, 3) := by decide +kernel
theorem dk201 : decode jdk_42_method_147_code 25 = .ok (.goto 18, 3) := by decide +kernel
theorem dk202 : decode jdk_42_method_147_code 43 = .ok (.return_, 1) := by decide +kernel
theorem dk203 : decode jdk_68_method_73_code 0 = .ok (.aload_n 0, 1) := by decide +kernel
theorem dk204 : decode jdk_68_method_73_code 1 = .ok (.aload_n 2, 1) := by decide +kernel
theorem dk205 : decode jdk_68_method_73_code 2 = .ok (.invokevirtual 397, 3) := by decide +kernel
theorem dk206 : decode jdk_68_method_73_code 5 = .ok (.aload_n 2, 1) := by decide +kernel
theorem dk207 : decode jdk_68_method_73_code 6 = .ok (.aload_n 0, 1) := by decide +kernel
theorem dk208 : decode jdk_68_method_73_code 7 = .ok (.getfield 15, 3) := by decide +kernel
theorem dk209 : decode jdk_68_method_73_code 10 = .ok (.iload_n 1, 1) := by decide +kernel
theorem dk210 : decode jdk_68_method_73_code 11 = .ok (.aload_n 0, 1) := by decide +kernel
theorem dk211 : decode jdk_68_method_73_code 12 = .ok (.getfield 22, 3) := by decide +kernel
theorem dk212 : decode jdk_68_method_73_code 15 = .ok (.invokevirtual 399, 3) := by decide +kernel
theorem dk213 : decode jdk_68_method_73_code 18 = .ok (.return_, 1) := by decide +kernel
theorem dk214 : decode jdk_68_method_22_code 0 = .ok (.aload_n 1, 1) := by decide +kernel
theorem dk215 : decode jdk_68_method_22_code 1 = .ok (.ifnonnull 8, 3) := by decide +kernel
theorem dk216 : decode jdk_68_method_22_code 9 = .ok (.aload_n 1, 1) := by decide +kernel
theorem dk217 : decode jdk_68_method_22_code 10 = .ok (.invokevirtual 32, 3) := by decide +kernel
theorem dk218 : decode jdk_68_method_22_code 13 = .ok (.istore_n 2, 1) := by decide +kernel
theorem dk219 : decode jdk_68_method_22_code 14 = .ok (.aload_n 0, 1) := by decide +kernel
theorem dk220 : decode jdk_68_method_22_code 15 = .ok (.aload_n 0, 1) := by decide +kernel
theorem dk221 : decode jdk_68_method_22_code 16 = .ok (.getfield 79, 3) := by decide +kernel
theorem dk222 : decode jdk_68_method_22_code 19 = .ok (.iload_n 2, 1) := by decide +kernel
theorem dk223 : decode jdk_68_method_22_code 20 = .ok (.iadd, 1) := by decide +kernel
theorem dk224 : decode jdk_68_method_22_code 21 = .ok (.invokevirtual 100, 3) := by decide +kernel
theorem dk225 : decode jdk_68_method_22_code 24 = .ok (.aload_n 0, 1) := by decide +kernel
theorem dk226 : decode jdk_68_method_22_code 25 = .ok (.aload_n 0, 1) := by decide +kernel
theorem dk227 : decode jdk_68_method_22_code 26 = .ok (.getfield 79, 3) := by decide +kernel
theorem dk228 : decode jdk_68_method_22_code 29 = .ok (.aload_n 1, 1) := by decide +kernel
theorem dk229 : decode jdk_68_method_22_code 30 = .ok (.invokevirtual 208, 3) := by decide +kernel
theorem dk230 : decode jdk_68_method_22_code 33 = .ok (.aload_n 0, 1) := by decide +kernel
theorem dk231 : decode jdk_68_method_22_code 34 = .ok (.dup, 1) := by decide +kernel
theorem dk232 : decode jdk_68_method_22_code 35 = .ok (.getfield 79, 3) := by decide +kernel
theorem dk233 : decode jdk_68_method_22_code 38 = .ok (.iload_n 2, 1) := by decide +kernel
theorem dk234 : decode jdk_68_method_22_code 39 = .ok (.iadd, 1) := by decide +kernel
theorem dk235 : decode jdk_68_method_22_code 40 = .ok (.putfield 79, 3) := by decide +kernel
theorem dk236 : decode jdk_68_method_22_code 43 = .ok (.aload_n 0, 1) := by decide +kernel
theorem dk237 : decode jdk_68_method_22_code 44 = .ok (.areturn, 1) := by decide +kernel
theorem dk238 : decode jdk_67_method_7_code 0 = .ok (.aload_n 0, 1) := by decide +kernel
theorem dk239 : decode jdk_67_method_7_code 1 = .ok (.aload_n 1, 1) := by decide +kernel
theorem dk240 : decode jdk_67_method_7_code 2 = .ok (.invokespecial 29, 3) := by decide +kernel
theorem dk241 : decode jdk_67_method_7_code 5 = .ok (.pop, 1) := by decide +kernel
theorem dk242 : decode jdk_67_method_7_code 6 = .ok (.aload_n 0, 1) := by decide +kernel
theorem dk243 : decode jdk_67_method_7_code 7 = .ok (.areturn, 1) := by decide +kernel
theorem dk244 : decode jdk_65_method_131_code 0 = .ok (.iload_n 1, 1) := by decide +kernel
theorem dk245 : decode jdk_65_method_131_code 1 = .ok (.iload_n 0, 1) := by decide +kernel
theorem dk246 : decode jdk_65_method_131_code 2 = .ok (.if_icmp .ge 35, 3) := by decide +kernel
theorem dk247 : decode jdk_65_method_131_code 37 = .ok (.return_, 1) := by decide +kernel
theorem dk248 : decode jdk_65_method_133_code 0 = .ok (.iload_n 1, 1) := by decide +kernel
theorem dk249 : decode jdk_65_method_133_code 1 = .ok (.iload_n 2, 1) := by decide +kernel
theorem dk250 : decode jdk_65_method_133_code 2 = .ok (.invokestatic 343, 3) := by decide +kernel
theorem dk251 : decode jdk_65_method_133_code 5 = .ok (.iload_n 2, 1) := by decide +kernel
theorem dk252 : decode jdk_65_method_133_code 6 = .ok (.iload_n 1, 1) := by decide +kernel
theorem dk253 : decode jdk_65_method_133_code 7 = .ok (.isub, 1) := by decide +kernel
theorem dk254 : decode jdk_65_method_133_code 8 = .ok (.istore_n 3, 1) := by decide +kernel
theorem dk255 : decode jdk_65_method_133_code 9 = .ok (.iload_n 3, 1) := by decide +kernel
theorem dk256 : decode jdk_65_method_133_code 10 = .ok (.newarray .byte, 2) := by decide +kernel
theorem dk257 : decode jdk_65_method_133_code 12 = .ok (.astore 4, 2) := by decide +kernel
theorem dk258 : decode jdk_65_method_133_code 14 = .ok (.aload_n 0, 1) := by decide +kernel
theorem dk259 : decode jdk_65_method_133_code 15 = .ok (.iload_n 1, 1) := by decide +kernel
theorem dk260 : decode jdk_65_method_133_code 16 = .ok (.aload 4, 2) := by decide +kernel
theorem dk261 : decode jdk_65_method_133_code 18 = .ok (.iconst 0, 1) := by decide +kernel
theorem dk262 : decode jdk_65_method_133_code 19 = .ok (.aload_n 0, 1) := by decide +kernel
theorem dk263 : decode jdk_65_method_133_code 20 = .ok (.arraylength, 1) := by decide +kernel
theorem dk264 : decode jdk_65_method_133_code 21 = .ok (.iload_n 1, 1) := by decide +kernel
theorem dk265 : decode jdk_65_method_133_code 22 = .ok (.isub, 1) := by decide +kernel
theorem dk266 : decode jdk_65_method_133_code 23 = .ok (.iload_n 3, 1) := by decide +kernel
theorem dk267 : decode jdk_65_method_133_code 24 = .ok (.invokestatic 304, 3) := by decide +kernel
theorem dk268 : decode jdk_65_method_133_code 27 = .ok (.invokestatic 150, 3) := by decide +kernel
theorem dk269 : decode jdk_65_method_133_code 30 = .ok (.aload 4, 2) := by decide +kernel
theorem dk270 : decode jdk_65_method_133_code 32 = .ok (.areturn, 1) := by decide +kernel
theorem dk271 : decode jdk_65_method_132_code 0 = .ok (.iload_n 1, 1) := by decide +kernel
theorem dk272 : decode jdk_65_method_132_code 1 = .ok (.ifCond .ne 9, 3) := by decide +kernel
theorem dk273 : decode jdk_65_method_132_code 4 = .ok (.iload_n 2, 1) := by decide +kernel
theorem dk274 : decode jdk_65_method_132_code 5 = .ok (.aload_n 0, 1) := by decide +kernel
theorem dk275 : decode jdk_65_method_132_code 6 = .ok (.arraylength, 1) := by decide +kernel
theorem dk276 : decode jdk_65_method_132_code 7 = .ok (.if_icmp .eq 10, 3) := by decide +kernel
theorem dk277 : decode jdk_65_method_132_code 10 = .ok (.aload_n 0, 1) := by decide +kernel
theorem dk278 : decode jdk_65_method_132_code 11 = .ok (.iload_n 1, 1) := by decide +kernel
theorem dk279 : decode jdk_65_method_132_code 12 = .ok (.iload_n 2, 1) := by decide +kernel
theorem dk280 : decode jdk_65_method_132_code 13 = .ok (.invokestatic 339, 3) := by decide +kernel
theorem dk281 : decode jdk_65_method_132_code 16 = .ok (.areturn, 1) := by decide +kernel
theorem dk282 : decode jdk_65_method_132_code 17 = .ok (.aload_n 0, 1) := by decide +kernel
theorem dk283 : decode jdk_65_method_132_code 18 = .ok (.invokevirtual 310, 3) := by decide +kernel
theorem dk284 : decode jdk_65_method_132_code 21 = .ok (.checkcast 311, 3) := by decide +kernel
theorem dk285 : decode jdk_65_method_132_code 24 = .ok (.areturn, 1) := by decide +kernel
theorem dk286 : decode jdk_68_method_64_code 0 = .ok (.aload_n 0, 1) := by decide +kernel
theorem dk287 : decode jdk_68_method_64_code 1 = .ok (.getfield 15, 3) := by decide +kernel
theorem dk288 : decode jdk_68_method_64_code 4 = .ok (.areturn, 1) := by decide +kernel
theorem dk289 : decode jdk_68_method_6_code 0 = .ok (.aload_n 0, 1) := by decide +kernel
theorem dk290 : decode jdk_68_method_6_code 1 = .ok (.getfield 79, 3) := by decide +kernel
theorem dk291 : decode jdk_68_method_6_code 4 = .ok (.ireturn, 1) := by decide +kernel
theorem dk292 : decode jdk_67_method_93_code 0 = .ok (.aload_n 0, 1) := by decide +kernel
theorem dk293 : decode jdk_67_method_93_code 1 = .ok (.invokespecial 343, 3) := by decide +kernel
theorem dk294 : decode jdk_67_method_93_code 4 = .ok (.ireturn, 1) := by decide +kernel
theorem dk295 : decode jdk_42_method_150_code 0 = .ok (.aload_n 0, 1) := by decide +kernel
theorem dk296 : decode jdk_42_method_150_code 1 = .ok (.invokespecial 1, 3) := by decide +kernel
theorem dk297 : decode jdk_42_method_150_code 4 = .ok (.aload_n 1, 1) := by decide +kernel
theorem dk298 : decode jdk_42_method_150_code 5 = .ok (.invokevirtual 552, 3) := by decide +kernel
theorem dk299 : decode jdk_42_method_150_code 8 = .ok (.astore_n 3, 1) := by decide +kernel
theorem dk300 : decode jdk_42_method_150_code 9 = .ok (.aload_n 1, 1) := by decide +kernel
theorem dk301 : decode jdk_42_method_150_code 10 = .ok (.invokevirtual 549, 3) := by decide +kernel
theorem dk302 : decode jdk_42_method_150_code 13 = .ok (.istore 4, 2) := by decide +kernel
theorem dk303 : decode jdk_42_method_150_code 15 = .ok (.aload_n 1, 1) := by decide +kernel
theorem dk304 : decode jdk_42_method_150_code 16 = .ok (.invokevirtual 1047, 3) := by decide +kernel
theorem dk305 : decode jdk_42_method_150_code 19 = .ok (.ifCond .eq 22, 3) := by decide +kernel
theorem dk306 : decode jdk_42_method_150_code 22 = .ok (.aload_n 0, 1) := by decide +kernel
theorem dk307 : decode jdk_42_method_150_code 23 = .ok (.iconst 0, 1) := by decide +kernel
theorem dk308 : decode jdk_42_method_150_code 24 = .ok (.putfield 15, 3) := by decide +kernel
theorem dk309 : decode jdk_42_method_150_code 27 = .ok (.aload_n 0, 1) := by decide +kernel
theorem dk310 : decode jdk_42_method_150_code 28 = .ok (.aload_n 3, 1) := by decide +kernel
theorem dk311 : decode jdk_42_method_150_code 29 = .ok (.iconst 0, 1) := by decide +kernel
theorem dk312 : decode jdk_42_method_150_code 30 = .ok (.iload 4, 2) := by decide +kernel
theorem dk313 : decode jdk_42_method_150_code 32 = .ok (.invokestatic 54, 3) := by decide +kernel
theorem dk314 : decode jdk_42_method_150_code 35 = .ok (.putfield 9, 3) := by decide +kernel
theorem dk315 : decode jdk_42_method_150_code 38 = .ok (.goto 59, 3) := by decide +kernel
theorem dk316 : decode jdk_42_method_150_code 97 = .ok (.return_, 1) := by decide +kernel
theorem dk317 : decode jdk_42_method_53_code 0 = .ok (.aload_n 0, 1) := by decide +kernel
theorem dk318 : decode jdk_42_method_53_code 1 = .ok (.aload_n 1, 1) := by decide +kernel
theorem dk319 : decode jdk_42_method_53_code 2 = .ok (.aconst_null, 1) := by decide +kernel
theorem dk320 : decode jdk_42_method_53_code 3 = .ok (.invokespecial 489, 3) := by decide +kernel
theorem dk321 : decode jdk_42_method_53_code 6 = .ok (.return_, 1) := by decide +kernel
theorem dk322 : decode jdk_67_method_42_code 0 = .ok (.new 18, 3) := by decide +kernel
theorem dk323 : decode jdk_67_method_42_code 3 = .ok (.dup, 1) := by decide +kernel
theorem dk324 : decode jdk_67_method_42_code 4 = .ok (.aload_n 0, 1) := by decide +kernel
theorem dk325 : decode jdk_67_method_42_code 5 = .ok (.invokespecial 137, 3) := by decide +kernel
theorem dk326 : decode jdk_67_method_42_code 8 = .ok (.areturn, 1) := by decide +kernel
theorem dk327 : decode jdk_30_method_1_code 0 = .ok (.aload_n 0, 1) := by decide +kernel
theorem dk328 : decode jdk_30_method_1_code 1 = .ok (.invokespecial 1, 3) := by decide +kernel
theorem dk329 : decode jdk_30_method_1_code 4 = .ok (.return_, 1) := by decide +kernel
theorem dk330 : decode prog_12_method_1_code 0 = .ok (.aload_n 0, 1) := by decide +kernel
theorem dk331 : decode prog_12_method_1_code 1 = .ok (.invokespecial 1, 3) := by decide +kernel
theorem dk332 : decode prog_12_method_1_code 4 = .ok (.lload_n 1, 1) := by decide +kernel
theorem dk333 : decode prog_12_method_1_code 5 = .ok (.lload_n 3, 1) := by decide +kernel
theorem dk334 : decode prog_12_method_1_code 6 = .ok (.lcmp, 1) := by decide +kernel
theorem dk335 : decode prog_12_method_1_code 7 = .ok (.ifCond .le 39, 3) := by decide +kernel
theorem dk336 : decode prog_12_method_1_code 46 = .ok (.aload_n 0, 1) := by decide +kernel
theorem dk337 : decode prog_12_method_1_code 47 = .ok (.lload_n 1, 1) := by decide +kernel
theorem dk338 : decode prog_12_method_1_code 48 = .ok (.putfield 30, 3) := by decide +kernel
theorem dk339 : decode prog_12_method_1_code 51 = .ok (.aload_n 0, 1) := by decide +kernel
theorem dk340 : decode prog_12_method_1_code 52 = .ok (.lload_n 3, 1) := by decide +kernel
theorem dk341 : decode prog_12_method_1_code 53 = .ok (.putfield 36, 3) := by decide +kernel
theorem dk342 : decode prog_12_method_1_code 56 = .ok (.return_, 1) := by decide +kernel
theorem dk343 : decode prog_12_method_2_code 0 = .ok (.new 9, 3) := by decide +kernel
theorem dk344 : decode prog_12_method_2_code 3 = .ok (.dup, 1) := by decide +kernel
theorem dk345 : decode prog_12_method_2_code 4 = .ok (.invokespecial 11, 3) := by decide +kernel
theorem dk346 : decode prog_12_method_2_code 7 = .ok (.aload_n 0, 1) := by decide +kernel
theorem dk347 : decode prog_12_method_2_code 8 = .ok (.getfield 30, 3) := by decide +kernel
theorem dk348 : decode prog_12_method_2_code 11 = .ok (.invokevirtual 18, 3) := by decide +kernel
theorem dk349 : decode prog_12_method_2_code 14 = .ok (.ldc 39, 2) := by decide +kernel
theorem dk350 : decode prog_12_method_2_code 16 = .ok (.invokevirtual 14, 3) := by decide +kernel
theorem dk351 : decode prog_12_method_2_code 19 = .ok (.aload_n 0, 1) := by decide +kernel
theorem dk352 : decode prog_12_method_2_code 20 = .ok (.getfield 36, 3) := by decide +kernel
theorem dk353 : decode prog_12_method_2_code 23 = .ok (.invokevirtual 18, 3) := by decide +kernel
theorem dk354 : decode prog_12_method_2_code 26 = .ok (.invokevirtual 23, 3) := by decide +kernel
theorem dk355 : decode prog_12_method_2_code 29 = .ok (.areturn, 1) := by decide +kernel
theorem dk356 : decode jdk_41_method_11_code 0 = .ok (.iload_n 0, 1) := by decide +kernel
theorem dk357 : decode jdk_41_method_11_code 1 = .ok (.ifCond .lt 8, 3) := by decide +kernel
theorem dk358 : decode jdk_41_method_11_code 4 = .ok (.iload_n 0, 1) := by decide +kernel
theorem dk359 : decode jdk_41_method_11_code 5 = .ok (.iload_n 1, 1) := by decide +kernel
theorem dk360 : decode jdk_41_method_11_code 6 = .ok (.if_icmp .lt 10, 3) := by decide +kernel
theorem dk361 : decode jdk_41_method_11_code 16 = .ok (.iload_n 0, 1) := by decide +kernel
theorem dk362 : decode jdk_41_method_11_code 17 = .ok (.ireturn, 1) := by decide +kernel
theorem dk363 : decode jdk_42_method_155_code 0 = .ok (.iload_n 0, 1) := by decide +kernel
theorem dk364 : decode jdk_42_method_155_code 1 = .ok (.iload_n 1, 1) := by decide +kernel
theorem dk365 : decode jdk_42_method_155_code 2 = .ok (.getstatic 1053, 3) := by decide +kernel
theorem dk366 : decode jdk_42_method_155_code 5 = .ok (.invokestatic 1059, 3) := by decide +kernel
theorem dk367 : decode jdk_42_method_155_code 8 = .ok (.pop, 1) := by decide +kernel
theorem dk368 : decode jdk_42_method_155_code 9 = .ok (.return_, 1) := by decide +kernel
theorem dk369 : decode jdk_43_method_2_code 0 = .ok (.iload_n 1, 1) := by decide +kernel
theorem dk370 : decode jdk_43_method_2_code 1 = .ok (.aload_n 0, 1) := by decide +kernel
theorem dk371 : decode jdk_43_method_2_code 2 = .ok (.arraylength, 1) := by decide +kernel
theorem dk372 : decode jdk_43_method_2_code 3 = .ok (.invokestatic 9, 3) := by decide +kernel
theorem dk373 : decode jdk_43_method_2_code 6 = .ok (.aload_n 0, 1) := by decide +kernel
theorem dk374 : decode jdk_43_method_2_code 7 = .ok (.iload_n 1, 1) := by decide +kernel
theorem dk375 : decode jdk_43_method_2_code 8 = .ok (.baload, 1) := by decide +kernel
theorem dk376 : decode jdk_43_method_2_code 9 = .ok (.sipush 255, 3) := by decide +kernel
theorem dk377 : decode jdk_43_method_2_code 12 = .ok (.iand, 1) := by decide +kernel
theorem dk378 : decode jdk_43_method_2_code 13 = .ok (.i2c, 1) := by decide +kernel
theorem dk379 : decode jdk_43_method_2_code 14 = .ok (.ireturn, 1) := by decide +kernel
theorem dk380 : decode jdk_42_method_56_code 0 = .ok (.aload_n 0, 1) := by decide +kernel
theorem dk381 : decode jdk_42_method_56_code 1 = .ok (.invokevirtual 492, 3) := by decide +kernel
theorem dk382 : decode jdk_42_method_56_code 4 = .ok (.ifCond .eq 12, 3) := by decide +kernel
theorem dk383 : decode jdk_42_method_56_code 7 = .ok (.aload_n 0, 1) := by decide +kernel
theorem dk384 : decode jdk_42_method_56_code 8 = .ok (.getfield 9, 3) := by decide +kernel
theorem dk385 : decode jdk_42_method_56_code 11 = .ok (.iload_n 1, 1) := by decide +kernel
theorem dk386 : decode jdk_42_method_56_code 12 = .ok (.invokestatic 495, 3) := by decide +kernel
theorem dk387 : decode jdk_42_method_56_code 15 = .ok (.ireturn, 1) := by decide +kernel
theorem dk388 : decode method_3_code 0 = .ok (.iload_n 1, 1) := by decide +kernel
theorem dk389 : decode method_3_code 1 = .ok (.ifCond .lt 11, 3) := by decide +kernel
theorem dk390 : decode method_3_code 4 = .ok (.iload_n 1, 1) := by decide +kernel
theorem dk391 : decode method_3_code 5 = .ok (.aload_n 0, 1) := by decide +kernel
theorem dk392 : decode method_3_code 6 = .ok (.invokevirtual 31, 3) := by decide +kernel
theorem dk393 : decode method_3_code 9 = .ok (.if_icmp .lt 5, 3) := by decide +kernel
theorem dk394 : decode method_3_code 14 = .ok (.lload_n 2, 1) := by decide +kernel
theorem dk395 : decode method_3_code 15 = .ok (.lload 4, 2) := by decide +kernel
theorem dk396 : decode method_3_code 17 = .ok (.ldiv, 1) := by decide +kernel
theorem dk397 : decode method_3_code 18 = .ok (.ldc2_w 41, 3) := by decide +kernel
theorem dk398 : decode method_3_code 21 = .ok (.lrem, 1) := by decide +kernel
theorem dk399 : decode method_3_code 22 = .ok (.lneg, 1) := by decide +kernel
theorem dk400 : decode method_3_code 23 = .ok (.lstore 6, 2) := by decide +kernel
theorem dk401 : decode method_3_code 25 = .ok (.aload_n 0, 1) := by decide +kernel
theorem dk402 : decode method_3_code 26 = .ok (.iload_n 1, 1) := by decide +kernel
theorem dk403 : decode method_3_code 27 = .ok (.invokevirtual 37, 3) := by decide +kernel
theorem dk404 : decode method_3_code 30 = .ok (.ldc2_w 43, 3) := by decide +kernel
theorem dk405 : decode method_3_code 33 = .ok (.lload 6, 2) := by decide +kernel
theorem dk406 : decode method_3_code 35 = .ok (.ladd, 1) := by decide +kernel
theorem dk407 : decode method_3_code 36 = .ok (.l2i, 1) := by decide +kernel
theorem dk408 : decode method_3_code 37 = .ok (.i2c, 1) := by decide +kernel
theorem dk409 : decode method_3_code 38 = .ok (.if_icmp .ne 7, 3) := by decide +kernel
theorem dk410 : decode method_3_code 41 = .ok (.iconst 1, 1) := by decide +kernel
theorem dk411 : decode method_3_code 42 = .ok (.goto 4, 3) := by decide +kernel
theorem dk412 : decode method_3_code 46 = .ok (.ireturn, 1) := by decide +kernel
theorem dk413 : decode method_4_code 0 = .ok (.lload_n 2, 1) := by decide +kernel
theorem dk414 : decode method_4_code 1 = .ok (.lconst 0, 1) := by decide +kernel
theorem dk415 : decode method_4_code 2 = .ok (.lcmp, 1) := by decide +kernel
theorem dk416 : decode method_4_code 3 = .ok (.ifCond .ge 7, 3) := by decide +kernel
theorem dk417 : decode method_4_code 6 = .ok (.lload_n 2, 1) := by decide +kernel
theorem dk418 : decode method_4_code 7 = .ok (.goto 5, 3) := by decide +kernel
theorem dk419 : decode method_4_code 10 = .ok (.lload_n 2, 1) := by decide +kernel
theorem dk420 : decode method_4_code 11 = .ok (.lneg, 1) := by decide +kernel
theorem dk421 : decode method_4_code 12 = .ok (.lstore 4, 2) := by decide +kernel
theorem dk422 : decode method_4_code 14 = .ok (.iload_n 1, 1) := by decide +kernel
theorem dk423 : decode method_4_code 15 = .ok (.istore 6, 2) := by decide +kernel
theorem dk424 : decode method_4_code 17 = .ok (.lload_n 2, 1) := by decide +kernel
theorem dk425 : decode method_4_code 18 = .ok (.lconst 0, 1) := by decide +kernel
theorem dk426 : decode method_4_code 19 = .ok (.lcmp, 1) := by decide +kernel
theorem dk427 : decode method_4_code 20 = .ok (.ifCond .ge 36, 3) := by decide +kernel
theorem dk428 : decode method_4_code 23 = .ok (.iload 6, 2) := by decide +kernel
theorem dk429 : decode method_4_code 25 = .ok (.ifCond .lt 23, 3) := by decide +kernel
theorem dk430 : decode method_4_code 28 = .ok (.iload 6, 2) := by decide +kernel
theorem dk431 : decode method_4_code 30 = .ok (.aload_n 0, 1) := by decide +kernel
theorem dk432 : decode method_4_code 31 = .ok (.invokevirtual 31, 3) := by decide +kernel
theorem dk433 : decode method_4_code 34 = .ok (.if_icmp .ge 14, 3) := by decide +kernel
theorem dk434 : decode method_4_code 37 = .ok (.aload_n 0, 1) := by decide +kernel
theorem dk435 : decode method_4_code 38 = .ok (.iload 6, 2) := by decide +kernel
theorem dk436 : decode method_4_code 40 = .ok (.invokevirtual 37, 3) := by decide +kernel
theorem dk437 : decode method_4_code 43 = .ok (.bipush 45, 2) := by decide +kernel
theorem dk438 : decode method_4_code 45 = .ok (.if_icmp .eq 5, 3) := by decide +kernel
theorem dk439 : decode method_4_code 50 = .ok (.iload 6, 2) := by decide +kernel
theorem dk440 : decode method_4_code 52 = .ok (.iconst 1, 1) := by decide +kernel
theorem dk441 : decode method_4_code 53 = .ok (.iadd, 1) := by decide +kernel
theorem dk442 : decode method_4_code 54 = .ok (.istore 6, 2) := by decide +kernel
theorem dk443 : decode method_4_code 56 = .ok (.iconst 1, 1) := by decide +kernel
theorem dk444 : decode method_4_code 57 = .ok (.lload 4, 2) := by decide +kernel
theorem dk445 : decode method_4_code 59 = .ok (.ldc2_w 45, 3) := by decide +kernel
theorem dk446 : decode method_4_code 62 = .ok (.lcmp, 1) := by decide +kernel
theorem dk447 : decode method_4_code 63 = .ok (.ifCond .gt 7, 3) := by decide +kernel
theorem dk448 : decode method_4_code 66 = .ok (.iconst 1, 1) := by decide +kernel
theorem dk449 : decode method_4_code 67 = .ok (.goto 4, 3) := by decide +kernel
theorem dk450 : decode method_4_code 70 = .ok (.iconst 0, 1) := by decide +kernel
theorem dk451 : decode method_4_code 71 = .ok (.iadd, 1) := by decide +kernel
theorem dk452 : decode method_4_code 72 = .ok (.lload 4, 2) := by decide +kernel
theorem dk453 : decode method_4_code 74 = .ok (.ldc2_w 47, 3) := by decide +kernel
theorem dk454 : decode method_4_code 77 = .ok (.lcmp, 1) := by decide +kernel
theorem dk455 : decode method_4_code 78 = .ok (.ifCond .gt 7, 3) := by decide +kernel
theorem dk456 : decode method_4_code 81 = .ok (.iconst 1, 1) := by decide +kernel
theorem dk457 : decode method_4_code 82 = .ok (.goto 4, 3) := by decide +kernel
theorem dk458 : decode method_4_code 85 = .ok (.iconst 0, 1) := by decide +kernel
theorem dk459 : decode method_4_code 86 = .ok (.iadd, 1) := by decide +kernel
theorem dk460 : decode method_4_code 87 = .ok (.lload 4, 2) := by decide +kernel
theorem dk461 : decode method_4_code 89 = .ok (.ldc2_w 49, 3) := by decide +kernel
theorem dk462 : decode method_4_code 92 = .ok (.lcmp, 1) := by decide +kernel
theorem dk463 : decode method_4_code 93 = .ok (.ifCond .gt 7, 3) := by decide +kernel
theorem dk464 : decode method_4_code 96 = .ok (.iconst 1, 1) := by decide +kernel
theorem dk465 : decode method_4_code 97 = .ok (.goto 4, 3) := by decide +kernel
theorem dk466 : decode method_4_code 100 = .ok (.iconst 0, 1) := by decide +kernel
theorem dk467 : decode method_4_code 101 = .ok (.iadd, 1) := by decide +kernel
theorem dk468 : decode method_4_code 102 = .ok (.lload 4, 2) := by decide +kernel
theorem dk469 : decode method_4_code 104 = .ok (.ldc2_w 51, 3) := by decide +kernel
theorem dk470 : decode method_4_code 107 = .ok (.lcmp, 1) := by decide +kernel
theorem dk471 : decode method_4_code 108 = .ok (.ifCond .gt 7, 3) := by decide +kernel
theorem dk472 : decode method_4_code 111 = .ok (.iconst 1, 1) := by decide +kernel
theorem dk473 : decode method_4_code 112 = .ok (.goto 4, 3) := by decide +kernel
theorem dk474 : decode method_4_code 115 = .ok (.iconst 0, 1) := by decide +kernel
theorem dk475 : decode method_4_code 116 = .ok (.iadd, 1) := by decide +kernel
theorem dk476 : decode method_4_code 117 = .ok (.lload 4, 2) := by decide +kernel
theorem dk477 : decode method_4_code 119 = .ok (.ldc2_w 53, 3) := by decide +kernel
theorem dk478 : decode method_4_code 122 = .ok (.lcmp, 1) := by decide +kernel
theorem dk479 : decode method_4_code 123 = .ok (.ifCond .gt 7, 3) := by decide +kernel
theorem dk480 : decode method_4_code 126 = .ok (.iconst 1, 1) := by decide +kernel
theorem dk481 : decode method_4_code 127 = .ok (.goto 4, 3) := by decide +kernel
theorem dk482 : decode method_4_code 130 = .ok (.iconst 0, 1) := by decide +kernel
theorem dk483 : decode method_4_code 131 = .ok (.iadd, 1) := by decide +kernel
theorem dk484 : decode method_4_code 132 = .ok (.lload 4, 2) := by decide +kernel
theorem dk485 : decode method_4_code 134 = .ok (.ldc2_w 55, 3) := by decide +kernel
theorem dk486 : decode method_4_code 137 = .ok (.lcmp, 1) := by decide +kernel
theorem dk487 : decode method_4_code 138 = .ok (.ifCond .gt 7, 3) := by decide +kernel
theorem dk488 : decode method_4_code 141 = .ok (.iconst 1, 1) := by decide +kernel
theorem dk489 : decode method_4_code 142 = .ok (.goto 4, 3) := by decide +kernel
theorem dk490 : decode method_4_code 145 = .ok (.iconst 0, 1) := by decide +kernel
theorem dk491 : decode method_4_code 146 = .ok (.iadd, 1) := by decide +kernel
theorem dk492 : decode method_4_code 147 = .ok (.lload 4, 2) := by decide +kernel
theorem dk493 : decode method_4_code 149 = .ok (.ldc2_w 57, 3) := by decide +kernel
theorem dk494 : decode method_4_code 152 = .ok (.lcmp, 1) := by decide +kernel
theorem dk495 : decode method_4_code 153 = .ok (.ifCond .gt 7, 3) := by decide +kernel
theorem dk496 : decode method_4_code 156 = .ok (.iconst 1, 1) := by decide +kernel
theorem dk497 : decode method_4_code 157 = .ok (.goto 4, 3) := by decide +kernel
theorem dk498 : decode method_4_code 160 = .ok (.iconst 0, 1) := by decide +kernel
theorem dk499 : decode method_4_code 161 = .ok (.iadd, 1) := by decide +kernel
theorem dk500 : decode method_4_code 162 = .ok (.lload 4, 2) := by decide +kernel
theorem dk501 : decode method_4_code 164 = .ok (.ldc2_w 59, 3) := by decide +kernel
theorem dk502 : decode method_4_code 167 = .ok (.lcmp, 1) := by decide +kernel
theorem dk503 : decode method_4_code 168 = .ok (.ifCond .gt 7, 3) := by decide +kernel
theorem dk504 : decode method_4_code 171 = .ok (.iconst 1, 1) := by decide +kernel
theorem dk505 : decode method_4_code 172 = .ok (.goto 4, 3) := by decide +kernel
theorem dk506 : decode method_4_code 175 = .ok (.iconst 0, 1) := by decide +kernel
theorem dk507 : decode method_4_code 176 = .ok (.iadd, 1) := by decide +kernel
theorem dk508 : decode method_4_code 177 = .ok (.lload 4, 2) := by decide +kernel
theorem dk509 : decode method_4_code 179 = .ok (.ldc2_w 61, 3) := by decide +kernel
theorem dk510 : decode method_4_code 182 = .ok (.lcmp, 1) := by decide +kernel
theorem dk511 : decode method_4_code 183 = .ok (.ifCond .gt 7, 3) := by decide +kernel
theorem dk512 : decode method_4_code 186 = .ok (.iconst 1, 1) := by decide +kernel
theorem dk513 : decode method_4_code 187 = .ok (.goto 4, 3) := by decide +kernel
theorem dk514 : decode method_4_code 190 = .ok (.iconst 0, 1) := by decide +kernel
theorem dk515 : decode method_4_code 191 = .ok (.iadd, 1) := by decide +kernel
theorem dk516 : decode method_4_code 192 = .ok (.lload 4, 2) := by decide +kernel
theorem dk517 : decode method_4_code 194 = .ok (.ldc2_w 63, 3) := by decide +kernel
theorem dk518 : decode method_4_code 197 = .ok (.lcmp, 1) := by decide +kernel
theorem dk519 : decode method_4_code 198 = .ok (.ifCond .gt 7, 3) := by decide +kernel
theorem dk520 : decode method_4_code 201 = .ok (.iconst 1, 1) := by decide +kernel
theorem dk521 : decode method_4_code 202 = .ok (.goto 4, 3) := by decide +kernel
theorem dk522 : decode method_4_code 205 = .ok (.iconst 0, 1) := by decide +kernel
theorem dk523 : decode method_4_code 206 = .ok (.iadd, 1) := by decide +kernel
theorem dk524 : decode method_4_code 207 = .ok (.lload 4, 2) := by decide +kernel
theorem dk525 : decode method_4_code 209 = .ok (.ldc2_w 65, 3) := by decide +kernel
theorem dk526 : decode method_4_code 212 = .ok (.lcmp, 1) := by decide +kernel
theorem dk527 : decode method_4_code 213 = .ok (.ifCond .gt 7, 3) := by decide +kernel
theorem dk528 : decode method_4_code 216 = .ok (.iconst 1, 1) := by decide +kernel
theorem dk529 : decode method_4_code 217 = .ok (.goto 4, 3) := by decide +kernel
theorem dk530 : decode method_4_code 220 = .ok (.iconst 0, 1) := by decide +kernel
theorem dk531 : decode method_4_code 221 = .ok (.iadd, 1) := by decide +kernel
theorem dk532 : decode method_4_code 222 = .ok (.lload 4, 2) := by decide +kernel
theorem dk533 : decode method_4_code 224 = .ok (.ldc2_w 67, 3) := by decide +kernel
theorem dk534 : decode method_4_code 227 = .ok (.lcmp, 1) := by decide +kernel
theorem dk535 : decode method_4_code 228 = .ok (.ifCond .gt 7, 3) := by decide +kernel
theorem dk536 : decode method_4_code 231 = .ok (.iconst 1, 1) := by decide +kernel
theorem dk537 : decode method_4_code 232 = .ok (.goto 4, 3) := by decide +kernel
theorem dk538 : decode method_4_code 235 = .ok (.iconst 0, 1) := by decide +kernel
theorem dk539 : decode method_4_code 236 = .ok (.iadd, 1) := by decide +kernel
theorem dk540 : decode method_4_code 237 = .ok (.lload 4, 2) := by decide +kernel
theorem dk541 : decode method_4_code 239 = .ok (.ldc2_w 69, 3) := by decide +kernel
theorem dk542 : decode method_4_code 242 = .ok (.lcmp, 1) := by decide +kernel
theorem dk543 : decode method_4_code 243 = .ok (.ifCond .gt 7, 3) := by decide +kernel
theorem dk544 : decode method_4_code 246 = .ok (.iconst 1, 1) := by decide +kernel
theorem dk545 : decode method_4_code 247 = .ok (.goto 4, 3) := by decide +kernel
theorem dk546 : decode method_4_code 250 = .ok (.iconst 0, 1) := by decide +kernel
theorem dk547 : decode method_4_code 251 = .ok (.iadd, 1) := by decide +kernel
theorem dk548 : decode method_4_code 252 = .ok (.lload 4, 2) := by decide +kernel
theorem dk549 : decode method_4_code 254 = .ok (.ldc2_w 71, 3) := by decide +kernel
theorem dk550 : decode method_4_code 257 = .ok (.lcmp, 1) := by decide +kernel
theorem dk551 : decode method_4_code 258 = .ok (.ifCond .gt 7, 3) := by decide +kernel
theorem dk552 : decode method_4_code 261 = .ok (.iconst 1, 1) := by decide +kernel
theorem dk553 : decode method_4_code 262 = .ok (.goto 4, 3) := by decide +kernel
theorem dk554 : decode method_4_code 265 = .ok (.iconst 0, 1) := by decide +kernel
theorem dk555 : decode method_4_code 266 = .ok (.iadd, 1) := by decide +kernel
theorem dk556 : decode method_4_code 267 = .ok (.lload 4, 2) := by decide +kernel
theorem dk557 : decode method_4_code 269 = .ok (.ldc2_w 73, 3) := by decide +kernel
theorem dk558 : decode method_4_code 272 = .ok (.lcmp, 1) := by decide +kernel
theorem dk559 : decode method_4_code 273 = .ok (.ifCond .gt 7, 3) := by decide +kernel
theorem dk560 : decode method_4_code 276 = .ok (.iconst 1, 1) := by decide +kernel
theorem dk561 : decode method_4_code 277 = .ok (.goto 4, 3) := by decide +kernel
theorem dk562 : decode method_4_code 280 = .ok (.iconst 0, 1) := by decide +kernel
theorem dk563 : decode method_4_code 281 = .ok (.iadd, 1) := by decide +kernel
theorem dk564 : decode method_4_code 282 = .ok (.lload 4, 2) := by decide +kernel
theorem dk565 : decode method_4_code 284 = .ok (.ldc2_w 75, 3) := by decide +kernel
theorem dk566 : decode method_4_code 287 = .ok (.lcmp, 1) := by decide +kernel
theorem dk567 : decode method_4_code 288 = .ok (.ifCond .gt 7, 3) := by decide +kernel
theorem dk568 : decode method_4_code 291 = .ok (.iconst 1, 1) := by decide +kernel
theorem dk569 : decode method_4_code 292 = .ok (.goto 4, 3) := by decide +kernel
theorem dk570 : decode method_4_code 295 = .ok (.iconst 0, 1) := by decide +kernel
theorem dk571 : decode method_4_code 296 = .ok (.iadd, 1) := by decide +kernel
theorem dk572 : decode method_4_code 297 = .ok (.lload 4, 2) := by decide +kernel
theorem dk573 : decode method_4_code 299 = .ok (.ldc2_w 77, 3) := by decide +kernel
theorem dk574 : decode method_4_code 302 = .ok (.lcmp, 1) := by decide +kernel
theorem dk575 : decode method_4_code 303 = .ok (.ifCond .gt 7, 3) := by decide +kernel
theorem dk576 : decode method_4_code 306 = .ok (.iconst 1, 1) := by decide +kernel
theorem dk577 : decode method_4_code 307 = .ok (.goto 4, 3) := by decide +kernel
theorem dk578 : decode method_4_code 310 = .ok (.iconst 0, 1) := by decide +kernel
theorem dk579 : decode method_4_code 311 = .ok (.iadd, 1) := by decide +kernel
theorem dk580 : decode method_4_code 312 = .ok (.lload 4, 2) := by decide +kernel
theorem dk581 : decode method_4_code 314 = .ok (.ldc2_w 79, 3) := by decide +kernel
theorem dk582 : decode method_4_code 317 = .ok (.lcmp, 1) := by decide +kernel
theorem dk583 : decode method_4_code 318 = .ok (.ifCond .gt 7, 3) := by decide +kernel
theorem dk584 : decode method_4_code 321 = .ok (.iconst 1, 1) := by decide +kernel
theorem dk585 : decode method_4_code 322 = .ok (.goto 4, 3) := by decide +kernel
theorem dk586 : decode method_4_code 325 = .ok (.iconst 0, 1) := by decide +kernel
theorem dk587 : decode method_4_code 326 = .ok (.iadd, 1) := by decide +kernel
theorem dk588 : decode method_4_code 327 = .ok (.istore 7, 2) := by decide +kernel
theorem dk589 : decode method_4_code 329 = .ok (.aload_n 0, 1) := by decide +kernel
theorem dk590 : decode method_4_code 330 = .ok (.iload 6, 2) := by decide +kernel
theorem dk591 : decode method_4_code 332 = .ok (.iload 7, 2) := by decide +kernel
theorem dk592 : decode method_4_code 334 = .ok (.iadd, 1) := by decide +kernel
theorem dk593 : decode method_4_code 335 = .ok (.iconst 1, 1) := by decide +kernel
theorem dk594 : decode method_4_code 336 = .ok (.isub, 1) := by decide +kernel
theorem dk595 : decode method_4_code 337 = .ok (.lload 4, 2) := by decide +kernel
theorem dk596 : decode method_4_code 339 = .ok (.lconst 1, 1) := by decide +kernel
theorem dk597 : decode method_4_code 340 = .ok (.invokestatic 81, 3) := by decide +kernel
theorem dk598 : decode method_4_code 343 = .ok (.ifCond .ne 5, 3) := by decide +kernel
theorem dk599 : decode method_4_code 348 = .ok (.iload 7, 2) := by decide +kernel
theorem dk600 : decode method_4_code 350 = .ok (.iconst 1, 1) := by decide +kernel
theorem dk601 : decode method_4_code 351 = .ok (.if_icmp .le 24, 3) := by decide +kernel
theorem dk602 : decode method_4_code 354 = .ok (.aload_n 0, 1) := by decide +kernel
theorem dk603 : decode method_4_code 355 = .ok (.iload 6, 2) := by decide +kernel
theorem dk604 : decode method_4_code 357 = .ok (.iload 7, 2) := by decide +kernel
theorem dk605 : decode method_4_code 359 = .ok (.iadd, 1) := by decide +kernel
theorem dk606 : decode method_4_code 360 = .ok (.iconst 2, 1) := by decide +kernel
theorem dk607 : decode method_4_code 361 = .ok (.isub, 1) := by decide +kernel
theorem dk608 : decode method_4_code 362 = .ok (.lload 4, 2) := by decide +kernel
theorem dk609 : decode method_4_code 364 = .ok (.ldc2_w 41, 3) := by decide +kernel
theorem dk610 : decode method_4_code 367 = .ok (.invokestatic 81, 3) := by decide +kernel
theorem dk611 : decode method_4_code 370 = .ok (.ifCond .ne 5, 3) := by decide +kernel
theorem dk612 : decode method_4_code 375 = .ok (.iload 7, 2) := by decide +kernel
theorem dk613 : decode method_4_code 377 = .ok (.iconst 2, 1) := by decide +kernel
theorem dk614 : decode method_4_code 378 = .ok (.if_icmp .le 24, 3) := by decide +kernel
theorem dk615 : decode method_4_code 381 = .ok (.aload_n 0, 1) := by decide +kernel
theorem dk616 : decode method_4_code 382 = .ok (.iload 6, 2) := by decide +kernel
theorem dk617 : decode method_4_code 384 = .ok (.iload 7, 2) := by decide +kernel
theorem dk618 : decode method_4_code 386 = .ok (.iadd, 1) := by decide +kernel
theorem dk619 : decode method_4_code 387 = .ok (.iconst 3, 1) := by decide +kernel
theorem dk620 : decode method_4_code 388 = .ok (.isub, 1) := by decide +kernel
theorem dk621 : decode method_4_code 389 = .ok (.lload 4, 2) := by decide +kernel
theorem dk622 : decode method_4_code 391 = .ok (.ldc2_w 85, 3) := by decide +kernel
theorem dk623 : decode method_4_code 394 = .ok (.invokestatic 81, 3) := by decide +kernel
theorem dk624 : decode method_4_code 397 = .ok (.ifCond .ne 5, 3) := by decide +kernel
theorem dk625 : decode method_4_code 402 = .ok (.iload 7, 2) := by decide +kernel
theorem dk626 : decode method_4_code 404 = .ok (.iconst 3, 1) := by decide +kernel
theorem dk627 : decode method_4_code 405 = .ok (.if_icmp .le 24, 3) := by decide +kernel
theorem dk628 : decode method_4_code 408 = .ok (.aload_n 0, 1) := by decide +kernel
theorem dk629 : decode method_4_code 409 = .ok (.iload 6, 2) := by decide +kernel
theorem dk630 : decode method_4_code 411 = .ok (.iload 7, 2) := by decide +kernel
theorem dk631 : decode method_4_code 413 = .ok (.iadd, 1) := by decide +kernel
theorem dk632 : decode method_4_code 414 = .ok (.iconst 4, 1) := by decide +kernel
theorem dk633 : decode method_4_code 415 = .ok (.isub, 1) := by decide +kernel
theorem dk634 : decode method_4_code 416 = .ok (.lload 4, 2) := by decide +kernel
theorem dk635 : decode method_4_code 418 = .ok (.ldc2_w 87, 3) := by decide +kernel
theorem dk636 : decode method_4_code 421 = .ok (.invokestatic 81, 3) := by decide +kernel
theorem dk637 : decode method_4_code 424 = .ok (.ifCond .ne 5, 3) := by decide +kernel
theorem dk638 : decode method_4_code 429 = .ok (.iload 7, 2) := by decide +kernel
theorem dk639 : decode method_4_code 431 = .ok (.iconst 4, 1) := by decide +kernel
theorem dk640 : decode method_4_code 432 = .ok (.if_icmp .le 24, 3) := by decide +kernel
theorem dk641 : decode method_4_code 435 = .ok (.aload_n 0, 1) := by decide +kernel
theorem dk642 : decode method_4_code 436 = .ok (.iload 6, 2) := by decide +kernel
theorem dk643 : decode method_4_code 438 = .ok (.iload 7, 2) := by decide +kernel
theorem dk644 : decode method_4_code 440 = .ok (.iadd, 1) := by decide +kernel
theorem dk645 : decode method_4_code 441 = .ok (.iconst 5, 1) := by decide +kernel
theorem dk646 : decode method_4_code 442 = .ok (.isub, 1) := by decide +kernel
theorem dk647 : decode method_4_code 443 = .ok (.lload 4, 2) := by decide +kernel
theorem dk648 : decode method_4_code 445 = .ok (.ldc2_w 89, 3) := by decide +kernel
theorem dk649 : decode method_4_code 448 = .ok (.invokestatic 81, 3) := by decide +kernel
theorem dk650 : decode method_4_code 451 = .ok (.ifCond .ne 5, 3) := by decide +kernel
theorem dk651 : decode method_4_code 456 = .ok (.iload 7, 2) := by decide +kernel
theorem dk652 : decode method_4_code 458 = .ok (.iconst 5, 1) := by decide +kernel
theorem dk653 : decode method_4_code 459 = .ok (.if_icmp .le 25, 3) := by decide +kernel
theorem dk654 : decode method_4_code 462 = .ok (.aload_n 0, 1) := by decide +kernel
theorem dk655 : decode method_4_code 463 = .ok (.iload 6, 2) := by decide +kernel
theorem dk656 : decode method_4_code 465 = .ok (.iload 7, 2) := by decide +kernel
theorem dk657 : decode method_4_code 467 = .ok (.iadd, 1) := by decide +kernel
theorem dk658 : decode method_4_code 468 = .ok (.bipush 6, 2) := by decide +kernel
theorem dk659 : decode method_4_code 470 = .ok (.isub, 1) := by decide +kernel
theorem dk660 : decode method_4_code 471 = .ok (.lload 4, 2) := by decide +kernel
theorem dk661 : decode method_4_code 473 = .ok (.ldc2_w 91, 3) := by decide +kernel
theorem dk662 : decode method_4_code 476 = .ok (.invokestatic 81, 3) := by decide +kernel
theorem dk663 : decode method_4_code 479 = .ok (.ifCond .ne 5, 3) := by decide +kernel
theorem dk664 : decode method_4_code 484 = .ok (.iload 7, 2) := by decide +kernel
theorem dk665 : decode method_4_code 486 = .ok (.bipush 6, 2) := by decide +kernel
theorem dk666 : decode method_4_code 488 = .ok (.if_icmp .le 25, 3) := by decide +kernel
theorem dk667 : decode method_4_code 491 = .ok (.aload_n 0, 1) := by decide +kernel
theorem dk668 : decode method_4_code 492 = .ok (.iload 6, 2) := by decide +kernel
theorem dk669 : decode method_4_code 494 = .ok (.iload 7, 2) := by decide +kernel
theorem dk670 : decode method_4_code 496 = .ok (.iadd, 1) := by decide +kernel
theorem dk671 : decode method_4_code 497 = .ok (.bipush 7, 2) := by decide +kernel
theorem dk672 : decode method_4_code 499 = .ok (.isub, 1) := by decide +kernel
theorem dk673 : decode method_4_code 500 = .ok (.lload 4, 2) := by decide +kernel
theorem dk674 : decode method_4_code 502 = .ok (.ldc2_w 93, 3) := by decide +kernel
theorem dk675 : decode method_4_code 505 = .ok (.invokestatic 81, 3) := by decide +kernel
theorem dk676 : decode method_4_code 508 = .ok (.ifCond .ne 5, 3) := by decide +kernel
theorem dk677 : decode method_4_code 513 = .ok (.iload 7, 2) := by decide +kernel
theorem dk678 : decode method_4_code 515 = .ok (.bipush 7, 2) := by decide +kernel
theorem dk679 : decode method_4_code 517 = .ok (.if_icmp .le 25, 3) := by decide +kernel
theorem dk680 : decode method_4_code 520 = .ok (.aload_n 0, 1) := by decide +kernel
theorem dk681 : decode method_4_code 521 = .ok (.iload 6, 2) := by decide +kernel
theorem dk682 : decode method_4_code 523 = .ok (.iload 7, 2) := by decide +kernel
theorem dk683 : decode method_4_code 525 = .ok (.iadd, 1) := by decide +kernel
theorem dk684 : decode method_4_code 526 = .ok (.bipush 8, 2) := by decide +kernel
theorem dk685 : decode method_4_code 528 = .ok (.isub, 1) := by decide +kernel
theorem dk686 : decode method_4_code 529 = .ok (.lload 4, 2) := by decide +kernel
theorem dk687 : decode method_4_code 531 = .ok (.ldc2_w 95, 3) := by decide +kernel
theorem dk688 : decode method_4_code 534 = .ok (.invokestatic 81, 3) := by decide +kernel
theorem dk689 : decode method_4_code 537 = .ok (.ifCond .ne 5, 3) := by decide +kernel
theorem dk690 : decode method_4_code 542 = .ok (.iload 7, 2) := by decide +kernel
theorem dk691 : decode method_4_code 544 = .ok (.bipush 8, 2) := by decide +kernel
theorem dk692 : decode method_4_code 546 = .ok (.if_icmp .le 25, 3) := by decide +kernel
theorem dk693 : decode method_4_code 549 = .ok (.aload_n 0, 1) := by decide +kernel
theorem dk694 : decode method_4_code 550 = .ok (.iload 6, 2) := by decide +kernel
theorem dk695 : decode method_4_code 552 = .ok (.iload 7, 2) := by decide +kernel
theorem dk696 : decode method_4_code 554 = .ok (.iadd, 1) := by decide +kernel
theorem dk697 : decode method_4_code 555 = .ok (.bipush 9, 2) := by decide +kernel
theorem dk698 : decode method_4_code 557 = .ok (.isub, 1) := by decide +kernel
theorem dk699 : decode method_4_code 558 = .ok (.lload 4, 2) := by decide +kernel
theorem dk700 : decode method_4_code 560 = .ok (.ldc2_w 97, 3) := by decide +kernel
theorem dk701 : decode method_4_code 563 = .ok (.invokestatic 81, 3) := by decide +kernel
theorem dk702 : decode method_4_code 566 = .ok (.ifCond .ne 5, 3) := by decide +kernel
theorem dk703 : decode method_4_code 571 = .ok (.iload 7, 2) := by decide +kernel
theorem dk704 : decode method_4_code 573 = .ok (.bipush 9, 2) := by decide +kernel
theorem dk705 : decode method_4_code 575 = .ok (.if_icmp .le 25, 3) := by decide +kernel
theorem dk706 : decode method_4_code 578 = .ok (.aload_n 0, 1) := by decide +kernel
theorem dk707 : decode method_4_code 579 = .ok (.iload 6, 2) := by decide +kernel
theorem dk708 : decode method_4_code 581 = .ok (.iload 7, 2) := by decide +kernel
theorem dk709 : decode method_4_code 583 = .ok (.iadd, 1) := by decide +kernel
theorem dk710 : decode method_4_code 584 = .ok (.bipush 10, 2) := by decide +kernel
theorem dk711 : decode method_4_code 586 = .ok (.isub, 1) := by decide +kernel
theorem dk712 : decode method_4_code 587 = .ok (.lload 4, 2) := by decide +kernel
theorem dk713 : decode method_4_code 589 = .ok (.ldc2_w 99, 3) := by decide +kernel
theorem dk714 : decode method_4_code 592 = .ok (.invokestatic 81, 3) := by decide +kernel
theorem dk715 : decode method_4_code 595 = .ok (.ifCond .ne 5, 3) := by decide +kernel
theorem dk716 : decode method_4_code 600 = .ok (.iload 7, 2) := by decide +kernel
theorem dk717 : decode method_4_code 602 = .ok (.bipush 10, 2) := by decide +kernel
theorem dk718 : decode method_4_code 604 = .ok (.if_icmp .le 25, 3) := by decide +kernel
theorem dk719 : decode method_4_code 607 = .ok (.aload_n 0, 1) := by decide +kernel
theorem dk720 : decode method_4_code 608 = .ok (.iload 6, 2) := by decide +kernel
theorem dk721 : decode method_4_code 610 = .ok (.iload 7, 2) := by decide +kernel
theorem dk722 : decode method_4_code 612 = .ok (.iadd, 1) := by decide +kernel
theorem dk723 : decode method_4_code 613 = .ok (.bipush 11, 2) := by decide +kernel
theorem dk724 : decode method_4_code 615 = .ok (.isub, 1) := by decide +kernel
theorem dk725 : decode method_4_code 616 = .ok (.lload 4, 2) := by decide +kernel
theorem dk726 : decode method_4_code 618 = .ok (.ldc2_w 101, 3) := by decide +kernel
theorem dk727 : decode method_4_code 621 = .ok (.invokestatic 81, 3) := by decide +kernel
theorem dk728 : decode method_4_code 624 = .ok (.ifCond .ne 5, 3) := by decide +kernel
theorem dk729 : decode method_4_code 629 = .ok (.iload 7, 2) := by decide +kernel
theorem dk730 : decode method_4_code 631 = .ok (.bipush 11, 2) := by decide +kernel
theorem dk731 : decode method_4_code 633 = .ok (.if_icmp .le 25, 3) := by decide +kernel
theorem dk732 : decode method_4_code 636 = .ok (.aload_n 0, 1) := by decide +kernel
theorem dk733 : decode method_4_code 637 = .ok (.iload 6, 2) := by decide +kernel
theorem dk734 : decode method_4_code 639 = .ok (.iload 7, 2) := by decide +kernel
theorem dk735 : decode method_4_code 641 = .ok (.iadd, 1) := by decide +kernel
theorem dk736 : decode method_4_code 642 = .ok (.bipush 12, 2) := by decide +kernel
theorem dk737 : decode method_4_code 644 = .ok (.isub, 1) := by decide +kernel
theorem dk738 : decode method_4_code 645 = .ok (.lload 4, 2) := by decide +kernel
theorem dk739 : decode method_4_code 647 = .ok (.ldc2_w 103, 3) := by decide +kernel
theorem dk740 : decode method_4_code 650 = .ok (.invokestatic 81, 3) := by decide +kernel
theorem dk741 : decode method_4_code 653 = .ok (.ifCond .ne 5, 3) := by decide +kernel
theorem dk742 : decode method_4_code 658 = .ok (.iload 7, 2) := by decide +kernel
theorem dk743 : decode method_4_code 660 = .ok (.bipush 12, 2) := by decide +kernel
theorem dk744 : decode method_4_code 662 = .ok (.if_icmp .le 25, 3) := by decide +kernel
theorem dk745 : decode method_4_code 665 = .ok (.aload_n 0, 1) := by decide +kernel
theorem dk746 : decode method_4_code 666 = .ok (.iload 6, 2) := by decide +kernel
theorem dk747 : decode method_4_code 668 = .ok (.iload 7, 2) := by decide +kernel
theorem dk748 : decode method_4_code 670 = .ok (.iadd, 1) := by decide +kernel
theorem dk749 : decode method_4_code 671 = .ok (.bipush 13, 2) := by decide +kernel
theorem dk750 : decode method_4_code 673 = .ok (.isub, 1) := by decide +kernel
theorem dk751 : decode method_4_code 674 = .ok (.lload 4, 2) := by decide +kernel
theorem dk752 : decode method_4_code 676 = .ok (.ldc2_w 105, 3) := by decide +kernel
theorem dk753 : decode method_4_code 679 = .ok (.invokestatic 81, 3) := by decide +kernel
theorem dk754 : decode method_4_code 682 = .ok (.ifCond .ne 5, 3) := by decide +kernel
theorem dk755 : decode method_4_code 687 = .ok (.iload 7, 2) := by decide +kernel
theorem dk756 : decode method_4_code 689 = .ok (.bipush 13, 2) := by decide +kernel
theorem dk757 : decode method_4_code 691 = .ok (.if_icmp .le 25, 3) := by decide +kernel
theorem dk758 : decode method_4_code 694 = .ok (.aload_n 0, 1) := by decide +kernel
theorem dk759 : decode method_4_code 695 = .ok (.iload 6, 2) := by decide +kernel
theorem dk760 : decode method_4_code 697 = .ok (.iload 7, 2) := by decide +kernel
theorem dk761 : decode method_4_code 699 = .ok (.iadd, 1) := by decide +kernel
theorem dk762 : decode method_4_code 700 = .ok (.bipush 14, 2) := by decide +kernel
theorem dk763 : decode method_4_code 702 = .ok (.isub, 1) := by decide +kernel
theorem dk764 : decode method_4_code 703 = .ok (.lload 4, 2) := by decide +kernel
theorem dk765 : decode method_4_code 705 = .ok (.ldc2_w 107, 3) := by decide +kernel
theorem dk766 : decode method_4_code 708 = .ok (.invokestatic 81, 3) := by decide +kernel
theorem dk767 : decode method_4_code 711 = .ok (.ifCond .ne 5, 3) := by decide +kernel
theorem dk768 : decode method_4_code 716 = .ok (.iload 7, 2) := by decide +kernel
theorem dk769 : decode method_4_code 718 = .ok (.bipush 14, 2) := by decide +kernel
theorem dk770 : decode method_4_code 720 = .ok (.if_icmp .le 25, 3) := by decide +kernel
theorem dk771 : decode method_4_code 723 = .ok (.aload_n 0, 1) := by decide +kernel
theorem dk772 : decode method_4_code 724 = .ok (.iload 6, 2) := by decide +kernel
theorem dk773 : decode method_4_code 726 = .ok (.iload 7, 2) := by decide +kernel
theorem dk774 : decode method_4_code 728 = .ok (.iadd, 1) := by decide +kernel
theorem dk775 : decode method_4_code 729 = .ok (.bipush 15, 2) := by decide +kernel
theorem dk776 : decode method_4_code 731 = .ok (.isub, 1) := by decide +kernel
theorem dk777 : decode method_4_code 732 = .ok (.lload 4, 2) := by decide +kernel
theorem dk778 : decode method_4_code 734 = .ok (.ldc2_w 109, 3) := by decide +kernel
theorem dk779 : decode method_4_code 737 = .ok (.invokestatic 81, 3) := by decide +kernel
theorem dk780 : decode method_4_code 740 = .ok (.ifCond .ne 5, 3) := by decide +kernel
theorem dk781 : decode method_4_code 745 = .ok (.iload 7, 2) := by decide +kernel
theorem dk782 : decode method_4_code 747 = .ok (.bipush 15, 2) := by decide +kernel
theorem dk783 : decode method_4_code 749 = .ok (.if_icmp .le 25, 3) := by decide +kernel
theorem dk784 : decode method_4_code 752 = .ok (.aload_n 0, 1) := by decide +kernel
theorem dk785 : decode method_4_code 753 = .ok (.iload 6, 2) := by decide +kernel
theorem dk786 : decode method_4_code 755 = .ok (.iload 7, 2) := by decide +kernel
theorem dk787 : decode method_4_code 757 = .ok (.iadd, 1) := by decide +kernel
theorem dk788 : decode method_4_code 758 = .ok (.bipush 16, 2) := by decide +kernel
theorem dk789 : decode method_4_code 760 = .ok (.isub, 1) := by decide +kernel
theorem dk790 : decode method_4_code 761 = .ok (.lload 4, 2) := by decide +kernel
theorem dk791 : decode method_4_code 763 = .ok (.ldc2_w 111, 3) := by decide +kernel
theorem dk792 : decode method_4_code 766 = .ok (.invokestatic 81, 3) := by decide +kernel
theorem dk793 : decode method_4_code 769 = .ok (.ifCond .ne 5, 3) := by decide +kernel
theorem dk794 : decode method_4_code 774 = .ok (.iload 7, 2) := by decide +kernel
theorem dk795 : decode method_4_code 776 = .ok (.bipush 16, 2) := by decide +kernel
theorem dk796 : decode method_4_code 778 = .ok (.if_icmp .le 25, 3) := by decide +kernel
theorem dk797 : decode method_4_code 781 = .ok (.aload_n 0, 1) := by decide +kernel
theorem dk798 : decode method_4_code 782 = .ok (.iload 6, 2) := by decide +kernel
theorem dk799 : decode method_4_code 784 = .ok (.iload 7, 2) := by decide +kernel
theorem dk800 : decode method_4_code 786 = .ok (.iadd, 1) := by decide +kernel
theorem dk801 : decode method_4_code 787 = .ok (.bipush 17, 2) := by decide +kernel
theorem dk802 : decode method_4_code 789 = .ok (.isub, 1) := by decide +kernel
theorem dk803 : decode method_4_code 790 = .ok (.lload 4, 2) := by decide +kernel
theorem dk804 : decode method_4_code 792 = .ok (.ldc2_w 113, 3) := by decide +kernel
theorem dk805 : decode method_4_code 795 = .ok (.invokestatic 81, 3) := by decide +kernel
theorem dk806 : decode method_4_code 798 = .ok (.ifCond .ne 5, 3) := by decide +kernel
theorem dk807 : decode method_4_code 803 = .ok (.iload 7, 2) := by decide +kernel
theorem dk808 : decode method_4_code 805 = .ok (.bipush 17, 2) := by decide +kernel
theorem dk809 : decode method_4_code 807 = .ok (.if_icmp .le 25, 3) := by decide +kernel
theorem dk810 : decode method_4_code 810 = .ok (.aload_n 0, 1) := by decide +kernel
theorem dk811 : decode method_4_code 811 = .ok (.iload 6, 2) := by decide +kernel
theorem dk812 : decode method_4_code 813 = .ok (.iload 7, 2) := by decide +kernel
theorem dk813 : decode method_4_code 815 = .ok (.iadd, 1) := by decide +kernel
theorem dk814 : decode method_4_code 816 = .ok (.bipush 18, 2) := by decide +kernel
theorem dk815 : decode method_4_code 818 = .ok (.isub, 1) := by decide +kernel
theorem dk816 : decode method_4_code 819 = .ok (.lload 4, 2) := by decide +kernel
theorem dk817 : decode method_4_code 821 = .ok (.ldc2_w 115, 3) := by decide +kernel
theorem dk818 : decode method_4_code 824 = .ok (.invokestatic 81, 3) := by decide +kernel
theorem dk819 : decode method_4_code 827 = .ok (.ifCond .ne 5, 3) := by decide +kernel
theorem dk820 : decode method_4_code 832 = .ok (.iload 7, 2) := by decide +kernel
theorem dk821 : decode method_4_code 834 = .ok (.bipush 18, 2) := by decide +kernel
theorem dk822 : decode method_4_code 836 = .ok (.if_icmp .le 25, 3) := by decide +kernel
theorem dk823 : decode method_4_code 839 = .ok (.aload_n 0, 1) := by decide +kernel
theorem dk824 : decode method_4_code 840 = .ok (.iload 6, 2) := by decide +kernel
theorem dk825 : decode method_4_code 842 = .ok (.iload 7, 2) := by decide +kernel
theorem dk826 : decode method_4_code 844 = .ok (.iadd, 1) := by decide +kernel
theorem dk827 : decode method_4_code 845 = .ok (.bipush 19, 2) := by decide +kernel
theorem dk828 : decode method_4_code 847 = .ok (.isub, 1) := by decide +kernel
theorem dk829 : decode method_4_code 848 = .ok (.lload 4, 2) := by decide +kernel
theorem dk830 : decode method_4_code 850 = .ok (.ldc2_w 117, 3) := by decide +kernel
theorem dk831 : decode method_4_code 853 = .ok (.invokestatic 81, 3) := by decide +kernel
theorem dk832 : decode method_4_code 856 = .ok (.ifCond .ne 5, 3) := by decide +kernel
theorem dk833 : decode method_4_code 861 = .ok (.iload 6, 2) := by decide +kernel
theorem dk834 : decode method_4_code 863 = .ok (.iload 7, 2) := by decide +kernel
theorem dk835 : decode method_4_code 865 = .ok (.iadd, 1) := by decide +kernel
theorem dk836 : decode method_4_code 866 = .ok (.ireturn, 1) := by decide +kernel
theorem dk837 : decode jdk_29_method_70_code 0 = .ok (.lload_n 0, 1) := by decide +kernel
theorem dk838 : decode jdk_29_method_70_code 1 = .ok (.lload_n 2, 1) := by decide +kernel
theorem dk839 : decode jdk_29_method_70_code 2 = .ok (.lcmp, 1) := by decide +kernel
theorem dk840 : decode jdk_29_method_70_code 3 = .ok (.ifCond .gt 7, 3) := by decide +kernel
theorem dk841 : decode jdk_29_method_70_code 6 = .ok (.lload_n 0, 1) := by decide +kernel
theorem dk842 : decode jdk_29_method_70_code 7 = .ok (.goto 4, 3) := by decide +kernel
theorem dk843 : decode jdk_29_method_70_code 11 = .ok (.lreturn, 1) := by decide +kernel
theorem dk844 : decode jdk_29_method_70_code 10 = .ok (.lload_n 2, 1) := by decide +kernel
theorem dk845 : decode jdk_29_method_66_code 0 = .ok (.lload_n 0, 1) := by decide +kernel
theorem dk846 : decode jdk_29_method_66_code 1 = .ok (.lload_n 2, 1) := by decide +kernel
theorem dk847 : decode jdk_29_method_66_code 2 = .ok (.lcmp, 1) := by decide +kernel
theorem dk848 : decode jdk_29_method_66_code 3 = .ok (.ifCond .lt 7, 3) := by decide +kernel
theorem dk849 : decode jdk_29_method_66_code 6 = .ok (.lload_n 0, 1) := by decide +kernel
theorem dk850 : decode jdk_29_method_66_code 7 = .ok (.goto 4, 3) := by decide +kernel
theorem dk851 : decode jdk_29_method_66_code 11 = .ok (.lreturn, 1) := by decide +kernel
theorem dk852 : decode jdk_29_method_66_code 10 = .ok (.lload_n 2, 1) := by decide +kernel
theorem pd_I_V : parseMethodDescriptor "(I)V" = some ⟨[.int], none⟩ := by decide +kernel
theorem pd_II_I : parseMethodDescriptor "(II)I" = some ⟨[.int, .int], some .int⟩ := by decide +kernel
theorem pd_III_I : parseMethodDescriptor "(III)I" = some ⟨[.int, .int, .int], some .int⟩ := by decide +kernel
theorem pd_I_I : parseMethodDescriptor "(I)I" = some ⟨[.int], some .int⟩ := by decide +kernel
theorem pd_BI_AB : parseMethodDescriptor "([BI)[B" = some ⟨[(.array .byte), .int], some (.array .byte)⟩ := by decide +kernel
theorem pd_J_I : parseMethodDescriptor "(J)I" = some ⟨[.long], some .int⟩ := by decide +kernel
theorem pd_Z : parseMethodDescriptor "()Z" = some ⟨[], some .boolean⟩ := by decide +kernel
theorem pd_JI_B_I : parseMethodDescriptor "(JI[B)I" = some ⟨[.long, .int, (.array .byte)], some .int⟩ := by decide +kernel
theorem pd_J_Ljava_lang_AbstractStringBuilder : parseMethodDescriptor "(J)Ljava/lang/AbstractStringBuilder;" = some ⟨[.long], some (.object "java/lang/AbstractStringBuilder")⟩ := by decide +kernel
theorem pd_B : parseMethodDescriptor "()B" = some ⟨[], some .byte⟩ := by decide +kernel
theorem pd_Ljava_lang_String__V : parseMethodDescriptor "(Ljava/lang/String;)V" = some ⟨[(.object "java/lang/String")], none⟩ := by decide +kernel
theorem pd_BIB_V : parseMethodDescriptor "([BIB)V" = some ⟨[(.array .byte), .int, .byte], none⟩ := by decide +kernel
theorem pd_I : parseMethodDescriptor "()I" = some ⟨[], some .int⟩ := by decide +kernel
theorem pd_ILjava_lang_String__V : parseMethodDescriptor "(ILjava/lang/String;)V" = some ⟨[.int, (.object "java/lang/String")], none⟩ := by decide +kernel
theorem pd_Ljava_lang_String__Ljava_lang_AbstractStringBuilder : parseMethodDescriptor "(Ljava/lang/String;)Ljava/lang/AbstractStringBuilder;" = some ⟨[(.object "java/lang/String")], some (.object "java/lang/AbstractStringBuilder")⟩ := by decide +kernel
theorem pd_II_V : parseMethodDescriptor "(II)V" = some ⟨[.int, .int], none⟩ := by decide +kernel
theorem pd_BII_AB : parseMethodDescriptor "([BII)[B" = some ⟨[(.array .byte), .int, .int], some (.array .byte)⟩ := by decide +kernel
theorem pd_AB : parseMethodDescriptor "()[B" = some ⟨[], some (.array .byte)⟩ := by decide +kernel
theorem pd_Ljava_lang_AbstractStringBuilder_Ljava_lang_Void__V : parseMethodDescriptor "(Ljava/lang/AbstractStringBuilder;Ljava/lang/Void;)V" = some ⟨[(.object "java/lang/AbstractStringBuilder"), (.object "java/lang/Void")], none⟩ := by decide +kernel
theorem pd_Ljava_lang_StringBuilder__V : parseMethodDescriptor "(Ljava/lang/StringBuilder;)V" = some ⟨[(.object "java/lang/StringBuilder")], none⟩ := by decide +kernel
theorem pd_V : parseMethodDescriptor "()V" = some ⟨[], none⟩ := by decide +kernel
theorem pd_J_Ljava_lang_StringBuilder : parseMethodDescriptor "(J)Ljava/lang/StringBuilder;" = some ⟨[.long], some (.object "java/lang/StringBuilder")⟩ := by decide +kernel
theorem pd_Ljava_lang_String__Ljava_lang_StringBuilder : parseMethodDescriptor "(Ljava/lang/String;)Ljava/lang/StringBuilder;" = some ⟨[(.object "java/lang/String")], some (.object "java/lang/StringBuilder")⟩ := by decide +kernel
theorem pd_Ljava_lang_String : parseMethodDescriptor "()Ljava/lang/String;" = some ⟨[], some (.object "java/lang/String")⟩ := by decide +kernel
theorem pd_IILjava_util_function_BiFunction__I : parseMethodDescriptor "(IILjava/util/function/BiFunction;)I" = some ⟨[.int, .int, (.object "java/util/function/BiFunction")], some .int⟩ := by decide +kernel
theorem pd_BI_C : parseMethodDescriptor "([BI)C" = some ⟨[(.array .byte), .int], some .char⟩ := by decide +kernel
theorem pd_I_C : parseMethodDescriptor "(I)C" = some ⟨[.int], some .char⟩ := by decide +kernel
theorem pd_Ljava_lang_String_IJJ_Z : parseMethodDescriptor "(Ljava/lang/String;IJJ)Z" = some ⟨[(.object "java/lang/String"), .int, .long, .long], some .boolean⟩ := by decide +kernel
theorem pd_JJ_J : parseMethodDescriptor "(JJ)J" = some ⟨[.long, .long], some .long⟩ := by decide +kernel
theorem pd_JJ_V : parseMethodDescriptor "(JJ)V" = some ⟨[.long, .long], none⟩ := by decide +kernel
theorem pd_Ljava_lang_String_IJ_I : parseMethodDescriptor "(Ljava/lang/String;IJ)I" = some ⟨[(.object "java/lang/String"), .int, .long], some .int⟩ := by decide +kernel
open Jvm.Free.SBG
theorem own_hw {L : List Cond} {a0 : Array Value} {Z : State} (hw : ∀ d ∈ L, d.before a0 Z = true) (i : Nat) {d : Cond} (h : L[i]? = some d) : d.before a0 Z = true := hw d (List.mem_of_getElem? h)
abbrev own_EL : List (String × Nat) := consts_1
theorem own_sin : ∀ w ∈ Bundle.stringAtoms, w ∈ tables_1 := by decide +kernel
theorem own_ew {Z : State} {a0 : Array Value} (hw : ∀ d ∈ tables_1, d.before a0 Z = true) : EW Z a0 own_EL := (EW.cons (hw _ (List.mem_of_getElem? (i := 83) rfl)) (by decide +kernel) EW.nil)
theorem own_ssin : ∀ w ∈ own_lv StrSizeL.tab, w ∈ tables_1 := by decide +kernel
theorem own_gcin : ∀ w ∈ own_lv GetCharsL.tab, w ∈ tables_1 := by decide +kernel

theorem ef_aini (m : MethodId) (x0 : Addr) (x1 : Int32) : entryFrame m #[(.ref x0), (.int x1)] 2 = mkF m 0 #[.val (.ref x0), .val (.int x1)] [] := by first | (simp [entryFrame, mkF, argsToLocals, Value.category]; done) | rfl
def Q_aini (Z : State) (b : Addr) (cs : Int32) (h0 : Heap) (n0 : Nat) (v : Option Value) (h : Heap) (L : List Loc) : Prop := ∃ (va : Addr) (kv : ClassId), v = none ∧ Fr n0 L ∧ Keep h0 h [b] ∧ h0.size ≤ va ∧ Exa Z h va "[B" ∧ Fld Z h b "java/lang/AbstractStringBuilder" "value" "[B" (.ref va) ∧ Fld Z h b "java/lang/AbstractStringBuilder" "coder" "B" (.int (0 : Int32)) ∧ Fld Z h b "java/lang/AbstractStringBuilder" "count" "I" (.int (0 : Int32)) ∧ Arv Z h va kv .byte (16 : Int32) ([] : List Value) (.int (0 : Int32))
set_option maxRecDepth 65536 in
set_option maxHeartbeats 40000000 in
theorem aini (l : Launch) (Z : State) (a0 : Array Value) (hw : ∀ d ∈ tables_1, d.before a0 Z = true) (ws : List Jvm.Cond) (b : Addr) (cs : Int32) (h0 : Heap) (n0 : Nat) (Z0 : n0 ≤ h0.size) (E1 : Exa Z h0 b "java/lang/StringBuilder") (G1 : n0 ≤ b) (Fv : Fld Z h0 b "java/lang/AbstractStringBuilder" "value" "[B" .null) (Fc : Fld Z h0 b "java/lang/AbstractStringBuilder" "coder" "B" (.int (0 : Int32))) (Fn : Fld Z h0 b "java/lang/AbstractStringBuilder" "count" "I" (.int (0 : Int32))) (SC : Sta Z h0 "java/lang/String" "COMPACT_STRINGS" "Z" (.int cs)) (PC : ¬ (cs = (0 : Int32))) :
    MetFree l mth0 (head1 (Jvm.Cond.code mth0 jdk_68_method_2_code 2 none :: ws) rom0) (fun a U => a = #[(.ref b), (.int (16 : Int32))] ∧ Z.Warmed39 U.vm ∧ U.heap = h0) (fun _ _ _ _ _ => True) (fun _ U o U' => ∃ v L, o = .returned v ∧ Q_aini Z b cs h0 n0 v U'.heap L ∧ FrameEnd U o U' L rom0.cells rom0.slots) := by
  refine MetFree.of_bodySF (plainFor_of_name pnm0) hisR ?_
  intro p e s m args below meth c s₁ Bd hml0 hP hK
  obtain ⟨rfl, hZ, hh⟩ := hP
  have hx := Bd.exec
  have hby := Bd.bytes
  have hml : c.maxLocals = 2 := hml0
  have hown : s.vm.findClass "java/lang/AbstractStringBuilder" = some m.cls := findClass_of_methodNamed Bd.named
  have hnm := (name_of_methodNamed Bd.named Bd.method).1
  have X0 : Stand p l e rom0 s m #[(.ref b), (.int (16 : Int32))] below meth c s₁ [] 0 0 := Stand.of_body Bd
  have eh0 : s₁.heap = h0 := by rw [← hh, Bd.state]; rfl
  have N0 := Fr.nil n0
  have tw19 := own_hw hw 19 rfl
  have tw20 := own_hw hw 20 rfl
  have tw31 := own_hw hw 31 rfl
  have tw42 := own_hw hw 42 rfl
  have tw43 := own_hw hw 43 rfl
  have tw45 := own_hw hw 45 rfl
  have tw46 := own_hw hw 46 rfl
  have tw47 := own_hw hw 47 rfl
  have tw48 := own_hw hw 48 rfl
  have tw49 := own_hw hw 49 rfl
  have tw61 := own_hw hw 61 rfl
  show Goes p e below (Pq (Q_aini Z b cs h0 n0) s rom0.cells rom0.slots) (s₁.setTop (entryFrame m #[(.ref b), (.int (16 : Int32))] 2))
  refine Goes.step (S' := s₁.setTop (mkF m 0 #[.val (.ref b), .val (.int (16 : Int32))] [])) (fun t k => castTop (ef_aini m b (16 : Int32)) k) ?_
  refine Goes.step (S' := s₁.setTop (mkF m 1 #[.val (.ref b), .val (.int (16 : Int32))] [(.ref b)])) (fun t k => XS.aloadN X0.here hx rfl (hb hby dk0) rfl rfl k) ?_
  obtain ⟨T101, X101, e101, st101⟩ := initO X0 hx hZ hown tw42 tw19 tw20 eh0 (g := (mkF m 1 #[.val (.ref b), .val (.int (16 : Int32))] [(.ref b)])) rfl (by rw [hml]; rfl) rfl (hb hby dk1) (by decide) (W := 0) (Nat.le_of_eq rfl) (by decide)
  refine Goes.step (S' := T101.setTop (mkF m 4 #[.val (.ref b), .val (.int (16 : Int32))] [])) (fun t k => st101 _ k) ?_
  obtain ⟨T102, X102, e102, st102⟩ := getS2 X101 hx hZ hown (host := "") (Or.inl tw43) Via.refl e101 SC (g := (mkF m 4 #[.val (.ref b), .val (.int (16 : Int32))] [])) rfl (hb hby dk2)
  refine Goes.step (S' := T102.setTop (mkF m 12 #[.val (.ref b), .val (.int (16 : Int32))] [(.int (16 : Int32)), (.ref b)])) (fun t k => st102 _ (XS.ifNo X102.here hx rfl (hb hby dk3) rfl ((if0 _ _).trans (feq (PC : ¬ (cs = (0 : Int32)))).1) (XS.aloadN X102.here hx rfl (hb hby dk4) rfl rfl (XS.iloadN X102.here hx rfl (hb hby dk5) rfl k)))) ?_
  obtain ⟨T103, h103, k103, X103, e103, E103, A103, AE103, st103⟩ := newPE (aty := .byte) X102 hx hZ tw45 e102 (g := (mkF m 12 #[.val (.ref b), .val (.int (16 : Int32))] [(.int (16 : Int32)), (.ref b)])) rfl (hb hby dk6) rfl (by decide) (cap := 16) (by decide) (by decide) (by decide) (by decide) (ad := "[B") rfl
  obtain ⟨b103, g103⟩ : ∃ z, z = h0.size := ⟨_, rfl⟩
  rw [← g103] at A103 AE103 st103
  have V103 : Arv Z h103 b103 k103 .byte (16 : Int32) [(.int (0 : Int32)), (.int (0 : Int32)), (.int (0 : Int32)), (.int (0 : Int32)), (.int (0 : Int32)), (.int (0 : Int32)), (.int (0 : Int32)), (.int (0 : Int32)), (.int (0 : Int32)), (.int (0 : Int32)), (.int (0 : Int32)), (.int (0 : Int32)), (.int (0 : Int32)), (.int (0 : Int32)), (.int (0 : Int32)), (.int (0 : Int32))] (.int (0 : Int32)) := (Arv.new A103 (by decide)).pad (pad_rep [] (.int (0 : Int32)) 16)
  refine Goes.step (S' := T103.setTop (mkF m 14 #[.val (.ref b), .val (.int (16 : Int32))] [(.ref b103), (.ref b)])) (fun t k => st103 _ k) ?_
  obtain ⟨T104, h104, X104, e104, W104, st104⟩ := putF X103 hx hZ hown (host := "") (Or.inl tw46) Via.refl e103 (Fld.ext E103 Fv) (Exa.ext E103 E1) (Or.inl tw47) tw31 (ty := (.array .byte)) (by decide) rfl rfl (g := (mkF m 14 #[.val (.ref b), .val (.int (16 : Int32))] [(.ref b103), (.ref b)])) rfl rfl (hb hby dk7)
  have Fw104 : Fld Z h104 b "java/lang/AbstractStringBuilder" "value" "[B" (.ref b103) := Fld.same W104 (Fld.ext E103 Fv)
  have N104 := Fr.snoc X104 N0 G1
  refine Goes.step (S' := T104.setTop (mkF m 19 #[.val (.ref b), .val (.int (16 : Int32))] [(.int (0 : Int32)), (.ref b)])) (fun t k => st104 _ (XS.aloadN X104.here hx rfl (hb hby dk8) rfl rfl (XS.iconst X104.here hx rfl (hb hby dk9) k))) ?_
  obtain ⟨T105, h105, X105, e105, W105, st105⟩ := putFN X104 hx hZ hown tw48 Via.refl e104 (Fld.other W104 (Fld.ext E103 Fc) (Or.inr (slot_ne (Or.inl tw49) (Or.inl tw47) (by decide) (t := .byte) (t' := (.array .byte)) (by decide) (by decide)))) (Exa.wr W104 (Exa.ext E103 E1)) (Or.inl tw49) tw31 (ty := .byte) (v' := (.int (0 : Int32))) (by decide) rfl (by decide) (g := (mkF m 19 #[.val (.ref b), .val (.int (16 : Int32))] [(.int (0 : Int32)), (.ref b)])) rfl rfl (hb hby dk10)
  have Fw105 : Fld Z h105 b "java/lang/AbstractStringBuilder" "coder" "B" (.int (0 : Int32)) := Fld.same W105 (Fld.other W104 (Fld.ext E103 Fc) (Or.inr (slot_ne (Or.inl tw49) (Or.inl tw47) (by decide) (t := .byte) (t' := (.array .byte)) (by decide) (by decide))))
  have N105 := Fr.snoc X105 N104 G1
  refine Goes.step (S' := T105.setTop (mkF m 38 #[.val (.ref b), .val (.int (16 : Int32))] [])) (fun t k => st105 _ (XS.goto X105.here hx rfl (pc0 := 22) (pc' := 38) rfl (hb hby dk11) (by decide) (by decide) k)) ?_
  refine Goes.leave (g := (mkF m 38 #[.val (.ref b), .val (.int (16 : Int32))] [])) X105 Bd.notSynchronized (v := none) (fun _ => rfl) (fun fs hr => X105.returnOut hx Bd.returns (hb hby dk12) hr) e105 ?_ (by decide) (by decide)
  exact ⟨b103, k103, rfl, N105, ((((Keep.refl _ [b]).ext E103).wr W104 (Or.inl (List.mem_of_getElem? (i := 0) rfl))).wr W105 (Or.inl (List.mem_of_getElem? (i := 0) rfl))), (Nat.le_of_eq g103.symm), (Exa.wr W105 (Exa.wr W104 AE103)), (Fld.other W105 Fw104 (Or.inr (slot_ne (Or.inl tw47) (Or.inl tw49) (by decide) (t := (.array .byte)) (t' := .byte) (by decide) (by decide)))), Fw105, (Fld.other W105 (Fld.other W104 (Fld.ext E103 Fn) (Or.inr (slot_ne (Or.inl tw61) (Or.inl tw47) (by decide) (t := .int) (t' := (.array .byte)) (by decide) (by decide)))) (Or.inr (slot_ne (Or.inl tw61) (Or.inl tw49) (by decide) (t := .int) (t' := .byte) (by decide) (by decide)))), (Arv.pad ((V103.other W104 (Ne.symm (Nat.ne_of_lt (Nat.lt_of_lt_of_le E1.lt (Nat.le_of_eq g103.symm))))).other W105 (Ne.symm (Nat.ne_of_lt (Nat.lt_of_lt_of_le E1.lt (Nat.le_of_eq g103.symm))))) (fun i => (pad_rep [] _ 16 i).symm))⟩

theorem ef_sini (m : MethodId) (x0 : Addr) : entryFrame m #[(.ref x0)] 1 = mkF m 0 #[.val (.ref x0)] [] := by first | (simp [entryFrame, mkF, argsToLocals, Value.category]; done) | rfl
def Q_sini (Z : State) (b : Addr) (cs : Int32) (h0 : Heap) (n0 : Nat) (v : Option Value) (h : Heap) (L : List Loc) : Prop := ∃ (va : Addr) (kv : ClassId), v = none ∧ Fr n0 L ∧ Keep h0 h [b] ∧ h0.size ≤ va ∧ Exa Z h va "[B" ∧ Fld Z h b "java/lang/AbstractStringBuilder" "value" "[B" (.ref va) ∧ Fld Z h b "java/lang/AbstractStringBuilder" "coder" "B" (.int (0 : Int32)) ∧ Fld Z h b "java/lang/AbstractStringBuilder" "count" "I" (.int (0 : Int32)) ∧ Arv Z h va kv .byte (16 : Int32) ([] : List Value) (.int (0 : Int32))
set_option maxRecDepth 65536 in
set_option maxHeartbeats 40000000 in
theorem sini (l : Launch) (Z : State) (a0 : Array Value) (hw : ∀ d ∈ tables_1, d.before a0 Z = true) (ws : List Jvm.Cond) (b : Addr) (cs : Int32) (h0 : Heap) (n0 : Nat) (Z0 : n0 ≤ h0.size) (E1 : Exa Z h0 b "java/lang/StringBuilder") (G1 : n0 ≤ b) (Fv : Fld Z h0 b "java/lang/AbstractStringBuilder" "value" "[B" .null) (Fc : Fld Z h0 b "java/lang/AbstractStringBuilder" "coder" "B" (.int (0 : Int32))) (Fn : Fld Z h0 b "java/lang/AbstractStringBuilder" "count" "I" (.int (0 : Int32))) (SC : Sta Z h0 "java/lang/String" "COMPACT_STRINGS" "Z" (.int cs)) (PC : ¬ (cs = (0 : Int32))) :
    MetFree l mth1 (head1 (Jvm.Cond.code mth1 jdk_67_method_1_code 1 none :: ws) rom1) (fun a U => a = #[(.ref b)] ∧ Z.Warmed39 U.vm ∧ U.heap = h0) (fun _ _ _ _ _ => True) (fun _ U o U' => ∃ v L, o = .returned v ∧ Q_sini Z b cs h0 n0 v U'.heap L ∧ FrameEnd U o U' L rom1.cells rom1.slots) := by
  refine MetFree.of_bodySF (plainFor_of_name pnm1) hisR ?_
  intro p e s m args below meth c s₁ Bd hml0 hP hK
  obtain ⟨rfl, hZ, hh⟩ := hP
  have hx := Bd.exec
  have hby := Bd.bytes
  have hml : c.maxLocals = 1 := hml0
  have hown : s.vm.findClass "java/lang/StringBuilder" = some m.cls := findClass_of_methodNamed Bd.named
  have hnm := (name_of_methodNamed Bd.named Bd.method).1
  have X0 : Stand p l e rom1 s m #[(.ref b)] below meth c s₁ [] 0 0 := Stand.of_body Bd
  have eh0 : s₁.heap = h0 := by rw [← hh, Bd.state]; rfl
  have N0 := Fr.nil n0
  have tw36 := own_hw hw 36 rfl
  have tw37 := own_hw hw 37 rfl
  have tw40 := own_hw hw 40 rfl
  have tw41 := own_hw hw 41 rfl
  show Goes p e below (Pq (Q_sini Z b cs h0 n0) s rom1.cells rom1.slots) (s₁.setTop (entryFrame m #[(.ref b)] 1))
  refine Goes.step (S' := s₁.setTop (mkF m 0 #[.val (.ref b)] [])) (fun t k => castTop (ef_sini m b) k) ?_
  refine Goes.step (S' := s₁.setTop (mkF m 3 #[.val (.ref b)] [(.int (16 : Int32)), (.ref b)])) (fun t k => XS.aloadN X0.here hx rfl (hb hby dk13) rfl rfl (XS.bipush X0.here hx rfl (hb hby dk14) k)) ?_
  obtain ⟨_, _, ⟨T101, L101, k101, n101⟩, -, X101, ⟨Lc101, hQ101, l101, y101, z101⟩, st101⟩ := X0.specialBack hx (y := mth0) rfl hown (mvT hZ tw36) (mvT hZ tw37) (mvT hZ tw41) (by decide) (backOf (W := 0) (aini l Z a0 hw [] b cs h0 n0 Z0 E1 G1 Fv Fc Fn SC (PC : ¬ (cs = (0 : Int32)))) hZ tw41 tw40 (by decide) (by decide)) (g := (mkF m 3 #[.val (.ref b)] [(.int (16 : Int32)), (.ref b)])) rfl (by rw [hml]; rfl) (Steps.refl _) (a := b) (argsL := [(.int (16 : Int32))]) (rest := []) (lenOf pd_I_V rfl) rfl (Nat.le_of_eq rfl) (hb hby dk15) (fun _ _ => ⟨rfl, eh0, (by decide : 0 + 1 ≤ _), (by decide : 0 + 16 ≤ _)⟩)
  dsimp only [Pt.U, Pt.locs, Pt.cells, Pt.slots] at X101 l101 y101 z101 st101 hQ101
  subst y101 z101
  obtain ⟨va_101, kv_101, rfl, Nq101, q101_0, q101_1, q101_2, q101_3, q101_4, q101_5, q101_6⟩ := hQ101
  have N101 : Fr n0 L101 := by rw [l101]; exact Fr.app N0 Nq101
  refine Goes.step (S' := T101.setTop (mkF m 6 #[.val (.ref b)] [])) (fun t k => st101.trans k) ?_
  refine Goes.leave (g := (mkF m 6 #[.val (.ref b)] [])) X101 Bd.notSynchronized (v := none) (fun _ => rfl) (fun fs hr => X101.returnOut hx Bd.returns (hb hby dk16) hr) rfl ?_ (by decide) (by decide)
  exact ⟨va_101, kv_101, rfl, N101, ((Keep.refl _ [b]).trans q101_0 (allS (Or.inl (List.mem_of_getElem? (i := 0) rfl)) all0)), q101_1, q101_2, q101_3, q101_4, q101_5, q101_6⟩

theorem ef_imax (m : MethodId) (x0 : Int32) (x1 : Int32) : entryFrame m #[(.int x0), (.int x1)] 2 = mkF m 0 #[.val (.int x0), .val (.int x1)] [] := by first | (simp [entryFrame, mkF, argsToLocals, Value.category]; done) | rfl
def Q_imax (Z : State) (p0 : Int32) (p1 : Int32) (M : Int32) (h0 : Heap) (n0 : Nat) (v : Option Value) (h : Heap) (L : List Loc) : Prop := ∃ (r : Int32), v = some (.int r) ∧ Fr n0 L ∧ h = h0 ∧ ¬ (r < p0) ∧ ¬ (r < p1) ∧ ¬ (M < r)
set_option maxRecDepth 65536 in
set_option maxHeartbeats 40000000 in
theorem imax (l : Launch) (Z : State) (a0 : Array Value) (hw : ∀ d ∈ tables_1, d.before a0 Z = true) (ws : List Jvm.Cond) (p0 : Int32) (p1 : Int32) (M : Int32) (h0 : Heap) (n0 : Nat) (Z0 : n0 ≤ h0.size) (Q0 : ¬ (M < p0)) (Q1 : ¬ (M < p1)) :
    MetFree l mth2 (head1 (Jvm.Cond.code mth2 jdk_29_method_65_code 2 (some .int) :: ws) rom2) (fun a U => a = #[(.int p0), (.int p1)] ∧ Z.Warmed39 U.vm ∧ U.heap = h0) (fun _ _ _ _ _ => True) (fun _ U o U' => ∃ v L, o = .returned v ∧ Q_imax Z p0 p1 M h0 n0 v U'.heap L ∧ FrameEnd U o U' L rom2.cells rom2.slots) := by
  refine MetFree.of_bodySF (Jvm.Free.JP.mathPlain rfl (by decide +kernel)) hisR ?_
  intro p e s m args below meth c s₁ Bd hml0 hP hK
  obtain ⟨rfl, hZ, hh⟩ := hP
  have hx := Bd.exec
  have hby := Bd.bytes
  have hml : c.maxLocals = 2 := hml0
  have hown : s.vm.findClass "java/lang/Math" = some m.cls := findClass_of_methodNamed Bd.named
  have hnm := (name_of_methodNamed Bd.named Bd.method).1
  have X0 : Stand p l e rom2 s m #[(.int p0), (.int p1)] below meth c s₁ [] 0 0 := Stand.of_body Bd
  have eh0 : s₁.heap = h0 := by rw [← hh, Bd.state]; rfl
  have N0 := Fr.nil n0
  show Goes p e below (Pq (Q_imax Z p0 p1 M h0 n0) s rom2.cells rom2.slots) (s₁.setTop (entryFrame m #[(.int p0), (.int p1)] 2))
  refine Goes.step (S' := s₁.setTop (mkF m 0 #[.val (.int p0), .val (.int p1)] [])) (fun t k => castTop (ef_imax m p0 p1) k) ?_
  refine Goes.step (S' := s₁.setTop (mkF m 2 #[.val (.int p0), .val (.int p1)] [(.int p1), (.int p0)])) (fun t k => XS.iloadN X0.here hx rfl (hb hby dk17) rfl (XS.iloadN X0.here hx rfl (hb hby dk18) rfl k)) ?_
  by_cases hc101 : p0 < p1
  case pos =>
    refine Goes.step (S' := s₁.setTop (mkF m 10 #[.val (.int p0), .val (.int p1)] [(.int p1)])) (fun t k => XS.icmpYes X0.here hx rfl (pc0 := 2) (pc' := 9) rfl (hb hby dk19) rfl (tlt hc101).1 (by decide) (by decide) (XS.iloadN X0.here hx rfl (hb hby dk22) rfl k)) ?_
    refine Goes.leave (g := (mkF m 10 #[.val (.int p0), .val (.int p1)] [(.int p1)])) X0 Bd.notSynchronized (v := (some (.int p1))) (fun h => by rw [Bd.returns] at h; cases h) (fun fs hr => retI X0 hx Bd.returns (hb hby dk23) hr) eh0 ?_ (by decide) (by decide)
    exact ⟨p1, rfl, N0, rfl, ((by have u0:=Q0; have u1:=Q1; have u2:=hc101; have u3:=rng32 M; have u4:=rng32 p0; have u5:=rng32 p1; (try simp only [Int32.lt_iff_toInt_lt, Int64.lt_iff_toInt_lt, ne_eq, ← Int32.toInt_inj, ← Int64.toInt_inj, Int32.reduceToInt, Int64.reduceToInt, Nat.reducePow] at u0 u1 u2 u3 u4 u5 ⊢); try omega) : ¬ (p1 < p0)), ((by have u0:=Q0; have u1:=Q1; have u2:=hc101; have u3:=rng32 M; have u4:=rng32 p0; have u5:=rng32 p1; (try simp only [Int32.lt_iff_toInt_lt, Int64.lt_iff_toInt_lt, ne_eq, ← Int32.toInt_inj, ← Int64.toInt_inj, Int32.reduceToInt, Int64.reduceToInt, Nat.reducePow] at u0 u1 u2 u3 u4 u5 ⊢); try omega) : ¬ (p1 < p1)), (Q1 : ¬ (M < p1))⟩
  case neg =>
    refine Goes.step (S' := s₁.setTop (mkF m 10 #[.val (.int p0), .val (.int p1)] [(.int p0)])) (fun t k => XS.icmpNo X0.here hx rfl (hb hby dk19) rfl (flt hc101).1 (XS.iloadN X0.here hx rfl (hb hby dk20) rfl (XS.goto X0.here hx rfl (pc0 := 6) (pc' := 10) rfl (hb hby dk21) (by decide) (by decide) k))) ?_
    refine Goes.leave (g := (mkF m 10 #[.val (.int p0), .val (.int p1)] [(.int p0)])) X0 Bd.notSynchronized (v := (some (.int p0))) (fun h => by rw [Bd.returns] at h; cases h) (fun fs hr => retI X0 hx Bd.returns (hb hby dk23) hr) eh0 ?_ (by decide) (by decide)
    exact ⟨p0, rfl, N0, rfl, ((by have u0:=Q0; have u1:=Q1; have u2:=hc101; have u3:=rng32 M; have u4:=rng32 p0; have u5:=rng32 p1; (try simp only [Int32.lt_iff_toInt_lt, Int64.lt_iff_toInt_lt, ne_eq, ← Int32.toInt_inj, ← Int64.toInt_inj, Int32.reduceToInt, Int64.reduceToInt, Nat.reducePow] at u0 u1 u2 u3 u4 u5 ⊢); try omega) : ¬ (p0 < p0)), (hc101 : ¬ (p0 < p1)), (Q0 : ¬ (M < p0))⟩

theorem ef_imin (m : MethodId) (x0 : Int32) (x1 : Int32) : entryFrame m #[(.int x0), (.int x1)] 2 = mkF m 0 #[.val (.int x0), .val (.int x1)] [] := by first | (simp [entryFrame, mkF, argsToLocals, Value.category]; done) | rfl
def Q_imin (Z : State) (p0 : Int32) (p1 : Int32) (h0 : Heap) (n0 : Nat) (v : Option Value) (h : Heap) (L : List Loc) : Prop := v = some (.int p0) ∧ Fr n0 L ∧ h = h0
set_option maxRecDepth 65536 in
set_option maxHeartbeats 40000000 in
theorem imin (l : Launch) (Z : State) (a0 : Array Value) (hw : ∀ d ∈ tables_1, d.before a0 Z = true) (ws : List Jvm.Cond) (p0 : Int32) (p1 : Int32) (h0 : Heap) (n0 : Nat) (Z0 : n0 ≤ h0.size) (Q0 : ¬ (p1 < p0)) :
    MetFree l mth3 (head1 (Jvm.Cond.code mth3 jdk_29_method_69_code 2 (some .int) :: ws) rom2) (fun a U => a = #[(.int p0), (.int p1)] ∧ Z.Warmed39 U.vm ∧ U.heap = h0) (fun _ _ _ _ _ => True) (fun _ U o U' => ∃ v L, o = .returned v ∧ Q_imin Z p0 p1 h0 n0 v U'.heap L ∧ FrameEnd U o U' L rom2.cells rom2.slots) := by
  refine MetFree.of_bodySF (Jvm.Free.JP.mathPlain rfl (by decide +kernel)) hisR ?_
  intro p e s m args below meth c s₁ Bd hml0 hP hK
  obtain ⟨rfl, hZ, hh⟩ := hP
  have hx := Bd.exec
  have hby := Bd.bytes
  have hml : c.maxLocals = 2 := hml0
  have hown : s.vm.findClass "java/lang/Math" = some m.cls := findClass_of_methodNamed Bd.named
  have hnm := (name_of_methodNamed Bd.named Bd.method).1
  have X0 : Stand p l e rom2 s m #[(.int p0), (.int p1)] below meth c s₁ [] 0 0 := Stand.of_body Bd
  have eh0 : s₁.heap = h0 := by rw [← hh, Bd.state]; rfl
  have N0 := Fr.nil n0
  show Goes p e below (Pq (Q_imin Z p0 p1 h0 n0) s rom2.cells rom2.slots) (s₁.setTop (entryFrame m #[(.int p0), (.int p1)] 2))
  refine Goes.step (S' := s₁.setTop (mkF m 0 #[.val (.int p0), .val (.int p1)] [])) (fun t k => castTop (ef_imin m p0 p1) k) ?_
  refine Goes.step (S' := s₁.setTop (mkF m 10 #[.val (.int p0), .val (.int p1)] [(.int p0)])) (fun t k => XS.iloadN X0.here hx rfl (hb hby dk24) rfl (XS.iloadN X0.here hx rfl (hb hby dk25) rfl (XS.icmpNo X0.here hx rfl (hb hby dk26) rfl (flt (Q0 : ¬ (p1 < p0))).2.2.1 (XS.iloadN X0.here hx rfl (hb hby dk27) rfl (XS.goto X0.here hx rfl (pc0 := 6) (pc' := 10) rfl (hb hby dk28) (by decide) (by decide) k))))) ?_
  refine Goes.leave (g := (mkF m 10 #[.val (.int p0), .val (.int p1)] [(.int p0)])) X0 Bd.notSynchronized (v := (some (.int p0))) (fun h => by rw [Bd.returns] at h; cases h) (fun fs hr => retI X0 hx Bd.returns (hb hby dk29) hr) eh0 ?_ (by decide) (by decide)
  exact ⟨rfl, N0, rfl⟩

theorem ef_imin2 (m : MethodId) (x0 : Int32) (x1 : Int32) : entryFrame m #[(.int x0), (.int x1)] 2 = mkF m 0 #[.val (.int x0), .val (.int x1)] [] := by first | (simp [entryFrame, mkF, argsToLocals, Value.category]; done) | rfl
def Q_imin2 (Z : State) (p0 : Int32) (p1 : Int32) (h0 : Heap) (n0 : Nat) (v : Option Value) (h : Heap) (L : List Loc) : Prop := v = some (.int p1) ∧ Fr n0 L ∧ h = h0
set_option maxRecDepth 65536 in
set_option maxHeartbeats 40000000 in
theorem imin2 (l : Launch) (Z : State) (a0 : Array Value) (hw : ∀ d ∈ tables_1, d.before a0 Z = true) (ws : List Jvm.Cond) (p0 : Int32) (p1 : Int32) (h0 : Heap) (n0 : Nat) (Z0 : n0 ≤ h0.size) (Q0 : p1 < p0) :
    MetFree l mth3 (head1 (Jvm.Cond.code mth3 jdk_29_method_69_code 2 (some .int) :: ws) rom2) (fun a U => a = #[(.int p0), (.int p1)] ∧ Z.Warmed39 U.vm ∧ U.heap = h0) (fun _ _ _ _ _ => True) (fun _ U o U' => ∃ v L, o = .returned v ∧ Q_imin2 Z p0 p1 h0 n0 v U'.heap L ∧ FrameEnd U o U' L rom2.cells rom2.slots) := by
  refine MetFree.of_bodySF (Jvm.Free.JP.mathPlain rfl (by decide +kernel)) hisR ?_
  intro p e s m args below meth c s₁ Bd hml0 hP hK
  obtain ⟨rfl, hZ, hh⟩ := hP
  have hx := Bd.exec
  have hby := Bd.bytes
  have hml : c.maxLocals = 2 := hml0
  have hown : s.vm.findClass "java/lang/Math" = some m.cls := findClass_of_methodNamed Bd.named
  have hnm := (name_of_methodNamed Bd.named Bd.method).1
  have X0 : Stand p l e rom2 s m #[(.int p0), (.int p1)] below meth c s₁ [] 0 0 := Stand.of_body Bd
  have eh0 : s₁.heap = h0 := by rw [← hh, Bd.state]; rfl
  have N0 := Fr.nil n0
  show Goes p e below (Pq (Q_imin2 Z p0 p1 h0 n0) s rom2.cells rom2.slots) (s₁.setTop (entryFrame m #[(.int p0), (.int p1)] 2))
  refine Goes.step (S' := s₁.setTop (mkF m 0 #[.val (.int p0), .val (.int p1)] [])) (fun t k => castTop (ef_imin2 m p0 p1) k) ?_
  refine Goes.step (S' := s₁.setTop (mkF m 10 #[.val (.int p0), .val (.int p1)] [(.int p1)])) (fun t k => XS.iloadN X0.here hx rfl (hb hby dk24) rfl (XS.iloadN X0.here hx rfl (hb hby dk25) rfl (XS.icmpYes X0.here hx rfl (pc0 := 2) (pc' := 9) rfl (hb hby dk26) rfl (tlt (Q0 : p1 < p0)).2.2.1 (by decide) (by decide) (XS.iloadN X0.here hx rfl (hb hby dk30) rfl k)))) ?_
  refine Goes.leave (g := (mkF m 10 #[.val (.int p0), .val (.int p1)] [(.int p1)])) X0 Bd.notSynchronized (v := (some (.int p1))) (fun h => by rw [Bd.returns] at h; cases h) (fun fs hr => retI X0 hx Bd.returns (hb hby dk29) hr) eh0 ?_ (by decide) (by decide)
  exact ⟨rfl, N0, rfl⟩

theorem ef_nlen (m : MethodId) (x0 : Int32) (x1 : Int32) (x2 : Int32) : entryFrame m #[(.int x0), (.int x1), (.int x2)] 4 = mkF m 0 #[.val (.int x0), .val (.int x1), .val (.int x2), .unset] [] := by first | (simp [entryFrame, mkF, argsToLocals, Value.category]; done) | rfl
def Q_nlen (Z : State) (p0 : Int32) (p1 : Int32) (p2 : Int32) (M : Int32) (h0 : Heap) (n0 : Nat) (v : Option Value) (h : Heap) (L : List Loc) : Prop := ∃ (r : Int32), v = some (.int r) ∧ Fr n0 L ∧ h = h0 ∧ ¬ (r < (p0 + p1)) ∧ ¬ (M < r) ∧ ¬ (r < (p0 + p2))
set_option maxRecDepth 65536 in
set_option maxHeartbeats 40000000 in
theorem nlen (l : Launch) (Z : State) (a0 : Array Value) (hw : ∀ d ∈ tables_1, d.before a0 Z = true) (ws : List Jvm.Cond) (p0 : Int32) (p1 : Int32) (p2 : Int32) (M : Int32) (h0 : Heap) (n0 : Nat) (Z0 : n0 ≤ h0.size) (Q0 : ¬ (p0 < (0 : Int32))) (Q1 : (0 : Int32) < p1) (Q2 : ¬ (p2 < (0 : Int32))) (Q3 : ¬ (M < (p0 + p1))) (Q4 : ¬ (M < (p0 + p2))) (Q5 : ¬ ((1000 : Int32) < M)) (Q6 : ¬ ((1000 : Int32) < p0)) (Q7 : ¬ ((1000 : Int32) < p1)) (Q8 : ¬ ((1000 : Int32) < p2)) :
    MetFree l mth4 (head1 (Jvm.Cond.code mth4 jdk_48_method_27_code 4 (some .int) :: ws) rom3) (fun a U => a = #[(.int p0), (.int p1), (.int p2)] ∧ Z.Warmed39 U.vm ∧ U.heap = h0) (fun _ _ _ _ _ => True) (fun _ U o U' => ∃ v L, o = .returned v ∧ Q_nlen Z p0 p1 p2 M h0 n0 v U'.heap L ∧ FrameEnd U o U' L rom3.cells rom3.slots) := by
  refine MetFree.of_bodySF (plainFor_of_name pnm2) hisR ?_
  intro p e s m args below meth c s₁ Bd hml0 hP hK
  obtain ⟨rfl, hZ, hh⟩ := hP
  have hx := Bd.exec
  have hby := Bd.bytes
  have hml : c.maxLocals = 4 := hml0
  have hown : s.vm.findClass "jdk/internal/util/ArraysSupport" = some m.cls := findClass_of_methodNamed Bd.named
  have hnm := (name_of_methodNamed Bd.named Bd.method).1
  have X0 : Stand p l e rom3 s m #[(.int p0), (.int p1), (.int p2)] below meth c s₁ [] 0 0 := Stand.of_body Bd
  have eh0 : s₁.heap = h0 := by rw [← hh, Bd.state]; rfl
  have N0 := Fr.nil n0
  have tw2 := own_hw hw 2 rfl
  have tw233 := own_hw hw 233 rfl
  have tw234 := own_hw hw 234 rfl
  have tw235 := own_hw hw 235 rfl
  have tw236 := own_hw hw 236 rfl
  show Goes p e below (Pq (Q_nlen Z p0 p1 p2 M h0 n0) s rom3.cells rom3.slots) (s₁.setTop (entryFrame m #[(.int p0), (.int p1), (.int p2)] 4))
  refine Goes.step (S' := s₁.setTop (mkF m 0 #[.val (.int p0), .val (.int p1), .val (.int p2), .unset] [])) (fun t k => castTop (ef_nlen m p0 p1 p2) k) ?_
  refine Goes.step (S' := s₁.setTop (mkF m 3 #[.val (.int p0), .val (.int p1), .val (.int p2), .unset] [(.int p2), (.int p1), (.int p0)])) (fun t k => XS.iloadN X0.here hx rfl (hb hby dk31) rfl (XS.iloadN X0.here hx rfl (hb hby dk32) rfl (XS.iloadN X0.here hx rfl (hb hby dk33) rfl k))) ?_
  obtain ⟨_, _, ⟨T101, L101, k101, n101⟩, -, X101, ⟨Lc101, hQ101, l101, y101, z101⟩, st101⟩ := Jvm.LawKit.callS X0 hx (y := mth2) hown (mvT hZ tw233) (mvT hZ tw234) (mvT hZ tw2) (mvT hZ tw235) (by decide) (backOf (W := 1) (imax l Z a0 hw [] p1 p2 (M - p0) h0 n0 Z0 ((by have u0:=Q0; have u1:=Q1; have u2:=Q2; have u3:=Q3; have u4:=Q4; have u5:=Q5; have u6:=Q6; have u7:=Q7; have u8:=Q8; have u9:=rng32 p0; have u10:=rng32 p1; have u11:=rng32 p2; have u12:=rng32 M; have u13:=rng32 (p0 + p1); have u14:=c_iadd p0 p1; have u15:=rng32 (p0 + p2); have u16:=c_iadd p0 p2; have u17:=rng32 (M - p0); have u18:=c_isub M p0; (try simp only [Int32.lt_iff_toInt_lt, Int64.lt_iff_toInt_lt, ne_eq, ← Int32.toInt_inj, ← Int64.toInt_inj, Int32.reduceToInt, Int64.reduceToInt, Nat.reducePow] at u0 u1 u2 u3 u4 u5 u6 u7 u8 u9 u10 u11 u12 u13 u14 u15 u16 u17 u18 ⊢); try omega) : ¬ ((M - p0) < p1)) ((by have u0:=Q0; have u1:=Q1; have u2:=Q2; have u3:=Q3; have u4:=Q4; have u5:=Q5; have u6:=Q6; have u7:=Q7; have u8:=Q8; have u9:=rng32 p0; have u10:=rng32 p1; have u11:=rng32 p2; have u12:=rng32 M; have u13:=rng32 (p0 + p1); have u14:=c_iadd p0 p1; have u15:=rng32 (p0 + p2); have u16:=c_iadd p0 p2; have u17:=rng32 (M - p0); have u18:=c_isub M p0; (try simp only [Int32.lt_iff_toInt_lt, Int64.lt_iff_toInt_lt, ne_eq, ← Int32.toInt_inj, ← Int64.toInt_inj, Int32.reduceToInt, Int64.reduceToInt, Nat.reducePow] at u0 u1 u2 u3 u4 u5 u6 u7 u8 u9 u10 u11 u12 u13 u14 u15 u16 u17 u18 ⊢); try omega) : ¬ ((M - p0) < p2))) hZ tw235 tw2 (by decide) (by decide)) (g := (mkF m 3 #[.val (.int p0), .val (.int p1), .val (.int p2), .unset] [(.int p2), (.int p1), (.int p0)])) rfl (by rw [hml]; rfl) (argsL := [(.int p1), (.int p2)]) (rest := [(.int p0)]) (lenOf pd_II_I rfl) rfl (Nat.le_of_eq rfl) (hb hby dk34) (fun _ _ => ⟨rfl, eh0, (by decide : 0 + 0 ≤ _), (by decide : 0 + 0 ≤ _)⟩)
  dsimp only [Pt.U, Pt.locs, Pt.cells, Pt.slots] at X101 l101 y101 z101 st101 hQ101
  subst y101 z101
  obtain ⟨r_101, rfl, Nq101, q101_0, q101_1, q101_2, q101_3⟩ := hQ101
  have N101 : Fr n0 L101 := by rw [l101]; exact Fr.app N0 Nq101
  refine Goes.step (S' := T101.setTop (mkF m 16 #[.val (.int p0), .val (.int p1), .val (.int p2), .val (.int (p0 + r_101))] [(.int (2147483639 : Int32)), (.int (p0 + r_101))])) (fun t k => st101 _ (XS.iadd X101.here hx rfl (hb hby dk35) rfl (XS.istoreN X101.here hx rfl (hb hby dk36) rfl (l' := #[.val (.int p0), .val (.int p1), .val (.int p2), .val (.int (p0 + r_101))]) rfl (XS.iconst X101.here hx rfl (hb hby dk37) (XS.iloadN X101.here hx rfl (hb hby dk38) rfl (XS.icmpNo X101.here hx rfl (hb hby dk39) rfl (tlt ((by have u0:=Q0; have u1:=Q1; have u2:=Q2; have u3:=Q3; have u4:=Q4; have u5:=Q5; have u6:=Q6; have u7:=Q7; have u8:=Q8; have u9:=q101_1; have u10:=q101_2; have u11:=q101_3; have u12:=rng32 p0; have u13:=rng32 p1; have u14:=rng32 p2; have u15:=rng32 M; have u16:=rng32 (p0 + p1); have u17:=c_iadd p0 p1; have u18:=rng32 (p0 + p2); have u19:=c_iadd p0 p2; have u20:=rng32 r_101; have u21:=rng32 (M - p0); have u22:=c_isub M p0; have u23:=rng32 (p0 + r_101); have u24:=c_iadd p0 r_101; (try simp only [Int32.lt_iff_toInt_lt, Int64.lt_iff_toInt_lt, ne_eq, ← Int32.toInt_inj, ← Int64.toInt_inj, Int32.reduceToInt, Int64.reduceToInt, Nat.reducePow] at u0 u1 u2 u3 u4 u5 u6 u7 u8 u9 u10 u11 u12 u13 u14 u15 u16 u17 u18 u19 u20 u21 u22 u23 u24 ⊢); try omega) : (0 : Int32) < (p0 + r_101))).2.1 (XS.iloadN X101.here hx rfl (hb hby dk40) rfl (X101.ldcInt hx hown (mvT hZ tw236) (g := (mkF m 14 #[.val (.int p0), .val (.int p1), .val (.int p2), .val (.int (p0 + r_101))] [(.int (p0 + r_101))])) rfl (hb hby dk41) _ k)))))))) ?_
  refine Goes.step (S' := T101.setTop (mkF m 20 #[.val (.int p0), .val (.int p1), .val (.int p2), .val (.int (p0 + r_101))] [(.int (p0 + r_101))])) (fun t k => XS.icmpNo X101.here hx rfl (hb hby dk42) rfl (flt ((by have u0:=Q0; have u1:=Q1; have u2:=Q2; have u3:=Q3; have u4:=Q4; have u5:=Q5; have u6:=Q6; have u7:=Q7; have u8:=Q8; have u9:=q101_1; have u10:=q101_2; have u11:=q101_3; have u12:=rng32 p0; have u13:=rng32 p1; have u14:=rng32 p2; have u15:=rng32 M; have u16:=rng32 (p0 + p1); have u17:=c_iadd p0 p1; have u18:=rng32 (p0 + p2); have u19:=c_iadd p0 p2; have u20:=rng32 r_101; have u21:=rng32 (M - p0); have u22:=c_isub M p0; have u23:=rng32 (p0 + r_101); have u24:=c_iadd p0 r_101; (try simp only [Int32.lt_iff_toInt_lt, Int64.lt_iff_toInt_lt, ne_eq, ← Int32.toInt_inj, ← Int64.toInt_inj, Int32.reduceToInt, Int64.reduceToInt, Nat.reducePow] at u0 u1 u2 u3 u4 u5 u6 u7 u8 u9 u10 u11 u12 u13 u14 u15 u16 u17 u18 u19 u20 u21 u22 u23 u24 ⊢); try omega) : ¬ ((2147483639 : Int32) < (p0 + r_101)))).2.2.1 (XS.iloadN X101.here hx rfl (hb hby dk43) rfl k)) ?_
  refine Goes.leave (g := (mkF m 20 #[.val (.int p0), .val (.int p1), .val (.int p2), .val (.int (p0 + r_101))] [(.int (p0 + r_101))])) X101 Bd.notSynchronized (v := (some (.int (p0 + r_101)))) (fun h => by rw [Bd.returns] at h; cases h) (fun fs hr => retI X101 hx Bd.returns (hb hby dk44) hr) q101_0 ?_ (by decide) (by decide)
  exact ⟨(p0 + r_101), rfl, N101, rfl, ((by have u0:=Q0; have u1:=Q1; have u2:=Q2; have u3:=Q3; have u4:=Q4; have u5:=Q5; have u6:=Q6; have u7:=Q7; have u8:=Q8; have u9:=q101_1; have u10:=q101_2; have u11:=q101_3; have u12:=rng32 p0; have u13:=rng32 p1; have u14:=rng32 p2; have u15:=rng32 M; have u16:=rng32 (p0 + p1); have u17:=c_iadd p0 p1; have u18:=rng32 (p0 + p2); have u19:=c_iadd p0 p2; have u20:=rng32 r_101; have u21:=rng32 (M - p0); have u22:=c_isub M p0; have u23:=rng32 (p0 + r_101); have u24:=c_iadd p0 r_101; (try simp only [Int32.lt_iff_toInt_lt, Int64.lt_iff_toInt_lt, ne_eq, ← Int32.toInt_inj, ← Int64.toInt_inj, Int32.reduceToInt, Int64.reduceToInt, Nat.reducePow] at u0 u1 u2 u3 u4 u5 u6 u7 u8 u9 u10 u11 u12 u13 u14 u15 u16 u17 u18 u19 u20 u21 u22 u23 u24 ⊢); try omega) : ¬ ((p0 + r_101) < (p0 + p1))), ((by have u0:=Q0; have u1:=Q1; have u2:=Q2; have u3:=Q3; have u4:=Q4; have u5:=Q5; have u6:=Q6; have u7:=Q7; have u8:=Q8; have u9:=q101_1; have u10:=q101_2; have u11:=q101_3; have u12:=rng32 p0; have u13:=rng32 p1; have u14:=rng32 p2; have u15:=rng32 M; have u16:=rng32 (p0 + p1); have u17:=c_iadd p0 p1; have u18:=rng32 (p0 + p2); have u19:=c_iadd p0 p2; have u20:=rng32 r_101; have u21:=rng32 (M - p0); have u22:=c_isub M p0; have u23:=rng32 (p0 + r_101); have u24:=c_iadd p0 r_101; (try simp only [Int32.lt_iff_toInt_lt, Int64.lt_iff_toInt_lt, ne_eq, ← Int32.toInt_inj, ← Int64.toInt_inj, Int32.reduceToInt, Int64.reduceToInt, Nat.reducePow] at u0 u1 u2 u3 u4 u5 u6 u7 u8 u9 u10 u11 u12 u13 u14 u15 u16 u17 u18 u19 u20 u21 u22 u23 u24 ⊢); try omega) : ¬ (M < (p0 + r_101))), ((by have u0:=Q0; have u1:=Q1; have u2:=Q2; have u3:=Q3; have u4:=Q4; have u5:=Q5; have u6:=Q6; have u7:=Q7; have u8:=Q8; have u9:=q101_1; have u10:=q101_2; have u11:=q101_3; have u12:=rng32 p0; have u13:=rng32 p1; have u14:=rng32 p2; have u15:=rng32 M; have u16:=rng32 (p0 + p1); have u17:=c_iadd p0 p1; have u18:=rng32 (p0 + p2); have u19:=c_iadd p0 p2; have u20:=rng32 r_101; have u21:=rng32 (M - p0); have u22:=c_isub M p0; have u23:=rng32 (p0 + r_101); have u24:=c_iadd p0 r_101; (try simp only [Int32.lt_iff_toInt_lt, Int64.lt_iff_toInt_lt, ne_eq, ← Int32.toInt_inj, ← Int64.toInt_inj, Int32.reduceToInt, Int64.reduceToInt, Nat.reducePow] at u0 u1 u2 u3 u4 u5 u6 u7 u8 u9 u10 u11 u12 u13 u14 u15 u16 u17 u18 u19 u20 u21 u22 u23 u24 ⊢); try omega) : ¬ ((p0 + r_101) < (p0 + p2)))⟩

theorem ef_nc (m : MethodId) (x0 : Addr) (x1 : Int32) : entryFrame m #[(.ref x0), (.int x1)] 6 = mkF m 0 #[.val (.ref x0), .val (.int x1), .unset, .unset, .unset, .unset] [] := by first | (simp [entryFrame, mkF, argsToLocals, Value.category]; done) | rfl
def Q_nc (Z : State) (b : Addr) (va : Addr) (kv : ClassId) (C : Int32) (vs : List Value) (mm : Int32) (M : Int32) (h0 : Heap) (n0 : Nat) (v : Option Value) (h : Heap) (L : List Loc) : Prop := ∃ (r : Int32), v = some (.int r) ∧ Fr n0 L ∧ h = h0 ∧ ¬ (r < mm) ∧ ¬ (M < r) ∧ ¬ (r < (C + (C + (2 : Int32))))
set_option maxRecDepth 65536 in
set_option maxHeartbeats 40000000 in
theorem nc (l : Launch) (Z : State) (a0 : Array Value) (hw : ∀ d ∈ tables_1, d.before a0 Z = true) (ws : List Jvm.Cond) (b : Addr) (va : Addr) (kv : ClassId) (C : Int32) (vs : List Value) (mm : Int32) (M : Int32) (h0 : Heap) (n0 : Nat) (Z0 : n0 ≤ h0.size) (Fv : Fld Z h0 b "java/lang/AbstractStringBuilder" "value" "[B" (.ref va)) (Fc : Fld Z h0 b "java/lang/AbstractStringBuilder" "coder" "B" (.int (0 : Int32))) (V1 : Arv Z h0 va kv .byte C vs (.int (0 : Int32))) (Q0 : ¬ (C < (0 : Int32))) (Q1 : C < mm) (Q2 : ¬ (M < mm)) (Q3 : ¬ (M < (C + (C + (2 : Int32))))) (Q4 : ¬ ((1000 : Int32) < M)) (Q5 : ¬ ((500 : Int32) < C)) :
    MetFree l mth5 (head1 (Jvm.Cond.code mth5 jdk_68_method_10_code 6 (some .int) :: ws) rom4) (fun a U => a = #[(.ref b), (.int mm)] ∧ Z.Warmed39 U.vm ∧ U.heap = h0) (fun _ _ _ _ _ => True) (fun _ U o U' => ∃ v L, o = .returned v ∧ Q_nc Z b va kv C vs mm M h0 n0 v U'.heap L ∧ FrameEnd U o U' L rom4.cells rom4.slots) := by
  refine MetFree.of_bodySF (plainFor_of_name pnm0) hisR ?_
  intro p e s m args below meth c s₁ Bd hml0 hP hK
  obtain ⟨rfl, hZ, hh⟩ := hP
  have hx := Bd.exec
  have hby := Bd.bytes
  have hml : c.maxLocals = 6 := hml0
  have hown : s.vm.findClass "java/lang/AbstractStringBuilder" = some m.cls := findClass_of_methodNamed Bd.named
  have hnm := (name_of_methodNamed Bd.named Bd.method).1
  have X0 : Stand p l e rom4 s m #[(.ref b), (.int mm)] below meth c s₁ [] 0 0 := Stand.of_body Bd
  have eh0 : s₁.heap = h0 := by rw [← hh, Bd.state]; rfl
  have N0 := Fr.nil n0
  have tw46 := own_hw hw 46 rfl
  have tw48 := own_hw hw 48 rfl
  have tw229 := own_hw hw 229 rfl
  have tw230 := own_hw hw 230 rfl
  have tw231 := own_hw hw 231 rfl
  have tw232 := own_hw hw 232 rfl
  have tw237 := own_hw hw 237 rfl
  show Goes p e below (Pq (Q_nc Z b va kv C vs mm M h0 n0) s rom4.cells rom4.slots) (s₁.setTop (entryFrame m #[(.ref b), (.int mm)] 6))
  refine Goes.step (S' := s₁.setTop (mkF m 0 #[.val (.ref b), .val (.int mm), .unset, .unset, .unset, .unset] [])) (fun t k => castTop (ef_nc m b mm) k) ?_
  refine Goes.step (S' := s₁.setTop (mkF m 1 #[.val (.ref b), .val (.int mm), .unset, .unset, .unset, .unset] [(.ref b)])) (fun t k => XS.aloadN X0.here hx rfl (hb hby dk45) rfl rfl k) ?_
  obtain ⟨T101, X101, e101, st101⟩ := getF X0 hx hZ hown (host := "") (Or.inl tw46) Via.refl eh0 Fv (g := (mkF m 1 #[.val (.ref b), .val (.int mm), .unset, .unset, .unset, .unset] [(.ref b)])) rfl rfl (hb hby dk46)
  refine Goes.step (S' := T101.setTop (mkF m 4 #[.val (.ref b), .val (.int mm), .unset, .unset, .unset, .unset] [(.ref va)])) (fun t k => st101 _ k) ?_
  obtain ⟨cl102, Ar102, qk102, Sz102, Nn102, Hs102, Gs102⟩ := id V1
  refine Goes.step (S' := T101.setTop (mkF m 5 #[.val (.ref b), .val (.int mm), .unset, .unset, .unset, .unset] [(.int C)])) (fun t k => X101.arraylength hx (by rw [e101]; exact Ar102.1) (State.isArrayOf_alike hZ.alike Ar102.2.1) (g := (mkF m 4 #[.val (.ref b), .val (.int mm), .unset, .unset, .unset, .unset] [(.ref va)])) rfl rfl (hb hby dk47) _ (by rw [len_of Sz102 Nn102]; exact k)) ?_
  refine Goes.step (S' := T101.setTop (mkF m 8 #[.val (.ref b), .val (.int mm), .val (.int C), .unset, .unset, .unset] [(.ref b), (.int mm)])) (fun t k => XS.istoreN X101.here hx rfl (hb hby dk48) rfl (l' := #[.val (.ref b), .val (.int mm), .val (.int C), .unset, .unset, .unset]) rfl (XS.iloadN X101.here hx rfl (hb hby dk49) rfl (XS.aloadN X101.here hx rfl (hb hby dk50) rfl rfl k))) ?_
  obtain ⟨T103, X103, e103, st103⟩ := getF X101 hx hZ hown (host := "") (Or.inl tw48) Via.refl e101 Fc (g := (mkF m 8 #[.val (.ref b), .val (.int mm), .val (.int C), .unset, .unset, .unset] [(.ref b), (.int mm)])) rfl rfl (hb hby dk51)
  refine Goes.step (S' := T103.setTop (mkF m 11 #[.val (.ref b), .val (.int mm), .val (.int C), .unset, .unset, .unset] [(.int (0 : Int32)), (.int mm)])) (fun t k => st103 _ k) ?_
  refine Goes.step (S' := T103.setTop (mkF m 12 #[.val (.ref b), .val (.int mm), .val (.int C), .unset, .unset, .unset] [(.int mm)])) (fun t k => XS.ishl X103.here hx rfl (hb hby dk52) rfl (by rw [own_shl0]; exact k)) ?_
  refine Goes.step (S' := T103.setTop (mkF m 22 #[.val (.ref b), .val (.int mm), .val (.int C), .val (.int mm), .val (.int (mm - C)), .unset] [(.int C), (.int (mm - C)), (.int C)])) (fun t k => XS.istoreN X103.here hx rfl (hb hby dk53) rfl (l' := #[.val (.ref b), .val (.int mm), .val (.int C), .val (.int mm), .unset, .unset]) rfl (XS.iloadN X103.here hx rfl (hb hby dk54) rfl (XS.iloadN X103.here hx rfl (hb hby dk55) rfl (XS.isub X103.here hx rfl (hb hby dk56) rfl (XS.istore X103.here hx rfl (hb hby dk57) rfl (l' := #[.val (.ref b), .val (.int mm), .val (.int C), .val (.int mm), .val (.int (mm - C)), .unset]) rfl (XS.iloadN X103.here hx rfl (hb hby dk58) rfl (XS.iload X103.here hx rfl (hb hby dk59) rfl (XS.iloadN X103.here hx rfl (hb hby dk60) rfl k)))))))) ?_
  refine Goes.step (S' := T103.setTop (mkF m 24 #[.val (.ref b), .val (.int mm), .val (.int C), .val (.int mm), .val (.int (mm - C)), .unset] [(.ref b), (.int (2 : Int32)), (.int C), (.int (mm - C)), (.int C)])) (fun t k => XS.iconst X103.here hx rfl (hb hby dk61) (XS.aloadN X103.here hx rfl (hb hby dk62) rfl rfl k)) ?_
  obtain ⟨T104, X104, e104, st104⟩ := getF X103 hx hZ hown (host := "") (Or.inl tw48) Via.refl e103 Fc (g := (mkF m 24 #[.val (.ref b), .val (.int mm), .val (.int C), .val (.int mm), .val (.int (mm - C)), .unset] [(.ref b), (.int (2 : Int32)), (.int C), (.int (mm - C)), (.int C)])) rfl rfl (hb hby dk63)
  refine Goes.step (S' := T104.setTop (mkF m 28 #[.val (.ref b), .val (.int mm), .val (.int C), .val (.int mm), .val (.int (mm - C)), .unset] [(.int ((2 : Int32) <<< ((0 : Int32) &&& 31))), (.int C), (.int (mm - C)), (.int C)])) (fun t k => st104 _ (XS.ishl X104.here hx rfl (hb hby dk64) rfl k)) ?_
  rw [show ((2 : Int32) <<< ((0 : Int32) &&& 31)) = (2 : Int32) from by decide]
  refine Goes.step (S' := T104.setTop (mkF m 29 #[.val (.ref b), .val (.int mm), .val (.int C), .val (.int mm), .val (.int (mm - C)), .unset] [(.int (C + (2 : Int32))), (.int (mm - C)), (.int C)])) (fun t k => XS.iadd X104.here hx rfl (hb hby dk65) rfl k) ?_
  obtain ⟨_, _, ⟨T105, L105, k105, n105⟩, -, X105, ⟨Lc105, hQ105, l105, y105, z105⟩, st105⟩ := Jvm.LawKit.callS X104 hx (y := mth4) hown (mvT hZ tw229) (mvT hZ tw230) (mvT hZ tw231) (mvT hZ tw232) (by decide) (backOf (W := 0) (nlen l Z a0 hw [] C (mm - C) (C + (2 : Int32)) M h0 n0 Z0 (Q0 : ¬ (C < (0 : Int32))) ((by have u0:=Q0; have u1:=Q1; have u2:=Q2; have u3:=Q3; have u4:=Q4; have u5:=Q5; have u6:=rng32 C; have u7:=rng32 mm; have u8:=rng32 M; have u9:=rng32 (C + (C + (2 : Int32))); have u10:=c_iadd C (C + (2 : Int32)); have u11:=rng32 (C + (2 : Int32)); have u12:=c_iadd C (2 : Int32); have u13:=rng32 (mm - C); have u14:=c_isub mm C; (try simp only [Int32.lt_iff_toInt_lt, Int64.lt_iff_toInt_lt, ne_eq, ← Int32.toInt_inj, ← Int64.toInt_inj, Int32.reduceToInt, Int64.reduceToInt, Nat.reducePow] at u0 u1 u2 u3 u4 u5 u6 u7 u8 u9 u10 u11 u12 u13 u14 ⊢); try omega) : (0 : Int32) < (mm - C)) ((by have u0:=Q0; have u1:=Q1; have u2:=Q2; have u3:=Q3; have u4:=Q4; have u5:=Q5; have u6:=rng32 C; have u7:=rng32 mm; have u8:=rng32 M; have u9:=rng32 (C + (C + (2 : Int32))); have u10:=c_iadd C (C + (2 : Int32)); have u11:=rng32 (C + (2 : Int32)); have u12:=c_iadd C (2 : Int32); (try simp only [Int32.lt_iff_toInt_lt, Int64.lt_iff_toInt_lt, ne_eq, ← Int32.toInt_inj, ← Int64.toInt_inj, Int32.reduceToInt, Int64.reduceToInt, Nat.reducePow] at u0 u1 u2 u3 u4 u5 u6 u7 u8 u9 u10 u11 u12 ⊢); try omega) : ¬ ((C + (2 : Int32)) < (0 : Int32))) ((by have u0:=Q0; have u1:=Q1; have u2:=Q2; have u3:=Q3; have u4:=Q4; have u5:=Q5; have u6:=rng32 C; have u7:=rng32 mm; have u8:=rng32 M; have u9:=rng32 (C + (C + (2 : Int32))); have u10:=c_iadd C (C + (2 : Int32)); have u11:=rng32 (C + (2 : Int32)); have u12:=c_iadd C (2 : Int32); have u13:=rng32 (C + (mm - C)); have u14:=c_iadd C (mm - C); have u15:=rng32 (mm - C); have u16:=c_isub mm C; (try simp only [Int32.lt_iff_toInt_lt, Int64.lt_iff_toInt_lt, ne_eq, ← Int32.toInt_inj, ← Int64.toInt_inj, Int32.reduceToInt, Int64.reduceToInt, Nat.reducePow] at u0 u1 u2 u3 u4 u5 u6 u7 u8 u9 u10 u11 u12 u13 u14 u15 u16 ⊢); try omega) : ¬ (M < (C + (mm - C)))) (Q3 : ¬ (M < (C + (C + (2 : Int32))))) (Q4 : ¬ ((1000 : Int32) < M)) ((by have u0:=Q0; have u1:=Q1; have u2:=Q2; have u3:=Q3; have u4:=Q4; have u5:=Q5; have u6:=rng32 C; have u7:=rng32 mm; have u8:=rng32 M; have u9:=rng32 (C + (C + (2 : Int32))); have u10:=c_iadd C (C + (2 : Int32)); have u11:=rng32 (C + (2 : Int32)); have u12:=c_iadd C (2 : Int32); (try simp only [Int32.lt_iff_toInt_lt, Int64.lt_iff_toInt_lt, ne_eq, ← Int32.toInt_inj, ← Int64.toInt_inj, Int32.reduceToInt, Int64.reduceToInt, Nat.reducePow] at u0 u1 u2 u3 u4 u5 u6 u7 u8 u9 u10 u11 u12 ⊢); try omega) : ¬ ((1000 : Int32) < C)) ((by have u0:=Q0; have u1:=Q1; have u2:=Q2; have u3:=Q3; have u4:=Q4; have u5:=Q5; have u6:=rng32 C; have u7:=rng32 mm; have u8:=rng32 M; have u9:=rng32 (C + (C + (2 : Int32))); have u10:=c_iadd C (C + (2 : Int32)); have u11:=rng32 (C + (2 : Int32)); have u12:=c_iadd C (2 : Int32); have u13:=rng32 (mm - C); have u14:=c_isub mm C; (try simp only [Int32.lt_iff_toInt_lt, Int64.lt_iff_toInt_lt, ne_eq, ← Int32.toInt_inj, ← Int64.toInt_inj, Int32.reduceToInt, Int64.reduceToInt, Nat.reducePow] at u0 u1 u2 u3 u4 u5 u6 u7 u8 u9 u10 u11 u12 u13 u14 ⊢); try omega) : ¬ ((1000 : Int32) < (mm - C))) ((by have u0:=Q0; have u1:=Q1; have u2:=Q2; have u3:=Q3; have u4:=Q4; have u5:=Q5; have u6:=rng32 C; have u7:=rng32 mm; have u8:=rng32 M; have u9:=rng32 (C + (C + (2 : Int32))); have u10:=c_iadd C (C + (2 : Int32)); have u11:=rng32 (C + (2 : Int32)); have u12:=c_iadd C (2 : Int32); (try simp only [Int32.lt_iff_toInt_lt, Int64.lt_iff_toInt_lt, ne_eq, ← Int32.toInt_inj, ← Int64.toInt_inj, Int32.reduceToInt, Int64.reduceToInt, Nat.reducePow] at u0 u1 u2 u3 u4 u5 u6 u7 u8 u9 u10 u11 u12 ⊢); try omega) : ¬ ((1000 : Int32) < (C + (2 : Int32))))) hZ tw232 tw231 (by decide) (by decide)) (g := (mkF m 29 #[.val (.ref b), .val (.int mm), .val (.int C), .val (.int mm), .val (.int (mm - C)), .unset] [(.int (C + (2 : Int32))), (.int (mm - C)), (.int C)])) rfl (by rw [hml]; rfl) (argsL := [(.int C), (.int (mm - C)), (.int (C + (2 : Int32)))]) (rest := []) (lenOf pd_III_I rfl) rfl (Nat.le_of_eq rfl) (hb hby dk66) (fun _ _ => ⟨rfl, e104, (by decide : 0 + 0 ≤ _), (by decide : 0 + 0 ≤ _)⟩)
  dsimp only [Pt.U, Pt.locs, Pt.cells, Pt.slots] at X105 l105 y105 z105 st105 hQ105
  subst y105 z105
  obtain ⟨r_105, rfl, Nq105, q105_0, q105_1, q105_2, q105_3⟩ := hQ105
  have N105 : Fr n0 L105 := by rw [l105]; exact Fr.app N0 Nq105
  refine Goes.step (S' := T105.setTop (mkF m 54 #[.val (.ref b), .val (.int mm), .val (.int C), .val (.int mm), .val (.int (mm - C)), .val (.int r_105)] [(.ref b), (.int r_105)])) (fun t k => st105 _ (XS.istore X105.here hx rfl (hb hby dk67) rfl (l' := #[.val (.ref b), .val (.int mm), .val (.int C), .val (.int mm), .val (.int (mm - C)), .val (.int r_105)]) rfl (XS.iload X105.here hx rfl (hb hby dk68) rfl (X105.ldcInt hx hown (mvT hZ tw237) (g := (mkF m 36 #[.val (.ref b), .val (.int mm), .val (.int C), .val (.int mm), .val (.int (mm - C)), .val (.int r_105)] [(.int r_105)])) rfl (hb hby dk69) _ (XS.icmpYes X105.here hx rfl (pc0 := 38) (pc' := 51) rfl (hb hby dk70) rfl (feq ((by have u0:=Q0; have u1:=Q1; have u2:=Q2; have u3:=Q3; have u4:=Q4; have u5:=Q5; have u6:=q105_1; have u7:=q105_2; have u8:=q105_3; have u9:=rng32 C; have u10:=rng32 mm; have u11:=rng32 M; have u12:=rng32 (C + (C + (2 : Int32))); have u13:=c_iadd C (C + (2 : Int32)); have u14:=rng32 (C + (2 : Int32)); have u15:=c_iadd C (2 : Int32); have u16:=rng32 r_105; have u17:=rng32 (C + (mm - C)); have u18:=c_iadd C (mm - C); have u19:=rng32 (mm - C); have u20:=c_isub mm C; (try simp only [Int32.lt_iff_toInt_lt, Int64.lt_iff_toInt_lt, ne_eq, ← Int32.toInt_inj, ← Int64.toInt_inj, Int32.reduceToInt, Int64.reduceToInt, Nat.reducePow] at u0 u1 u2 u3 u4 u5 u6 u7 u8 u9 u10 u11 u12 u13 u14 u15 u16 u17 u18 u19 u20 ⊢); try omega) : ¬ (r_105 = (2147483647 : Int32)))).2 (by decide) (by decide) (XS.iload X105.here hx rfl (hb hby dk71) rfl (XS.aloadN X105.here hx rfl (hb hby dk72) rfl rfl k))))))) ?_
  obtain ⟨T113, X113, e113, st113⟩ := getF X105 hx hZ hown (host := "") (Or.inl tw48) Via.refl q105_0 Fc (g := (mkF m 54 #[.val (.ref b), .val (.int mm), .val (.int C), .val (.int mm), .val (.int (mm - C)), .val (.int r_105)] [(.ref b), (.int r_105)])) rfl rfl (hb hby dk73)
  refine Goes.step (S' := T113.setTop (mkF m 57 #[.val (.ref b), .val (.int mm), .val (.int C), .val (.int mm), .val (.int (mm - C)), .val (.int r_105)] [(.int (0 : Int32)), (.int r_105)])) (fun t k => st113 _ k) ?_
  refine Goes.step (S' := T113.setTop (mkF m 58 #[.val (.ref b), .val (.int mm), .val (.int C), .val (.int mm), .val (.int (mm - C)), .val (.int r_105)] [(.int r_105)])) (fun t k => XS.ishr X113.here hx rfl (hb hby dk74) rfl (by rw [own_shr0]; exact k)) ?_
  refine Goes.leave (g := (mkF m 58 #[.val (.ref b), .val (.int mm), .val (.int C), .val (.int mm), .val (.int (mm - C)), .val (.int r_105)] [(.int r_105)])) X113 Bd.notSynchronized (v := (some (.int r_105))) (fun h => by rw [Bd.returns] at h; cases h) (fun fs hr => retI X113 hx Bd.returns (hb hby dk75) hr) e113 ?_ (by decide) (by decide)
  exact ⟨r_105, rfl, N105, rfl, ((by have u0:=Q0; have u1:=Q1; have u2:=Q2; have u3:=Q3; have u4:=Q4; have u5:=Q5; have u6:=q105_1; have u7:=q105_2; have u8:=q105_3; have u9:=rng32 C; have u10:=rng32 mm; have u11:=rng32 M; have u12:=rng32 (C + (C + (2 : Int32))); have u13:=c_iadd C (C + (2 : Int32)); have u14:=rng32 (C + (2 : Int32)); have u15:=c_iadd C (2 : Int32); have u16:=rng32 r_105; have u17:=rng32 (C + (mm - C)); have u18:=c_iadd C (mm - C); have u19:=rng32 (mm - C); have u20:=c_isub mm C; (try simp only [Int32.lt_iff_toInt_lt, Int64.lt_iff_toInt_lt, ne_eq, ← Int32.toInt_inj, ← Int64.toInt_inj, Int32.reduceToInt, Int64.reduceToInt, Nat.reducePow] at u0 u1 u2 u3 u4 u5 u6 u7 u8 u9 u10 u11 u12 u13 u14 u15 u16 u17 u18 u19 u20 ⊢); try omega) : ¬ (r_105 < mm)), (q105_2 : ¬ (M < r_105)), (q105_3 : ¬ (r_105 < (C + (C + (2 : Int32)))))⟩

theorem own_le32 {x y : Int32} (q : ¬ y < x) : x.toNatClampNeg ≤ y.toNatClampNeg := by
  rw [Int32.lt_iff_toInt_lt] at q
  show x.toInt.toNat ≤ y.toInt.toNat
  omega
theorem own_nlt {x y : Int32} (q : x < y) : ¬ y < x := by
  rw [Int32.lt_iff_toInt_lt] at q ⊢
  omega
theorem own_nneg {x y : Int32} (p : ¬ x < 0) (q : x < y) : ¬ y < 0 := by
  rw [Int32.lt_iff_toInt_lt] at *
  simp only [Int32.reduceToInt] at *
  omega

theorem ef_cpo (m : MethodId) (x0 : Addr) (x1 : Int32) : entryFrame m #[(.ref x0), (.int x1)] 3 = mkF m 0 #[.val (.ref x0), .val (.int x1), .unset] [] := by first | (simp [entryFrame, mkF, argsToLocals, Value.category]; done) | rfl
def Q_cpo (Z : State) (a1 : Addr) (k1 : ClassId) (C : Int32) (vs : List Value) (nl : Int32) (h0 : Heap) (n0 : Nat) (v : Option Value) (h : Heap) (L : List Loc) : Prop := ∃ (x : Addr) (kx : ClassId), v = some (.ref x) ∧ Fr n0 L ∧ Keep h0 h [] ∧ h0.size ≤ x ∧ Exa Z h x "[B" ∧ Arv Z h x kx .byte nl vs (.int (0 : Int32))
set_option maxRecDepth 65536 in
set_option maxHeartbeats 40000000 in
theorem cpo (l : Launch) (Z : State) (a0 : Array Value) (hw : ∀ d ∈ tables_1, d.before a0 Z = true) (ws : List Jvm.Cond) (a1 : Addr) (k1 : ClassId) (C : Int32) (vs : List Value) (nl : Int32) (h0 : Heap) (n0 : Nat) (Z0 : n0 ≤ h0.size) (V1 : Arv Z h0 a1 k1 .byte C vs (.int (0 : Int32))) (Q0 : C < nl) (Q1 : ¬ (C < (0 : Int32))) (Q2 : ¬ ((70 : Int32) < nl)) (QL : vs.length ≤ C.toNatClampNeg) :
    MetFree l mth6 (head1 (Jvm.Cond.code mth6 jdk_65_method_121_code 3 (some (.array .byte)) :: ws) rom5) (fun a U => a = #[(.ref a1), (.int nl)] ∧ Z.Warmed39 U.vm ∧ U.heap = h0) (fun _ _ _ _ _ => True) (fun _ U o U' => ∃ v L, o = .returned v ∧ Q_cpo Z a1 k1 C vs nl h0 n0 v U'.heap L ∧ FrameEnd U o U' L rom5.cells rom5.slots) := by
  refine MetFree.of_bodySF (plainFor_of_name pnm3) hisR ?_
  intro p e s m args below meth c s₁ Bd hml0 hP hK
  obtain ⟨rfl, hZ, hh⟩ := hP
  have hx := Bd.exec
  have hby := Bd.bytes
  have hml : c.maxLocals = 3 := hml0
  have hown : s.vm.findClass "java/util/Arrays" = some m.cls := findClass_of_methodNamed Bd.named
  have hnm := (name_of_methodNamed Bd.named Bd.method).1
  have X0 : Stand p l e rom5 s m #[(.ref a1), (.int nl)] below meth c s₁ [] 0 0 := Stand.of_body Bd
  have eh0 : s₁.heap = h0 := by rw [← hh, Bd.state]; rfl
  have N0 := Fr.nil n0
  have tw2 := own_hw hw 2 rfl
  have tw45 := own_hw hw 45 rfl
  have tw128 := own_hw hw 128 rfl
  have tw129 := own_hw hw 129 rfl
  have tw130 := own_hw hw 130 rfl
  have tw169 := own_hw hw 169 rfl
  have tw170 := own_hw hw 170 rfl
  have tw171 := own_hw hw 171 rfl
  have tw172 := own_hw hw 172 rfl
  show Goes p e below (Pq (Q_cpo Z a1 k1 C vs nl h0 n0) s rom5.cells rom5.slots) (s₁.setTop (entryFrame m #[(.ref a1), (.int nl)] 3))
  refine Goes.step (S' := s₁.setTop (mkF m 0 #[.val (.ref a1), .val (.int nl), .unset] [])) (fun t k => castTop (ef_cpo m a1 nl) k) ?_
  refine Goes.step (S' := s₁.setTop (mkF m 2 #[.val (.ref a1), .val (.int nl), .unset] [(.ref a1), (.int nl)])) (fun t k => XS.iloadN X0.here hx rfl (hb hby dk76) rfl (XS.aloadN X0.here hx rfl (hb hby dk77) rfl rfl k)) ?_
  obtain ⟨cl101, Ar101, qk101, Sz101, Nn101, Hs101, Gs101⟩ := id V1
  refine Goes.step (S' := s₁.setTop (mkF m 3 #[.val (.ref a1), .val (.int nl), .unset] [(.int C), (.int nl)])) (fun t k => X0.arraylength hx (by rw [eh0]; exact Ar101.1) (State.isArrayOf_alike hZ.alike Ar101.2.1) (g := (mkF m 2 #[.val (.ref a1), .val (.int nl), .unset] [(.ref a1), (.int nl)])) rfl rfl (hb hby dk78) _ (by rw [len_of Sz101 Nn101]; exact k)) ?_
  refine Goes.step (S' := s₁.setTop (mkF m 15 #[.val (.ref a1), .val (.int nl), .unset] [(.int nl)])) (fun t k => XS.icmpYes X0.here hx rfl (pc0 := 3) (pc' := 14) rfl (hb hby dk79) rfl (feq ((by have u0:=Q0; have u1:=Q1; have u2:=Q2; have u3:=rng32 C; have u4:=rng32 nl; (try simp only [Int32.lt_iff_toInt_lt, Int64.lt_iff_toInt_lt, ne_eq, ← Int32.toInt_inj, ← Int64.toInt_inj, Int32.reduceToInt, Int64.reduceToInt, Nat.reducePow] at u0 u1 u2 u3 u4 ⊢); try omega) : ¬ (nl = C))).2 (by decide) (by decide) (XS.iloadN X0.here hx rfl (hb hby dk80) rfl k)) ?_
  obtain ⟨T103, h103, k103, X103, e103, E103, A103, AE103, st103⟩ := newPE (aty := .byte) X0 hx hZ tw45 eh0 (g := (mkF m 15 #[.val (.ref a1), .val (.int nl), .unset] [(.int nl)])) rfl (hb hby dk81) rfl (own_nneg Q1 Q0) (cap := 70) (own_capp (by decide) Q2) (by decide) (by decide) (by decide) (ad := "[B") rfl
  obtain ⟨b103, g103⟩ : ∃ z, z = h0.size := ⟨_, rfl⟩
  rw [← g103] at A103 AE103 st103
  have V103 : Arv Z h103 b103 k103 .byte nl [] (.int (0 : Int32)) := Arv.new A103 (own_nneg Q1 Q0)
  refine Goes.step (S' := T103.setTop (mkF m 18 #[.val (.ref a1), .val (.int nl), .val (.ref b103)] [])) (fun t k => st103 _ (XS.astoreN X103.here hx rfl (hb hby dk82) rfl rfl (l' := #[.val (.ref a1), .val (.int nl), .val (.ref b103)]) rfl k)) ?_
  have VP104 : Arv Z h103 b103 k103 .byte nl (List.replicate (nl).toNatClampNeg (Value.int (0 : Int32))) (.int (0 : Int32)) := Arv.pad V103 (pad_rep [] _ _)
  refine Goes.step (S' := T103.setTop (mkF m 23 #[.val (.ref a1), .val (.int nl), .val (.ref b103)] [(.ref a1), (.int (0 : Int32)), (.ref b103), (.int (0 : Int32)), (.ref a1)])) (fun t k => XS.aloadN X103.here hx rfl (hb hby dk83) rfl rfl (XS.iconst X103.here hx rfl (hb hby dk84) (XS.aloadN X103.here hx rfl (hb hby dk85) rfl rfl (XS.iconst X103.here hx rfl (hb hby dk86) (XS.aloadN X103.here hx rfl (hb hby dk87) rfl rfl k))))) ?_
  obtain ⟨cl105, Ar105, qk105, Sz105, Nn105, Hs105, Gs105⟩ := id (V1.ext E103)
  refine Goes.step (S' := T103.setTop (mkF m 24 #[.val (.ref a1), .val (.int nl), .val (.ref b103)] [(.int C), (.int (0 : Int32)), (.ref b103), (.int (0 : Int32)), (.ref a1)])) (fun t k => X103.arraylength hx (by rw [e103]; exact Ar105.1) (State.isArrayOf_alike hZ.alike Ar105.2.1) (g := (mkF m 23 #[.val (.ref a1), .val (.int nl), .val (.ref b103)] [(.ref a1), (.int (0 : Int32)), (.ref b103), (.int (0 : Int32)), (.ref a1)])) rfl rfl (hb hby dk88) _ (by rw [len_of Sz105 Nn105]; exact k)) ?_
  refine Goes.step (S' := T103.setTop (mkF m 25 #[.val (.ref a1), .val (.int nl), .val (.ref b103)] [(.int nl), (.int C), (.int (0 : Int32)), (.ref b103), (.int (0 : Int32)), (.ref a1)])) (fun t k => XS.iloadN X103.here hx rfl (hb hby dk89) rfl k) ?_
  obtain ⟨_, _, ⟨T106, L106, k106, n106⟩, -, X106, ⟨Lc106, hQ106, l106, y106, z106⟩, st106⟩ := Jvm.LawKit.callS X103 hx (y := mth3) hown (mvT hZ tw169) (mvT hZ tw170) (mvT hZ tw2) (mvT hZ tw171) (by decide) (backOf (W := 4) (imin l Z a0 hw [] C nl h103 n0 (Nat.le_trans Z0 E103.1) (own_nlt Q0)) hZ tw171 tw2 (by decide) (by decide)) (g := (mkF m 25 #[.val (.ref a1), .val (.int nl), .val (.ref b103)] [(.int nl), (.int C), (.int (0 : Int32)), (.ref b103), (.int (0 : Int32)), (.ref a1)])) rfl (by rw [hml]; rfl) (argsL := [(.int C), (.int nl)]) (rest := [(.int (0 : Int32)), (.ref b103), (.int (0 : Int32)), (.ref a1)]) (lenOf pd_II_I rfl) rfl (Nat.le_of_eq rfl) (hb hby dk90) (fun _ _ => ⟨rfl, e103, (by decide : 1 + 0 ≤ _), (by decide : 70 + 0 ≤ _)⟩)
  dsimp only [Pt.U, Pt.locs, Pt.cells, Pt.slots] at X106 l106 y106 z106 st106 hQ106
  subst y106 z106
  obtain ⟨rfl, Nq106, q106_0⟩ := hQ106
  have N106 : Fr n0 L106 := by rw [l106]; exact Fr.app N0 Nq106
  refine Goes.step (S' := T106.setTop (mkF m 28 #[.val (.ref a1), .val (.int nl), .val (.ref b103)] [(.int C), (.int (0 : Int32)), (.ref b103), (.int (0 : Int32)), (.ref a1)])) (fun t k => st106 _ k) ?_
  obtain ⟨T107, h107, L107, X107, e107, N107, K107, Vr107, st107⟩ := cpA X106 hx hZ hown tw172 tw130 tw128 tw129 q106_0 (sp := (0 : Int32)) (dp := (0 : Int32)) (nn := C) (us := ((List.range (C).toNatClampNeg).map fun i => (vs).getD ((0 : Int32).toNatClampNeg + i) (Value.int (0 : Int32)))) (V1.ext E103) VP104 (Or.inl ⟨rfl, rfl⟩) (by decide) (by decide) Q1 (by show 0 + _ ≤ _; rw [Nat.zero_add]; exact Nat.le_refl _) (by show 0 + _ ≤ _; rw [Nat.zero_add]; exact own_le32 (own_nlt Q0)) rfl (by show 0 + _ ≤ _; rw [Nat.zero_add, List.length_replicate]; exact own_le32 (own_nlt Q0)) N106 (Nat.le_trans Z0 (Nat.le_of_eq g103.symm)) (g := (mkF m 28 #[.val (.ref a1), .val (.int nl), .val (.ref b103)] [(.int C), (.int (0 : Int32)), (.ref b103), (.int (0 : Int32)), (.ref a1)])) rfl (by rw [hml]; rfl) rfl (hb hby dk91) (by decide) (W := 0) (Nat.le_of_eq rfl) (by decide)
  have V107 : Arv Z h107 b103 k103 .byte nl (((List.replicate (nl).toNatClampNeg (Value.int (0 : Int32)))).take (0 : Int32).toNatClampNeg ++ ((List.range (C).toNatClampNeg).map fun i => (vs).getD ((0 : Int32).toNatClampNeg + i) (Value.int (0 : Int32))) ++ ((List.replicate (nl).toNatClampNeg (Value.int (0 : Int32)))).drop ((0 : Int32).toNatClampNeg + (C).toNatClampNeg)) (.int (0 : Int32)) := Vr107
  refine Goes.step (S' := T107.setTop (mkF m 32 #[.val (.ref a1), .val (.int nl), .val (.ref b103)] [(.ref b103)])) (fun t k => st107 _ (XS.aloadN X107.here hx rfl (hb hby dk92) rfl rfl k)) ?_
  refine Goes.leave (g := (mkF m 32 #[.val (.ref a1), .val (.int nl), .val (.ref b103)] [(.ref b103)])) X107 Bd.notSynchronized (v := (some (.ref b103))) (fun h => by rw [Bd.returns] at h; cases h) (fun fs hr => by jvm_step X107.here [X107.here.top, hx, (hb hby dk93), X107.method', Bd.returns, Value.isRef, FieldType.isReference]; (first | (intro acts; rw [hr _ acts rfl rfl rfl]) | rw [hr _ _ rfl rfl rfl]); exact Steps.refl _) e107 ?_ (by decide) (by decide)
  exact ⟨b103, k103, rfl, N107, (((Keep.refl _ []).ext E103).trans K107 (allS (Or.inr (Nat.le_of_eq g103.symm)) all0)), (Nat.le_of_eq g103.symm), (AE103.keep K107), (Arv.pad V107 (own_cpG QL))⟩

theorem ef_ecs (m : MethodId) (x0 : Addr) (x1 : Int32) : entryFrame m #[(.ref x0), (.int x1)] 3 = mkF m 0 #[.val (.ref x0), .val (.int x1), .unset] [] := by first | (simp [entryFrame, mkF, argsToLocals, Value.category]; done) | rfl
def Q_ecs (Z : State) (b : Addr) (va : Addr) (kv : ClassId) (C : Int32) (vs : List Value) (mm : Int32) (h0 : Heap) (n0 : Nat) (v : Option Value) (h : Heap) (L : List Loc) : Prop := v = none ∧ Fr n0 L ∧ h = h0
set_option maxRecDepth 65536 in
set_option maxHeartbeats 40000000 in
theorem ecs (l : Launch) (Z : State) (a0 : Array Value) (hw : ∀ d ∈ tables_1, d.before a0 Z = true) (ws : List Jvm.Cond) (b : Addr) (va : Addr) (kv : ClassId) (C : Int32) (vs : List Value) (mm : Int32) (h0 : Heap) (n0 : Nat) (Z0 : n0 ≤ h0.size) (Fv : Fld Z h0 b "java/lang/AbstractStringBuilder" "value" "[B" (.ref va)) (Fc : Fld Z h0 b "java/lang/AbstractStringBuilder" "coder" "B" (.int (0 : Int32))) (V1 : Arv Z h0 va kv .byte C vs (.int (0 : Int32))) (R0 : ¬ (C < (0 : Int32))) (R1 : ¬ (mm < (0 : Int32))) (R2 : ¬ ((500 : Int32) < C)) (R3 : ¬ ((500 : Int32) < mm)) (Q1 : ¬ (C < mm)) :
    MetFree l mth7 (head1 (Jvm.Cond.code mth7 jdk_68_method_9_code 3 none :: ws) rom2) (fun a U => a = #[(.ref b), (.int mm)] ∧ Z.Warmed39 U.vm ∧ U.heap = h0) (fun _ _ _ _ _ => True) (fun _ U o U' => ∃ v L, o = .returned v ∧ Q_ecs Z b va kv C vs mm h0 n0 v U'.heap L ∧ FrameEnd U o U' L rom2.cells rom2.slots) := by
  refine MetFree.of_bodySF (plainFor_of_name pnm0) hisR ?_
  intro p e s m args below meth c s₁ Bd hml0 hP hK
  obtain ⟨rfl, hZ, hh⟩ := hP
  have hx := Bd.exec
  have hby := Bd.bytes
  have hml : c.maxLocals = 3 := hml0
  have hown : s.vm.findClass "java/lang/AbstractStringBuilder" = some m.cls := findClass_of_methodNamed Bd.named
  have hnm := (name_of_methodNamed Bd.named Bd.method).1
  have X0 : Stand p l e rom2 s m #[(.ref b), (.int mm)] below meth c s₁ [] 0 0 := Stand.of_body Bd
  have eh0 : s₁.heap = h0 := by rw [← hh, Bd.state]; rfl
  have N0 := Fr.nil n0
  have tw46 := own_hw hw 46 rfl
  have tw48 := own_hw hw 48 rfl
  show Goes p e below (Pq (Q_ecs Z b va kv C vs mm h0 n0) s rom2.cells rom2.slots) (s₁.setTop (entryFrame m #[(.ref b), (.int mm)] 3))
  refine Goes.step (S' := s₁.setTop (mkF m 0 #[.val (.ref b), .val (.int mm), .unset] [])) (fun t k => castTop (ef_ecs m b mm) k) ?_
  refine Goes.step (S' := s₁.setTop (mkF m 1 #[.val (.ref b), .val (.int mm), .unset] [(.ref b)])) (fun t k => XS.aloadN X0.here hx rfl (hb hby dk94) rfl rfl k) ?_
  obtain ⟨T101, X101, e101, st101⟩ := getF X0 hx hZ hown (host := "") (Or.inl tw46) Via.refl eh0 Fv (g := (mkF m 1 #[.val (.ref b), .val (.int mm), .unset] [(.ref b)])) rfl rfl (hb hby dk95)
  refine Goes.step (S' := T101.setTop (mkF m 4 #[.val (.ref b), .val (.int mm), .unset] [(.ref va)])) (fun t k => st101 _ k) ?_
  obtain ⟨cl102, Ar102, qk102, Sz102, Nn102, Hs102, Gs102⟩ := id V1
  refine Goes.step (S' := T101.setTop (mkF m 5 #[.val (.ref b), .val (.int mm), .unset] [(.int C)])) (fun t k => X101.arraylength hx (by rw [e101]; exact Ar102.1) (State.isArrayOf_alike hZ.alike Ar102.2.1) (g := (mkF m 4 #[.val (.ref b), .val (.int mm), .unset] [(.ref va)])) rfl rfl (hb hby dk96) _ (by rw [len_of Sz102 Nn102]; exact k)) ?_
  refine Goes.step (S' := T101.setTop (mkF m 6 #[.val (.ref b), .val (.int mm), .unset] [(.ref b), (.int C)])) (fun t k => XS.aloadN X101.here hx rfl (hb hby dk97) rfl rfl k) ?_
  obtain ⟨T103, X103, e103, st103⟩ := getF X101 hx hZ hown (host := "") (Or.inl tw48) Via.refl e101 Fc (g := (mkF m 6 #[.val (.ref b), .val (.int mm), .unset] [(.ref b), (.int C)])) rfl rfl (hb hby dk98)
  refine Goes.step (S' := T103.setTop (mkF m 9 #[.val (.ref b), .val (.int mm), .unset] [(.int (0 : Int32)), (.int C)])) (fun t k => st103 _ k) ?_
  refine Goes.step (S' := T103.setTop (mkF m 10 #[.val (.ref b), .val (.int mm), .unset] [(.int C)])) (fun t k => XS.ishr X103.here hx rfl (hb hby dk99) rfl (by rw [own_shr0]; exact k)) ?_
  refine Goes.step (S' := T103.setTop (mkF m 38 #[.val (.ref b), .val (.int mm), .val (.int C)] [])) (fun t k => XS.istoreN X103.here hx rfl (hb hby dk100) rfl (l' := #[.val (.ref b), .val (.int mm), .val (.int C)]) rfl (XS.iloadN X103.here hx rfl (hb hby dk101) rfl (XS.iloadN X103.here hx rfl (hb hby dk102) rfl (XS.isub X103.here hx rfl (hb hby dk103) rfl (XS.ifYes X103.here hx rfl (pc0 := 14) (pc' := 38) rfl (hb hby dk104) rfl ((if0 _ _).trans (flt ((by have u0:=R0; have u1:=R1; have u2:=R2; have u3:=R3; have u4:=Q1; have u5:=rng32 C; have u6:=rng32 mm; have u7:=rng32 (mm - C); have u8:=c_isub mm C; (try simp only [Int32.lt_iff_toInt_lt, Int64.lt_iff_toInt_lt, ne_eq, ← Int32.toInt_inj, ← Int64.toInt_inj, Int32.reduceToInt, Int64.reduceToInt, Nat.reducePow] at u0 u1 u2 u3 u4 u5 u6 u7 u8 ⊢); try omega) : ¬ ((0 : Int32) < (mm - C)))).2.2.2) (by decide) (by decide) k))))) ?_
  refine Goes.leave (g := (mkF m 38 #[.val (.ref b), .val (.int mm), .val (.int C)] [])) X103 Bd.notSynchronized (v := none) (fun _ => rfl) (fun fs hr => X103.returnOut hx Bd.returns (hb hby dk105) hr) e103 ?_ (by decide) (by decide)
  exact ⟨rfl, N0, rfl⟩

theorem ef_ecg (m : MethodId) (x0 : Addr) (x1 : Int32) : entryFrame m #[(.ref x0), (.int x1)] 3 = mkF m 0 #[.val (.ref x0), .val (.int x1), .unset] [] := by first | (simp [entryFrame, mkF, argsToLocals, Value.category]; done) | rfl
def Q_ecg (Z : State) (b : Addr) (va : Addr) (kv : ClassId) (C : Int32) (vs : List Value) (mm : Int32) (n : Int32) (M : Int32) (h0 : Heap) (n0 : Nat) (v : Option Value) (h : Heap) (L : List Loc) : Prop := ∃ (va2 : Addr) (kv2 : ClassId) (C2 : Int32), v = none ∧ Fr n0 L ∧ Keep h0 h [b] ∧ h0.size ≤ va2 ∧ Exa Z h va2 "[B" ∧ Fld Z h b "java/lang/AbstractStringBuilder" "value" "[B" (.ref va2) ∧ Fld Z h b "java/lang/AbstractStringBuilder" "coder" "B" (.int (0 : Int32)) ∧ Fld Z h b "java/lang/AbstractStringBuilder" "count" "I" (.int n) ∧ Arv Z h va2 kv2 .byte C2 vs (.int (0 : Int32)) ∧ ¬ (C2 < mm) ∧ ¬ (M < C2) ∧ ¬ (C2 < (C + (C + (2 : Int32))))
set_option maxRecDepth 65536 in
set_option maxHeartbeats 40000000 in
theorem ecg (l : Launch) (Z : State) (a0 : Array Value) (hw : ∀ d ∈ tables_1, d.before a0 Z = true) (ws : List Jvm.Cond) (b : Addr) (va : Addr) (kv : ClassId) (C : Int32) (vs : List Value) (mm : Int32) (n : Int32) (M : Int32) (h0 : Heap) (n0 : Nat) (Z0 : n0 ≤ h0.size) (E1 : Exa Z h0 b "java/lang/StringBuilder") (G1 : n0 ≤ b) (Fn : Fld Z h0 b "java/lang/AbstractStringBuilder" "count" "I" (.int n)) (Fv : Fld Z h0 b "java/lang/AbstractStringBuilder" "value" "[B" (.ref va)) (Fc : Fld Z h0 b "java/lang/AbstractStringBuilder" "coder" "B" (.int (0 : Int32))) (V1 : Arv Z h0 va kv .byte C vs (.int (0 : Int32))) (R0 : ¬ (C < (0 : Int32))) (R1 : ¬ (mm < (0 : Int32))) (R2 : ¬ ((500 : Int32) < C)) (R3 : ¬ ((500 : Int32) < mm)) (Q1 : C < mm) (Q2 : ¬ (M < mm)) (Q3 : ¬ (M < (C + (C + (2 : Int32))))) (Q4 : ¬ ((70 : Int32) < M)) (QL : vs.length ≤ C.toNatClampNeg) :
    MetFree l mth7 (head1 (Jvm.Cond.code mth7 jdk_68_method_9_code 3 none :: ws) rom6) (fun a U => a = #[(.ref b), (.int mm)] ∧ Z.Warmed39 U.vm ∧ U.heap = h0) (fun _ _ _ _ _ => True) (fun _ U o U' => ∃ v L, o = .returned v ∧ Q_ecg Z b va kv C vs mm n M h0 n0 v U'.heap L ∧ FrameEnd U o U' L rom6.cells rom6.slots) := by
  refine MetFree.of_bodySF (plainFor_of_name pnm0) hisR ?_
  intro p e s m args below meth c s₁ Bd hml0 hP hK
  obtain ⟨rfl, hZ, hh⟩ := hP
  have hx := Bd.exec
  have hby := Bd.bytes
  have hml : c.maxLocals = 3 := hml0
  have hown : s.vm.findClass "java/lang/AbstractStringBuilder" = some m.cls := findClass_of_methodNamed Bd.named
  have hnm := (name_of_methodNamed Bd.named Bd.method).1
  have X0 : Stand p l e rom6 s m #[(.ref b), (.int mm)] below meth c s₁ [] 0 0 := Stand.of_body Bd
  have eh0 : s₁.heap = h0 := by rw [← hh, Bd.state]; rfl
  have N0 := Fr.nil n0
  have tw31 := own_hw hw 31 rfl
  have tw40 := own_hw hw 40 rfl
  have tw46 := own_hw hw 46 rfl
  have tw47 := own_hw hw 47 rfl
  have tw48 := own_hw hw 48 rfl
  have tw49 := own_hw hw 49 rfl
  have tw61 := own_hw hw 61 rfl
  have tw161 := own_hw hw 161 rfl
  have tw224 := own_hw hw 224 rfl
  have tw225 := own_hw hw 225 rfl
  have tw226 := own_hw hw 226 rfl
  have tw227 := own_hw hw 227 rfl
  have tw228 := own_hw hw 228 rfl
  have tw238 := own_hw hw 238 rfl
  have tw239 := own_hw hw 239 rfl
  have tw240 := own_hw hw 240 rfl
  show Goes p e below (Pq (Q_ecg Z b va kv C vs mm n M h0 n0) s rom6.cells rom6.slots) (s₁.setTop (entryFrame m #[(.ref b), (.int mm)] 3))
  refine Goes.step (S' := s₁.setTop (mkF m 0 #[.val (.ref b), .val (.int mm), .unset] [])) (fun t k => castTop (ef_ecg m b mm) k) ?_
  refine Goes.step (S' := s₁.setTop (mkF m 1 #[.val (.ref b), .val (.int mm), .unset] [(.ref b)])) (fun t k => XS.aloadN X0.here hx rfl (hb hby dk94) rfl rfl k) ?_
  obtain ⟨T101, X101, e101, st101⟩ := getF X0 hx hZ hown (host := "") (Or.inl tw46) Via.refl eh0 Fv (g := (mkF m 1 #[.val (.ref b), .val (.int mm), .unset] [(.ref b)])) rfl rfl (hb hby dk95)
  refine Goes.step (S' := T101.setTop (mkF m 4 #[.val (.ref b), .val (.int mm), .unset] [(.ref va)])) (fun t k => st101 _ k) ?_
  obtain ⟨cl102, Ar102, qk102, Sz102, Nn102, Hs102, Gs102⟩ := id V1
  refine Goes.step (S' := T101.setTop (mkF m 5 #[.val (.ref b), .val (.int mm), .unset] [(.int C)])) (fun t k => X101.arraylength hx (by rw [e101]; exact Ar102.1) (State.isArrayOf_alike hZ.alike Ar102.2.1) (g := (mkF m 4 #[.val (.ref b), .val (.int mm), .unset] [(.ref va)])) rfl rfl (hb hby dk96) _ (by rw [len_of Sz102 Nn102]; exact k)) ?_
  refine Goes.step (S' := T101.setTop (mkF m 6 #[.val (.ref b), .val (.int mm), .unset] [(.ref b), (.int C)])) (fun t k => XS.aloadN X101.here hx rfl (hb hby dk97) rfl rfl k) ?_
  obtain ⟨T103, X103, e103, st103⟩ := getF X101 hx hZ hown (host := "") (Or.inl tw48) Via.refl e101 Fc (g := (mkF m 6 #[.val (.ref b), .val (.int mm), .unset] [(.ref b), (.int C)])) rfl rfl (hb hby dk98)
  refine Goes.step (S' := T103.setTop (mkF m 9 #[.val (.ref b), .val (.int mm), .unset] [(.int (0 : Int32)), (.int C)])) (fun t k => st103 _ k) ?_
  refine Goes.step (S' := T103.setTop (mkF m 10 #[.val (.ref b), .val (.int mm), .unset] [(.int C)])) (fun t k => XS.ishr X103.here hx rfl (hb hby dk99) rfl (by rw [own_shr0]; exact k)) ?_
  refine Goes.step (S' := T103.setTop (mkF m 19 #[.val (.ref b), .val (.int mm), .val (.int C)] [(.ref b), (.ref b)])) (fun t k => XS.istoreN X103.here hx rfl (hb hby dk100) rfl (l' := #[.val (.ref b), .val (.int mm), .val (.int C)]) rfl (XS.iloadN X103.here hx rfl (hb hby dk101) rfl (XS.iloadN X103.here hx rfl (hb hby dk102) rfl (XS.isub X103.here hx rfl (hb hby dk103) rfl (XS.ifNo X103.here hx rfl (hb hby dk104) rfl ((if0 _ _).trans (tlt ((by have u0:=R0; have u1:=R1; have u2:=R2; have u3:=R3; have u4:=Q1; have u5:=Q2; have u6:=Q3; have u7:=Q4; have u8:=rng32 C; have u9:=rng32 mm; have u10:=rng32 M; have u11:=rng32 (C + (C + (2 : Int32))); have u12:=c_iadd C (C + (2 : Int32)); have u13:=rng32 (C + (2 : Int32)); have u14:=c_iadd C (2 : Int32); have u15:=rng32 (mm - C); have u16:=c_isub mm C; (try simp only [Int32.lt_iff_toInt_lt, Int64.lt_iff_toInt_lt, ne_eq, ← Int32.toInt_inj, ← Int64.toInt_inj, Int32.reduceToInt, Int64.reduceToInt, Nat.reducePow] at u0 u1 u2 u3 u4 u5 u6 u7 u8 u9 u10 u11 u12 u13 u14 u15 u16 ⊢); try omega) : (0 : Int32) < (mm - C))).2.2.2) (XS.aloadN X103.here hx rfl (hb hby dk106) rfl rfl (XS.aloadN X103.here hx rfl (hb hby dk107) rfl rfl k))))))) ?_
  obtain ⟨T105, X105, e105, st105⟩ := getF X103 hx hZ hown (host := "") (Or.inl tw46) Via.refl e103 Fv (g := (mkF m 19 #[.val (.ref b), .val (.int mm), .val (.int C)] [(.ref b), (.ref b)])) rfl rfl (hb hby dk108)
  refine Goes.step (S' := T105.setTop (mkF m 24 #[.val (.ref b), .val (.int mm), .val (.int C)] [(.int mm), (.ref b), (.ref va), (.ref b)])) (fun t k => st105 _ (XS.aloadN X105.here hx rfl (hb hby dk109) rfl rfl (XS.iloadN X105.here hx rfl (hb hby dk110) rfl k))) ?_
  obtain ⟨cq106, q106, q106'⟩ := E1.cell
  obtain ⟨_, _, ⟨T106, L106, k106, n106⟩, -, X106, ⟨Lc106, hQ106, l106, y106, z106⟩, st106⟩ := X105.privateBack hx (y := mth5) hown (mvT hZ tw224) (mvT hZ tw225) (own_selU (mvT hZ tw227) (mvT hZ tw225) (mvP hZ tw226) (by decide)) (Cond.privateMethod_at (mvP hZ tw226 (args := #[]))) (mvT hZ tw228) (by decide) (backOf (W := 2) (nc l Z a0 hw [] b va kv C vs mm M h0 n0 Z0 Fv Fc V1 (R0 : ¬ (C < (0 : Int32))) (Q1 : C < mm) (Q2 : ¬ (M < mm)) (Q3 : ¬ (M < (C + (C + (2 : Int32))))) ((by have u0:=R0; have u1:=R1; have u2:=R2; have u3:=R3; have u4:=Q1; have u5:=Q2; have u6:=Q3; have u7:=Q4; have u8:=rng32 C; have u9:=rng32 mm; have u10:=rng32 M; have u11:=rng32 (C + (C + (2 : Int32))); have u12:=c_iadd C (C + (2 : Int32)); have u13:=rng32 (C + (2 : Int32)); have u14:=c_iadd C (2 : Int32); (try simp only [Int32.lt_iff_toInt_lt, Int64.lt_iff_toInt_lt, ne_eq, ← Int32.toInt_inj, ← Int64.toInt_inj, Int32.reduceToInt, Int64.reduceToInt, Nat.reducePow] at u0 u1 u2 u3 u4 u5 u6 u7 u8 u9 u10 u11 u12 u13 u14 ⊢); try omega) : ¬ ((1000 : Int32) < M)) (R2 : ¬ ((500 : Int32) < C))) hZ tw228 tw40 (by decide) (by decide)) (g := (mkF m 24 #[.val (.ref b), .val (.int mm), .val (.int C)] [(.int mm), (.ref b), (.ref va), (.ref b)])) rfl (by rw [hml]; rfl) (Steps.refl _) (a := b) (by rw [e105]; exact q106) q106' (argsL := [(.int mm)]) (rest := [(.ref va), (.ref b)]) (lenOf pd_I_I rfl) rfl (Nat.le_of_eq rfl) (hb hby dk111) (fun _ _ => ⟨rfl, e105, (by decide : 0 + 0 ≤ _), (by decide : 0 + 0 ≤ _)⟩)
  dsimp only [Pt.U, Pt.locs, Pt.cells, Pt.slots] at X106 l106 y106 z106 st106 hQ106
  subst y106 z106
  obtain ⟨r_106, rfl, Nq106, q106_0, q106_1, q106_2, q106_3⟩ := hQ106
  have N106 : Fr n0 L106 := by rw [l106]; exact Fr.app N0 Nq106
  refine Goes.step (S' := T106.setTop (mkF m 28 #[.val (.ref b), .val (.int mm), .val (.int C)] [(.ref b), (.int r_106), (.ref va), (.ref b)])) (fun t k => st106.trans (XS.aloadN X106.here hx rfl (hb hby dk112) rfl rfl k)) ?_
  obtain ⟨T108, X108, e108, st108⟩ := getF X106 hx hZ hown (host := "") (Or.inl tw48) Via.refl q106_0 Fc (g := (mkF m 28 #[.val (.ref b), .val (.int mm), .val (.int C)] [(.ref b), (.int r_106), (.ref va), (.ref b)])) rfl rfl (hb hby dk113)
  refine Goes.step (S' := T108.setTop (mkF m 31 #[.val (.ref b), .val (.int mm), .val (.int C)] [(.int (0 : Int32)), (.int r_106), (.ref va), (.ref b)])) (fun t k => st108 _ k) ?_
  refine Goes.step (S' := T108.setTop (mkF m 32 #[.val (.ref b), .val (.int mm), .val (.int C)] [(.int r_106), (.ref va), (.ref b)])) (fun t k => XS.ishl X108.here hx rfl (hb hby dk114) rfl (by rw [own_shl0]; exact k)) ?_
  obtain ⟨_, _, ⟨T109, L109, k109, n109⟩, -, X109, ⟨Lc109, hQ109, l109, y109, z109⟩, st109⟩ := Jvm.LawKit.callS X108 hx (y := mth6) hown (mvT hZ tw238) (mvT hZ tw239) (mvT hZ tw161) (mvT hZ tw240) (by decide) (backOf (W := 1) (cpo l Z a0 hw [] va kv C vs r_106 h0 n0 Z0 V1 ((by have u0:=R0; have u1:=R1; have u2:=R2; have u3:=R3; have u4:=Q1; have u5:=Q2; have u6:=Q3; have u7:=Q4; have u8:=q106_1; have u9:=q106_2; have u10:=q106_3; have u11:=rng32 C; have u12:=rng32 mm; have u13:=rng32 M; have u14:=rng32 (C + (C + (2 : Int32))); have u15:=c_iadd C (C + (2 : Int32)); have u16:=rng32 (C + (2 : Int32)); have u17:=c_iadd C (2 : Int32); have u18:=rng32 r_106; (try simp only [Int32.lt_iff_toInt_lt, Int64.lt_iff_toInt_lt, ne_eq, ← Int32.toInt_inj, ← Int64.toInt_inj, Int32.reduceToInt, Int64.reduceToInt, Nat.reducePow] at u0 u1 u2 u3 u4 u5 u6 u7 u8 u9 u10 u11 u12 u13 u14 u15 u16 u17 u18 ⊢); try omega) : C < r_106) (R0 : ¬ (C < (0 : Int32))) ((by have u0:=R0; have u1:=R1; have u2:=R2; have u3:=R3; have u4:=Q1; have u5:=Q2; have u6:=Q3; have u7:=Q4; have u8:=q106_1; have u9:=q106_2; have u10:=q106_3; have u11:=rng32 C; have u12:=rng32 mm; have u13:=rng32 M; have u14:=rng32 (C + (C + (2 : Int32))); have u15:=c_iadd C (C + (2 : Int32)); have u16:=rng32 (C + (2 : Int32)); have u17:=c_iadd C (2 : Int32); have u18:=rng32 r_106; (try simp only [Int32.lt_iff_toInt_lt, Int64.lt_iff_toInt_lt, ne_eq, ← Int32.toInt_inj, ← Int64.toInt_inj, Int32.reduceToInt, Int64.reduceToInt, Nat.reducePow] at u0 u1 u2 u3 u4 u5 u6 u7 u8 u9 u10 u11 u12 u13 u14 u15 u16 u17 u18 ⊢); try omega) : ¬ ((70 : Int32) < r_106)) QL) hZ tw240 tw161 (by decide) (by decide)) (g := (mkF m 32 #[.val (.ref b), .val (.int mm), .val (.int C)] [(.int r_106), (.ref va), (.ref b)])) rfl (by rw [hml]; rfl) (argsL := [(.ref va), (.int r_106)]) (rest := [(.ref b)]) (lenOf pd_BI_AB rfl) rfl (Nat.le_of_eq rfl) (hb hby dk115) (fun _ _ => ⟨rfl, e108, (by decide : 0 + 1 ≤ _), (by decide : 0 + 70 ≤ _)⟩)
  dsimp only [Pt.U, Pt.locs, Pt.cells, Pt.slots] at X109 l109 y109 z109 st109 hQ109
  subst y109 z109
  obtain ⟨x_109, kx_109, rfl, Nq109, q109_0, q109_1, q109_2, q109_3⟩ := hQ109
  have N109 : Fr n0 L109 := by rw [l109]; exact Fr.app N106 Nq109
  refine Goes.step (S' := T109.setTop (mkF m 35 #[.val (.ref b), .val (.int mm), .val (.int C)] [(.ref x_109), (.ref b)])) (fun t k => st109 _ k) ?_
  obtain ⟨T112, h112, X112, e112, W112, st112⟩ := putF X109 hx hZ hown (host := "") (Or.inl tw46) Via.refl rfl (Fv.keep q109_0 nin0) (E1.keep q109_0) (Or.inl tw47) tw31 (ty := (.array .byte)) (by decide) rfl rfl (g := (mkF m 35 #[.val (.ref b), .val (.int mm), .val (.int C)] [(.ref x_109), (.ref b)])) rfl rfl (hb hby dk116)
  have Fw112 : Fld Z h112 b "java/lang/AbstractStringBuilder" "value" "[B" (.ref x_109) := Fld.same W112 (Fv.keep q109_0 nin0)
  have N112 := Fr.snoc X112 N109 G1
  refine Goes.step (S' := T112.setTop (mkF m 38 #[.val (.ref b), .val (.int mm), .val (.int C)] [])) (fun t k => st112 _ k) ?_
  refine Goes.leave (g := (mkF m 38 #[.val (.ref b), .val (.int mm), .val (.int C)] [])) X112 Bd.notSynchronized (v := none) (fun _ => rfl) (fun fs hr => X112.returnOut hx Bd.returns (hb hby dk105) hr) e112 ?_ (by decide) (by decide)
  exact ⟨x_109, kx_109, r_106, rfl, N112, (((Keep.refl _ [b]).trans q109_0 all0).wr W112 (Or.inl (List.mem_of_getElem? (i := 0) rfl))), q109_1, (Exa.wr W112 q109_2), Fw112, (Fld.other W112 (Fc.keep q109_0 nin0) (Or.inr (slot_ne (Or.inl tw49) (Or.inl tw47) (by decide) (t := .byte) (t' := (.array .byte)) (by decide) (by decide)))), (Fld.other W112 (Fn.keep q109_0 nin0) (Or.inr (slot_ne (Or.inl tw61) (Or.inl tw47) (by decide) (t := .int) (t' := (.array .byte)) (by decide) (by decide)))), (q109_3.other W112 (Ne.symm (Nat.ne_of_lt (Nat.lt_of_lt_of_le E1.lt q109_1)))), (q106_1 : ¬ (r_106 < mm)), (q106_2 : ¬ (M < r_106)), (q106_3 : ¬ (r_106 < (C + (C + (2 : Int32)))))⟩

theorem ef_ail (m : MethodId) (x0 : Addr) : entryFrame m #[(.ref x0)] 1 = mkF m 0 #[.val (.ref x0)] [] := by first | (simp [entryFrame, mkF, argsToLocals, Value.category]; done) | rfl
def Q_ail (Z : State) (b : Addr) (cs : Int32) (h0 : Heap) (n0 : Nat) (v : Option Value) (h : Heap) (L : List Loc) : Prop := v = some (.int (1 : Int32)) ∧ Fr n0 L ∧ h = h0
set_option maxRecDepth 65536 in
set_option maxHeartbeats 40000000 in
theorem ail (l : Launch) (Z : State) (a0 : Array Value) (hw : ∀ d ∈ tables_1, d.before a0 Z = true) (ws : List Jvm.Cond) (b : Addr) (cs : Int32) (h0 : Heap) (n0 : Nat) (Z0 : n0 ≤ h0.size) (Fc : Fld Z h0 b "java/lang/AbstractStringBuilder" "coder" "B" (.int (0 : Int32))) (SC : Sta Z h0 "java/lang/String" "COMPACT_STRINGS" "Z" (.int cs)) (PC : ¬ (cs = (0 : Int32))) :
    MetFree l mth8 (head1 (Jvm.Cond.code mth8 jdk_68_method_68_code 1 (some .boolean) :: ws) rom2) (fun a U => a = #[(.ref b)] ∧ Z.Warmed39 U.vm ∧ U.heap = h0) (fun _ _ _ _ _ => True) (fun _ U o U' => ∃ v L, o = .returned v ∧ Q_ail Z b cs h0 n0 v U'.heap L ∧ FrameEnd U o U' L rom2.cells rom2.slots) := by
  refine MetFree.of_bodySF (plainFor_of_name pnm0) hisR ?_
  intro p e s m args below meth c s₁ Bd hml0 hP hK
  obtain ⟨rfl, hZ, hh⟩ := hP
  have hx := Bd.exec
  have hby := Bd.bytes
  have hml : c.maxLocals = 1 := hml0
  have hown : s.vm.findClass "java/lang/AbstractStringBuilder" = some m.cls := findClass_of_methodNamed Bd.named
  have hnm := (name_of_methodNamed Bd.named Bd.method).1
  have X0 : Stand p l e rom2 s m #[(.ref b)] below meth c s₁ [] 0 0 := Stand.of_body Bd
  have eh0 : s₁.heap = h0 := by rw [← hh, Bd.state]; rfl
  have N0 := Fr.nil n0
  have tw43 := own_hw hw 43 rfl
  have tw48 := own_hw hw 48 rfl
  show Goes p e below (Pq (Q_ail Z b cs h0 n0) s rom2.cells rom2.slots) (s₁.setTop (entryFrame m #[(.ref b)] 1))
  refine Goes.step (S' := s₁.setTop (mkF m 0 #[.val (.ref b)] [])) (fun t k => castTop (ef_ail m b) k) ?_
  obtain ⟨T101, X101, e101, st101⟩ := getS2 X0 hx hZ hown (host := "") (Or.inl tw43) Via.refl eh0 SC (g := (mkF m 0 #[.val (.ref b)] [])) rfl (hb hby dk117)
  refine Goes.step (S' := T101.setTop (mkF m 7 #[.val (.ref b)] [(.ref b)])) (fun t k => st101 _ (XS.ifNo X101.here hx rfl (hb hby dk118) rfl ((if0 _ _).trans (feq (PC : ¬ (cs = (0 : Int32)))).1) (XS.aloadN X101.here hx rfl (hb hby dk119) rfl rfl k))) ?_
  obtain ⟨T102, X102, e102, st102⟩ := getF X101 hx hZ hown (host := "") (Or.inl tw48) Via.refl e101 Fc (g := (mkF m 7 #[.val (.ref b)] [(.ref b)])) rfl rfl (hb hby dk120)
  refine Goes.step (S' := T102.setTop (mkF m 18 #[.val (.ref b)] [(.int (1 : Int32))])) (fun t k => st102 _ (XS.ifNo X102.here hx rfl (hb hby dk121) rfl ((if0 _ _).trans (teq ((by decide) : (0 : Int32) = (0 : Int32))).2) (XS.iconst X102.here hx rfl (hb hby dk122) (XS.goto X102.here hx rfl (pc0 := 14) (pc' := 18) rfl (hb hby dk123) (by decide) (by decide) k)))) ?_
  refine Goes.leave (g := (mkF m 18 #[.val (.ref b)] [(.int (1 : Int32))])) X102 Bd.notSynchronized (v := (some (.int (1 : Int32)))) (fun h => by rw [Bd.returns] at h; cases h) (fun fs hr => retN X102 hx (t := .boolean) Bd.returns (by simp) (hb hby dk124) hr) e102 ?_ (by decide) (by decide)
  exact ⟨rfl, N0, rfl⟩

theorem ef_ajs (m : MethodId) (x0 : Addr) (x1 : Int64) : entryFrame m #[(.ref x0), (.long x1)] 5 = mkF m 0 #[.val (.ref x0), .val (.long x1), .second, .unset, .unset] [] := by first | (simp [entryFrame, mkF, argsToLocals, Value.category]; done) | rfl
def Q_ajs (Z : State) (b : Addr) (va : Addr) (kv : ClassId) (C : Int32) (vs : List Value) (n : Int32) (cs : Int32) (nv : Int64) (nn : Nat) (sz : Int32) (d1 : Addr) (d2 : Addr) (kd1 : ClassId) (kd2 : ClassId) (h0 : Heap) (n0 : Nat) (v : Option Value) (h : Heap) (L : List Loc) : Prop := v = some (.ref b) ∧ Fr n0 L ∧ Keep h0 h [b, va] ∧ Fld Z h b "java/lang/AbstractStringBuilder" "value" "[B" (.ref va) ∧ Fld Z h b "java/lang/AbstractStringBuilder" "coder" "B" (.int (0 : Int32)) ∧ Fld Z h b "java/lang/AbstractStringBuilder" "count" "I" (.int (n + sz)) ∧ Arv Z h va kv .byte C (vs ++ own_rep nv nn) (.int (0 : Int32))
set_option maxRecDepth 65536 in
set_option maxHeartbeats 40000000 in
theorem ajs (l : Launch) (Z : State) (a0 : Array Value) (hw : ∀ d ∈ tables_1, d.before a0 Z = true) (ws : List Jvm.Cond) (b : Addr) (va : Addr) (kv : ClassId) (C : Int32) (vs : List Value) (n : Int32) (cs : Int32) (nv : Int64) (nn : Nat) (sz : Int32) (d1 : Addr) (d2 : Addr) (kd1 : ClassId) (kd2 : ClassId) (h0 : Heap) (n0 : Nat) (Z0 : n0 ≤ h0.size) (E1 : Exa Z h0 b "java/lang/StringBuilder") (G1 : n0 ≤ b) (E2 : Exa Z h0 va "[B") (G2 : n0 ≤ va) (Fv : Fld Z h0 b "java/lang/AbstractStringBuilder" "value" "[B" (.ref va)) (Fc : Fld Z h0 b "java/lang/AbstractStringBuilder" "coder" "B" (.int (0 : Int32))) (Fn : Fld Z h0 b "java/lang/AbstractStringBuilder" "count" "I" (.int n)) (V1 : Arv Z h0 va kv .byte C vs (.int (0 : Int32))) (SC : Sta Z h0 "java/lang/String" "COMPACT_STRINGS" "Z" (.int cs)) (PC : ¬ (cs = (0 : Int32))) (HN : n = Int32.ofNat vs.length) (HB : vs.length ≤ 40) (B0 : ¬ (n < (0 : Int32))) (B1 : ¬ ((40 : Int32) < n)) (B2 : ¬ (C < (0 : Int32))) (B3 : ¬ ((70 : Int32) < C)) (HA : own_abs nv nn) (HZ : sz = Int32.ofNat (own_rep nv nn).length) (B4 : (0 : Int32) < sz) (B5 : ¬ ((21 : Int32) < sz)) (S1 : Sta Z h0 "java/lang/Integer" "DigitOnes" "[B" (.ref d1)) (W1 : Arv Z h0 d1 kd1 .byte (100 : Int32) own_ones (.int (0 : Int32))) (S2 : Sta Z h0 "java/lang/Integer" "DigitTens" "[B" (.ref d2)) (W2 : Arv Z h0 d2 kd2 .byte (100 : Int32) own_tens (.int (0 : Int32))) (HS : own_same Z) (N1 : va ≠ d1) (N2 : va ≠ d2) (QC : ¬ (C < (n + sz))) :
    MetFree l mth11 (head1 (Jvm.Cond.code mth11 jdk_68_method_33_code 5 (some (.object "java/lang/AbstractStringBuilder")) :: ws) rom7) (fun a U => a = #[(.ref b), (.long nv)] ∧ Z.Warmed39 U.vm ∧ U.heap = h0) (fun _ _ _ _ _ => True) (fun _ U o U' => ∃ v L, o = .returned v ∧ Q_ajs Z b va kv C vs n cs nv nn sz d1 d2 kd1 kd2 h0 n0 v U'.heap L ∧ FrameEnd U o U' L rom7.cells rom7.slots) := by
  refine MetFree.of_bodySF (plainFor_of_name pnm0) hisR ?_
  intro p e s m args below meth c s₁ Bd hml0 hP hK
  obtain ⟨rfl, hZ, hh⟩ := hP
  have hx := Bd.exec
  have hby := Bd.bytes
  have hml : c.maxLocals = 5 := hml0
  have hown : s.vm.findClass "java/lang/AbstractStringBuilder" = some m.cls := findClass_of_methodNamed Bd.named
  have hnm := (name_of_methodNamed Bd.named Bd.method).1
  have X0 : Stand p l e rom7 s m #[(.ref b), (.long nv)] below meth c s₁ [] 0 0 := Stand.of_body Bd
  have eh0 : s₁.heap = h0 := by rw [← hh, Bd.state]; rfl
  have N0 := Fr.nil n0
  have tw31 := own_hw hw 31 rfl
  have tw40 := own_hw hw 40 rfl
  have tw46 := own_hw hw 46 rfl
  have tw47 := own_hw hw 47 rfl
  have tw49 := own_hw hw 49 rfl
  have tw60 := own_hw hw 60 rfl
  have tw61 := own_hw hw 61 rfl
  have tw62 := own_hw hw 62 rfl
  have tw63 := own_hw hw 63 rfl
  have tw64 := own_hw hw 64 rfl
  have tw65 := own_hw hw 65 rfl
  have tw67 := own_hw hw 67 rfl
  have tw68 := own_hw hw 68 rfl
  have tw69 := own_hw hw 69 rfl
  have tw70 := own_hw hw 70 rfl
  have tw71 := own_hw hw 71 rfl
  have tw72 := own_hw hw 72 rfl
  have tw73 := own_hw hw 73 rfl
  have tw74 := own_hw hw 74 rfl
  have tw75 := own_hw hw 75 rfl
  have tw76 := own_hw hw 76 rfl
  have tw77 := own_hw hw 77 rfl
  have tw78 := own_hw hw 78 rfl
  have tw79 := own_hw hw 79 rfl
  show Goes p e below (Pq (Q_ajs Z b va kv C vs n cs nv nn sz d1 d2 kd1 kd2 h0 n0) s rom7.cells rom7.slots) (s₁.setTop (entryFrame m #[(.ref b), (.long nv)] 5))
  refine Goes.step (S' := s₁.setTop (mkF m 0 #[.val (.ref b), .val (.long nv), .second, .unset, .unset] [])) (fun t k => castTop (ef_ajs m b nv) k) ?_
  refine Goes.step (S' := s₁.setTop (mkF m 1 #[.val (.ref b), .val (.long nv), .second, .unset, .unset] [(.ref b)])) (fun t k => XS.aloadN X0.here hx rfl (hb hby dk125) rfl rfl k) ?_
  obtain ⟨T101, X101, e101, st101⟩ := getF X0 hx hZ hown (host := "") (Or.inl tw60) Via.refl eh0 Fn (g := (mkF m 1 #[.val (.ref b), .val (.long nv), .second, .unset, .unset] [(.ref b)])) rfl rfl (hb hby dk126)
  refine Goes.step (S' := T101.setTop (mkF m 7 #[.val (.ref b), .val (.long nv), .second, .val (.int n), .unset] [(.long nv), (.int n)])) (fun t k => st101 _ (XS.istoreN X101.here hx rfl (hb hby dk127) rfl (l' := #[.val (.ref b), .val (.long nv), .second, .val (.int n), .unset]) rfl (XS.iloadN X101.here hx rfl (hb hby dk128) rfl (XS.lloadN X101.here hx rfl (hb hby dk129) rfl k)))) ?_
  obtain ⟨_, _, ⟨T102, L102, k102, n102⟩, -, X102, ⟨Lc102, hQ102, l102, y102, z102⟩, st102⟩ := Jvm.LawKit.callS X101 hx (y := mth9) hown (mvT hZ tw62) (mvT hZ tw63) (mvT hZ tw64) (mvT hZ tw65) (by decide) (own_ss (n0 := n0) (W := 1) hZ (fun d hd => hw d (own_ssin d hd)) tw64 HA HZ (by decide) (by decide)) (g := (mkF m 7 #[.val (.ref b), .val (.long nv), .second, .val (.int n), .unset] [(.long nv), (.int n)])) rfl (by rw [hml]; rfl) (argsL := [(.long nv)]) (rest := [(.int n)]) (lenOf pd_J_I rfl) rfl (Nat.le_of_eq rfl) (hb hby dk130) (fun _ _ => ⟨rfl, e101, (by decide : 0 + 0 ≤ _), (by decide : 0 + 0 ≤ _)⟩)
  dsimp only [Pt.U, Pt.locs, Pt.cells, Pt.slots] at X102 l102 y102 z102 st102 hQ102
  subst y102 z102
  obtain ⟨rfl, Nq102, q102_0⟩ := hQ102
  have N102 : Fr n0 L102 := by rw [l102]; exact Fr.app N0 Nq102
  refine Goes.step (S' := T102.setTop (mkF m 16 #[.val (.ref b), .val (.long nv), .second, .val (.int n), .val (.int (n + sz))] [(.int (n + sz)), (.ref b)])) (fun t k => st102 _ (XS.iadd X102.here hx rfl (hb hby dk131) rfl (XS.istore X102.here hx rfl (hb hby dk132) rfl (l' := #[.val (.ref b), .val (.long nv), .second, .val (.int n), .val (.int (n + sz))]) rfl (XS.aloadN X102.here hx rfl (hb hby dk133) rfl rfl (XS.iload X102.here hx rfl (hb hby dk134) rfl k))))) ?_
  obtain ⟨cq103, q103, q103'⟩ := E1.cell
  obtain ⟨_, _, ⟨T103, L103, k103, n103⟩, -, X103, ⟨Lc103, hQ103, l103, y103, z103⟩, st103⟩ := X102.privateBack hx (y := mth7) hown (mvT hZ tw67) (mvT hZ tw68) (own_selU (mvT hZ tw70) (mvT hZ tw68) (mvP hZ tw69) (by decide)) (Cond.privateMethod_at (mvP hZ tw69 (args := #[]))) (mvT hZ tw71) (by decide) (backOf (W := 0) (ecs l Z a0 hw [] b va kv C vs (n + sz) h0 n0 Z0 Fv Fc V1 (B2 : ¬ (C < (0 : Int32))) ((by have u0:=PC; have u1:=B0; have u2:=B1; have u3:=B2; have u4:=B3; have u5:=B4; have u6:=B5; have u7:=QC; have u8:=rng32 cs; have u9:=rng32 n; have u10:=rng32 C; have u11:=rng32 sz; have u12:=rng32 (n + sz); have u13:=c_iadd n sz; (try simp only [Int32.lt_iff_toInt_lt, Int64.lt_iff_toInt_lt, ne_eq, ← Int32.toInt_inj, ← Int64.toInt_inj, Int32.reduceToInt, Int64.reduceToInt, Nat.reducePow] at u0 u1 u2 u3 u4 u5 u6 u7 u8 u9 u10 u11 u12 u13 ⊢); try omega) : ¬ ((n + sz) < (0 : Int32))) ((by have u0:=PC; have u1:=B0; have u2:=B1; have u3:=B2; have u4:=B3; have u5:=B4; have u6:=B5; have u7:=QC; have u8:=rng32 cs; have u9:=rng32 n; have u10:=rng32 C; have u11:=rng32 sz; have u12:=rng32 (n + sz); have u13:=c_iadd n sz; (try simp only [Int32.lt_iff_toInt_lt, Int64.lt_iff_toInt_lt, ne_eq, ← Int32.toInt_inj, ← Int64.toInt_inj, Int32.reduceToInt, Int64.reduceToInt, Nat.reducePow] at u0 u1 u2 u3 u4 u5 u6 u7 u8 u9 u10 u11 u12 u13 ⊢); try omega) : ¬ ((500 : Int32) < C)) ((by have u0:=PC; have u1:=B0; have u2:=B1; have u3:=B2; have u4:=B3; have u5:=B4; have u6:=B5; have u7:=QC; have u8:=rng32 cs; have u9:=rng32 n; have u10:=rng32 C; have u11:=rng32 sz; have u12:=rng32 (n + sz); have u13:=c_iadd n sz; (try simp only [Int32.lt_iff_toInt_lt, Int64.lt_iff_toInt_lt, ne_eq, ← Int32.toInt_inj, ← Int64.toInt_inj, Int32.reduceToInt, Int64.reduceToInt, Nat.reducePow] at u0 u1 u2 u3 u4 u5 u6 u7 u8 u9 u10 u11 u12 u13 ⊢); try omega) : ¬ ((500 : Int32) < (n + sz))) (QC : ¬ (C < (n + sz)))) hZ tw71 tw40 (by decide) (by decide)) (g := (mkF m 16 #[.val (.ref b), .val (.long nv), .second, .val (.int n), .val (.int (n + sz))] [(.int (n + sz)), (.ref b)])) rfl (by rw [hml]; rfl) (Steps.refl _) (a := b) (by rw [q102_0]; exact q103) q103' (argsL := [(.int (n + sz))]) (rest := []) (lenOf pd_I_V rfl) rfl (Nat.le_of_eq rfl) (hb hby dk135) (fun _ _ => ⟨rfl, q102_0, (by decide : 0 + 0 ≤ _), (by decide : 0 + 0 ≤ _)⟩)
  dsimp only [Pt.U, Pt.locs, Pt.cells, Pt.slots] at X103 l103 y103 z103 st103 hQ103
  subst y103 z103
  obtain ⟨rfl, Nq103, q103_0⟩ := hQ103
  have N103 : Fr n0 L103 := by rw [l103]; exact Fr.app N102 Nq103
  refine Goes.step (S' := T103.setTop (mkF m 20 #[.val (.ref b), .val (.long nv), .second, .val (.int n), .val (.int (n + sz))] [(.ref b)])) (fun t k => st103.trans (XS.aloadN X103.here hx rfl (hb hby dk136) rfl rfl k)) ?_
  obtain ⟨cq107, kq107, q107a, q107b, q107c⟩ := isOf hZ q103_0 E1
  obtain ⟨_, _, ⟨T107, L107, k107, n107⟩, -, X107, ⟨Lc107, hQ107, l107, y107, z107⟩, st107⟩ := X103.virtualBack hx (y := mth8) (z := mth8) hown (mvT hZ tw72) (mvT hZ tw73) (notFace_of_selects (args := #[]) (mvT hZ tw75)) (mvT hZ tw75) (mvT hZ tw74) (by decide) (backOf (W := 0) (ail l Z a0 hw [] b cs h0 n0 Z0 Fc SC (PC : ¬ (cs = (0 : Int32)))) hZ tw76 tw40 (by decide) (by decide)) q107a q107c (g := (mkF m 20 #[.val (.ref b), .val (.long nv), .second, .val (.int n), .val (.int (n + sz))] [(.ref b)])) rfl (by rw [hml]; rfl) (Steps.refl _) (argsL := []) (rest := []) (lenOf pd_Z rfl) rfl (Nat.le_of_eq rfl) (hb hby dk137) (fun _ _ => ⟨rfl, q103_0, (by decide : 0 + 0 ≤ _), (by decide : 0 + 0 ≤ _)⟩)
  dsimp only [Pt.U, Pt.locs, Pt.cells, Pt.slots] at X107 l107 y107 z107 st107 hQ107
  subst y107 z107
  obtain ⟨rfl, Nq107, q107_0⟩ := hQ107
  have N107 : Fr n0 L107 := by rw [l107]; exact Fr.app N103 Nq107
  refine Goes.step (S' := T107.setTop (mkF m 30 #[.val (.ref b), .val (.long nv), .second, .val (.int n), .val (.int (n + sz))] [(.ref b), (.int (n + sz)), (.long nv)])) (fun t k => st107.trans (XS.ifNo X107.here hx rfl (hb hby dk138) rfl ((if0 _ _).trans (feq ((by decide) : ¬ ((1 : Int32) = (0 : Int32)))).1) (XS.lloadN X107.here hx rfl (hb hby dk139) rfl (XS.iload X107.here hx rfl (hb hby dk140) rfl (XS.aloadN X107.here hx rfl (hb hby dk141) rfl rfl k))))) ?_
  obtain ⟨T108, X108, e108, st108⟩ := getF X107 hx hZ hown (host := "") (Or.inl tw46) Via.refl q107_0 Fv (g := (mkF m 30 #[.val (.ref b), .val (.long nv), .second, .val (.int n), .val (.int (n + sz))] [(.ref b), (.int (n + sz)), (.long nv)])) rfl rfl (hb hby dk142)
  refine Goes.step (S' := T108.setTop (mkF m 33 #[.val (.ref b), .val (.long nv), .second, .val (.int n), .val (.int (n + sz))] [(.ref va), (.int (n + sz)), (.long nv)])) (fun t k => st108 _ k) ?_
  obtain ⟨_, _, ⟨T109, L109, k109, n109⟩, -, X109, ⟨Lc109, hQ109, l109, y109, z109⟩, st109⟩ := Jvm.LawKit.callS X108 hx (y := mth10) hown (mvT hZ tw77) (mvT hZ tw78) (mvT hZ tw64) (mvT hZ tw79) (by decide) (own_gc (W := 0) hZ (fun d hd => hw d (own_gcin d hd)) tw64 HS HA G2 V1 S1 W1 S2 W2 N1 N2 (own_idx HN HZ) (own_hle HN HZ (Nat.le_trans HB (by decide)) (Nat.le_trans (own_repB nv nn).2 (by decide)) QC) (by decide) (by decide)) (g := (mkF m 33 #[.val (.ref b), .val (.long nv), .second, .val (.int n), .val (.int (n + sz))] [(.ref va), (.int (n + sz)), (.long nv)])) rfl (by rw [hml]; rfl) (argsL := [(.long nv), (.int (n + sz)), (.ref va)]) (rest := []) (lenOf pd_JI_B_I rfl) rfl (Nat.le_of_eq rfl) (hb hby dk143) (fun _ _ => ⟨rfl, e108, (by decide : 0 + 0 ≤ _), (by decide : 0 + 0 ≤ _)⟩)
  dsimp only [Pt.U, Pt.locs, Pt.cells, Pt.slots] at X109 l109 y109 z109 st109 hQ109
  subst y109 z109
  obtain ⟨z_109, rfl, Nq109, q109_0, q109_1⟩ := hQ109
  have N109 : Fr n0 L109 := by rw [l109]; exact Fr.app N107 Nq109
  refine Goes.step (S' := T109.setTop (mkF m 55 #[.val (.ref b), .val (.long nv), .second, .val (.int n), .val (.int (n + sz))] [(.int (n + sz)), (.ref b)])) (fun t k => st109 _ (XS.pop X109.here hx rfl (hb hby dk144) rfl rfl (XS.goto X109.here hx rfl (pc0 := 37) (pc' := 52) rfl (hb hby dk145) (by decide) (by decide) (XS.aloadN X109.here hx rfl (hb hby dk146) rfl rfl (XS.iload X109.here hx rfl (hb hby dk147) rfl k))))) ?_
  obtain ⟨T110, h110, X110, e110, W110, st110⟩ := putF X109 hx hZ hown (host := "") (Or.inl tw60) Via.refl rfl (Fn.keep q109_0 (ninS (Exa.ne E1 E2 (by decide)) nin0)) (E1.keep q109_0) (Or.inl tw61) tw31 (ty := .int) (by decide) rfl rfl (g := (mkF m 55 #[.val (.ref b), .val (.long nv), .second, .val (.int n), .val (.int (n + sz))] [(.int (n + sz)), (.ref b)])) rfl rfl (hb hby dk148)
  have Fw110 : Fld Z h110 b "java/lang/AbstractStringBuilder" "count" "I" (.int (n + sz)) := Fld.same W110 (Fn.keep q109_0 (ninS (Exa.ne E1 E2 (by decide)) nin0))
  have N110 := Fr.snoc X110 N109 G1
  refine Goes.step (S' := T110.setTop (mkF m 59 #[.val (.ref b), .val (.long nv), .second, .val (.int n), .val (.int (n + sz))] [(.ref b)])) (fun t k => st110 _ (XS.aloadN X110.here hx rfl (hb hby dk149) rfl rfl k)) ?_
  refine Goes.leave (g := (mkF m 59 #[.val (.ref b), .val (.long nv), .second, .val (.int n), .val (.int (n + sz))] [(.ref b)])) X110 Bd.notSynchronized (v := (some (.ref b))) (fun h => by rw [Bd.returns] at h; cases h) (fun fs hr => by jvm_step X110.here [X110.here.top, hx, (hb hby dk150), X110.method', Bd.returns, Value.isRef, FieldType.isReference]; (first | (intro acts; rw [hr _ acts rfl rfl rfl]) | rw [hr _ _ rfl rfl rfl]); exact Steps.refl _) e110 ?_ (by decide) (by decide)
  exact ⟨rfl, N110, (((Keep.refl _ [b, va]).trans q109_0 (allS (Or.inl (List.mem_of_getElem? (i := 1) rfl)) all0)).wr W110 (Or.inl (List.mem_of_getElem? (i := 0) rfl))), (Fld.other W110 (Fv.keep q109_0 (ninS (Exa.ne E1 E2 (by decide)) nin0)) (Or.inr (slot_ne (Or.inl tw47) (Or.inl tw61) (by decide) (t := (.array .byte)) (t' := .int) (by decide) (by decide)))), (Fld.other W110 (Fc.keep q109_0 (ninS (Exa.ne E1 E2 (by decide)) nin0)) (Or.inr (slot_ne (Or.inl tw49) (Or.inl tw61) (by decide) (t := .byte) (t' := .int) (by decide) (by decide)))), Fw110, (q109_1.other W110 (Exa.ne (E2.keep q109_0) (E1.keep q109_0) (by decide)))⟩

theorem ef_sjs (m : MethodId) (x0 : Addr) (x1 : Int64) : entryFrame m #[(.ref x0), (.long x1)] 3 = mkF m 0 #[.val (.ref x0), .val (.long x1), .second] [] := by first | (simp [entryFrame, mkF, argsToLocals, Value.category]; done) | rfl
def Q_sjs (Z : State) (b : Addr) (va : Addr) (kv : ClassId) (C : Int32) (vs : List Value) (n : Int32) (cs : Int32) (nv : Int64) (nn : Nat) (sz : Int32) (d1 : Addr) (d2 : Addr) (kd1 : ClassId) (kd2 : ClassId) (h0 : Heap) (n0 : Nat) (v : Option Value) (h : Heap) (L : List Loc) : Prop := v = some (.ref b) ∧ Fr n0 L ∧ Keep h0 h [b, va] ∧ Fld Z h b "java/lang/AbstractStringBuilder" "value" "[B" (.ref va) ∧ Fld Z h b "java/lang/AbstractStringBuilder" "coder" "B" (.int (0 : Int32)) ∧ Fld Z h b "java/lang/AbstractStringBuilder" "count" "I" (.int (n + sz)) ∧ Arv Z h va kv .byte C (vs ++ own_rep nv nn) (.int (0 : Int32))
set_option maxRecDepth 65536 in
set_option maxHeartbeats 40000000 in
theorem sjs (l : Launch) (Z : State) (a0 : Array Value) (hw : ∀ d ∈ tables_1, d.before a0 Z = true) (ws : List Jvm.Cond) (b : Addr) (va : Addr) (kv : ClassId) (C : Int32) (vs : List Value) (n : Int32) (cs : Int32) (nv : Int64) (nn : Nat) (sz : Int32) (d1 : Addr) (d2 : Addr) (kd1 : ClassId) (kd2 : ClassId) (h0 : Heap) (n0 : Nat) (Z0 : n0 ≤ h0.size) (E1 : Exa Z h0 b "java/lang/StringBuilder") (G1 : n0 ≤ b) (E2 : Exa Z h0 va "[B") (G2 : n0 ≤ va) (Fv : Fld Z h0 b "java/lang/AbstractStringBuilder" "value" "[B" (.ref va)) (Fc : Fld Z h0 b "java/lang/AbstractStringBuilder" "coder" "B" (.int (0 : Int32))) (Fn : Fld Z h0 b "java/lang/AbstractStringBuilder" "count" "I" (.int n)) (V1 : Arv Z h0 va kv .byte C vs (.int (0 : Int32))) (SC : Sta Z h0 "java/lang/String" "COMPACT_STRINGS" "Z" (.int cs)) (PC : ¬ (cs = (0 : Int32))) (HN : n = Int32.ofNat vs.length) (HB : vs.length ≤ 40) (B0 : ¬ (n < (0 : Int32))) (B1 : ¬ ((40 : Int32) < n)) (B2 : ¬ (C < (0 : Int32))) (B3 : ¬ ((70 : Int32) < C)) (HA : own_abs nv nn) (HZ : sz = Int32.ofNat (own_rep nv nn).length) (B4 : (0 : Int32) < sz) (B5 : ¬ ((21 : Int32) < sz)) (S1 : Sta Z h0 "java/lang/Integer" "DigitOnes" "[B" (.ref d1)) (W1 : Arv Z h0 d1 kd1 .byte (100 : Int32) own_ones (.int (0 : Int32))) (S2 : Sta Z h0 "java/lang/Integer" "DigitTens" "[B" (.ref d2)) (W2 : Arv Z h0 d2 kd2 .byte (100 : Int32) own_tens (.int (0 : Int32))) (HS : own_same Z) (N1 : va ≠ d1) (N2 : va ≠ d2) (QC : ¬ (C < (n + sz))) :
    MetFree l mth12 (head1 (Jvm.Cond.code mth12 jdk_67_method_16_code 3 (some (.object "java/lang/StringBuilder")) :: ws) rom8) (fun a U => a = #[(.ref b), (.long nv)] ∧ Z.Warmed39 U.vm ∧ U.heap = h0) (fun _ _ _ _ _ => True) (fun _ U o U' => ∃ v L, o = .returned v ∧ Q_sjs Z b va kv C vs n cs nv nn sz d1 d2 kd1 kd2 h0 n0 v U'.heap L ∧ FrameEnd U o U' L rom8.cells rom8.slots) := by
  refine MetFree.of_bodySF (plainFor_of_name pnm1) hisR ?_
  intro p e s m args below meth c s₁ Bd hml0 hP hK
  obtain ⟨rfl, hZ, hh⟩ := hP
  have hx := Bd.exec
  have hby := Bd.bytes
  have hml : c.maxLocals = 3 := hml0
  have hown : s.vm.findClass "java/lang/StringBuilder" = some m.cls := findClass_of_methodNamed Bd.named
  have hnm := (name_of_methodNamed Bd.named Bd.method).1
  have X0 : Stand p l e rom8 s m #[(.ref b), (.long nv)] below meth c s₁ [] 0 0 := Stand.of_body Bd
  have eh0 : s₁.heap = h0 := by rw [← hh, Bd.state]; rfl
  have N0 := Fr.nil n0
  have tw40 := own_hw hw 40 rfl
  have tw55 := own_hw hw 55 rfl
  have tw56 := own_hw hw 56 rfl
  have tw57 := own_hw hw 57 rfl
  have tw59 := own_hw hw 59 rfl
  have tw70 := own_hw hw 70 rfl
  show Goes p e below (Pq (Q_sjs Z b va kv C vs n cs nv nn sz d1 d2 kd1 kd2 h0 n0) s rom8.cells rom8.slots) (s₁.setTop (entryFrame m #[(.ref b), (.long nv)] 3))
  refine Goes.step (S' := s₁.setTop (mkF m 0 #[.val (.ref b), .val (.long nv), .second] [])) (fun t k => castTop (ef_sjs m b nv) k) ?_
  refine Goes.step (S' := s₁.setTop (mkF m 2 #[.val (.ref b), .val (.long nv), .second] [(.long nv), (.ref b)])) (fun t k => XS.aloadN X0.here hx rfl (hb hby dk151) rfl rfl (XS.lloadN X0.here hx rfl (hb hby dk152) rfl k)) ?_
  obtain ⟨_, _, ⟨T101, L101, k101, n101⟩, -, X101, ⟨Lc101, hQ101, l101, y101, z101⟩, st101⟩ := superBack X0 hx hZ (y := mth11) hown tw55 (own_sameM tw70 tw56 rfl (by decide)) tw56 tw57 (by decide) (backOf (W := 0) (ajs l Z a0 hw [] b va kv C vs n cs nv nn sz d1 d2 kd1 kd2 h0 n0 Z0 E1 G1 E2 G2 Fv Fc Fn V1 SC (PC : ¬ (cs = (0 : Int32))) HN HB (B0 : ¬ (n < (0 : Int32))) (B1 : ¬ ((40 : Int32) < n)) (B2 : ¬ (C < (0 : Int32))) (B3 : ¬ ((70 : Int32) < C)) HA HZ (B4 : (0 : Int32) < sz) (B5 : ¬ ((21 : Int32) < sz)) S1 W1 S2 W2 HS N1 N2 (QC : ¬ (C < (n + sz)))) hZ tw59 tw40 (by decide) (by decide)) eh0 (Ins.self E1) (g := (mkF m 2 #[.val (.ref b), .val (.long nv), .second] [(.long nv), (.ref b)])) rfl (by rw [hml]; rfl) tw59 (argsL := [(.long nv)]) (rest := []) (lenOf pd_J_Ljava_lang_AbstractStringBuilder rfl) rfl (Nat.le_of_eq rfl) (hb hby dk153) (fun _ _ => ⟨rfl, eh0, (by decide : 0 + 0 ≤ _), (by decide : 0 + 0 ≤ _)⟩)
  dsimp only [Pt.U, Pt.locs, Pt.cells, Pt.slots] at X101 l101 y101 z101 st101 hQ101
  subst y101 z101
  obtain ⟨rfl, Nq101, q101_0, q101_1, q101_2, q101_3, q101_4⟩ := hQ101
  have N101 : Fr n0 L101 := by rw [l101]; exact Fr.app N0 Nq101
  refine Goes.step (S' := T101.setTop (mkF m 7 #[.val (.ref b), .val (.long nv), .second] [(.ref b)])) (fun t k => st101.trans (XS.pop X101.here hx rfl (hb hby dk154) rfl rfl (XS.aloadN X101.here hx rfl (hb hby dk155) rfl rfl k))) ?_
  refine Goes.leave (g := (mkF m 7 #[.val (.ref b), .val (.long nv), .second] [(.ref b)])) X101 Bd.notSynchronized (v := (some (.ref b))) (fun h => by rw [Bd.returns] at h; cases h) (fun fs hr => by jvm_step X101.here [X101.here.top, hx, (hb hby dk156), X101.method', Bd.returns, Value.isRef, FieldType.isReference]; (first | (intro acts; rw [hr _ acts rfl rfl rfl]) | rw [hr _ _ rfl rfl rfl]); exact Steps.refl _) rfl ?_ (by decide) (by decide)
  exact ⟨rfl, N101, ((Keep.refl _ [b, va]).trans q101_0 (allS (Or.inl (List.mem_of_getElem? (i := 0) rfl)) (allS (Or.inl (List.mem_of_getElem? (i := 1) rfl)) all0))), q101_1, q101_2, q101_3, q101_4⟩

theorem ef_ajg (m : MethodId) (x0 : Addr) (x1 : Int64) : entryFrame m #[(.ref x0), (.long x1)] 5 = mkF m 0 #[.val (.ref x0), .val (.long x1), .second, .unset, .unset] [] := by first | (simp [entryFrame, mkF, argsToLocals, Value.category]; done) | rfl
def Q_ajg (Z : State) (b : Addr) (va : Addr) (kv : ClassId) (C : Int32) (vs : List Value) (n : Int32) (cs : Int32) (nv : Int64) (nn : Nat) (sz : Int32) (d1 : Addr) (d2 : Addr) (kd1 : ClassId) (kd2 : ClassId) (M : Int32) (h0 : Heap) (n0 : Nat) (v : Option Value) (h : Heap) (L : List Loc) : Prop := ∃ (va2 : Addr) (kv2 : ClassId) (C2 : Int32), v = some (.ref b) ∧ Fr n0 L ∧ Keep h0 h [b] ∧ h0.size ≤ va2 ∧ Exa Z h va2 "[B" ∧ Fld Z h b "java/lang/AbstractStringBuilder" "value" "[B" (.ref va2) ∧ Fld Z h b "java/lang/AbstractStringBuilder" "coder" "B" (.int (0 : Int32)) ∧ Fld Z h b "java/lang/AbstractStringBuilder" "count" "I" (.int (n + sz)) ∧ Arv Z h va2 kv2 .byte C2 (vs ++ own_rep nv nn) (.int (0 : Int32)) ∧ ¬ (C2 < (n + sz)) ∧ ¬ (M < C2) ∧ ¬ (C2 < (C + (C + (2 : Int32))))
set_option maxRecDepth 65536 in
set_option maxHeartbeats 40000000 in
theorem ajg (l : Launch) (Z : State) (a0 : Array Value) (hw : ∀ d ∈ tables_1, d.before a0 Z = true) (ws : List Jvm.Cond) (b : Addr) (va : Addr) (kv : ClassId) (C : Int32) (vs : List Value) (n : Int32) (cs : Int32) (nv : Int64) (nn : Nat) (sz : Int32) (d1 : Addr) (d2 : Addr) (kd1 : ClassId) (kd2 : ClassId) (M : Int32) (h0 : Heap) (n0 : Nat) (Z0 : n0 ≤ h0.size) (E1 : Exa Z h0 b "java/lang/StringBuilder") (G1 : n0 ≤ b) (E2 : Exa Z h0 va "[B") (G2 : n0 ≤ va) (Fv : Fld Z h0 b "java/lang/AbstractStringBuilder" "value" "[B" (.ref va)) (Fc : Fld Z h0 b "java/lang/AbstractStringBuilder" "coder" "B" (.int (0 : Int32))) (Fn : Fld Z h0 b "java/lang/AbstractStringBuilder" "count" "I" (.int n)) (V1 : Arv Z h0 va kv .byte C vs (.int (0 : Int32))) (SC : Sta Z h0 "java/lang/String" "COMPACT_STRINGS" "Z" (.int cs)) (PC : ¬ (cs = (0 : Int32))) (HN : n = Int32.ofNat vs.length) (HB : vs.length ≤ 40) (B0 : ¬ (n < (0 : Int32))) (B1 : ¬ ((40 : Int32) < n)) (B2 : ¬ (C < (0 : Int32))) (B3 : ¬ ((70 : Int32) < C)) (HA : own_abs nv nn) (HZ : sz = Int32.ofNat (own_rep nv nn).length) (B4 : (0 : Int32) < sz) (B5 : ¬ ((21 : Int32) < sz)) (S1 : Sta Z h0 "java/lang/Integer" "DigitOnes" "[B" (.ref d1)) (W1 : Arv Z h0 d1 kd1 .byte (100 : Int32) own_ones (.int (0 : Int32))) (S2 : Sta Z h0 "java/lang/Integer" "DigitTens" "[B" (.ref d2)) (W2 : Arv Z h0 d2 kd2 .byte (100 : Int32) own_tens (.int (0 : Int32))) (HS : own_same Z) (N1 : va ≠ d1) (N2 : va ≠ d2) (QC : C < (n + sz)) (QM : ¬ (M < (n + sz))) (QM2 : ¬ (M < (C + (C + (2 : Int32))))) (QM3 : ¬ ((70 : Int32) < M)) (QN : ¬ (C < n)) :
    MetFree l mth11 (head1 (Jvm.Cond.code mth11 jdk_68_method_33_code 5 (some (.object "java/lang/AbstractStringBuilder")) :: ws) rom9) (fun a U => a = #[(.ref b), (.long nv)] ∧ Z.Warmed39 U.vm ∧ U.heap = h0) (fun _ _ _ _ _ => True) (fun _ U o U' => ∃ v L, o = .returned v ∧ Q_ajg Z b va kv C vs n cs nv nn sz d1 d2 kd1 kd2 M h0 n0 v U'.heap L ∧ FrameEnd U o U' L rom9.cells rom9.slots) := by
  refine MetFree.of_bodySF (plainFor_of_name pnm0) hisR ?_
  intro p e s m args below meth c s₁ Bd hml0 hP hK
  obtain ⟨rfl, hZ, hh⟩ := hP
  have hx := Bd.exec
  have hby := Bd.bytes
  have hml : c.maxLocals = 5 := hml0
  have hown : s.vm.findClass "java/lang/AbstractStringBuilder" = some m.cls := findClass_of_methodNamed Bd.named
  have hnm := (name_of_methodNamed Bd.named Bd.method).1
  have X0 : Stand p l e rom9 s m #[(.ref b), (.long nv)] below meth c s₁ [] 0 0 := Stand.of_body Bd
  have eh0 : s₁.heap = h0 := by rw [← hh, Bd.state]; rfl
  have N0 := Fr.nil n0
  have tw31 := own_hw hw 31 rfl
  have tw40 := own_hw hw 40 rfl
  have tw46 := own_hw hw 46 rfl
  have tw47 := own_hw hw 47 rfl
  have tw49 := own_hw hw 49 rfl
  have tw60 := own_hw hw 60 rfl
  have tw61 := own_hw hw 61 rfl
  have tw62 := own_hw hw 62 rfl
  have tw63 := own_hw hw 63 rfl
  have tw64 := own_hw hw 64 rfl
  have tw65 := own_hw hw 65 rfl
  have tw67 := own_hw hw 67 rfl
  have tw68 := own_hw hw 68 rfl
  have tw69 := own_hw hw 69 rfl
  have tw70 := own_hw hw 70 rfl
  have tw71 := own_hw hw 71 rfl
  have tw72 := own_hw hw 72 rfl
  have tw73 := own_hw hw 73 rfl
  have tw74 := own_hw hw 74 rfl
  have tw75 := own_hw hw 75 rfl
  have tw76 := own_hw hw 76 rfl
  have tw77 := own_hw hw 77 rfl
  have tw78 := own_hw hw 78 rfl
  have tw79 := own_hw hw 79 rfl
  show Goes p e below (Pq (Q_ajg Z b va kv C vs n cs nv nn sz d1 d2 kd1 kd2 M h0 n0) s rom9.cells rom9.slots) (s₁.setTop (entryFrame m #[(.ref b), (.long nv)] 5))
  refine Goes.step (S' := s₁.setTop (mkF m 0 #[.val (.ref b), .val (.long nv), .second, .unset, .unset] [])) (fun t k => castTop (ef_ajg m b nv) k) ?_
  refine Goes.step (S' := s₁.setTop (mkF m 1 #[.val (.ref b), .val (.long nv), .second, .unset, .unset] [(.ref b)])) (fun t k => XS.aloadN X0.here hx rfl (hb hby dk125) rfl rfl k) ?_
  obtain ⟨T101, X101, e101, st101⟩ := getF X0 hx hZ hown (host := "") (Or.inl tw60) Via.refl eh0 Fn (g := (mkF m 1 #[.val (.ref b), .val (.long nv), .second, .unset, .unset] [(.ref b)])) rfl rfl (hb hby dk126)
  refine Goes.step (S' := T101.setTop (mkF m 7 #[.val (.ref b), .val (.long nv), .second, .val (.int n), .unset] [(.long nv), (.int n)])) (fun t k => st101 _ (XS.istoreN X101.here hx rfl (hb hby dk127) rfl (l' := #[.val (.ref b), .val (.long nv), .second, .val (.int n), .unset]) rfl (XS.iloadN X101.here hx rfl (hb hby dk128) rfl (XS.lloadN X101.here hx rfl (hb hby dk129) rfl k)))) ?_
  obtain ⟨_, _, ⟨T102, L102, k102, n102⟩, -, X102, ⟨Lc102, hQ102, l102, y102, z102⟩, st102⟩ := Jvm.LawKit.callS X101 hx (y := mth9) hown (mvT hZ tw62) (mvT hZ tw63) (mvT hZ tw64) (mvT hZ tw65) (by decide) (own_ss (n0 := n0) (W := 1) hZ (fun d hd => hw d (own_ssin d hd)) tw64 HA HZ (by decide) (by decide)) (g := (mkF m 7 #[.val (.ref b), .val (.long nv), .second, .val (.int n), .unset] [(.long nv), (.int n)])) rfl (by rw [hml]; rfl) (argsL := [(.long nv)]) (rest := [(.int n)]) (lenOf pd_J_I rfl) rfl (Nat.le_of_eq rfl) (hb hby dk130) (fun _ _ => ⟨rfl, e101, (by decide : 0 + 0 ≤ _), (by decide : 0 + 0 ≤ _)⟩)
  dsimp only [Pt.U, Pt.locs, Pt.cells, Pt.slots] at X102 l102 y102 z102 st102 hQ102
  subst y102 z102
  obtain ⟨rfl, Nq102, q102_0⟩ := hQ102
  have N102 : Fr n0 L102 := by rw [l102]; exact Fr.app N0 Nq102
  refine Goes.step (S' := T102.setTop (mkF m 16 #[.val (.ref b), .val (.long nv), .second, .val (.int n), .val (.int (n + sz))] [(.int (n + sz)), (.ref b)])) (fun t k => st102 _ (XS.iadd X102.here hx rfl (hb hby dk131) rfl (XS.istore X102.here hx rfl (hb hby dk132) rfl (l' := #[.val (.ref b), .val (.long nv), .second, .val (.int n), .val (.int (n + sz))]) rfl (XS.aloadN X102.here hx rfl (hb hby dk133) rfl rfl (XS.iload X102.here hx rfl (hb hby dk134) rfl k))))) ?_
  obtain ⟨cq103, q103, q103'⟩ := E1.cell
  obtain ⟨_, _, ⟨T103, L103, k103, n103⟩, -, X103, ⟨Lc103, hQ103, l103, y103, z103⟩, st103⟩ := X102.privateBack hx (y := mth7) hown (mvT hZ tw67) (mvT hZ tw68) (own_selU (mvT hZ tw70) (mvT hZ tw68) (mvP hZ tw69) (by decide)) (Cond.privateMethod_at (mvP hZ tw69 (args := #[]))) (mvT hZ tw71) (by decide) (backOf (W := 0) (ecg l Z a0 hw [] b va kv C vs (n + sz) n M h0 n0 Z0 E1 G1 Fn Fv Fc V1 (B2 : ¬ (C < (0 : Int32))) ((by have u0:=PC; have u1:=B0; have u2:=B1; have u3:=B2; have u4:=B3; have u5:=B4; have u6:=B5; have u7:=QC; have u8:=QM; have u9:=QM2; have u10:=QM3; have u11:=QN; have u12:=rng32 cs; have u13:=rng32 n; have u14:=rng32 C; have u15:=rng32 sz; have u16:=rng32 (n + sz); have u17:=c_iadd n sz; have u18:=rng32 M; have u19:=rng32 (C + (C + (2 : Int32))); have u20:=c_iadd C (C + (2 : Int32)); have u21:=rng32 (C + (2 : Int32)); have u22:=c_iadd C (2 : Int32); (try simp only [Int32.lt_iff_toInt_lt, Int64.lt_iff_toInt_lt, ne_eq, ← Int32.toInt_inj, ← Int64.toInt_inj, Int32.reduceToInt, Int64.reduceToInt, Nat.reducePow] at u0 u1 u2 u3 u4 u5 u6 u7 u8 u9 u10 u11 u12 u13 u14 u15 u16 u17 u18 u19 u20 u21 u22 ⊢); try omega) : ¬ ((n + sz) < (0 : Int32))) ((by have u0:=PC; have u1:=B0; have u2:=B1; have u3:=B2; have u4:=B3; have u5:=B4; have u6:=B5; have u7:=QC; have u8:=QM; have u9:=QM2; have u10:=QM3; have u11:=QN; have u12:=rng32 cs; have u13:=rng32 n; have u14:=rng32 C; have u15:=rng32 sz; have u16:=rng32 (n + sz); have u17:=c_iadd n sz; have u18:=rng32 M; have u19:=rng32 (C + (C + (2 : Int32))); have u20:=c_iadd C (C + (2 : Int32)); have u21:=rng32 (C + (2 : Int32)); have u22:=c_iadd C (2 : Int32); (try simp only [Int32.lt_iff_toInt_lt, Int64.lt_iff_toInt_lt, ne_eq, ← Int32.toInt_inj, ← Int64.toInt_inj, Int32.reduceToInt, Int64.reduceToInt, Nat.reducePow] at u0 u1 u2 u3 u4 u5 u6 u7 u8 u9 u10 u11 u12 u13 u14 u15 u16 u17 u18 u19 u20 u21 u22 ⊢); try omega) : ¬ ((500 : Int32) < C)) ((by have u0:=PC; have u1:=B0; have u2:=B1; have u3:=B2; have u4:=B3; have u5:=B4; have u6:=B5; have u7:=QC; have u8:=QM; have u9:=QM2; have u10:=QM3; have u11:=QN; have u12:=rng32 cs; have u13:=rng32 n; have u14:=rng32 C; have u15:=rng32 sz; have u16:=rng32 (n + sz); have u17:=c_iadd n sz; have u18:=rng32 M; have u19:=rng32 (C + (C + (2 : Int32))); have u20:=c_iadd C (C + (2 : Int32)); have u21:=rng32 (C + (2 : Int32)); have u22:=c_iadd C (2 : Int32); (try simp only [Int32.lt_iff_toInt_lt, Int64.lt_iff_toInt_lt, ne_eq, ← Int32.toInt_inj, ← Int64.toInt_inj, Int32.reduceToInt, Int64.reduceToInt, Nat.reducePow] at u0 u1 u2 u3 u4 u5 u6 u7 u8 u9 u10 u11 u12 u13 u14 u15 u16 u17 u18 u19 u20 u21 u22 ⊢); try omega) : ¬ ((500 : Int32) < (n + sz))) (QC : C < (n + sz)) (QM : ¬ (M < (n + sz))) (QM2 : ¬ (M < (C + (C + (2 : Int32))))) (QM3 : ¬ ((70 : Int32) < M)) (own_hle1 HN (Nat.le_trans HB (by decide)) QN)) hZ tw71 tw40 (by decide) (by decide)) (g := (mkF m 16 #[.val (.ref b), .val (.long nv), .second, .val (.int n), .val (.int (n + sz))] [(.int (n + sz)), (.ref b)])) rfl (by rw [hml]; rfl) (Steps.refl _) (a := b) (by rw [q102_0]; exact q103) q103' (argsL := [(.int (n + sz))]) (rest := []) (lenOf pd_I_V rfl) rfl (Nat.le_of_eq rfl) (hb hby dk135) (fun _ _ => ⟨rfl, q102_0, (by decide : 0 + 1 ≤ _), (by decide : 0 + 70 ≤ _)⟩)
  dsimp only [Pt.U, Pt.locs, Pt.cells, Pt.slots] at X103 l103 y103 z103 st103 hQ103
  subst y103 z103
  obtain ⟨va2_103, kv2_103, C2_103, rfl, Nq103, q103_0, q103_1, q103_2, q103_3, q103_4, q103_5, q103_6, q103_7, q103_8, q103_9⟩ := hQ103
  have N103 : Fr n0 L103 := by rw [l103]; exact Fr.app N102 Nq103
  refine Goes.step (S' := T103.setTop (mkF m 20 #[.val (.ref b), .val (.long nv), .second, .val (.int n), .val (.int (n + sz))] [(.ref b)])) (fun t k => st103.trans (XS.aloadN X103.here hx rfl (hb hby dk136) rfl rfl k)) ?_
  obtain ⟨cq107, kq107, q107a, q107b, q107c⟩ := isOf hZ rfl (E1.keep q103_0)
  obtain ⟨_, _, ⟨T107, L107, k107, n107⟩, -, X107, ⟨Lc107, hQ107, l107, y107, z107⟩, st107⟩ := X103.virtualBack hx (y := mth8) (z := mth8) hown (mvT hZ tw72) (mvT hZ tw73) (notFace_of_selects (args := #[]) (mvT hZ tw75)) (mvT hZ tw75) (mvT hZ tw74) (by decide) (backOf (W := 0) (ail l Z a0 hw [] b cs T103.heap n0 (Nat.le_trans Z0 q103_0.1) q103_4 (own_stakeep SC q103_0 (nsS E1.nostat ns0)) (PC : ¬ (cs = (0 : Int32)))) hZ tw76 tw40 (by decide) (by decide)) q107a q107c (g := (mkF m 20 #[.val (.ref b), .val (.long nv), .second, .val (.int n), .val (.int (n + sz))] [(.ref b)])) rfl (by rw [hml]; rfl) (Steps.refl _) (argsL := []) (rest := []) (lenOf pd_Z rfl) rfl (Nat.le_of_eq rfl) (hb hby dk137) (fun _ _ => ⟨rfl, rfl, (by decide : 1 + 0 ≤ _), (by decide : 70 + 0 ≤ _)⟩)
  dsimp only [Pt.U, Pt.locs, Pt.cells, Pt.slots] at X107 l107 y107 z107 st107 hQ107
  subst y107 z107
  obtain ⟨rfl, Nq107, q107_0⟩ := hQ107
  have N107 : Fr n0 L107 := by rw [l107]; exact Fr.app N103 Nq107
  refine Goes.step (S' := T107.setTop (mkF m 30 #[.val (.ref b), .val (.long nv), .second, .val (.int n), .val (.int (n + sz))] [(.ref b), (.int (n + sz)), (.long nv)])) (fun t k => st107.trans (XS.ifNo X107.here hx rfl (hb hby dk138) rfl ((if0 _ _).trans (feq ((by decide) : ¬ ((1 : Int32) = (0 : Int32)))).1) (XS.lloadN X107.here hx rfl (hb hby dk139) rfl (XS.iload X107.here hx rfl (hb hby dk140) rfl (XS.aloadN X107.here hx rfl (hb hby dk141) rfl rfl k))))) ?_
  obtain ⟨T108, X108, e108, st108⟩ := getF X107 hx hZ hown (host := "") (Or.inl tw46) Via.refl q107_0 q103_3 (g := (mkF m 30 #[.val (.ref b), .val (.long nv), .second, .val (.int n), .val (.int (n + sz))] [(.ref b), (.int (n + sz)), (.long nv)])) rfl rfl (hb hby dk142)
  refine Goes.step (S' := T108.setTop (mkF m 33 #[.val (.ref b), .val (.long nv), .second, .val (.int n), .val (.int (n + sz))] [(.ref va2_103), (.int (n + sz)), (.long nv)])) (fun t k => st108 _ k) ?_
  obtain ⟨_, _, ⟨T109, L109, k109, n109⟩, -, X109, ⟨Lc109, hQ109, l109, y109, z109⟩, st109⟩ := Jvm.LawKit.callS X108 hx (y := mth10) hown (mvT hZ tw77) (mvT hZ tw78) (mvT hZ tw64) (mvT hZ tw79) (by decide) (own_gc (W := 0) hZ (fun d hd => hw d (own_gcin d hd)) tw64 HS HA (Nat.le_trans Z0 q103_1) q103_6 (own_stakeep S1 q103_0 (nsS E1.nostat ns0)) (W1.keep q103_0 (ninS (Ne.symm (Exa.neArv E1 W1 tw31)) nin0)) (own_stakeep S2 q103_0 (nsS E1.nostat ns0)) (W2.keep q103_0 (ninS (Ne.symm (Exa.neArv E1 W2 tw31)) nin0)) (Ne.symm (Nat.ne_of_lt (Nat.lt_of_lt_of_le W1.lt q103_1))) (Ne.symm (Nat.ne_of_lt (Nat.lt_of_lt_of_le W2.lt q103_1))) (own_idx HN HZ) (own_hle HN HZ (Nat.le_trans HB (by decide)) (Nat.le_trans (own_repB nv nn).2 (by decide)) q103_7) (by decide) (by decide)) (g := (mkF m 33 #[.val (.ref b), .val (.long nv), .second, .val (.int n), .val (.int (n + sz))] [(.ref va2_103), (.int (n + sz)), (.long nv)])) rfl (by rw [hml]; rfl) (argsL := [(.long nv), (.int (n + sz)), (.ref va2_103)]) (rest := []) (lenOf pd_JI_B_I rfl) rfl (Nat.le_of_eq rfl) (hb hby dk143) (fun _ _ => ⟨rfl, e108, (by decide : 1 + 0 ≤ _), (by decide : 70 + 0 ≤ _)⟩)
  dsimp only [Pt.U, Pt.locs, Pt.cells, Pt.slots] at X109 l109 y109 z109 st109 hQ109
  subst y109 z109
  obtain ⟨z_109, rfl, Nq109, q109_0, q109_1⟩ := hQ109
  have N109 : Fr n0 L109 := by rw [l109]; exact Fr.app N107 Nq109
  refine Goes.step (S' := T109.setTop (mkF m 55 #[.val (.ref b), .val (.long nv), .second, .val (.int n), .val (.int (n + sz))] [(.int (n + sz)), (.ref b)])) (fun t k => st109 _ (XS.pop X109.here hx rfl (hb hby dk144) rfl rfl (XS.goto X109.here hx rfl (pc0 := 37) (pc' := 52) rfl (hb hby dk145) (by decide) (by decide) (XS.aloadN X109.here hx rfl (hb hby dk146) rfl rfl (XS.iload X109.here hx rfl (hb hby dk147) rfl k))))) ?_
  obtain ⟨T110, h110, X110, e110, W110, st110⟩ := putF X109 hx hZ hown (host := "") (Or.inl tw60) Via.refl rfl (q103_5.keep q109_0 (ninS (Nat.ne_of_lt (Nat.lt_of_lt_of_le E1.lt q103_1)) nin0)) ((E1.keep q103_0).keep q109_0) (Or.inl tw61) tw31 (ty := .int) (by decide) rfl rfl (g := (mkF m 55 #[.val (.ref b), .val (.long nv), .second, .val (.int n), .val (.int (n + sz))] [(.int (n + sz)), (.ref b)])) rfl rfl (hb hby dk148)
  have Fw110 : Fld Z h110 b "java/lang/AbstractStringBuilder" "count" "I" (.int (n + sz)) := Fld.same W110 (q103_5.keep q109_0 (ninS (Nat.ne_of_lt (Nat.lt_of_lt_of_le E1.lt q103_1)) nin0))
  have N110 := Fr.snoc X110 N109 G1
  refine Goes.step (S' := T110.setTop (mkF m 59 #[.val (.ref b), .val (.long nv), .second, .val (.int n), .val (.int (n + sz))] [(.ref b)])) (fun t k => st110 _ (XS.aloadN X110.here hx rfl (hb hby dk149) rfl rfl k)) ?_
  refine Goes.leave (g := (mkF m 59 #[.val (.ref b), .val (.long nv), .second, .val (.int n), .val (.int (n + sz))] [(.ref b)])) X110 Bd.notSynchronized (v := (some (.ref b))) (fun h => by rw [Bd.returns] at h; cases h) (fun fs hr => by jvm_step X110.here [X110.here.top, hx, (hb hby dk150), X110.method', Bd.returns, Value.isRef, FieldType.isReference]; (first | (intro acts; rw [hr _ acts rfl rfl rfl]) | rw [hr _ _ rfl rfl rfl]); exact Steps.refl _) e110 ?_ (by decide) (by decide)
  exact ⟨va2_103, kv2_103, C2_103, rfl, N110, ((((Keep.refl _ [b]).trans q103_0 (allS (Or.inl (List.mem_of_getElem? (i := 0) rfl)) all0)).trans q109_0 (allS (Or.inr q103_1) all0)).wr W110 (Or.inl (List.mem_of_getElem? (i := 0) rfl))), q103_1, (Exa.wr W110 (q103_2.keep q109_0)), (Fld.other W110 (q103_3.keep q109_0 (ninS (Nat.ne_of_lt (Nat.lt_of_lt_of_le E1.lt q103_1)) nin0)) (Or.inr (slot_ne (Or.inl tw47) (Or.inl tw61) (by decide) (t := (.array .byte)) (t' := .int) (by decide) (by decide)))), (Fld.other W110 (q103_4.keep q109_0 (ninS (Nat.ne_of_lt (Nat.lt_of_lt_of_le E1.lt q103_1)) nin0)) (Or.inr (slot_ne (Or.inl tw49) (Or.inl tw61) (by decide) (t := .byte) (t' := .int) (by decide) (by decide)))), Fw110, (q109_1.other W110 (Ne.symm (Nat.ne_of_lt (Nat.lt_of_lt_of_le E1.lt q103_1)))), (q103_7 : ¬ (C2_103 < (n + sz))), (q103_8 : ¬ (M < C2_103)), (q103_9 : ¬ (C2_103 < (C + (C + (2 : Int32)))))⟩

theorem ef_sjg (m : MethodId) (x0 : Addr) (x1 : Int64) : entryFrame m #[(.ref x0), (.long x1)] 3 = mkF m 0 #[.val (.ref x0), .val (.long x1), .second] [] := by first | (simp [entryFrame, mkF, argsToLocals, Value.category]; done) | rfl
def Q_sjg (Z : State) (b : Addr) (va : Addr) (kv : ClassId) (C : Int32) (vs : List Value) (n : Int32) (cs : Int32) (nv : Int64) (nn : Nat) (sz : Int32) (d1 : Addr) (d2 : Addr) (kd1 : ClassId) (kd2 : ClassId) (M : Int32) (h0 : Heap) (n0 : Nat) (v : Option Value) (h : Heap) (L : List Loc) : Prop := ∃ (va2 : Addr) (kv2 : ClassId) (C2 : Int32), v = some (.ref b) ∧ Fr n0 L ∧ Keep h0 h [b] ∧ h0.size ≤ va2 ∧ Exa Z h va2 "[B" ∧ Fld Z h b "java/lang/AbstractStringBuilder" "value" "[B" (.ref va2) ∧ Fld Z h b "java/lang/AbstractStringBuilder" "coder" "B" (.int (0 : Int32)) ∧ Fld Z h b "java/lang/AbstractStringBuilder" "count" "I" (.int (n + sz)) ∧ Arv Z h va2 kv2 .byte C2 (vs ++ own_rep nv nn) (.int (0 : Int32)) ∧ ¬ (C2 < (n + sz)) ∧ ¬ (M < C2) ∧ ¬ (C2 < (C + (C + (2 : Int32))))
set_option maxRecDepth 65536 in
set_option maxHeartbeats 40000000 in
theorem sjg (l : Launch) (Z : State) (a0 : Array Value) (hw : ∀ d ∈ tables_1, d.before a0 Z = true) (ws : List Jvm.Cond) (b : Addr) (va : Addr) (kv : ClassId) (C : Int32) (vs : List Value) (n : Int32) (cs : Int32) (nv : Int64) (nn : Nat) (sz : Int32) (d1 : Addr) (d2 : Addr) (kd1 : ClassId) (kd2 : ClassId) (M : Int32) (h0 : Heap) (n0 : Nat) (Z0 : n0 ≤ h0.size) (E1 : Exa Z h0 b "java/lang/StringBuilder") (G1 : n0 ≤ b) (E2 : Exa Z h0 va "[B") (G2 : n0 ≤ va) (Fv : Fld Z h0 b "java/lang/AbstractStringBuilder" "value" "[B" (.ref va)) (Fc : Fld Z h0 b "java/lang/AbstractStringBuilder" "coder" "B" (.int (0 : Int32))) (Fn : Fld Z h0 b "java/lang/AbstractStringBuilder" "count" "I" (.int n)) (V1 : Arv Z h0 va kv .byte C vs (.int (0 : Int32))) (SC : Sta Z h0 "java/lang/String" "COMPACT_STRINGS" "Z" (.int cs)) (PC : ¬ (cs = (0 : Int32))) (HN : n = Int32.ofNat vs.length) (HB : vs.length ≤ 40) (B0 : ¬ (n < (0 : Int32))) (B1 : ¬ ((40 : Int32) < n)) (B2 : ¬ (C < (0 : Int32))) (B3 : ¬ ((70 : Int32) < C)) (HA : own_abs nv nn) (HZ : sz = Int32.ofNat (own_rep nv nn).length) (B4 : (0 : Int32) < sz) (B5 : ¬ ((21 : Int32) < sz)) (S1 : Sta Z h0 "java/lang/Integer" "DigitOnes" "[B" (.ref d1)) (W1 : Arv Z h0 d1 kd1 .byte (100 : Int32) own_ones (.int (0 : Int32))) (S2 : Sta Z h0 "java/lang/Integer" "DigitTens" "[B" (.ref d2)) (W2 : Arv Z h0 d2 kd2 .byte (100 : Int32) own_tens (.int (0 : Int32))) (HS : own_same Z) (N1 : va ≠ d1) (N2 : va ≠ d2) (QC : C < (n + sz)) (QM : ¬ (M < (n + sz))) (QM2 : ¬ (M < (C + (C + (2 : Int32))))) (QM3 : ¬ ((70 : Int32) < M)) (QN : ¬ (C < n)) :
    MetFree l mth12 (head1 (Jvm.Cond.code mth12 jdk_67_method_16_code 3 (some (.object "java/lang/StringBuilder")) :: ws) rom10) (fun a U => a = #[(.ref b), (.long nv)] ∧ Z.Warmed39 U.vm ∧ U.heap = h0) (fun _ _ _ _ _ => True) (fun _ U o U' => ∃ v L, o = .returned v ∧ Q_sjg Z b va kv C vs n cs nv nn sz d1 d2 kd1 kd2 M h0 n0 v U'.heap L ∧ FrameEnd U o U' L rom10.cells rom10.slots) := by
  refine MetFree.of_bodySF (plainFor_of_name pnm1) hisR ?_
  intro p e s m args below meth c s₁ Bd hml0 hP hK
  obtain ⟨rfl, hZ, hh⟩ := hP
  have hx := Bd.exec
  have hby := Bd.bytes
  have hml : c.maxLocals = 3 := hml0
  have hown : s.vm.findClass "java/lang/StringBuilder" = some m.cls := findClass_of_methodNamed Bd.named
  have hnm := (name_of_methodNamed Bd.named Bd.method).1
  have X0 : Stand p l e rom10 s m #[(.ref b), (.long nv)] below meth c s₁ [] 0 0 := Stand.of_body Bd
  have eh0 : s₁.heap = h0 := by rw [← hh, Bd.state]; rfl
  have N0 := Fr.nil n0
  have tw40 := own_hw hw 40 rfl
  have tw55 := own_hw hw 55 rfl
  have tw56 := own_hw hw 56 rfl
  have tw57 := own_hw hw 57 rfl
  have tw59 := own_hw hw 59 rfl
  have tw70 := own_hw hw 70 rfl
  show Goes p e below (Pq (Q_sjg Z b va kv C vs n cs nv nn sz d1 d2 kd1 kd2 M h0 n0) s rom10.cells rom10.slots) (s₁.setTop (entryFrame m #[(.ref b), (.long nv)] 3))
  refine Goes.step (S' := s₁.setTop (mkF m 0 #[.val (.ref b), .val (.long nv), .second] [])) (fun t k => castTop (ef_sjg m b nv) k) ?_
  refine Goes.step (S' := s₁.setTop (mkF m 2 #[.val (.ref b), .val (.long nv), .second] [(.long nv), (.ref b)])) (fun t k => XS.aloadN X0.here hx rfl (hb hby dk151) rfl rfl (XS.lloadN X0.here hx rfl (hb hby dk152) rfl k)) ?_
  obtain ⟨_, _, ⟨T101, L101, k101, n101⟩, -, X101, ⟨Lc101, hQ101, l101, y101, z101⟩, st101⟩ := superBack X0 hx hZ (y := mth11) hown tw55 (own_sameM tw70 tw56 rfl (by decide)) tw56 tw57 (by decide) (backOf (W := 0) (ajg l Z a0 hw [] b va kv C vs n cs nv nn sz d1 d2 kd1 kd2 M h0 n0 Z0 E1 G1 E2 G2 Fv Fc Fn V1 SC (PC : ¬ (cs = (0 : Int32))) HN HB (B0 : ¬ (n < (0 : Int32))) (B1 : ¬ ((40 : Int32) < n)) (B2 : ¬ (C < (0 : Int32))) (B3 : ¬ ((70 : Int32) < C)) HA HZ (B4 : (0 : Int32) < sz) (B5 : ¬ ((21 : Int32) < sz)) S1 W1 S2 W2 HS N1 N2 (QC : C < (n + sz)) (QM : ¬ (M < (n + sz))) (QM2 : ¬ (M < (C + (C + (2 : Int32))))) (QM3 : ¬ ((70 : Int32) < M)) (QN : ¬ (C < n))) hZ tw59 tw40 (by decide) (by decide)) eh0 (Ins.self E1) (g := (mkF m 2 #[.val (.ref b), .val (.long nv), .second] [(.long nv), (.ref b)])) rfl (by rw [hml]; rfl) tw59 (argsL := [(.long nv)]) (rest := []) (lenOf pd_J_Ljava_lang_AbstractStringBuilder rfl) rfl (Nat.le_of_eq rfl) (hb hby dk153) (fun _ _ => ⟨rfl, eh0, (by decide : 0 + 1 ≤ _), (by decide : 0 + 70 ≤ _)⟩)
  dsimp only [Pt.U, Pt.locs, Pt.cells, Pt.slots] at X101 l101 y101 z101 st101 hQ101
  subst y101 z101
  obtain ⟨va2_101, kv2_101, C2_101, rfl, Nq101, q101_0, q101_1, q101_2, q101_3, q101_4, q101_5, q101_6, q101_7, q101_8, q101_9⟩ := hQ101
  have N101 : Fr n0 L101 := by rw [l101]; exact Fr.app N0 Nq101
  refine Goes.step (S' := T101.setTop (mkF m 7 #[.val (.ref b), .val (.long nv), .second] [(.ref b)])) (fun t k => st101.trans (XS.pop X101.here hx rfl (hb hby dk154) rfl rfl (XS.aloadN X101.here hx rfl (hb hby dk155) rfl rfl k))) ?_
  refine Goes.leave (g := (mkF m 7 #[.val (.ref b), .val (.long nv), .second] [(.ref b)])) X101 Bd.notSynchronized (v := (some (.ref b))) (fun h => by rw [Bd.returns] at h; cases h) (fun fs hr => by jvm_step X101.here [X101.here.top, hx, (hb hby dk156), X101.method', Bd.returns, Value.isRef, FieldType.isReference]; (first | (intro acts; rw [hr _ acts rfl rfl rfl]) | rw [hr _ _ rfl rfl rfl]); exact Steps.refl _) rfl ?_ (by decide) (by decide)
  exact ⟨va2_101, kv2_101, C2_101, rfl, N101, ((Keep.refl _ [b]).trans q101_0 (allS (Or.inl (List.mem_of_getElem? (i := 0) rfl)) all0)), q101_1, q101_2, q101_3, q101_4, q101_5, q101_6, (q101_7 : ¬ (C2_101 < (n + sz))), (q101_8 : ¬ (M < C2_101)), (q101_9 : ¬ (C2_101 < (C + (C + (2 : Int32)))))⟩

theorem ef_scod (m : MethodId) (x0 : Addr) : entryFrame m #[(.ref x0)] 1 = mkF m 0 #[.val (.ref x0)] [] := by first | (simp [entryFrame, mkF, argsToLocals, Value.category]; done) | rfl
def Q_scod (Z : State) (a1 : Addr) (cs : Int32) (h0 : Heap) (n0 : Nat) (v : Option Value) (h : Heap) (L : List Loc) : Prop := v = some (.int (0 : Int32)) ∧ Fr n0 L ∧ h = h0
set_option maxRecDepth 65536 in
set_option maxHeartbeats 40000000 in
theorem scod (l : Launch) (Z : State) (a0 : Array Value) (hw : ∀ d ∈ tables_1, d.before a0 Z = true) (ws : List Jvm.Cond) (a1 : Addr) (cs : Int32) (h0 : Heap) (n0 : Nat) (Z0 : n0 ≤ h0.size) (Fx : Fld Z h0 a1 "java/lang/String" "coder" "B" (.int (0 : Int32))) (SC : Sta Z h0 "java/lang/String" "COMPACT_STRINGS" "Z" (.int cs)) (PC : ¬ (cs = (0 : Int32))) :
    MetFree l mth13 (head1 (Jvm.Cond.code mth13 jdk_42_method_152_code 1 (some .byte) :: ws) rom2) (fun a U => a = #[(.ref a1)] ∧ Z.Warmed39 U.vm ∧ U.heap = h0) (fun _ _ _ _ _ => True) (fun _ U o U' => ∃ v L, o = .returned v ∧ Q_scod Z a1 cs h0 n0 v U'.heap L ∧ FrameEnd U o U' L rom2.cells rom2.slots) := by
  refine MetFree.of_bodySF (plainFor_of_name pnm4) hisR ?_
  intro p e s m args below meth c s₁ Bd hml0 hP hK
  obtain ⟨rfl, hZ, hh⟩ := hP
  have hx := Bd.exec
  have hby := Bd.bytes
  have hml : c.maxLocals = 1 := hml0
  have hown : s.vm.findClass "java/lang/String" = some m.cls := findClass_of_methodNamed Bd.named
  have hnm := (name_of_methodNamed Bd.named Bd.method).1
  have X0 : Stand p l e rom2 s m #[(.ref a1)] below meth c s₁ [] 0 0 := Stand.of_body Bd
  have eh0 : s₁.heap = h0 := by rw [← hh, Bd.state]; rfl
  have N0 := Fr.nil n0
  have tw109 := own_hw hw 109 rfl
  have tw110 := own_hw hw 110 rfl
  show Goes p e below (Pq (Q_scod Z a1 cs h0 n0) s rom2.cells rom2.slots) (s₁.setTop (entryFrame m #[(.ref a1)] 1))
  refine Goes.step (S' := s₁.setTop (mkF m 0 #[.val (.ref a1)] [])) (fun t k => castTop (ef_scod m a1) k) ?_
  obtain ⟨T101, X101, e101, st101⟩ := getS2 X0 hx hZ hown (host := "") (Or.inl tw109) Via.refl eh0 SC (g := (mkF m 0 #[.val (.ref a1)] [])) rfl (hb hby dk157)
  refine Goes.step (S' := T101.setTop (mkF m 7 #[.val (.ref a1)] [(.ref a1)])) (fun t k => st101 _ (XS.ifNo X101.here hx rfl (hb hby dk158) rfl ((if0 _ _).trans (feq (PC : ¬ (cs = (0 : Int32)))).1) (XS.aloadN X101.here hx rfl (hb hby dk159) rfl rfl k))) ?_
  obtain ⟨T102, X102, e102, st102⟩ := getF X101 hx hZ hown (host := "") (Or.inl tw110) Via.refl e101 Fx (g := (mkF m 7 #[.val (.ref a1)] [(.ref a1)])) rfl rfl (hb hby dk160)
  refine Goes.step (S' := T102.setTop (mkF m 14 #[.val (.ref a1)] [(.int (0 : Int32))])) (fun t k => st102 _ (XS.goto X102.here hx rfl (pc0 := 10) (pc' := 14) rfl (hb hby dk161) (by decide) (by decide) k)) ?_
  refine Goes.leave (g := (mkF m 14 #[.val (.ref a1)] [(.int (0 : Int32))])) X102 Bd.notSynchronized (v := (some (.int (0 : Int32)))) (fun h => by rw [Bd.returns] at h; cases h) (fun fs hr => retN X102 hx (t := .byte) Bd.returns (by simp) (hb hby dk162) hr) e102 ?_ (by decide) (by decide)
  exact ⟨rfl, N0, rfl⟩

theorem ef_slen (m : MethodId) (x0 : Addr) : entryFrame m #[(.ref x0)] 1 = mkF m 0 #[.val (.ref x0)] [] := by first | (simp [entryFrame, mkF, argsToLocals, Value.category]; done) | rfl
def Q_slen (Z : State) (a1 : Addr) (w : Addr) (kw : ClassId) (N : Int32) (bs : List Value) (cs : Int32) (h0 : Heap) (n0 : Nat) (v : Option Value) (h : Heap) (L : List Loc) : Prop := v = some (.int N) ∧ Fr n0 L ∧ h = h0
set_option maxRecDepth 65536 in
set_option maxHeartbeats 40000000 in
theorem slen (l : Launch) (Z : State) (a0 : Array Value) (hw : ∀ d ∈ tables_1, d.before a0 Z = true) (ws : List Jvm.Cond) (a1 : Addr) (w : Addr) (kw : ClassId) (N : Int32) (bs : List Value) (cs : Int32) (h0 : Heap) (n0 : Nat) (Z0 : n0 ≤ h0.size) (Es : Exa Z h0 a1 "java/lang/String") (Fw : Fld Z h0 a1 "java/lang/String" "value" "[B" (.ref w)) (Fx : Fld Z h0 a1 "java/lang/String" "coder" "B" (.int (0 : Int32))) (Vw : Arv Z h0 w kw .byte N bs (.int (0 : Int32))) (SC : Sta Z h0 "java/lang/String" "COMPACT_STRINGS" "Z" (.int cs)) (PC : ¬ (cs = (0 : Int32))) :
    MetFree l mth14 (head1 (Jvm.Cond.code mth14 jdk_42_method_54_code 1 (some .int) :: ws) rom11) (fun a U => a = #[(.ref a1)] ∧ Z.Warmed39 U.vm ∧ U.heap = h0) (fun _ _ _ _ _ => True) (fun _ U o U' => ∃ v L, o = .returned v ∧ Q_slen Z a1 w kw N bs cs h0 n0 v U'.heap L ∧ FrameEnd U o U' L rom11.cells rom11.slots) := by
  refine MetFree.of_bodySF (plainFor_of_name pnm4) hisR ?_
  intro p e s m args below meth c s₁ Bd hml0 hP hK
  obtain ⟨rfl, hZ, hh⟩ := hP
  have hx := Bd.exec
  have hby := Bd.bytes
  have hml : c.maxLocals = 1 := hml0
  have hown : s.vm.findClass "java/lang/String" = some m.cls := findClass_of_methodNamed Bd.named
  have hnm := (name_of_methodNamed Bd.named Bd.method).1
  have X0 : Stand p l e rom11 s m #[(.ref a1)] below meth c s₁ [] 0 0 := Stand.of_body Bd
  have eh0 : s₁.heap = h0 := by rw [← hh, Bd.state]; rfl
  have N0 := Fr.nil n0
  have tw44 := own_hw hw 44 rfl
  have tw103 := own_hw hw 103 rfl
  have tw104 := own_hw hw 104 rfl
  have tw105 := own_hw hw 105 rfl
  have tw106 := own_hw hw 106 rfl
  have tw107 := own_hw hw 107 rfl
  have tw108 := own_hw hw 108 rfl
  show Goes p e below (Pq (Q_slen Z a1 w kw N bs cs h0 n0) s rom11.cells rom11.slots) (s₁.setTop (entryFrame m #[(.ref a1)] 1))
  refine Goes.step (S' := s₁.setTop (mkF m 0 #[.val (.ref a1)] [])) (fun t k => castTop (ef_slen m a1) k) ?_
  refine Goes.step (S' := s₁.setTop (mkF m 1 #[.val (.ref a1)] [(.ref a1)])) (fun t k => XS.aloadN X0.here hx rfl (hb hby dk163) rfl rfl k) ?_
  obtain ⟨T101, X101, e101, st101⟩ := getF X0 hx hZ hown (host := "") (Or.inl tw103) Via.refl eh0 Fw (g := (mkF m 1 #[.val (.ref a1)] [(.ref a1)])) rfl rfl (hb hby dk164)
  refine Goes.step (S' := T101.setTop (mkF m 4 #[.val (.ref a1)] [(.ref w)])) (fun t k => st101 _ k) ?_
  obtain ⟨cl102, Ar102, qk102, Sz102, Nn102, Hs102, Gs102⟩ := id Vw
  refine Goes.step (S' := T101.setTop (mkF m 5 #[.val (.ref a1)] [(.int N)])) (fun t k => X101.arraylength hx (by rw [e101]; exact Ar102.1) (State.isArrayOf_alike hZ.alike Ar102.2.1) (g := (mkF m 4 #[.val (.ref a1)] [(.ref w)])) rfl rfl (hb hby dk165) _ (by rw [len_of Sz102 Nn102]; exact k)) ?_
  refine Goes.step (S' := T101.setTop (mkF m 6 #[.val (.ref a1)] [(.ref a1), (.int N)])) (fun t k => XS.aloadN X101.here hx rfl (hb hby dk166) rfl rfl k) ?_
  obtain ⟨cq103, kq103, q103a, q103b, q103c⟩ := isOf hZ e101 Es
  obtain ⟨_, _, ⟨T103, L103, k103, n103⟩, -, X103, ⟨Lc103, hQ103, l103, y103, z103⟩, st103⟩ := X101.virtualBack hx (y := mth13) (z := mth13) hown (mvT hZ tw104) (mvT hZ tw105) (notFace_of_selects (args := #[]) (mvT hZ tw107)) (mvT hZ tw107) (mvT hZ tw106) (by decide) (backOf (W := 1) (scod l Z a0 hw [] a1 cs h0 n0 Z0 Fx SC (PC : ¬ (cs = (0 : Int32)))) hZ tw108 tw44 (by decide) (by decide)) q103a q103c (g := (mkF m 6 #[.val (.ref a1)] [(.ref a1), (.int N)])) rfl (by rw [hml]; rfl) (Steps.refl _) (argsL := []) (rest := [(.int N)]) (lenOf pd_B rfl) rfl (Nat.le_of_eq rfl) (hb hby dk167) (fun _ _ => ⟨rfl, e101, (by decide : 0 + 0 ≤ _), (by decide : 0 + 0 ≤ _)⟩)
  dsimp only [Pt.U, Pt.locs, Pt.cells, Pt.slots] at X103 l103 y103 z103 st103 hQ103
  subst y103 z103
  obtain ⟨rfl, Nq103, q103_0⟩ := hQ103
  have N103 : Fr n0 L103 := by rw [l103]; exact Fr.app N0 Nq103
  refine Goes.step (S' := T103.setTop (mkF m 9 #[.val (.ref a1)] [(.int (0 : Int32)), (.int N)])) (fun t k => st103.trans k) ?_
  refine Goes.step (S' := T103.setTop (mkF m 10 #[.val (.ref a1)] [(.int N)])) (fun t k => XS.ishr X103.here hx rfl (hb hby dk168) rfl (by rw [own_shr0]; exact k)) ?_
  refine Goes.leave (g := (mkF m 10 #[.val (.ref a1)] [(.int N)])) X103 Bd.notSynchronized (v := (some (.int N))) (fun h => by rw [Bd.returns] at h; cases h) (fun fs hr => retI X103 hx Bd.returns (hb hby dk169) hr) q103_0 ?_ (by decide) (by decide)
  exact ⟨rfl, N103, rfl⟩

theorem ef_sil (m : MethodId) (x0 : Addr) : entryFrame m #[(.ref x0)] 1 = mkF m 0 #[.val (.ref x0)] [] := by first | (simp [entryFrame, mkF, argsToLocals, Value.category]; done) | rfl
def Q_sil (Z : State) (a1 : Addr) (cs : Int32) (h0 : Heap) (n0 : Nat) (v : Option Value) (h : Heap) (L : List Loc) : Prop := v = some (.int (1 : Int32)) ∧ Fr n0 L ∧ h = h0
set_option maxRecDepth 65536 in
set_option maxHeartbeats 40000000 in
theorem sil (l : Launch) (Z : State) (a0 : Array Value) (hw : ∀ d ∈ tables_1, d.before a0 Z = true) (ws : List Jvm.Cond) (a1 : Addr) (cs : Int32) (h0 : Heap) (n0 : Nat) (Z0 : n0 ≤ h0.size) (Fx : Fld Z h0 a1 "java/lang/String" "coder" "B" (.int (0 : Int32))) (SC : Sta Z h0 "java/lang/String" "COMPACT_STRINGS" "Z" (.int cs)) (PC : ¬ (cs = (0 : Int32))) :
    MetFree l mth15 (head1 (Jvm.Cond.code mth15 jdk_42_method_154_code 1 (some .boolean) :: ws) rom2) (fun a U => a = #[(.ref a1)] ∧ Z.Warmed39 U.vm ∧ U.heap = h0) (fun _ _ _ _ _ => True) (fun _ U o U' => ∃ v L, o = .returned v ∧ Q_sil Z a1 cs h0 n0 v U'.heap L ∧ FrameEnd U o U' L rom2.cells rom2.slots) := by
  refine MetFree.of_bodySF (plainFor_of_name pnm4) hisR ?_
  intro p e s m args below meth c s₁ Bd hml0 hP hK
  obtain ⟨rfl, hZ, hh⟩ := hP
  have hx := Bd.exec
  have hby := Bd.bytes
  have hml : c.maxLocals = 1 := hml0
  have hown : s.vm.findClass "java/lang/String" = some m.cls := findClass_of_methodNamed Bd.named
  have hnm := (name_of_methodNamed Bd.named Bd.method).1
  have X0 : Stand p l e rom2 s m #[(.ref a1)] below meth c s₁ [] 0 0 := Stand.of_body Bd
  have eh0 : s₁.heap = h0 := by rw [← hh, Bd.state]; rfl
  have N0 := Fr.nil n0
  have tw109 := own_hw hw 109 rfl
  have tw110 := own_hw hw 110 rfl
  show Goes p e below (Pq (Q_sil Z a1 cs h0 n0) s rom2.cells rom2.slots) (s₁.setTop (entryFrame m #[(.ref a1)] 1))
  refine Goes.step (S' := s₁.setTop (mkF m 0 #[.val (.ref a1)] [])) (fun t k => castTop (ef_sil m a1) k) ?_
  obtain ⟨T101, X101, e101, st101⟩ := getS2 X0 hx hZ hown (host := "") (Or.inl tw109) Via.refl eh0 SC (g := (mkF m 0 #[.val (.ref a1)] [])) rfl (hb hby dk170)
  refine Goes.step (S' := T101.setTop (mkF m 7 #[.val (.ref a1)] [(.ref a1)])) (fun t k => st101 _ (XS.ifNo X101.here hx rfl (hb hby dk171) rfl ((if0 _ _).trans (feq (PC : ¬ (cs = (0 : Int32)))).1) (XS.aloadN X101.here hx rfl (hb hby dk172) rfl rfl k))) ?_
  obtain ⟨T102, X102, e102, st102⟩ := getF X101 hx hZ hown (host := "") (Or.inl tw110) Via.refl e101 Fx (g := (mkF m 7 #[.val (.ref a1)] [(.ref a1)])) rfl rfl (hb hby dk173)
  refine Goes.step (S' := T102.setTop (mkF m 18 #[.val (.ref a1)] [(.int (1 : Int32))])) (fun t k => st102 _ (XS.ifNo X102.here hx rfl (hb hby dk174) rfl ((if0 _ _).trans (teq ((by decide) : (0 : Int32) = (0 : Int32))).2) (XS.iconst X102.here hx rfl (hb hby dk175) (XS.goto X102.here hx rfl (pc0 := 14) (pc' := 18) rfl (hb hby dk176) (by decide) (by decide) k)))) ?_
  refine Goes.leave (g := (mkF m 18 #[.val (.ref a1)] [(.int (1 : Int32))])) X102 Bd.notSynchronized (v := (some (.int (1 : Int32)))) (fun h => by rw [Bd.returns] at h; cases h) (fun fs hr => retN X102 hx (t := .boolean) Bd.returns (by simp) (hb hby dk177) hr) e102 ?_ (by decide) (by decide)
  exact ⟨rfl, N0, rfl⟩

theorem ef_infl (m : MethodId) (x0 : Addr) (x1 : Addr) : entryFrame m #[(.ref x0), (.ref x1)] 2 = mkF m 0 #[.val (.ref x0), .val (.ref x1)] [] := by first | (simp [entryFrame, mkF, argsToLocals, Value.category]; done) | rfl
def Q_infl (Z : State) (b : Addr) (a2 : Addr) (cs : Int32) (h0 : Heap) (n0 : Nat) (v : Option Value) (h : Heap) (L : List Loc) : Prop := v = none ∧ Fr n0 L ∧ h = h0
set_option maxRecDepth 65536 in
set_option maxHeartbeats 40000000 in
theorem infl (l : Launch) (Z : State) (a0 : Array Value) (hw : ∀ d ∈ tables_1, d.before a0 Z = true) (ws : List Jvm.Cond) (b : Addr) (a2 : Addr) (cs : Int32) (h0 : Heap) (n0 : Nat) (Z0 : n0 ≤ h0.size) (E1 : Exa Z h0 b "java/lang/StringBuilder") (Fc : Fld Z h0 b "java/lang/AbstractStringBuilder" "coder" "B" (.int (0 : Int32))) (E3 : Exa Z h0 a2 "java/lang/String") (F4 : Fld Z h0 a2 "java/lang/String" "coder" "B" (.int (0 : Int32))) (SC : Sta Z h0 "java/lang/String" "COMPACT_STRINGS" "Z" (.int cs)) (PC : ¬ (cs = (0 : Int32))) :
    MetFree l mth16 (head1 (Jvm.Cond.code mth16 jdk_68_method_71_code 2 none :: ws) rom11) (fun a U => a = #[(.ref b), (.ref a2)] ∧ Z.Warmed39 U.vm ∧ U.heap = h0) (fun _ _ _ _ _ => True) (fun _ U o U' => ∃ v L, o = .returned v ∧ Q_infl Z b a2 cs h0 n0 v U'.heap L ∧ FrameEnd U o U' L rom11.cells rom11.slots) := by
  refine MetFree.of_bodySF (plainFor_of_name pnm0) hisR ?_
  intro p e s m args below meth c s₁ Bd hml0 hP hK
  obtain ⟨rfl, hZ, hh⟩ := hP
  have hx := Bd.exec
  have hby := Bd.bytes
  have hml : c.maxLocals = 2 := hml0
  have hown : s.vm.findClass "java/lang/AbstractStringBuilder" = some m.cls := findClass_of_methodNamed Bd.named
  have hnm := (name_of_methodNamed Bd.named Bd.method).1
  have X0 : Stand p l e rom11 s m #[(.ref b), (.ref a2)] below meth c s₁ [] 0 0 := Stand.of_body Bd
  have eh0 : s₁.heap = h0 := by rw [← hh, Bd.state]; rfl
  have N0 := Fr.nil n0
  have tw43 := own_hw hw 43 rfl
  have tw44 := own_hw hw 44 rfl
  have tw48 := own_hw hw 48 rfl
  have tw105 := own_hw hw 105 rfl
  have tw106 := own_hw hw 106 rfl
  have tw107 := own_hw hw 107 rfl
  have tw108 := own_hw hw 108 rfl
  have tw121 := own_hw hw 121 rfl
  show Goes p e below (Pq (Q_infl Z b a2 cs h0 n0) s rom11.cells rom11.slots) (s₁.setTop (entryFrame m #[(.ref b), (.ref a2)] 2))
  refine Goes.step (S' := s₁.setTop (mkF m 0 #[.val (.ref b), .val (.ref a2)] [])) (fun t k => castTop (ef_infl m b a2) k) ?_
  obtain ⟨T101, X101, e101, st101⟩ := getS2 X0 hx hZ hown (host := "") (Or.inl tw43) Via.refl eh0 SC (g := (mkF m 0 #[.val (.ref b), .val (.ref a2)] [])) rfl (hb hby dk178)
  refine Goes.step (S' := T101.setTop (mkF m 7 #[.val (.ref b), .val (.ref a2)] [(.ref b)])) (fun t k => st101 _ (XS.ifNo X101.here hx rfl (hb hby dk179) rfl ((if0 _ _).trans (feq (PC : ¬ (cs = (0 : Int32)))).1) (XS.aloadN X101.here hx rfl (hb hby dk180) rfl rfl k))) ?_
  obtain ⟨T102, X102, e102, st102⟩ := getF X101 hx hZ hown (host := "") (Or.inl tw48) Via.refl e101 Fc (g := (mkF m 7 #[.val (.ref b), .val (.ref a2)] [(.ref b)])) rfl rfl (hb hby dk181)
  refine Goes.step (S' := T102.setTop (mkF m 11 #[.val (.ref b), .val (.ref a2)] [(.ref a2), (.int (0 : Int32))])) (fun t k => st102 _ (XS.aloadN X102.here hx rfl (hb hby dk182) rfl rfl k)) ?_
  obtain ⟨cq103, kq103, q103a, q103b, q103c⟩ := isOf hZ e102 E3
  obtain ⟨_, _, ⟨T103, L103, k103, n103⟩, -, X103, ⟨Lc103, hQ103, l103, y103, z103⟩, st103⟩ := X102.virtualBack hx (y := mth13) (z := mth13) hown (mvT hZ tw121) (mvT hZ tw105) (notFace_of_selects (args := #[]) (mvT hZ tw107)) (mvT hZ tw107) (mvT hZ tw106) (by decide) (backOf (W := 1) (scod l Z a0 hw [] a2 cs h0 n0 Z0 F4 SC (PC : ¬ (cs = (0 : Int32)))) hZ tw108 tw44 (by decide) (by decide)) q103a q103c (g := (mkF m 11 #[.val (.ref b), .val (.ref a2)] [(.ref a2), (.int (0 : Int32))])) rfl (by rw [hml]; rfl) (Steps.refl _) (argsL := []) (rest := [(.int (0 : Int32))]) (lenOf pd_B rfl) rfl (Nat.le_of_eq rfl) (hb hby dk183) (fun _ _ => ⟨rfl, e102, (by decide : 0 + 0 ≤ _), (by decide : 0 + 0 ≤ _)⟩)
  dsimp only [Pt.U, Pt.locs, Pt.cells, Pt.slots] at X103 l103 y103 z103 st103 hQ103
  subst y103 z103
  obtain ⟨rfl, Nq103, q103_0⟩ := hQ103
  have N103 : Fr n0 L103 := by rw [l103]; exact Fr.app N0 Nq103
  refine Goes.step (S' := T103.setTop (mkF m 21 #[.val (.ref b), .val (.ref a2)] [])) (fun t k => st103.trans (XS.icmpYes X103.here hx rfl (pc0 := 14) (pc' := 21) rfl (hb hby dk184) rfl (teq ((by decide) : (0 : Int32) = (0 : Int32))).1 (by decide) (by decide) k)) ?_
  refine Goes.leave (g := (mkF m 21 #[.val (.ref b), .val (.ref a2)] [])) X103 Bd.notSynchronized (v := none) (fun _ => rfl) (fun fs hr => X103.returnOut hx Bd.returns (hb hby dk185) hr) q103_0 ?_ (by decide) (by decide)
  exact ⟨rfl, N103, rfl⟩

theorem own_two2 {n C : Int32} {vs : List Value} (h1 : n = Int32.ofNat vs.length) (b1 : vs.length ≤ 40) (q : ¬ C < (n + (2 : Int32))) : n.toNatClampNeg + 2 ≤ C.toNatClampNeg := by
  rw [own_ncl h1 (by omega)]
  exact own_hle (sz := 2) (ws := [dz, dz]) h1 rfl (by omega) (by decide) q

theorem ef_gb (m : MethodId) (x0 : Addr) (x1 : Addr) (x2 : Int32) (x3 : Int32) : entryFrame m #[(.ref x0), (.ref x1), (.int x2), (.int x3)] 4 = mkF m 0 #[.val (.ref x0), .val (.ref x1), .val (.int x2), .val (.int x3)] [] := by first | (simp [entryFrame, mkF, argsToLocals, Value.category]; done) | rfl
def Q_gb (Z : State) (a2 : Addr) (y : Addr) (ky : ClassId) (va : Addr) (kv : ClassId) (C : Int32) (vs : List Value) (n : Int32) (cs : Int32) (h0 : Heap) (n0 : Nat) (v : Option Value) (h : Heap) (L : List Loc) : Prop := v = none ∧ Fr n0 L ∧ Keep h0 h [va] ∧ Arv Z h va kv .byte C (vs ++ [(.int (46 : Int32)), (.int (46 : Int32))]) (.int (0 : Int32))
set_option maxRecDepth 65536 in
set_option maxHeartbeats 40000000 in
theorem gb (l : Launch) (Z : State) (a0 : Array Value) (hw : ∀ d ∈ tables_1, d.before a0 Z = true) (ws : List Jvm.Cond) (a2 : Addr) (y : Addr) (ky : ClassId) (va : Addr) (kv : ClassId) (C : Int32) (vs : List Value) (n : Int32) (cs : Int32) (h0 : Heap) (n0 : Nat) (Z0 : n0 ≤ h0.size) (E3 : Exa Z h0 a2 "java/lang/String") (F3 : Fld Z h0 a2 "java/lang/String" "value" "[B" (.ref y)) (F4 : Fld Z h0 a2 "java/lang/String" "coder" "B" (.int (0 : Int32))) (V3 : Arv Z h0 y ky .byte (2 : Int32) [(.int (46 : Int32)), (.int (46 : Int32))] (.int (0 : Int32))) (V1 : Arv Z h0 va kv .byte C vs (.int (0 : Int32))) (N3 : y ≠ va) (G2 : n0 ≤ va) (SC : Sta Z h0 "java/lang/String" "COMPACT_STRINGS" "Z" (.int cs)) (PC : ¬ (cs = (0 : Int32))) (HN : n = Int32.ofNat vs.length) (HB : vs.length ≤ 40) (B0 : ¬ (n < (0 : Int32))) (QC : ¬ (C < (n + (2 : Int32)))) :
    MetFree l mth17 (head1 (Jvm.Cond.code mth17 jdk_42_method_147_code 4 none :: ws) rom12) (fun a U => a = #[(.ref a2), (.ref va), (.int n), (.int (0 : Int32))] ∧ Z.Warmed39 U.vm ∧ U.heap = h0) (fun _ _ _ _ _ => True) (fun _ U o U' => ∃ v L, o = .returned v ∧ Q_gb Z a2 y ky va kv C vs n cs h0 n0 v U'.heap L ∧ FrameEnd U o U' L rom12.cells rom12.slots) := by
  refine MetFree.of_bodySF (plainFor_of_name pnm4) hisR ?_
  intro p e s m args below meth c s₁ Bd hml0 hP hK
  obtain ⟨rfl, hZ, hh⟩ := hP
  have hx := Bd.exec
  have hby := Bd.bytes
  have hml : c.maxLocals = 4 := hml0
  have hown : s.vm.findClass "java/lang/String" = some m.cls := findClass_of_methodNamed Bd.named
  have hnm := (name_of_methodNamed Bd.named Bd.method).1
  have X0 : Stand p l e rom12 s m #[(.ref a2), (.ref va), (.int n), (.int (0 : Int32))] below meth c s₁ [] 0 0 := Stand.of_body Bd
  have eh0 : s₁.heap = h0 := by rw [← hh, Bd.state]; rfl
  have N0 := Fr.nil n0
  have tw44 := own_hw hw 44 rfl
  have tw103 := own_hw hw 103 rfl
  have tw104 := own_hw hw 104 rfl
  have tw105 := own_hw hw 105 rfl
  have tw106 := own_hw hw 106 rfl
  have tw107 := own_hw hw 107 rfl
  have tw108 := own_hw hw 108 rfl
  have tw127 := own_hw hw 127 rfl
  have tw128 := own_hw hw 128 rfl
  have tw129 := own_hw hw 129 rfl
  have tw130 := own_hw hw 130 rfl
  show Goes p e below (Pq (Q_gb Z a2 y ky va kv C vs n cs h0 n0) s rom12.cells rom12.slots) (s₁.setTop (entryFrame m #[(.ref a2), (.ref va), (.int n), (.int (0 : Int32))] 4))
  refine Goes.step (S' := s₁.setTop (mkF m 0 #[.val (.ref a2), .val (.ref va), .val (.int n), .val (.int (0 : Int32))] [])) (fun t k => castTop (ef_gb m a2 va n (0 : Int32)) k) ?_
  refine Goes.step (S' := s₁.setTop (mkF m 1 #[.val (.ref a2), .val (.ref va), .val (.int n), .val (.int (0 : Int32))] [(.ref a2)])) (fun t k => XS.aloadN X0.here hx rfl (hb hby dk186) rfl rfl k) ?_
  obtain ⟨cq101, kq101, q101a, q101b, q101c⟩ := isOf hZ eh0 E3
  obtain ⟨_, _, ⟨T101, L101, k101, n101⟩, -, X101, ⟨Lc101, hQ101, l101, y101, z101⟩, st101⟩ := X0.virtualBack hx (y := mth13) (z := mth13) hown (mvT hZ tw104) (mvT hZ tw105) (notFace_of_selects (args := #[]) (mvT hZ tw107)) (mvT hZ tw107) (mvT hZ tw106) (by decide) (backOf (W := 0) (scod l Z a0 hw [] a2 cs h0 n0 Z0 F4 SC (PC : ¬ (cs = (0 : Int32)))) hZ tw108 tw44 (by decide) (by decide)) q101a q101c (g := (mkF m 1 #[.val (.ref a2), .val (.ref va), .val (.int n), .val (.int (0 : Int32))] [(.ref a2)])) rfl (by rw [hml]; rfl) (Steps.refl _) (argsL := []) (rest := []) (lenOf pd_B rfl) rfl (Nat.le_of_eq rfl) (hb hby dk187) (fun _ _ => ⟨rfl, eh0, (by decide : 0 + 0 ≤ _), (by decide : 0 + 0 ≤ _)⟩)
  dsimp only [Pt.U, Pt.locs, Pt.cells, Pt.slots] at X101 l101 y101 z101 st101 hQ101
  subst y101 z101
  obtain ⟨rfl, Nq101, q101_0⟩ := hQ101
  have N101 : Fr n0 L101 := by rw [l101]; exact Fr.app N0 Nq101
  refine Goes.step (S' := T101.setTop (mkF m 9 #[.val (.ref a2), .val (.ref va), .val (.int n), .val (.int (0 : Int32))] [(.ref a2)])) (fun t k => st101.trans (XS.iloadN X101.here hx rfl (hb hby dk188) rfl (XS.icmpNo X101.here hx rfl (hb hby dk189) rfl (teq ((by decide) : (0 : Int32) = (0 : Int32))).2 (XS.aloadN X101.here hx rfl (hb hby dk190) rfl rfl k)))) ?_
  obtain ⟨T102, X102, e102, st102⟩ := getF X101 hx hZ hown (host := "") (Or.inl tw103) Via.refl q101_0 F3 (g := (mkF m 9 #[.val (.ref a2), .val (.ref va), .val (.int n), .val (.int (0 : Int32))] [(.ref a2)])) rfl rfl (hb hby dk191)
  refine Goes.step (S' := T102.setTop (mkF m 16 #[.val (.ref a2), .val (.ref va), .val (.int n), .val (.int (0 : Int32))] [(.int (0 : Int32)), (.int n), (.ref va), (.int (0 : Int32)), (.ref y)])) (fun t k => st102 _ (XS.iconst X102.here hx rfl (hb hby dk192) (XS.aloadN X102.here hx rfl (hb hby dk193) rfl rfl (XS.iloadN X102.here hx rfl (hb hby dk194) rfl (XS.iloadN X102.here hx rfl (hb hby dk195) rfl k))))) ?_
  refine Goes.step (S' := T102.setTop (mkF m 17 #[.val (.ref a2), .val (.ref va), .val (.int n), .val (.int (0 : Int32))] [(.int n), (.ref va), (.int (0 : Int32)), (.ref y)])) (fun t k => XS.ishl X102.here hx rfl (hb hby dk196) rfl (by rw [own_shl0]; exact k)) ?_
  refine Goes.step (S' := T102.setTop (mkF m 18 #[.val (.ref a2), .val (.ref va), .val (.int n), .val (.int (0 : Int32))] [(.ref a2), (.int n), (.ref va), (.int (0 : Int32)), (.ref y)])) (fun t k => XS.aloadN X102.here hx rfl (hb hby dk197) rfl rfl k) ?_
  obtain ⟨T103, X103, e103, st103⟩ := getF X102 hx hZ hown (host := "") (Or.inl tw103) Via.refl e102 F3 (g := (mkF m 18 #[.val (.ref a2), .val (.ref va), .val (.int n), .val (.int (0 : Int32))] [(.ref a2), (.int n), (.ref va), (.int (0 : Int32)), (.ref y)])) rfl rfl (hb hby dk198)
  refine Goes.step (S' := T103.setTop (mkF m 21 #[.val (.ref a2), .val (.ref va), .val (.int n), .val (.int (0 : Int32))] [(.ref y), (.int n), (.ref va), (.int (0 : Int32)), (.ref y)])) (fun t k => st103 _ k) ?_
  obtain ⟨cl104, Ar104, qk104, Sz104, Nn104, Hs104, Gs104⟩ := id V3
  refine Goes.step (S' := T103.setTop (mkF m 22 #[.val (.ref a2), .val (.ref va), .val (.int n), .val (.int (0 : Int32))] [(.int (2 : Int32)), (.int n), (.ref va), (.int (0 : Int32)), (.ref y)])) (fun t k => X103.arraylength hx (by rw [e103]; exact Ar104.1) (State.isArrayOf_alike hZ.alike Ar104.2.1) (g := (mkF m 21 #[.val (.ref a2), .val (.ref va), .val (.int n), .val (.int (0 : Int32))] [(.ref y), (.int n), (.ref va), (.int (0 : Int32)), (.ref y)])) rfl rfl (hb hby dk199) _ (by rw [len_of Sz104 Nn104]; exact k)) ?_
  have VP105 : Arv Z h0 va kv .byte C (vs ++ List.replicate (0 + 2) (Value.int (0 : Int32))) (.int (0 : Int32)) := Arv.pad V1 (pad_rep _ _ _)
  obtain ⟨T106, h106, L106, X106, e106, N106, K106, Vr106, st106⟩ := cpA X103 hx hZ hown tw127 tw130 tw128 tw129 e103 (sp := (0 : Int32)) (dp := n) (nn := (2 : Int32)) (us := ((List.range (2 : Int32).toNatClampNeg).map fun i => ([(.int (46 : Int32)), (.int (46 : Int32))] : List Value).getD ((0 : Int32).toNatClampNeg + i) (Value.int (0 : Int32)))) V3 VP105 (Or.inl ⟨rfl, rfl⟩) (by decide) B0 (by decide) (by decide) (own_two2 HN HB QC) rfl (by rw [own_ncl HN (by omega), List.length_append, List.length_replicate]; exact Nat.le_refl _) N101 G2 (g := (mkF m 22 #[.val (.ref a2), .val (.ref va), .val (.int n), .val (.int (0 : Int32))] [(.int (2 : Int32)), (.int n), (.ref va), (.int (0 : Int32)), (.ref y)])) rfl (by rw [hml]; rfl) rfl (hb hby dk200) (by decide) (W := 0) (Nat.le_of_eq rfl) (by decide)
  have V106 : Arv Z h106 va kv .byte C (((vs ++ List.replicate (0 + 2) (Value.int (0 : Int32)))).take (n).toNatClampNeg ++ ((List.range (2 : Int32).toNatClampNeg).map fun i => ([(.int (46 : Int32)), (.int (46 : Int32))] : List Value).getD ((0 : Int32).toNatClampNeg + i) (Value.int (0 : Int32))) ++ ((vs ++ List.replicate (0 + 2) (Value.int (0 : Int32)))).drop ((n).toNatClampNeg + (2 : Int32).toNatClampNeg)) (.int (0 : Int32)) := Vr106
  refine Goes.step (S' := T106.setTop (mkF m 43 #[.val (.ref a2), .val (.ref va), .val (.int n), .val (.int (0 : Int32))] [])) (fun t k => st106 _ (XS.goto X106.here hx rfl (pc0 := 25) (pc' := 43) rfl (hb hby dk201) (by decide) (by decide) k)) ?_
  refine Goes.leave (g := (mkF m 43 #[.val (.ref a2), .val (.ref va), .val (.int n), .val (.int (0 : Int32))] [])) X106 Bd.notSynchronized (v := none) (fun _ => rfl) (fun fs hr => X106.returnOut hx Bd.returns (hb hby dk202) hr) e106 ?_ (by decide) (by decide)
  exact ⟨rfl, N106, ((Keep.refl _ [va]).trans K106 (allS (Or.inl (List.mem_of_getElem? (i := 0) rfl)) all0)), (Arv.pad V106 (own_cpD (own_ncl HN (by omega))))⟩

theorem ef_psa (m : MethodId) (x0 : Addr) (x1 : Int32) (x2 : Addr) : entryFrame m #[(.ref x0), (.int x1), (.ref x2)] 3 = mkF m 0 #[.val (.ref x0), .val (.int x1), .val (.ref x2)] [] := by first | (simp [entryFrame, mkF, argsToLocals, Value.category]; done) | rfl
def Q_psa (Z : State) (b : Addr) (a2 : Addr) (y : Addr) (ky : ClassId) (va : Addr) (kv : ClassId) (C : Int32) (vs : List Value) (n : Int32) (cs : Int32) (h0 : Heap) (n0 : Nat) (v : Option Value) (h : Heap) (L : List Loc) : Prop := v = none ∧ Fr n0 L ∧ Keep h0 h [va] ∧ Arv Z h va kv .byte C (vs ++ [(.int (46 : Int32)), (.int (46 : Int32))]) (.int (0 : Int32))
set_option maxRecDepth 65536 in
set_option maxHeartbeats 40000000 in
theorem psa (l : Launch) (Z : State) (a0 : Array Value) (hw : ∀ d ∈ tables_1, d.before a0 Z = true) (ws : List Jvm.Cond) (b : Addr) (a2 : Addr) (y : Addr) (ky : ClassId) (va : Addr) (kv : ClassId) (C : Int32) (vs : List Value) (n : Int32) (cs : Int32) (h0 : Heap) (n0 : Nat) (Z0 : n0 ≤ h0.size) (E1 : Exa Z h0 b "java/lang/StringBuilder") (Fv : Fld Z h0 b "java/lang/AbstractStringBuilder" "value" "[B" (.ref va)) (Fc : Fld Z h0 b "java/lang/AbstractStringBuilder" "coder" "B" (.int (0 : Int32))) (E3 : Exa Z h0 a2 "java/lang/String") (F3 : Fld Z h0 a2 "java/lang/String" "value" "[B" (.ref y)) (F4 : Fld Z h0 a2 "java/lang/String" "coder" "B" (.int (0 : Int32))) (V3 : Arv Z h0 y ky .byte (2 : Int32) [(.int (46 : Int32)), (.int (46 : Int32))] (.int (0 : Int32))) (V1 : Arv Z h0 va kv .byte C vs (.int (0 : Int32))) (N3 : y ≠ va) (G2 : n0 ≤ va) (SC : Sta Z h0 "java/lang/String" "COMPACT_STRINGS" "Z" (.int cs)) (PC : ¬ (cs = (0 : Int32))) (HN : n = Int32.ofNat vs.length) (HB : vs.length ≤ 40) (B0 : ¬ (n < (0 : Int32))) (QC : ¬ (C < (n + (2 : Int32)))) :
    MetFree l mth18 (head1 (Jvm.Cond.code mth18 jdk_68_method_73_code 3 none :: ws) rom13) (fun a U => a = #[(.ref b), (.int n), (.ref a2)] ∧ Z.Warmed39 U.vm ∧ U.heap = h0) (fun _ _ _ _ _ => True) (fun _ U o U' => ∃ v L, o = .returned v ∧ Q_psa Z b a2 y ky va kv C vs n cs h0 n0 v U'.heap L ∧ FrameEnd U o U' L rom13.cells rom13.slots) := by
  refine MetFree.of_bodySF (plainFor_of_name pnm0) hisR ?_
  intro p e s m args below meth c s₁ Bd hml0 hP hK
  obtain ⟨rfl, hZ, hh⟩ := hP
  have hx := Bd.exec
  have hby := Bd.bytes
  have hml : c.maxLocals = 3 := hml0
  have hown : s.vm.findClass "java/lang/AbstractStringBuilder" = some m.cls := findClass_of_methodNamed Bd.named
  have hnm := (name_of_methodNamed Bd.named Bd.method).1
  have X0 : Stand p l e rom13 s m #[(.ref b), (.int n), (.ref a2)] below meth c s₁ [] 0 0 := Stand.of_body Bd
  have eh0 : s₁.heap = h0 := by rw [← hh, Bd.state]; rfl
  have N0 := Fr.nil n0
  have tw40 := own_hw hw 40 rfl
  have tw44 := own_hw hw 44 rfl
  have tw46 := own_hw hw 46 rfl
  have tw48 := own_hw hw 48 rfl
  have tw116 := own_hw hw 116 rfl
  have tw117 := own_hw hw 117 rfl
  have tw118 := own_hw hw 118 rfl
  have tw119 := own_hw hw 119 rfl
  have tw120 := own_hw hw 120 rfl
  have tw122 := own_hw hw 122 rfl
  have tw123 := own_hw hw 123 rfl
  have tw124 := own_hw hw 124 rfl
  have tw125 := own_hw hw 125 rfl
  have tw126 := own_hw hw 126 rfl
  show Goes p e below (Pq (Q_psa Z b a2 y ky va kv C vs n cs h0 n0) s rom13.cells rom13.slots) (s₁.setTop (entryFrame m #[(.ref b), (.int n), (.ref a2)] 3))
  refine Goes.step (S' := s₁.setTop (mkF m 0 #[.val (.ref b), .val (.int n), .val (.ref a2)] [])) (fun t k => castTop (ef_psa m b n a2) k) ?_
  refine Goes.step (S' := s₁.setTop (mkF m 2 #[.val (.ref b), .val (.int n), .val (.ref a2)] [(.ref a2), (.ref b)])) (fun t k => XS.aloadN X0.here hx rfl (hb hby dk203) rfl rfl (XS.aloadN X0.here hx rfl (hb hby dk204) rfl rfl k)) ?_
  obtain ⟨cq101, q101, q101'⟩ := E1.cell
  obtain ⟨_, _, ⟨T101, L101, k101, n101⟩, -, X101, ⟨Lc101, hQ101, l101, y101, z101⟩, st101⟩ := X0.privateBack hx (y := mth16) hown (mvT hZ tw116) (mvT hZ tw117) (own_selU (mvT hZ tw119) (mvT hZ tw117) (mvP hZ tw118) (by decide)) (Cond.privateMethod_at (mvP hZ tw118 (args := #[]))) (mvT hZ tw120) (by decide) (backOf (W := 0) (infl l Z a0 hw [] b a2 cs h0 n0 Z0 E1 Fc E3 F4 SC (PC : ¬ (cs = (0 : Int32)))) hZ tw120 tw40 (by decide) (by decide)) (g := (mkF m 2 #[.val (.ref b), .val (.int n), .val (.ref a2)] [(.ref a2), (.ref b)])) rfl (by rw [hml]; rfl) (Steps.refl _) (a := b) (by rw [eh0]; exact q101) q101' (argsL := [(.ref a2)]) (rest := []) (lenOf pd_Ljava_lang_String__V rfl) rfl (Nat.le_of_eq rfl) (hb hby dk205) (fun _ _ => ⟨rfl, eh0, (by decide : 0 + 0 ≤ _), (by decide : 0 + 0 ≤ _)⟩)
  dsimp only [Pt.U, Pt.locs, Pt.cells, Pt.slots] at X101 l101 y101 z101 st101 hQ101
  subst y101 z101
  obtain ⟨rfl, Nq101, q101_0⟩ := hQ101
  have N101 : Fr n0 L101 := by rw [l101]; exact Fr.app N0 Nq101
  refine Goes.step (S' := T101.setTop (mkF m 7 #[.val (.ref b), .val (.int n), .val (.ref a2)] [(.ref b), (.ref a2)])) (fun t k => st101.trans (XS.aloadN X101.here hx rfl (hb hby dk206) rfl rfl (XS.aloadN X101.here hx rfl (hb hby dk207) rfl rfl k))) ?_
  obtain ⟨T102, X102, e102, st102⟩ := getF X101 hx hZ hown (host := "") (Or.inl tw46) Via.refl q101_0 Fv (g := (mkF m 7 #[.val (.ref b), .val (.int n), .val (.ref a2)] [(.ref b), (.ref a2)])) rfl rfl (hb hby dk208)
  refine Goes.step (S' := T102.setTop (mkF m 12 #[.val (.ref b), .val (.int n), .val (.ref a2)] [(.ref b), (.int n), (.ref va), (.ref a2)])) (fun t k => st102 _ (XS.iloadN X102.here hx rfl (hb hby dk209) rfl (XS.aloadN X102.here hx rfl (hb hby dk210) rfl rfl k))) ?_
  obtain ⟨T103, X103, e103, st103⟩ := getF X102 hx hZ hown (host := "") (Or.inl tw48) Via.refl e102 Fc (g := (mkF m 12 #[.val (.ref b), .val (.int n), .val (.ref a2)] [(.ref b), (.int n), (.ref va), (.ref a2)])) rfl rfl (hb hby dk211)
  refine Goes.step (S' := T103.setTop (mkF m 15 #[.val (.ref b), .val (.int n), .val (.ref a2)] [(.int (0 : Int32)), (.int n), (.ref va), (.ref a2)])) (fun t k => st103 _ k) ?_
  obtain ⟨cq104, kq104, q104a, q104b, q104c⟩ := isOf hZ e103 E3
  obtain ⟨_, _, ⟨T104, L104, k104, n104⟩, -, X104, ⟨Lc104, hQ104, l104, y104, z104⟩, st104⟩ := X103.virtualBack hx (y := mth17) (z := mth17) hown (mvT hZ tw122) (mvT hZ tw123) (notFace_of_selects (args := #[]) (mvT hZ tw125)) (mvT hZ tw125) (mvT hZ tw124) (by decide) (backOf (W := 0) (gb l Z a0 hw [] a2 y ky va kv C vs n cs h0 n0 Z0 E3 F3 F4 V3 V1 N3 G2 SC (PC : ¬ (cs = (0 : Int32))) HN HB (B0 : ¬ (n < (0 : Int32))) (QC : ¬ (C < (n + (2 : Int32))))) hZ tw126 tw44 (by decide) (by decide)) q104a q104c (g := (mkF m 15 #[.val (.ref b), .val (.int n), .val (.ref a2)] [(.int (0 : Int32)), (.int n), (.ref va), (.ref a2)])) rfl (by rw [hml]; rfl) (Steps.refl _) (argsL := [(.ref va), (.int n), (.int (0 : Int32))]) (rest := []) (lenOf pd_BIB_V rfl) rfl (Nat.le_of_eq rfl) (hb hby dk212) (fun _ _ => ⟨rfl, e103, (by decide : 0 + 0 ≤ _), (by decide : 0 + 0 ≤ _)⟩)
  dsimp only [Pt.U, Pt.locs, Pt.cells, Pt.slots] at X104 l104 y104 z104 st104 hQ104
  subst y104 z104
  obtain ⟨rfl, Nq104, q104_0, q104_1⟩ := hQ104
  have N104 : Fr n0 L104 := by rw [l104]; exact Fr.app N101 Nq104
  refine Goes.step (S' := T104.setTop (mkF m 18 #[.val (.ref b), .val (.int n), .val (.ref a2)] [])) (fun t k => st104.trans k) ?_
  refine Goes.leave (g := (mkF m 18 #[.val (.ref b), .val (.int n), .val (.ref a2)] [])) X104 Bd.notSynchronized (v := none) (fun _ => rfl) (fun fs hr => X104.returnOut hx Bd.returns (hb hby dk213) hr) rfl ?_ (by decide) (by decide)
  exact ⟨rfl, N104, ((Keep.refl _ [va]).trans q104_0 (allS (Or.inl (List.mem_of_getElem? (i := 0) rfl)) all0)), q104_1⟩

theorem ef_ass (m : MethodId) (x0 : Addr) (x1 : Addr) : entryFrame m #[(.ref x0), (.ref x1)] 3 = mkF m 0 #[.val (.ref x0), .val (.ref x1), .unset] [] := by first | (simp [entryFrame, mkF, argsToLocals, Value.category]; done) | rfl
def Q_ass (Z : State) (b : Addr) (va : Addr) (kv : ClassId) (C : Int32) (vs : List Value) (n : Int32) (cs : Int32) (a2 : Addr) (y : Addr) (ky : ClassId) (h0 : Heap) (n0 : Nat) (v : Option Value) (h : Heap) (L : List Loc) : Prop := v = some (.ref b) ∧ Fr n0 L ∧ Keep h0 h [b, va] ∧ Fld Z h b "java/lang/AbstractStringBuilder" "value" "[B" (.ref va) ∧ Fld Z h b "java/lang/AbstractStringBuilder" "coder" "B" (.int (0 : Int32)) ∧ Fld Z h b "java/lang/AbstractStringBuilder" "count" "I" (.int (n + (2 : Int32))) ∧ Arv Z h va kv .byte C (vs ++ [(.int (46 : Int32)), (.int (46 : Int32))]) (.int (0 : Int32))
set_option maxRecDepth 65536 in
set_option maxHeartbeats 40000000 in
theorem ass (l : Launch) (Z : State) (a0 : Array Value) (hw : ∀ d ∈ tables_1, d.before a0 Z = true) (ws : List Jvm.Cond) (b : Addr) (va : Addr) (kv : ClassId) (C : Int32) (vs : List Value) (n : Int32) (cs : Int32) (a2 : Addr) (y : Addr) (ky : ClassId) (h0 : Heap) (n0 : Nat) (Z0 : n0 ≤ h0.size) (E1 : Exa Z h0 b "java/lang/StringBuilder") (G1 : n0 ≤ b) (E2 : Exa Z h0 va "[B") (G2 : n0 ≤ va) (Fv : Fld Z h0 b "java/lang/AbstractStringBuilder" "value" "[B" (.ref va)) (Fc : Fld Z h0 b "java/lang/AbstractStringBuilder" "coder" "B" (.int (0 : Int32))) (Fn : Fld Z h0 b "java/lang/AbstractStringBuilder" "count" "I" (.int n)) (V1 : Arv Z h0 va kv .byte C vs (.int (0 : Int32))) (SC : Sta Z h0 "java/lang/String" "COMPACT_STRINGS" "Z" (.int cs)) (PC : ¬ (cs = (0 : Int32))) (HN : n = Int32.ofNat vs.length) (HB : vs.length ≤ 40) (B0 : ¬ (n < (0 : Int32))) (B1 : ¬ ((40 : Int32) < n)) (B2 : ¬ (C < (0 : Int32))) (B3 : ¬ ((70 : Int32) < C)) (E3 : Exa Z h0 a2 "java/lang/String") (F3 : Fld Z h0 a2 "java/lang/String" "value" "[B" (.ref y)) (F4 : Fld Z h0 a2 "java/lang/String" "coder" "B" (.int (0 : Int32))) (V3 : Arv Z h0 y ky .byte (2 : Int32) [(.int (46 : Int32)), (.int (46 : Int32))] (.int (0 : Int32))) (N3 : y ≠ va) (QC : ¬ (C < (n + (2 : Int32)))) :
    MetFree l mth19 (head1 (Jvm.Cond.code mth19 jdk_68_method_22_code 3 (some (.object "java/lang/AbstractStringBuilder")) :: ws) rom14) (fun a U => a = #[(.ref b), (.ref a2)] ∧ Z.Warmed39 U.vm ∧ U.heap = h0) (fun _ _ _ _ _ => True) (fun _ U o U' => ∃ v L, o = .returned v ∧ Q_ass Z b va kv C vs n cs a2 y ky h0 n0 v U'.heap L ∧ FrameEnd U o U' L rom14.cells rom14.slots) := by
  refine MetFree.of_bodySF (plainFor_of_name pnm0) hisR ?_
  intro p e s m args below meth c s₁ Bd hml0 hP hK
  obtain ⟨rfl, hZ, hh⟩ := hP
  have hx := Bd.exec
  have hby := Bd.bytes
  have hml : c.maxLocals = 3 := hml0
  have hown : s.vm.findClass "java/lang/AbstractStringBuilder" = some m.cls := findClass_of_methodNamed Bd.named
  have hnm := (name_of_methodNamed Bd.named Bd.method).1
  have X0 : Stand p l e rom14 s m #[(.ref b), (.ref a2)] below meth c s₁ [] 0 0 := Stand.of_body Bd
  have eh0 : s₁.heap = h0 := by rw [← hh, Bd.state]; rfl
  have N0 := Fr.nil n0
  have tw31 := own_hw hw 31 rfl
  have tw40 := own_hw hw 40 rfl
  have tw44 := own_hw hw 44 rfl
  have tw47 := own_hw hw 47 rfl
  have tw49 := own_hw hw 49 rfl
  have tw60 := own_hw hw 60 rfl
  have tw61 := own_hw hw 61 rfl
  have tw67 := own_hw hw 67 rfl
  have tw68 := own_hw hw 68 rfl
  have tw69 := own_hw hw 69 rfl
  have tw70 := own_hw hw 70 rfl
  have tw71 := own_hw hw 71 rfl
  have tw98 := own_hw hw 98 rfl
  have tw99 := own_hw hw 99 rfl
  have tw100 := own_hw hw 100 rfl
  have tw101 := own_hw hw 101 rfl
  have tw102 := own_hw hw 102 rfl
  have tw111 := own_hw hw 111 rfl
  have tw112 := own_hw hw 112 rfl
  have tw113 := own_hw hw 113 rfl
  have tw114 := own_hw hw 114 rfl
  have tw115 := own_hw hw 115 rfl
  show Goes p e below (Pq (Q_ass Z b va kv C vs n cs a2 y ky h0 n0) s rom14.cells rom14.slots) (s₁.setTop (entryFrame m #[(.ref b), (.ref a2)] 3))
  refine Goes.step (S' := s₁.setTop (mkF m 0 #[.val (.ref b), .val (.ref a2), .unset] [])) (fun t k => castTop (ef_ass m b a2) k) ?_
  refine Goes.step (S' := s₁.setTop (mkF m 10 #[.val (.ref b), .val (.ref a2), .unset] [(.ref a2)])) (fun t k => XS.aloadN X0.here hx rfl (hb hby dk214) rfl rfl (XS.ifnonnullYes X0.here hx rfl (pc0 := 1) (pc' := 9) rfl (hb hby dk215) rfl (by decide) (by decide) (XS.aloadN X0.here hx rfl (hb hby dk216) rfl rfl k))) ?_
  obtain ⟨cq101, kq101, q101a, q101b, q101c⟩ := isOf hZ eh0 E3
  obtain ⟨_, _, ⟨T101, L101, k101, n101⟩, -, X101, ⟨Lc101, hQ101, l101, y101, z101⟩, st101⟩ := X0.virtualBack hx (y := mth14) (z := mth14) hown (mvT hZ tw98) (mvT hZ tw99) (notFace_of_selects (args := #[]) (mvT hZ tw101)) (mvT hZ tw101) (mvT hZ tw100) (by decide) (backOf (W := 0) (slen l Z a0 hw [] a2 y ky (2 : Int32) [(.int (46 : Int32)), (.int (46 : Int32))] cs h0 n0 Z0 E3 F3 F4 V3 SC (PC : ¬ (cs = (0 : Int32)))) hZ tw102 tw44 (by decide) (by decide)) q101a q101c (g := (mkF m 10 #[.val (.ref b), .val (.ref a2), .unset] [(.ref a2)])) rfl (by rw [hml]; rfl) (Steps.refl _) (argsL := []) (rest := []) (lenOf pd_I rfl) rfl (Nat.le_of_eq rfl) (hb hby dk217) (fun _ _ => ⟨rfl, eh0, (by decide : 0 + 0 ≤ _), (by decide : 0 + 0 ≤ _)⟩)
  dsimp only [Pt.U, Pt.locs, Pt.cells, Pt.slots] at X101 l101 y101 z101 st101 hQ101
  subst y101 z101
  obtain ⟨rfl, Nq101, q101_0⟩ := hQ101
  have N101 : Fr n0 L101 := by rw [l101]; exact Fr.app N0 Nq101
  refine Goes.step (S' := T101.setTop (mkF m 16 #[.val (.ref b), .val (.ref a2), .val (.int (2 : Int32))] [(.ref b), (.ref b)])) (fun t k => st101.trans (XS.istoreN X101.here hx rfl (hb hby dk218) rfl (l' := #[.val (.ref b), .val (.ref a2), .val (.int (2 : Int32))]) rfl (XS.aloadN X101.here hx rfl (hb hby dk219) rfl rfl (XS.aloadN X101.here hx rfl (hb hby dk220) rfl rfl k)))) ?_
  obtain ⟨T102, X102, e102, st102⟩ := getF X101 hx hZ hown (host := "") (Or.inl tw60) Via.refl q101_0 Fn (g := (mkF m 16 #[.val (.ref b), .val (.ref a2), .val (.int (2 : Int32))] [(.ref b), (.ref b)])) rfl rfl (hb hby dk221)
  refine Goes.step (S' := T102.setTop (mkF m 21 #[.val (.ref b), .val (.ref a2), .val (.int (2 : Int32))] [(.int (n + (2 : Int32))), (.ref b)])) (fun t k => st102 _ (XS.iloadN X102.here hx rfl (hb hby dk222) rfl (XS.iadd X102.here hx rfl (hb hby dk223) rfl k))) ?_
  obtain ⟨cq103, q103, q103'⟩ := E1.cell
  obtain ⟨_, _, ⟨T103, L103, k103, n103⟩, -, X103, ⟨Lc103, hQ103, l103, y103, z103⟩, st103⟩ := X102.privateBack hx (y := mth7) hown (mvT hZ tw67) (mvT hZ tw68) (own_selU (mvT hZ tw70) (mvT hZ tw68) (mvP hZ tw69) (by decide)) (Cond.privateMethod_at (mvP hZ tw69 (args := #[]))) (mvT hZ tw71) (by decide) (backOf (W := 0) (ecs l Z a0 hw [] b va kv C vs (n + (2 : Int32)) h0 n0 Z0 Fv Fc V1 (B2 : ¬ (C < (0 : Int32))) ((by have u0:=PC; have u1:=B0; have u2:=B1; have u3:=B2; have u4:=B3; have u5:=QC; have u6:=rng32 cs; have u7:=rng32 n; have u8:=rng32 C; have u9:=rng32 (n + (2 : Int32)); have u10:=c_iadd n (2 : Int32); (try simp only [Int32.lt_iff_toInt_lt, Int64.lt_iff_toInt_lt, ne_eq, ← Int32.toInt_inj, ← Int64.toInt_inj, Int32.reduceToInt, Int64.reduceToInt, Nat.reducePow] at u0 u1 u2 u3 u4 u5 u6 u7 u8 u9 u10 ⊢); try omega) : ¬ ((n + (2 : Int32)) < (0 : Int32))) ((by have u0:=PC; have u1:=B0; have u2:=B1; have u3:=B2; have u4:=B3; have u5:=QC; have u6:=rng32 cs; have u7:=rng32 n; have u8:=rng32 C; have u9:=rng32 (n + (2 : Int32)); have u10:=c_iadd n (2 : Int32); (try simp only [Int32.lt_iff_toInt_lt, Int64.lt_iff_toInt_lt, ne_eq, ← Int32.toInt_inj, ← Int64.toInt_inj, Int32.reduceToInt, Int64.reduceToInt, Nat.reducePow] at u0 u1 u2 u3 u4 u5 u6 u7 u8 u9 u10 ⊢); try omega) : ¬ ((500 : Int32) < C)) ((by have u0:=PC; have u1:=B0; have u2:=B1; have u3:=B2; have u4:=B3; have u5:=QC; have u6:=rng32 cs; have u7:=rng32 n; have u8:=rng32 C; have u9:=rng32 (n + (2 : Int32)); have u10:=c_iadd n (2 : Int32); (try simp only [Int32.lt_iff_toInt_lt, Int64.lt_iff_toInt_lt, ne_eq, ← Int32.toInt_inj, ← Int64.toInt_inj, Int32.reduceToInt, Int64.reduceToInt, Nat.reducePow] at u0 u1 u2 u3 u4 u5 u6 u7 u8 u9 u10 ⊢); try omega) : ¬ ((500 : Int32) < (n + (2 : Int32)))) (QC : ¬ (C < (n + (2 : Int32))))) hZ tw71 tw40 (by decide) (by decide)) (g := (mkF m 21 #[.val (.ref b), .val (.ref a2), .val (.int (2 : Int32))] [(.int (n + (2 : Int32))), (.ref b)])) rfl (by rw [hml]; rfl) (Steps.refl _) (a := b) (by rw [e102]; exact q103) q103' (argsL := [(.int (n + (2 : Int32)))]) (rest := []) (lenOf pd_I_V rfl) rfl (Nat.le_of_eq rfl) (hb hby dk224) (fun _ _ => ⟨rfl, e102, (by decide : 0 + 0 ≤ _), (by decide : 0 + 0 ≤ _)⟩)
  dsimp only [Pt.U, Pt.locs, Pt.cells, Pt.slots] at X103 l103 y103 z103 st103 hQ103
  subst y103 z103
  obtain ⟨rfl, Nq103, q103_0⟩ := hQ103
  have N103 : Fr n0 L103 := by rw [l103]; exact Fr.app N101 Nq103
  refine Goes.step (S' := T103.setTop (mkF m 26 #[.val (.ref b), .val (.ref a2), .val (.int (2 : Int32))] [(.ref b), (.ref b)])) (fun t k => st103.trans (XS.aloadN X103.here hx rfl (hb hby dk225) rfl rfl (XS.aloadN X103.here hx rfl (hb hby dk226) rfl rfl k))) ?_
  obtain ⟨T107, X107, e107, st107⟩ := getF X103 hx hZ hown (host := "") (Or.inl tw60) Via.refl q103_0 Fn (g := (mkF m 26 #[.val (.ref b), .val (.ref a2), .val (.int (2 : Int32))] [(.ref b), (.ref b)])) rfl rfl (hb hby dk227)
  refine Goes.step (S' := T107.setTop (mkF m 30 #[.val (.ref b), .val (.ref a2), .val (.int (2 : Int32))] [(.ref a2), (.int n), (.ref b)])) (fun t k => st107 _ (XS.aloadN X107.here hx rfl (hb hby dk228) rfl rfl k)) ?_
  obtain ⟨cq108, q108, q108'⟩ := E1.cell
  obtain ⟨_, _, ⟨T108, L108, k108, n108⟩, -, X108, ⟨Lc108, hQ108, l108, y108, z108⟩, st108⟩ := X107.privateBack hx (y := mth18) hown (mvT hZ tw111) (mvT hZ tw112) (own_selU (mvT hZ tw114) (mvT hZ tw112) (mvP hZ tw113) (by decide)) (Cond.privateMethod_at (mvP hZ tw113 (args := #[]))) (mvT hZ tw115) (by decide) (backOf (W := 0) (psa l Z a0 hw [] b a2 y ky va kv C vs n cs h0 n0 Z0 E1 Fv Fc E3 F3 F4 V3 V1 N3 G2 SC (PC : ¬ (cs = (0 : Int32))) HN HB (B0 : ¬ (n < (0 : Int32))) (QC : ¬ (C < (n + (2 : Int32))))) hZ tw115 tw40 (by decide) (by decide)) (g := (mkF m 30 #[.val (.ref b), .val (.ref a2), .val (.int (2 : Int32))] [(.ref a2), (.int n), (.ref b)])) rfl (by rw [hml]; rfl) (Steps.refl _) (a := b) (by rw [e107]; exact q108) q108' (argsL := [(.int n), (.ref a2)]) (rest := []) (lenOf pd_ILjava_lang_String__V rfl) rfl (Nat.le_of_eq rfl) (hb hby dk229) (fun _ _ => ⟨rfl, e107, (by decide : 0 + 0 ≤ _), (by decide : 0 + 0 ≤ _)⟩)
  dsimp only [Pt.U, Pt.locs, Pt.cells, Pt.slots] at X108 l108 y108 z108 st108 hQ108
  subst y108 z108
  obtain ⟨rfl, Nq108, q108_0, q108_1⟩ := hQ108
  have N108 : Fr n0 L108 := by rw [l108]; exact Fr.app N103 Nq108
  refine Goes.step (S' := T108.setTop (mkF m 35 #[.val (.ref b), .val (.ref a2), .val (.int (2 : Int32))] [(.ref b), (.ref b)])) (fun t k => st108.trans (XS.aloadN X108.here hx rfl (hb hby dk230) rfl rfl (XS.dup X108.here hx rfl (hb hby dk231) rfl rfl k))) ?_
  obtain ⟨T109, X109, e109, st109⟩ := getF X108 hx hZ hown (host := "") (Or.inl tw60) Via.refl rfl (Fn.keep q108_0 (ninS (Exa.ne E1 E2 (by decide)) nin0)) (g := (mkF m 35 #[.val (.ref b), .val (.ref a2), .val (.int (2 : Int32))] [(.ref b), (.ref b)])) rfl rfl (hb hby dk232)
  refine Goes.step (S' := T109.setTop (mkF m 40 #[.val (.ref b), .val (.ref a2), .val (.int (2 : Int32))] [(.int (n + (2 : Int32))), (.ref b)])) (fun t k => st109 _ (XS.iloadN X109.here hx rfl (hb hby dk233) rfl (XS.iadd X109.here hx rfl (hb hby dk234) rfl k))) ?_
  obtain ⟨T110, h110, X110, e110, W110, st110⟩ := putF X109 hx hZ hown (host := "") (Or.inl tw60) Via.refl e109 (Fn.keep q108_0 (ninS (Exa.ne E1 E2 (by decide)) nin0)) (E1.keep q108_0) (Or.inl tw61) tw31 (ty := .int) (by decide) rfl rfl (g := (mkF m 40 #[.val (.ref b), .val (.ref a2), .val (.int (2 : Int32))] [(.int (n + (2 : Int32))), (.ref b)])) rfl rfl (hb hby dk235)
  have Fw110 : Fld Z h110 b "java/lang/AbstractStringBuilder" "count" "I" (.int (n + (2 : Int32))) := Fld.same W110 (Fn.keep q108_0 (ninS (Exa.ne E1 E2 (by decide)) nin0))
  have N110 := Fr.snoc X110 N108 G1
  refine Goes.step (S' := T110.setTop (mkF m 44 #[.val (.ref b), .val (.ref a2), .val (.int (2 : Int32))] [(.ref b)])) (fun t k => st110 _ (XS.aloadN X110.here hx rfl (hb hby dk236) rfl rfl k)) ?_
  refine Goes.leave (g := (mkF m 44 #[.val (.ref b), .val (.ref a2), .val (.int (2 : Int32))] [(.ref b)])) X110 Bd.notSynchronized (v := (some (.ref b))) (fun h => by rw [Bd.returns] at h; cases h) (fun fs hr => by jvm_step X110.here [X110.here.top, hx, (hb hby dk237), X110.method', Bd.returns, Value.isRef, FieldType.isReference]; (first | (intro acts; rw [hr _ acts rfl rfl rfl]) | rw [hr _ _ rfl rfl rfl]); exact Steps.refl _) e110 ?_ (by decide) (by decide)
  exact ⟨rfl, N110, (((Keep.refl _ [b, va]).trans q108_0 (allS (Or.inl (List.mem_of_getElem? (i := 1) rfl)) all0)).wr W110 (Or.inl (List.mem_of_getElem? (i := 0) rfl))), (Fld.other W110 (Fv.keep q108_0 (ninS (Exa.ne E1 E2 (by decide)) nin0)) (Or.inr (slot_ne (Or.inl tw47) (Or.inl tw61) (by decide) (t := (.array .byte)) (t' := .int) (by decide) (by decide)))), (Fld.other W110 (Fc.keep q108_0 (ninS (Exa.ne E1 E2 (by decide)) nin0)) (Or.inr (slot_ne (Or.inl tw49) (Or.inl tw61) (by decide) (t := .byte) (t' := .int) (by decide) (by decide)))), Fw110, (q108_1.other W110 (Exa.ne (E2.keep q108_0) (E1.keep q108_0) (by decide)))⟩

theorem ef_sas (m : MethodId) (x0 : Addr) (x1 : Addr) : entryFrame m #[(.ref x0), (.ref x1)] 2 = mkF m 0 #[.val (.ref x0), .val (.ref x1)] [] := by first | (simp [entryFrame, mkF, argsToLocals, Value.category]; done) | rfl
def Q_sas (Z : State) (b : Addr) (va : Addr) (kv : ClassId) (C : Int32) (vs : List Value) (n : Int32) (cs : Int32) (a2 : Addr) (y : Addr) (ky : ClassId) (h0 : Heap) (n0 : Nat) (v : Option Value) (h : Heap) (L : List Loc) : Prop := v = some (.ref b) ∧ Fr n0 L ∧ Keep h0 h [b, va] ∧ Fld Z h b "java/lang/AbstractStringBuilder" "value" "[B" (.ref va) ∧ Fld Z h b "java/lang/AbstractStringBuilder" "coder" "B" (.int (0 : Int32)) ∧ Fld Z h b "java/lang/AbstractStringBuilder" "count" "I" (.int (n + (2 : Int32))) ∧ Arv Z h va kv .byte C (vs ++ [(.int (46 : Int32)), (.int (46 : Int32))]) (.int (0 : Int32))
set_option maxRecDepth 65536 in
set_option maxHeartbeats 40000000 in
theorem sas (l : Launch) (Z : State) (a0 : Array Value) (hw : ∀ d ∈ tables_1, d.before a0 Z = true) (ws : List Jvm.Cond) (b : Addr) (va : Addr) (kv : ClassId) (C : Int32) (vs : List Value) (n : Int32) (cs : Int32) (a2 : Addr) (y : Addr) (ky : ClassId) (h0 : Heap) (n0 : Nat) (Z0 : n0 ≤ h0.size) (E1 : Exa Z h0 b "java/lang/StringBuilder") (G1 : n0 ≤ b) (E2 : Exa Z h0 va "[B") (G2 : n0 ≤ va) (Fv : Fld Z h0 b "java/lang/AbstractStringBuilder" "value" "[B" (.ref va)) (Fc : Fld Z h0 b "java/lang/AbstractStringBuilder" "coder" "B" (.int (0 : Int32))) (Fn : Fld Z h0 b "java/lang/AbstractStringBuilder" "count" "I" (.int n)) (V1 : Arv Z h0 va kv .byte C vs (.int (0 : Int32))) (SC : Sta Z h0 "java/lang/String" "COMPACT_STRINGS" "Z" (.int cs)) (PC : ¬ (cs = (0 : Int32))) (HN : n = Int32.ofNat vs.length) (HB : vs.length ≤ 40) (B0 : ¬ (n < (0 : Int32))) (B1 : ¬ ((40 : Int32) < n)) (B2 : ¬ (C < (0 : Int32))) (B3 : ¬ ((70 : Int32) < C)) (E3 : Exa Z h0 a2 "java/lang/String") (F3 : Fld Z h0 a2 "java/lang/String" "value" "[B" (.ref y)) (F4 : Fld Z h0 a2 "java/lang/String" "coder" "B" (.int (0 : Int32))) (V3 : Arv Z h0 y ky .byte (2 : Int32) [(.int (46 : Int32)), (.int (46 : Int32))] (.int (0 : Int32))) (N3 : y ≠ va) (QC : ¬ (C < (n + (2 : Int32)))) :
    MetFree l mth20 (head1 (Jvm.Cond.code mth20 jdk_67_method_7_code 2 (some (.object "java/lang/StringBuilder")) :: ws) rom15) (fun a U => a = #[(.ref b), (.ref a2)] ∧ Z.Warmed39 U.vm ∧ U.heap = h0) (fun _ _ _ _ _ => True) (fun _ U o U' => ∃ v L, o = .returned v ∧ Q_sas Z b va kv C vs n cs a2 y ky h0 n0 v U'.heap L ∧ FrameEnd U o U' L rom15.cells rom15.slots) := by
  refine MetFree.of_bodySF (plainFor_of_name pnm1) hisR ?_
  intro p e s m args below meth c s₁ Bd hml0 hP hK
  obtain ⟨rfl, hZ, hh⟩ := hP
  have hx := Bd.exec
  have hby := Bd.bytes
  have hml : c.maxLocals = 2 := hml0
  have hown : s.vm.findClass "java/lang/StringBuilder" = some m.cls := findClass_of_methodNamed Bd.named
  have hnm := (name_of_methodNamed Bd.named Bd.method).1
  have X0 : Stand p l e rom15 s m #[(.ref b), (.ref a2)] below meth c s₁ [] 0 0 := Stand.of_body Bd
  have eh0 : s₁.heap = h0 := by rw [← hh, Bd.state]; rfl
  have N0 := Fr.nil n0
  have tw40 := own_hw hw 40 rfl
  have tw57 := own_hw hw 57 rfl
  have tw70 := own_hw hw 70 rfl
  have tw94 := own_hw hw 94 rfl
  have tw95 := own_hw hw 95 rfl
  have tw97 := own_hw hw 97 rfl
  show Goes p e below (Pq (Q_sas Z b va kv C vs n cs a2 y ky h0 n0) s rom15.cells rom15.slots) (s₁.setTop (entryFrame m #[(.ref b), (.ref a2)] 2))
  refine Goes.step (S' := s₁.setTop (mkF m 0 #[.val (.ref b), .val (.ref a2)] [])) (fun t k => castTop (ef_sas m b a2) k) ?_
  refine Goes.step (S' := s₁.setTop (mkF m 2 #[.val (.ref b), .val (.ref a2)] [(.ref a2), (.ref b)])) (fun t k => XS.aloadN X0.here hx rfl (hb hby dk238) rfl rfl (XS.aloadN X0.here hx rfl (hb hby dk239) rfl rfl k)) ?_
  obtain ⟨_, _, ⟨T101, L101, k101, n101⟩, -, X101, ⟨Lc101, hQ101, l101, y101, z101⟩, st101⟩ := superBack X0 hx hZ (y := mth19) hown tw94 (own_sameM tw70 tw95 rfl (by decide)) tw95 tw57 (by decide) (backOf (W := 0) (ass l Z a0 hw [] b va kv C vs n cs a2 y ky h0 n0 Z0 E1 G1 E2 G2 Fv Fc Fn V1 SC (PC : ¬ (cs = (0 : Int32))) HN HB (B0 : ¬ (n < (0 : Int32))) (B1 : ¬ ((40 : Int32) < n)) (B2 : ¬ (C < (0 : Int32))) (B3 : ¬ ((70 : Int32) < C)) E3 F3 F4 V3 N3 (QC : ¬ (C < (n + (2 : Int32))))) hZ tw97 tw40 (by decide) (by decide)) eh0 (Ins.self E1) (g := (mkF m 2 #[.val (.ref b), .val (.ref a2)] [(.ref a2), (.ref b)])) rfl (by rw [hml]; rfl) tw97 (argsL := [(.ref a2)]) (rest := []) (lenOf pd_Ljava_lang_String__Ljava_lang_AbstractStringBuilder rfl) rfl (Nat.le_of_eq rfl) (hb hby dk240) (fun _ _ => ⟨rfl, eh0, (by decide : 0 + 0 ≤ _), (by decide : 0 + 0 ≤ _)⟩)
  dsimp only [Pt.U, Pt.locs, Pt.cells, Pt.slots] at X101 l101 y101 z101 st101 hQ101
  subst y101 z101
  obtain ⟨rfl, Nq101, q101_0, q101_1, q101_2, q101_3, q101_4⟩ := hQ101
  have N101 : Fr n0 L101 := by rw [l101]; exact Fr.app N0 Nq101
  refine Goes.step (S' := T101.setTop (mkF m 7 #[.val (.ref b), .val (.ref a2)] [(.ref b)])) (fun t k => st101.trans (XS.pop X101.here hx rfl (hb hby dk241) rfl rfl (XS.aloadN X101.here hx rfl (hb hby dk242) rfl rfl k))) ?_
  refine Goes.leave (g := (mkF m 7 #[.val (.ref b), .val (.ref a2)] [(.ref b)])) X101 Bd.notSynchronized (v := (some (.ref b))) (fun h => by rw [Bd.returns] at h; cases h) (fun fs hr => by jvm_step X101.here [X101.here.top, hx, (hb hby dk243), X101.method', Bd.returns, Value.isRef, FieldType.isReference]; (first | (intro acts; rw [hr _ acts rfl rfl rfl]) | rw [hr _ _ rfl rfl rfl]); exact Steps.refl _) rfl ?_ (by decide) (by decide)
  exact ⟨rfl, N101, ((Keep.refl _ [b, va]).trans q101_0 (allS (Or.inl (List.mem_of_getElem? (i := 0) rfl)) (allS (Or.inl (List.mem_of_getElem? (i := 1) rfl)) all0))), q101_1, q101_2, q101_3, q101_4⟩

theorem ef_asg (m : MethodId) (x0 : Addr) (x1 : Addr) : entryFrame m #[(.ref x0), (.ref x1)] 3 = mkF m 0 #[.val (.ref x0), .val (.ref x1), .unset] [] := by first | (simp [entryFrame, mkF, argsToLocals, Value.category]; done) | rfl
def Q_asg (Z : State) (b : Addr) (va : Addr) (kv : ClassId) (C : Int32) (vs : List Value) (n : Int32) (cs : Int32) (a2 : Addr) (y : Addr) (ky : ClassId) (M : Int32) (h0 : Heap) (n0 : Nat) (v : Option Value) (h : Heap) (L : List Loc) : Prop := ∃ (va2 : Addr) (kv2 : ClassId) (C2 : Int32), v = some (.ref b) ∧ Fr n0 L ∧ Keep h0 h [b] ∧ h0.size ≤ va2 ∧ Exa Z h va2 "[B" ∧ Fld Z h b "java/lang/AbstractStringBuilder" "value" "[B" (.ref va2) ∧ Fld Z h b "java/lang/AbstractStringBuilder" "coder" "B" (.int (0 : Int32)) ∧ Fld Z h b "java/lang/AbstractStringBuilder" "count" "I" (.int (n + (2 : Int32))) ∧ Arv Z h va2 kv2 .byte C2 (vs ++ [(.int (46 : Int32)), (.int (46 : Int32))]) (.int (0 : Int32)) ∧ ¬ (C2 < (n + (2 : Int32))) ∧ ¬ (M < C2) ∧ ¬ (C2 < (C + (C + (2 : Int32))))
set_option maxRecDepth 65536 in
set_option maxHeartbeats 40000000 in
theorem asg (l : Launch) (Z : State) (a0 : Array Value) (hw : ∀ d ∈ tables_1, d.before a0 Z = true) (ws : List Jvm.Cond) (b : Addr) (va : Addr) (kv : ClassId) (C : Int32) (vs : List Value) (n : Int32) (cs : Int32) (a2 : Addr) (y : Addr) (ky : ClassId) (M : Int32) (h0 : Heap) (n0 : Nat) (Z0 : n0 ≤ h0.size) (E1 : Exa Z h0 b "java/lang/StringBuilder") (G1 : n0 ≤ b) (E2 : Exa Z h0 va "[B") (G2 : n0 ≤ va) (Fv : Fld Z h0 b "java/lang/AbstractStringBuilder" "value" "[B" (.ref va)) (Fc : Fld Z h0 b "java/lang/AbstractStringBuilder" "coder" "B" (.int (0 : Int32))) (Fn : Fld Z h0 b "java/lang/AbstractStringBuilder" "count" "I" (.int n)) (V1 : Arv Z h0 va kv .byte C vs (.int (0 : Int32))) (SC : Sta Z h0 "java/lang/String" "COMPACT_STRINGS" "Z" (.int cs)) (PC : ¬ (cs = (0 : Int32))) (HN : n = Int32.ofNat vs.length) (HB : vs.length ≤ 40) (B0 : ¬ (n < (0 : Int32))) (B1 : ¬ ((40 : Int32) < n)) (B2 : ¬ (C < (0 : Int32))) (B3 : ¬ ((70 : Int32) < C)) (E3 : Exa Z h0 a2 "java/lang/String") (F3 : Fld Z h0 a2 "java/lang/String" "value" "[B" (.ref y)) (F4 : Fld Z h0 a2 "java/lang/String" "coder" "B" (.int (0 : Int32))) (V3 : Arv Z h0 y ky .byte (2 : Int32) [(.int (46 : Int32)), (.int (46 : Int32))] (.int (0 : Int32))) (N3 : y ≠ va) (QC : C < (n + (2 : Int32))) (QM : ¬ (M < (n + (2 : Int32)))) (QM2 : ¬ (M < (C + (C + (2 : Int32))))) (QM3 : ¬ ((70 : Int32) < M)) (QN : ¬ (C < n)) :
    MetFree l mth19 (head1 (Jvm.Cond.code mth19 jdk_68_method_22_code 3 (some (.object "java/lang/AbstractStringBuilder")) :: ws) rom16) (fun a U => a = #[(.ref b), (.ref a2)] ∧ Z.Warmed39 U.vm ∧ U.heap = h0) (fun _ _ _ _ _ => True) (fun _ U o U' => ∃ v L, o = .returned v ∧ Q_asg Z b va kv C vs n cs a2 y ky M h0 n0 v U'.heap L ∧ FrameEnd U o U' L rom16.cells rom16.slots) := by
  refine MetFree.of_bodySF (plainFor_of_name pnm0) hisR ?_
  intro p e s m args below meth c s₁ Bd hml0 hP hK
  obtain ⟨rfl, hZ, hh⟩ := hP
  have hx := Bd.exec
  have hby := Bd.bytes
  have hml : c.maxLocals = 3 := hml0
  have hown : s.vm.findClass "java/lang/AbstractStringBuilder" = some m.cls := findClass_of_methodNamed Bd.named
  have hnm := (name_of_methodNamed Bd.named Bd.method).1
  have X0 : Stand p l e rom16 s m #[(.ref b), (.ref a2)] below meth c s₁ [] 0 0 := Stand.of_body Bd
  have eh0 : s₁.heap = h0 := by rw [← hh, Bd.state]; rfl
  have N0 := Fr.nil n0
  have tw31 := own_hw hw 31 rfl
  have tw40 := own_hw hw 40 rfl
  have tw44 := own_hw hw 44 rfl
  have tw47 := own_hw hw 47 rfl
  have tw49 := own_hw hw 49 rfl
  have tw60 := own_hw hw 60 rfl
  have tw61 := own_hw hw 61 rfl
  have tw67 := own_hw hw 67 rfl
  have tw68 := own_hw hw 68 rfl
  have tw69 := own_hw hw 69 rfl
  have tw70 := own_hw hw 70 rfl
  have tw71 := own_hw hw 71 rfl
  have tw98 := own_hw hw 98 rfl
  have tw99 := own_hw hw 99 rfl
  have tw100 := own_hw hw 100 rfl
  have tw101 := own_hw hw 101 rfl
  have tw102 := own_hw hw 102 rfl
  have tw111 := own_hw hw 111 rfl
  have tw112 := own_hw hw 112 rfl
  have tw113 := own_hw hw 113 rfl
  have tw114 := own_hw hw 114 rfl
  have tw115 := own_hw hw 115 rfl
  show Goes p e below (Pq (Q_asg Z b va kv C vs n cs a2 y ky M h0 n0) s rom16.cells rom16.slots) (s₁.setTop (entryFrame m #[(.ref b), (.ref a2)] 3))
  refine Goes.step (S' := s₁.setTop (mkF m 0 #[.val (.ref b), .val (.ref a2), .unset] [])) (fun t k => castTop (ef_asg m b a2) k) ?_
  refine Goes.step (S' := s₁.setTop (mkF m 10 #[.val (.ref b), .val (.ref a2), .unset] [(.ref a2)])) (fun t k => XS.aloadN X0.here hx rfl (hb hby dk214) rfl rfl (XS.ifnonnullYes X0.here hx rfl (pc0 := 1) (pc' := 9) rfl (hb hby dk215) rfl (by decide) (by decide) (XS.aloadN X0.here hx rfl (hb hby dk216) rfl rfl k))) ?_
  obtain ⟨cq101, kq101, q101a, q101b, q101c⟩ := isOf hZ eh0 E3
  obtain ⟨_, _, ⟨T101, L101, k101, n101⟩, -, X101, ⟨Lc101, hQ101, l101, y101, z101⟩, st101⟩ := X0.virtualBack hx (y := mth14) (z := mth14) hown (mvT hZ tw98) (mvT hZ tw99) (notFace_of_selects (args := #[]) (mvT hZ tw101)) (mvT hZ tw101) (mvT hZ tw100) (by decide) (backOf (W := 0) (slen l Z a0 hw [] a2 y ky (2 : Int32) [(.int (46 : Int32)), (.int (46 : Int32))] cs h0 n0 Z0 E3 F3 F4 V3 SC (PC : ¬ (cs = (0 : Int32)))) hZ tw102 tw44 (by decide) (by decide)) q101a q101c (g := (mkF m 10 #[.val (.ref b), .val (.ref a2), .unset] [(.ref a2)])) rfl (by rw [hml]; rfl) (Steps.refl _) (argsL := []) (rest := []) (lenOf pd_I rfl) rfl (Nat.le_of_eq rfl) (hb hby dk217) (fun _ _ => ⟨rfl, eh0, (by decide : 0 + 0 ≤ _), (by decide : 0 + 0 ≤ _)⟩)
  dsimp only [Pt.U, Pt.locs, Pt.cells, Pt.slots] at X101 l101 y101 z101 st101 hQ101
  subst y101 z101
  obtain ⟨rfl, Nq101, q101_0⟩ := hQ101
  have N101 : Fr n0 L101 := by rw [l101]; exact Fr.app N0 Nq101
  refine Goes.step (S' := T101.setTop (mkF m 16 #[.val (.ref b), .val (.ref a2), .val (.int (2 : Int32))] [(.ref b), (.ref b)])) (fun t k => st101.trans (XS.istoreN X101.here hx rfl (hb hby dk218) rfl (l' := #[.val (.ref b), .val (.ref a2), .val (.int (2 : Int32))]) rfl (XS.aloadN X101.here hx rfl (hb hby dk219) rfl rfl (XS.aloadN X101.here hx rfl (hb hby dk220) rfl rfl k)))) ?_
  obtain ⟨T102, X102, e102, st102⟩ := getF X101 hx hZ hown (host := "") (Or.inl tw60) Via.refl q101_0 Fn (g := (mkF m 16 #[.val (.ref b), .val (.ref a2), .val (.int (2 : Int32))] [(.ref b), (.ref b)])) rfl rfl (hb hby dk221)
  refine Goes.step (S' := T102.setTop (mkF m 21 #[.val (.ref b), .val (.ref a2), .val (.int (2 : Int32))] [(.int (n + (2 : Int32))), (.ref b)])) (fun t k => st102 _ (XS.iloadN X102.here hx rfl (hb hby dk222) rfl (XS.iadd X102.here hx rfl (hb hby dk223) rfl k))) ?_
  obtain ⟨cq103, q103, q103'⟩ := E1.cell
  obtain ⟨_, _, ⟨T103, L103, k103, n103⟩, -, X103, ⟨Lc103, hQ103, l103, y103, z103⟩, st103⟩ := X102.privateBack hx (y := mth7) hown (mvT hZ tw67) (mvT hZ tw68) (own_selU (mvT hZ tw70) (mvT hZ tw68) (mvP hZ tw69) (by decide)) (Cond.privateMethod_at (mvP hZ tw69 (args := #[]))) (mvT hZ tw71) (by decide) (backOf (W := 0) (ecg l Z a0 hw [] b va kv C vs (n + (2 : Int32)) n M h0 n0 Z0 E1 G1 Fn Fv Fc V1 (B2 : ¬ (C < (0 : Int32))) ((by have u0:=PC; have u1:=B0; have u2:=B1; have u3:=B2; have u4:=B3; have u5:=QC; have u6:=QM; have u7:=QM2; have u8:=QM3; have u9:=QN; have u10:=rng32 cs; have u11:=rng32 n; have u12:=rng32 C; have u13:=rng32 (n + (2 : Int32)); have u14:=c_iadd n (2 : Int32); have u15:=rng32 M; have u16:=rng32 (C + (C + (2 : Int32))); have u17:=c_iadd C (C + (2 : Int32)); have u18:=rng32 (C + (2 : Int32)); have u19:=c_iadd C (2 : Int32); (try simp only [Int32.lt_iff_toInt_lt, Int64.lt_iff_toInt_lt, ne_eq, ← Int32.toInt_inj, ← Int64.toInt_inj, Int32.reduceToInt, Int64.reduceToInt, Nat.reducePow] at u0 u1 u2 u3 u4 u5 u6 u7 u8 u9 u10 u11 u12 u13 u14 u15 u16 u17 u18 u19 ⊢); try omega) : ¬ ((n + (2 : Int32)) < (0 : Int32))) ((by have u0:=PC; have u1:=B0; have u2:=B1; have u3:=B2; have u4:=B3; have u5:=QC; have u6:=QM; have u7:=QM2; have u8:=QM3; have u9:=QN; have u10:=rng32 cs; have u11:=rng32 n; have u12:=rng32 C; have u13:=rng32 (n + (2 : Int32)); have u14:=c_iadd n (2 : Int32); have u15:=rng32 M; have u16:=rng32 (C + (C + (2 : Int32))); have u17:=c_iadd C (C + (2 : Int32)); have u18:=rng32 (C + (2 : Int32)); have u19:=c_iadd C (2 : Int32); (try simp only [Int32.lt_iff_toInt_lt, Int64.lt_iff_toInt_lt, ne_eq, ← Int32.toInt_inj, ← Int64.toInt_inj, Int32.reduceToInt, Int64.reduceToInt, Nat.reducePow] at u0 u1 u2 u3 u4 u5 u6 u7 u8 u9 u10 u11 u12 u13 u14 u15 u16 u17 u18 u19 ⊢); try omega) : ¬ ((500 : Int32) < C)) ((by have u0:=PC; have u1:=B0; have u2:=B1; have u3:=B2; have u4:=B3; have u5:=QC; have u6:=QM; have u7:=QM2; have u8:=QM3; have u9:=QN; have u10:=rng32 cs; have u11:=rng32 n; have u12:=rng32 C; have u13:=rng32 (n + (2 : Int32)); have u14:=c_iadd n (2 : Int32); have u15:=rng32 M; have u16:=rng32 (C + (C + (2 : Int32))); have u17:=c_iadd C (C + (2 : Int32)); have u18:=rng32 (C + (2 : Int32)); have u19:=c_iadd C (2 : Int32); (try simp only [Int32.lt_iff_toInt_lt, Int64.lt_iff_toInt_lt, ne_eq, ← Int32.toInt_inj, ← Int64.toInt_inj, Int32.reduceToInt, Int64.reduceToInt, Nat.reducePow] at u0 u1 u2 u3 u4 u5 u6 u7 u8 u9 u10 u11 u12 u13 u14 u15 u16 u17 u18 u19 ⊢); try omega) : ¬ ((500 : Int32) < (n + (2 : Int32)))) (QC : C < (n + (2 : Int32))) (QM : ¬ (M < (n + (2 : Int32)))) (QM2 : ¬ (M < (C + (C + (2 : Int32))))) (QM3 : ¬ ((70 : Int32) < M)) (own_hle1 HN (Nat.le_trans HB (by decide)) QN)) hZ tw71 tw40 (by decide) (by decide)) (g := (mkF m 21 #[.val (.ref b), .val (.ref a2), .val (.int (2 : Int32))] [(.int (n + (2 : Int32))), (.ref b)])) rfl (by rw [hml]; rfl) (Steps.refl _) (a := b) (by rw [e102]; exact q103) q103' (argsL := [(.int (n + (2 : Int32)))]) (rest := []) (lenOf pd_I_V rfl) rfl (Nat.le_of_eq rfl) (hb hby dk224) (fun _ _ => ⟨rfl, e102, (by decide : 0 + 1 ≤ _), (by decide : 0 + 70 ≤ _)⟩)
  dsimp only [Pt.U, Pt.locs, Pt.cells, Pt.slots] at X103 l103 y103 z103 st103 hQ103
  subst y103 z103
  obtain ⟨va2_103, kv2_103, C2_103, rfl, Nq103, q103_0, q103_1, q103_2, q103_3, q103_4, q103_5, q103_6, q103_7, q103_8, q103_9⟩ := hQ103
  have N103 : Fr n0 L103 := by rw [l103]; exact Fr.app N101 Nq103
  refine Goes.step (S' := T103.setTop (mkF m 26 #[.val (.ref b), .val (.ref a2), .val (.int (2 : Int32))] [(.ref b), (.ref b)])) (fun t k => st103.trans (XS.aloadN X103.here hx rfl (hb hby dk225) rfl rfl (XS.aloadN X103.here hx rfl (hb hby dk226) rfl rfl k))) ?_
  obtain ⟨T107, X107, e107, st107⟩ := getF X103 hx hZ hown (host := "") (Or.inl tw60) Via.refl rfl q103_5 (g := (mkF m 26 #[.val (.ref b), .val (.ref a2), .val (.int (2 : Int32))] [(.ref b), (.ref b)])) rfl rfl (hb hby dk227)
  refine Goes.step (S' := T107.setTop (mkF m 30 #[.val (.ref b), .val (.ref a2), .val (.int (2 : Int32))] [(.ref a2), (.int n), (.ref b)])) (fun t k => st107 _ (XS.aloadN X107.here hx rfl (hb hby dk228) rfl rfl k)) ?_
  obtain ⟨cq108, q108, q108'⟩ := (E1.keep q103_0).cell
  obtain ⟨_, _, ⟨T108, L108, k108, n108⟩, -, X108, ⟨Lc108, hQ108, l108, y108, z108⟩, st108⟩ := X107.privateBack hx (y := mth18) hown (mvT hZ tw111) (mvT hZ tw112) (own_selU (mvT hZ tw114) (mvT hZ tw112) (mvP hZ tw113) (by decide)) (Cond.privateMethod_at (mvP hZ tw113 (args := #[]))) (mvT hZ tw115) (by decide) (backOf (W := 0) (psa l Z a0 hw [] b a2 y ky va2_103 kv2_103 C2_103 vs n cs T103.heap n0 (Nat.le_trans Z0 q103_0.1) (E1.keep q103_0) q103_3 q103_4 (E3.keep q103_0) (F3.keep q103_0 (ninS (Exa.ne E3 E1 (by decide)) nin0)) (F4.keep q103_0 (ninS (Exa.ne E3 E1 (by decide)) nin0)) (V3.keep q103_0 (ninS (Ne.symm (Exa.neArv E1 V3 tw31)) nin0)) q103_6 (Nat.ne_of_lt (Nat.lt_of_lt_of_le V3.lt q103_1)) (Nat.le_trans Z0 q103_1) (own_stakeep SC q103_0 (nsS E1.nostat ns0)) (PC : ¬ (cs = (0 : Int32))) HN HB (B0 : ¬ (n < (0 : Int32))) (q103_7 : ¬ (C2_103 < (n + (2 : Int32))))) hZ tw115 tw40 (by decide) (by decide)) (g := (mkF m 30 #[.val (.ref b), .val (.ref a2), .val (.int (2 : Int32))] [(.ref a2), (.int n), (.ref b)])) rfl (by rw [hml]; rfl) (Steps.refl _) (a := b) (by rw [e107]; exact q108) q108' (argsL := [(.int n), (.ref a2)]) (rest := []) (lenOf pd_ILjava_lang_String__V rfl) rfl (Nat.le_of_eq rfl) (hb hby dk229) (fun _ _ => ⟨rfl, e107, (by decide : 1 + 0 ≤ _), (by decide : 70 + 0 ≤ _)⟩)
  dsimp only [Pt.U, Pt.locs, Pt.cells, Pt.slots] at X108 l108 y108 z108 st108 hQ108
  subst y108 z108
  obtain ⟨rfl, Nq108, q108_0, q108_1⟩ := hQ108
  have N108 : Fr n0 L108 := by rw [l108]; exact Fr.app N103 Nq108
  refine Goes.step (S' := T108.setTop (mkF m 35 #[.val (.ref b), .val (.ref a2), .val (.int (2 : Int32))] [(.ref b), (.ref b)])) (fun t k => st108.trans (XS.aloadN X108.here hx rfl (hb hby dk230) rfl rfl (XS.dup X108.here hx rfl (hb hby dk231) rfl rfl k))) ?_
  obtain ⟨T109, X109, e109, st109⟩ := getF X108 hx hZ hown (host := "") (Or.inl tw60) Via.refl rfl (q103_5.keep q108_0 (ninS (Nat.ne_of_lt (Nat.lt_of_lt_of_le E1.lt q103_1)) nin0)) (g := (mkF m 35 #[.val (.ref b), .val (.ref a2), .val (.int (2 : Int32))] [(.ref b), (.ref b)])) rfl rfl (hb hby dk232)
  refine Goes.step (S' := T109.setTop (mkF m 40 #[.val (.ref b), .val (.ref a2), .val (.int (2 : Int32))] [(.int (n + (2 : Int32))), (.ref b)])) (fun t k => st109 _ (XS.iloadN X109.here hx rfl (hb hby dk233) rfl (XS.iadd X109.here hx rfl (hb hby dk234) rfl k))) ?_
  obtain ⟨T110, h110, X110, e110, W110, st110⟩ := putF X109 hx hZ hown (host := "") (Or.inl tw60) Via.refl e109 (q103_5.keep q108_0 (ninS (Nat.ne_of_lt (Nat.lt_of_lt_of_le E1.lt q103_1)) nin0)) ((E1.keep q103_0).keep q108_0) (Or.inl tw61) tw31 (ty := .int) (by decide) rfl rfl (g := (mkF m 40 #[.val (.ref b), .val (.ref a2), .val (.int (2 : Int32))] [(.int (n + (2 : Int32))), (.ref b)])) rfl rfl (hb hby dk235)
  have Fw110 : Fld Z h110 b "java/lang/AbstractStringBuilder" "count" "I" (.int (n + (2 : Int32))) := Fld.same W110 (q103_5.keep q108_0 (ninS (Nat.ne_of_lt (Nat.lt_of_lt_of_le E1.lt q103_1)) nin0))
  have N110 := Fr.snoc X110 N108 G1
  refine Goes.step (S' := T110.setTop (mkF m 44 #[.val (.ref b), .val (.ref a2), .val (.int (2 : Int32))] [(.ref b)])) (fun t k => st110 _ (XS.aloadN X110.here hx rfl (hb hby dk236) rfl rfl k)) ?_
  refine Goes.leave (g := (mkF m 44 #[.val (.ref b), .val (.ref a2), .val (.int (2 : Int32))] [(.ref b)])) X110 Bd.notSynchronized (v := (some (.ref b))) (fun h => by rw [Bd.returns] at h; cases h) (fun fs hr => by jvm_step X110.here [X110.here.top, hx, (hb hby dk237), X110.method', Bd.returns, Value.isRef, FieldType.isReference]; (first | (intro acts; rw [hr _ acts rfl rfl rfl]) | rw [hr _ _ rfl rfl rfl]); exact Steps.refl _) e110 ?_ (by decide) (by decide)
  exact ⟨va2_103, kv2_103, C2_103, rfl, N110, ((((Keep.refl _ [b]).trans q103_0 (allS (Or.inl (List.mem_of_getElem? (i := 0) rfl)) all0)).trans q108_0 (allS (Or.inr q103_1) all0)).wr W110 (Or.inl (List.mem_of_getElem? (i := 0) rfl))), q103_1, (Exa.wr W110 (q103_2.keep q108_0)), (Fld.other W110 (q103_3.keep q108_0 (ninS (Nat.ne_of_lt (Nat.lt_of_lt_of_le E1.lt q103_1)) nin0)) (Or.inr (slot_ne (Or.inl tw47) (Or.inl tw61) (by decide) (t := (.array .byte)) (t' := .int) (by decide) (by decide)))), (Fld.other W110 (q103_4.keep q108_0 (ninS (Nat.ne_of_lt (Nat.lt_of_lt_of_le E1.lt q103_1)) nin0)) (Or.inr (slot_ne (Or.inl tw49) (Or.inl tw61) (by decide) (t := .byte) (t' := .int) (by decide) (by decide)))), Fw110, (q108_1.other W110 (Ne.symm (Nat.ne_of_lt (Nat.lt_of_lt_of_le E1.lt q103_1)))), (q103_7 : ¬ (C2_103 < (n + (2 : Int32)))), (q103_8 : ¬ (M < C2_103)), (q103_9 : ¬ (C2_103 < (C + (C + (2 : Int32)))))⟩

theorem ef_sag (m : MethodId) (x0 : Addr) (x1 : Addr) : entryFrame m #[(.ref x0), (.ref x1)] 2 = mkF m 0 #[.val (.ref x0), .val (.ref x1)] [] := by first | (simp [entryFrame, mkF, argsToLocals, Value.category]; done) | rfl
def Q_sag (Z : State) (b : Addr) (va : Addr) (kv : ClassId) (C : Int32) (vs : List Value) (n : Int32) (cs : Int32) (a2 : Addr) (y : Addr) (ky : ClassId) (M : Int32) (h0 : Heap) (n0 : Nat) (v : Option Value) (h : Heap) (L : List Loc) : Prop := ∃ (va2 : Addr) (kv2 : ClassId) (C2 : Int32), v = some (.ref b) ∧ Fr n0 L ∧ Keep h0 h [b] ∧ h0.size ≤ va2 ∧ Exa Z h va2 "[B" ∧ Fld Z h b "java/lang/AbstractStringBuilder" "value" "[B" (.ref va2) ∧ Fld Z h b "java/lang/AbstractStringBuilder" "coder" "B" (.int (0 : Int32)) ∧ Fld Z h b "java/lang/AbstractStringBuilder" "count" "I" (.int (n + (2 : Int32))) ∧ Arv Z h va2 kv2 .byte C2 (vs ++ [(.int (46 : Int32)), (.int (46 : Int32))]) (.int (0 : Int32)) ∧ ¬ (C2 < (n + (2 : Int32))) ∧ ¬ (M < C2) ∧ ¬ (C2 < (C + (C + (2 : Int32))))
set_option maxRecDepth 65536 in
set_option maxHeartbeats 40000000 in
theorem sag (l : Launch) (Z : State) (a0 : Array Value) (hw : ∀ d ∈ tables_1, d.before a0 Z = true) (ws : List Jvm.Cond) (b : Addr) (va : Addr) (kv : ClassId) (C : Int32) (vs : List Value) (n : Int32) (cs : Int32) (a2 : Addr) (y : Addr) (ky : ClassId) (M : Int32) (h0 : Heap) (n0 : Nat) (Z0 : n0 ≤ h0.size) (E1 : Exa Z h0 b "java/lang/StringBuilder") (G1 : n0 ≤ b) (E2 : Exa Z h0 va "[B") (G2 : n0 ≤ va) (Fv : Fld Z h0 b "java/lang/AbstractStringBuilder" "value" "[B" (.ref va)) (Fc : Fld Z h0 b "java/lang/AbstractStringBuilder" "coder" "B" (.int (0 : Int32))) (Fn : Fld Z h0 b "java/lang/AbstractStringBuilder" "count" "I" (.int n)) (V1 : Arv Z h0 va kv .byte C vs (.int (0 : Int32))) (SC : Sta Z h0 "java/lang/String" "COMPACT_STRINGS" "Z" (.int cs)) (PC : ¬ (cs = (0 : Int32))) (HN : n = Int32.ofNat vs.length) (HB : vs.length ≤ 40) (B0 : ¬ (n < (0 : Int32))) (B1 : ¬ ((40 : Int32) < n)) (B2 : ¬ (C < (0 : Int32))) (B3 : ¬ ((70 : Int32) < C)) (E3 : Exa Z h0 a2 "java/lang/String") (F3 : Fld Z h0 a2 "java/lang/String" "value" "[B" (.ref y)) (F4 : Fld Z h0 a2 "java/lang/String" "coder" "B" (.int (0 : Int32))) (V3 : Arv Z h0 y ky .byte (2 : Int32) [(.int (46 : Int32)), (.int (46 : Int32))] (.int (0 : Int32))) (N3 : y ≠ va) (QC : C < (n + (2 : Int32))) (QM : ¬ (M < (n + (2 : Int32)))) (QM2 : ¬ (M < (C + (C + (2 : Int32))))) (QM3 : ¬ ((70 : Int32) < M)) (QN : ¬ (C < n)) :
    MetFree l mth20 (head1 (Jvm.Cond.code mth20 jdk_67_method_7_code 2 (some (.object "java/lang/StringBuilder")) :: ws) rom17) (fun a U => a = #[(.ref b), (.ref a2)] ∧ Z.Warmed39 U.vm ∧ U.heap = h0) (fun _ _ _ _ _ => True) (fun _ U o U' => ∃ v L, o = .returned v ∧ Q_sag Z b va kv C vs n cs a2 y ky M h0 n0 v U'.heap L ∧ FrameEnd U o U' L rom17.cells rom17.slots) := by
  refine MetFree.of_bodySF (plainFor_of_name pnm1) hisR ?_
  intro p e s m args below meth c s₁ Bd hml0 hP hK
  obtain ⟨rfl, hZ, hh⟩ := hP
  have hx := Bd.exec
  have hby := Bd.bytes
  have hml : c.maxLocals = 2 := hml0
  have hown : s.vm.findClass "java/lang/StringBuilder" = some m.cls := findClass_of_methodNamed Bd.named
  have hnm := (name_of_methodNamed Bd.named Bd.method).1
  have X0 : Stand p l e rom17 s m #[(.ref b), (.ref a2)] below meth c s₁ [] 0 0 := Stand.of_body Bd
  have eh0 : s₁.heap = h0 := by rw [← hh, Bd.state]; rfl
  have N0 := Fr.nil n0
  have tw40 := own_hw hw 40 rfl
  have tw57 := own_hw hw 57 rfl
  have tw70 := own_hw hw 70 rfl
  have tw94 := own_hw hw 94 rfl
  have tw95 := own_hw hw 95 rfl
  have tw97 := own_hw hw 97 rfl
  show Goes p e below (Pq (Q_sag Z b va kv C vs n cs a2 y ky M h0 n0) s rom17.cells rom17.slots) (s₁.setTop (entryFrame m #[(.ref b), (.ref a2)] 2))
  refine Goes.step (S' := s₁.setTop (mkF m 0 #[.val (.ref b), .val (.ref a2)] [])) (fun t k => castTop (ef_sag m b a2) k) ?_
  refine Goes.step (S' := s₁.setTop (mkF m 2 #[.val (.ref b), .val (.ref a2)] [(.ref a2), (.ref b)])) (fun t k => XS.aloadN X0.here hx rfl (hb hby dk238) rfl rfl (XS.aloadN X0.here hx rfl (hb hby dk239) rfl rfl k)) ?_
  obtain ⟨_, _, ⟨T101, L101, k101, n101⟩, -, X101, ⟨Lc101, hQ101, l101, y101, z101⟩, st101⟩ := superBack X0 hx hZ (y := mth19) hown tw94 (own_sameM tw70 tw95 rfl (by decide)) tw95 tw57 (by decide) (backOf (W := 0) (asg l Z a0 hw [] b va kv C vs n cs a2 y ky M h0 n0 Z0 E1 G1 E2 G2 Fv Fc Fn V1 SC (PC : ¬ (cs = (0 : Int32))) HN HB (B0 : ¬ (n < (0 : Int32))) (B1 : ¬ ((40 : Int32) < n)) (B2 : ¬ (C < (0 : Int32))) (B3 : ¬ ((70 : Int32) < C)) E3 F3 F4 V3 N3 (QC : C < (n + (2 : Int32))) (QM : ¬ (M < (n + (2 : Int32)))) (QM2 : ¬ (M < (C + (C + (2 : Int32))))) (QM3 : ¬ ((70 : Int32) < M)) (QN : ¬ (C < n))) hZ tw97 tw40 (by decide) (by decide)) eh0 (Ins.self E1) (g := (mkF m 2 #[.val (.ref b), .val (.ref a2)] [(.ref a2), (.ref b)])) rfl (by rw [hml]; rfl) tw97 (argsL := [(.ref a2)]) (rest := []) (lenOf pd_Ljava_lang_String__Ljava_lang_AbstractStringBuilder rfl) rfl (Nat.le_of_eq rfl) (hb hby dk240) (fun _ _ => ⟨rfl, eh0, (by decide : 0 + 1 ≤ _), (by decide : 0 + 70 ≤ _)⟩)
  dsimp only [Pt.U, Pt.locs, Pt.cells, Pt.slots] at X101 l101 y101 z101 st101 hQ101
  subst y101 z101
  obtain ⟨va2_101, kv2_101, C2_101, rfl, Nq101, q101_0, q101_1, q101_2, q101_3, q101_4, q101_5, q101_6, q101_7, q101_8, q101_9⟩ := hQ101
  have N101 : Fr n0 L101 := by rw [l101]; exact Fr.app N0 Nq101
  refine Goes.step (S' := T101.setTop (mkF m 7 #[.val (.ref b), .val (.ref a2)] [(.ref b)])) (fun t k => st101.trans (XS.pop X101.here hx rfl (hb hby dk241) rfl rfl (XS.aloadN X101.here hx rfl (hb hby dk242) rfl rfl k))) ?_
  refine Goes.leave (g := (mkF m 7 #[.val (.ref b), .val (.ref a2)] [(.ref b)])) X101 Bd.notSynchronized (v := (some (.ref b))) (fun h => by rw [Bd.returns] at h; cases h) (fun fs hr => by jvm_step X101.here [X101.here.top, hx, (hb hby dk243), X101.method', Bd.returns, Value.isRef, FieldType.isReference]; (first | (intro acts; rw [hr _ acts rfl rfl rfl]) | rw [hr _ _ rfl rfl rfl]); exact Steps.refl _) rfl ?_ (by decide) (by decide)
  exact ⟨va2_101, kv2_101, C2_101, rfl, N101, ((Keep.refl _ [b]).trans q101_0 (allS (Or.inl (List.mem_of_getElem? (i := 0) rfl)) all0)), q101_1, q101_2, q101_3, q101_4, q101_5, q101_6, (q101_7 : ¬ (C2_101 < (n + (2 : Int32)))), (q101_8 : ¬ (M < C2_101)), (q101_9 : ¬ (C2_101 < (C + (C + (2 : Int32)))))⟩

theorem ef_chl (m : MethodId) (x0 : Int32) (x1 : Int32) : entryFrame m #[(.int x0), (.int x1)] 2 = mkF m 0 #[.val (.int x0), .val (.int x1)] [] := by first | (simp [entryFrame, mkF, argsToLocals, Value.category]; done) | rfl
def Q_chl (Z : State) (p0 : Int32) (p1 : Int32) (h0 : Heap) (n0 : Nat) (v : Option Value) (h : Heap) (L : List Loc) : Prop := v = none ∧ Fr n0 L ∧ h = h0
set_option maxRecDepth 65536 in
set_option maxHeartbeats 40000000 in
theorem chl (l : Launch) (Z : State) (a0 : Array Value) (hw : ∀ d ∈ tables_1, d.before a0 Z = true) (ws : List Jvm.Cond) (p0 : Int32) (p1 : Int32) (h0 : Heap) (n0 : Nat) (Z0 : n0 ≤ h0.size) (Q0 : ¬ (p1 < p0)) :
    MetFree l mth21 (head1 (Jvm.Cond.code mth21 jdk_65_method_131_code 2 none :: ws) rom2) (fun a U => a = #[(.int p0), (.int p1)] ∧ Z.Warmed39 U.vm ∧ U.heap = h0) (fun _ _ _ _ _ => True) (fun _ U o U' => ∃ v L, o = .returned v ∧ Q_chl Z p0 p1 h0 n0 v U'.heap L ∧ FrameEnd U o U' L rom2.cells rom2.slots) := by
  refine MetFree.of_bodySF (plainFor_of_name pnm3) hisR ?_
  intro p e s m args below meth c s₁ Bd hml0 hP hK
  obtain ⟨rfl, hZ, hh⟩ := hP
  have hx := Bd.exec
  have hby := Bd.bytes
  have hml : c.maxLocals = 2 := hml0
  have hown : s.vm.findClass "java/util/Arrays" = some m.cls := findClass_of_methodNamed Bd.named
  have hnm := (name_of_methodNamed Bd.named Bd.method).1
  have X0 : Stand p l e rom2 s m #[(.int p0), (.int p1)] below meth c s₁ [] 0 0 := Stand.of_body Bd
  have eh0 : s₁.heap = h0 := by rw [← hh, Bd.state]; rfl
  have N0 := Fr.nil n0
  show Goes p e below (Pq (Q_chl Z p0 p1 h0 n0) s rom2.cells rom2.slots) (s₁.setTop (entryFrame m #[(.int p0), (.int p1)] 2))
  refine Goes.step (S' := s₁.setTop (mkF m 0 #[.val (.int p0), .val (.int p1)] [])) (fun t k => castTop (ef_chl m p0 p1) k) ?_
  refine Goes.step (S' := s₁.setTop (mkF m 37 #[.val (.int p0), .val (.int p1)] [])) (fun t k => XS.iloadN X0.here hx rfl (hb hby dk244) rfl (XS.iloadN X0.here hx rfl (hb hby dk245) rfl (XS.icmpYes X0.here hx rfl (pc0 := 2) (pc' := 37) rfl (hb hby dk246) rfl (flt (Q0 : ¬ (p1 < p0))).2.1 (by decide) (by decide) k))) ?_
  refine Goes.leave (g := (mkF m 37 #[.val (.int p0), .val (.int p1)] [])) X0 Bd.notSynchronized (v := none) (fun _ => rfl) (fun fs hr => X0.returnOut hx Bd.returns (hb hby dk247) hr) eh0 ?_ (by decide) (by decide)
  exact ⟨rfl, N0, rfl⟩

theorem ef_crb (m : MethodId) (x0 : Addr) (x1 : Int32) (x2 : Int32) : entryFrame m #[(.ref x0), (.int x1), (.int x2)] 5 = mkF m 0 #[.val (.ref x0), .val (.int x1), .val (.int x2), .unset, .unset] [] := by first | (simp [entryFrame, mkF, argsToLocals, Value.category]; done) | rfl
def Q_crb (Z : State) (a1 : Addr) (k1 : ClassId) (C : Int32) (vs : List Value) (n : Int32) (h0 : Heap) (n0 : Nat) (v : Option Value) (h : Heap) (L : List Loc) : Prop := ∃ (x : Addr) (kx : ClassId), v = some (.ref x) ∧ Fr n0 L ∧ Keep h0 h [] ∧ h0.size ≤ x ∧ Exa Z h x "[B" ∧ Arv Z h x kx .byte n vs (.int (0 : Int32))
set_option maxRecDepth 65536 in
set_option maxHeartbeats 40000000 in
theorem crb (l : Launch) (Z : State) (a0 : Array Value) (hw : ∀ d ∈ tables_1, d.before a0 Z = true) (ws : List Jvm.Cond) (a1 : Addr) (k1 : ClassId) (C : Int32) (vs : List Value) (n : Int32) (h0 : Heap) (n0 : Nat) (Z0 : n0 ≤ h0.size) (V1 : Arv Z h0 a1 k1 .byte C vs (.int (0 : Int32))) (Q1 : ¬ (n < (0 : Int32))) (Q2 : ¬ ((70 : Int32) < n)) (QL : vs.length ≤ n.toNatClampNeg) (Q0 : n < C) :
    MetFree l mth22 (head1 (Jvm.Cond.code mth22 jdk_65_method_133_code 5 (some (.array .byte)) :: ws) rom5) (fun a U => a = #[(.ref a1), (.int (0 : Int32)), (.int n)] ∧ Z.Warmed39 U.vm ∧ U.heap = h0) (fun _ _ _ _ _ => True) (fun _ U o U' => ∃ v L, o = .returned v ∧ Q_crb Z a1 k1 C vs n h0 n0 v U'.heap L ∧ FrameEnd U o U' L rom5.cells rom5.slots) := by
  refine MetFree.of_bodySF (plainFor_of_name pnm3) hisR ?_
  intro p e s m args below meth c s₁ Bd hml0 hP hK
  obtain ⟨rfl, hZ, hh⟩ := hP
  have hx := Bd.exec
  have hby := Bd.bytes
  have hml : c.maxLocals = 5 := hml0
  have hown : s.vm.findClass "java/util/Arrays" = some m.cls := findClass_of_methodNamed Bd.named
  have hnm := (name_of_methodNamed Bd.named Bd.method).1
  have X0 : Stand p l e rom5 s m #[(.ref a1), (.int (0 : Int32)), (.int n)] below meth c s₁ [] 0 0 := Stand.of_body Bd
  have eh0 : s₁.heap = h0 := by rw [← hh, Bd.state]; rfl
  have N0 := Fr.nil n0
  have tw2 := own_hw hw 2 rfl
  have tw45 := own_hw hw 45 rfl
  have tw128 := own_hw hw 128 rfl
  have tw129 := own_hw hw 129 rfl
  have tw130 := own_hw hw 130 rfl
  have tw161 := own_hw hw 161 rfl
  have tw166 := own_hw hw 166 rfl
  have tw167 := own_hw hw 167 rfl
  have tw168 := own_hw hw 168 rfl
  have tw169 := own_hw hw 169 rfl
  have tw170 := own_hw hw 170 rfl
  have tw171 := own_hw hw 171 rfl
  have tw172 := own_hw hw 172 rfl
  show Goes p e below (Pq (Q_crb Z a1 k1 C vs n h0 n0) s rom5.cells rom5.slots) (s₁.setTop (entryFrame m #[(.ref a1), (.int (0 : Int32)), (.int n)] 5))
  refine Goes.step (S' := s₁.setTop (mkF m 0 #[.val (.ref a1), .val (.int (0 : Int32)), .val (.int n), .unset, .unset] [])) (fun t k => castTop (ef_crb m a1 (0 : Int32) n) k) ?_
  refine Goes.step (S' := s₁.setTop (mkF m 2 #[.val (.ref a1), .val (.int (0 : Int32)), .val (.int n), .unset, .unset] [(.int n), (.int (0 : Int32))])) (fun t k => XS.iloadN X0.here hx rfl (hb hby dk248) rfl (XS.iloadN X0.here hx rfl (hb hby dk249) rfl k)) ?_
  obtain ⟨_, _, ⟨T101, L101, k101, n101⟩, -, X101, ⟨Lc101, hQ101, l101, y101, z101⟩, st101⟩ := Jvm.LawKit.callS X0 hx (y := mth21) hown (mvT hZ tw166) (mvT hZ tw167) (mvT hZ tw161) (mvT hZ tw168) (by decide) (backOf (W := 0) (chl l Z a0 hw [] (0 : Int32) n h0 n0 Z0 (Q1 : ¬ (n < (0 : Int32)))) hZ tw168 tw161 (by decide) (by decide)) (g := (mkF m 2 #[.val (.ref a1), .val (.int (0 : Int32)), .val (.int n), .unset, .unset] [(.int n), (.int (0 : Int32))])) rfl (by rw [hml]; rfl) (argsL := [(.int (0 : Int32)), (.int n)]) (rest := []) (lenOf pd_II_V rfl) rfl (Nat.le_of_eq rfl) (hb hby dk250) (fun _ _ => ⟨rfl, eh0, (by decide : 0 + 0 ≤ _), (by decide : 0 + 0 ≤ _)⟩)
  dsimp only [Pt.U, Pt.locs, Pt.cells, Pt.slots] at X101 l101 y101 z101 st101 hQ101
  subst y101 z101
  obtain ⟨rfl, Nq101, q101_0⟩ := hQ101
  have N101 : Fr n0 L101 := by rw [l101]; exact Fr.app N0 Nq101
  refine Goes.step (S' := T101.setTop (mkF m 7 #[.val (.ref a1), .val (.int (0 : Int32)), .val (.int n), .unset, .unset] [(.int (0 : Int32)), (.int n)])) (fun t k => st101 _ (XS.iloadN X101.here hx rfl (hb hby dk251) rfl (XS.iloadN X101.here hx rfl (hb hby dk252) rfl k))) ?_
  refine Goes.step (S' := T101.setTop (mkF m 8 #[.val (.ref a1), .val (.int (0 : Int32)), .val (.int n), .unset, .unset] [(.int n)])) (fun t k => XS.isub X101.here hx rfl (hb hby dk253) rfl (by rw [own_sub0]; exact k)) ?_
  refine Goes.step (S' := T101.setTop (mkF m 10 #[.val (.ref a1), .val (.int (0 : Int32)), .val (.int n), .val (.int n), .unset] [(.int n)])) (fun t k => XS.istoreN X101.here hx rfl (hb hby dk254) rfl (l' := #[.val (.ref a1), .val (.int (0 : Int32)), .val (.int n), .val (.int n), .unset]) rfl (XS.iloadN X101.here hx rfl (hb hby dk255) rfl k)) ?_
  obtain ⟨T102, h102, k102, X102, e102, E102, A102, AE102, st102⟩ := newPE (aty := .byte) X101 hx hZ tw45 q101_0 (g := (mkF m 10 #[.val (.ref a1), .val (.int (0 : Int32)), .val (.int n), .val (.int n), .unset] [(.int n)])) rfl (hb hby dk256) rfl Q1 (cap := 70) (own_capp (by decide) Q2) (by decide) (by decide) (by decide) (ad := "[B") rfl
  obtain ⟨b102, g102⟩ : ∃ z, z = h0.size := ⟨_, rfl⟩
  rw [← g102] at A102 AE102 st102
  have V102 : Arv Z h102 b102 k102 .byte n [] (.int (0 : Int32)) := Arv.new A102 Q1
  refine Goes.step (S' := T102.setTop (mkF m 14 #[.val (.ref a1), .val (.int (0 : Int32)), .val (.int n), .val (.int n), .val (.ref b102)] [])) (fun t k => st102 _ (XS.astore X102.here hx rfl (hb hby dk257) rfl rfl (l' := #[.val (.ref a1), .val (.int (0 : Int32)), .val (.int n), .val (.int n), .val (.ref b102)]) rfl k)) ?_
  have VP103 : Arv Z h102 b102 k102 .byte n (List.replicate (n).toNatClampNeg (Value.int (0 : Int32))) (.int (0 : Int32)) := Arv.pad V102 (pad_rep [] _ _)
  refine Goes.step (S' := T102.setTop (mkF m 20 #[.val (.ref a1), .val (.int (0 : Int32)), .val (.int n), .val (.int n), .val (.ref b102)] [(.ref a1), (.int (0 : Int32)), (.ref b102), (.int (0 : Int32)), (.ref a1)])) (fun t k => XS.aloadN X102.here hx rfl (hb hby dk258) rfl rfl (XS.iloadN X102.here hx rfl (hb hby dk259) rfl (XS.aload X102.here hx rfl (hb hby dk260) rfl rfl (XS.iconst X102.here hx rfl (hb hby dk261) (XS.aloadN X102.here hx rfl (hb hby dk262) rfl rfl k))))) ?_
  obtain ⟨cl104, Ar104, qk104, Sz104, Nn104, Hs104, Gs104⟩ := id (V1.ext E102)
  refine Goes.step (S' := T102.setTop (mkF m 21 #[.val (.ref a1), .val (.int (0 : Int32)), .val (.int n), .val (.int n), .val (.ref b102)] [(.int C), (.int (0 : Int32)), (.ref b102), (.int (0 : Int32)), (.ref a1)])) (fun t k => X102.arraylength hx (by rw [e102]; exact Ar104.1) (State.isArrayOf_alike hZ.alike Ar104.2.1) (g := (mkF m 20 #[.val (.ref a1), .val (.int (0 : Int32)), .val (.int n), .val (.int n), .val (.ref b102)] [(.ref a1), (.int (0 : Int32)), (.ref b102), (.int (0 : Int32)), (.ref a1)])) rfl rfl (hb hby dk263) _ (by rw [len_of Sz104 Nn104]; exact k)) ?_
  refine Goes.step (S' := T102.setTop (mkF m 22 #[.val (.ref a1), .val (.int (0 : Int32)), .val (.int n), .val (.int n), .val (.ref b102)] [(.int (0 : Int32)), (.int C), (.int (0 : Int32)), (.ref b102), (.int (0 : Int32)), (.ref a1)])) (fun t k => XS.iloadN X102.here hx rfl (hb hby dk264) rfl k) ?_
  refine Goes.step (S' := T102.setTop (mkF m 23 #[.val (.ref a1), .val (.int (0 : Int32)), .val (.int n), .val (.int n), .val (.ref b102)] [(.int C), (.int (0 : Int32)), (.ref b102), (.int (0 : Int32)), (.ref a1)])) (fun t k => XS.isub X102.here hx rfl (hb hby dk265) rfl (by rw [own_sub0]; exact k)) ?_
  refine Goes.step (S' := T102.setTop (mkF m 24 #[.val (.ref a1), .val (.int (0 : Int32)), .val (.int n), .val (.int n), .val (.ref b102)] [(.int n), (.int C), (.int (0 : Int32)), (.ref b102), (.int (0 : Int32)), (.ref a1)])) (fun t k => XS.iloadN X102.here hx rfl (hb hby dk266) rfl k) ?_
  obtain ⟨_, _, ⟨T105, L105, k105, n105⟩, -, X105, ⟨Lc105, hQ105, l105, y105, z105⟩, st105⟩ := Jvm.LawKit.callS X102 hx (y := mth3) hown (mvT hZ tw169) (mvT hZ tw170) (mvT hZ tw2) (mvT hZ tw171) (by decide) (backOf (W := 4) (imin2 l Z a0 hw [] C n h102 n0 (Nat.le_trans Z0 E102.1) (Q0 : n < C)) hZ tw171 tw2 (by decide) (by decide)) (g := (mkF m 24 #[.val (.ref a1), .val (.int (0 : Int32)), .val (.int n), .val (.int n), .val (.ref b102)] [(.int n), (.int C), (.int (0 : Int32)), (.ref b102), (.int (0 : Int32)), (.ref a1)])) rfl (by rw [hml]; rfl) (argsL := [(.int C), (.int n)]) (rest := [(.int (0 : Int32)), (.ref b102), (.int (0 : Int32)), (.ref a1)]) (lenOf pd_II_I rfl) rfl (Nat.le_of_eq rfl) (hb hby dk267) (fun _ _ => ⟨rfl, e102, (by decide : 1 + 0 ≤ _), (by decide : 70 + 0 ≤ _)⟩)
  dsimp only [Pt.U, Pt.locs, Pt.cells, Pt.slots] at X105 l105 y105 z105 st105 hQ105
  subst y105 z105
  obtain ⟨rfl, Nq105, q105_0⟩ := hQ105
  have N105 : Fr n0 L105 := by rw [l105]; exact Fr.app N101 Nq105
  refine Goes.step (S' := T105.setTop (mkF m 27 #[.val (.ref a1), .val (.int (0 : Int32)), .val (.int n), .val (.int n), .val (.ref b102)] [(.int n), (.int (0 : Int32)), (.ref b102), (.int (0 : Int32)), (.ref a1)])) (fun t k => st105 _ k) ?_
  obtain ⟨T106, h106, L106, X106, e106, N106, K106, Vr106, st106⟩ := cpA X105 hx hZ hown tw172 tw130 tw128 tw129 q105_0 (sp := (0 : Int32)) (dp := (0 : Int32)) (nn := n) (us := ((List.range (n).toNatClampNeg).map fun i => (vs).getD ((0 : Int32).toNatClampNeg + i) (Value.int (0 : Int32)))) (V1.ext E102) VP103 (Or.inl ⟨rfl, rfl⟩) (by decide) (by decide) Q1 (by show 0 + _ ≤ _; rw [Nat.zero_add]; exact own_le32 (own_nlt Q0)) (by show 0 + _ ≤ _; rw [Nat.zero_add]; exact Nat.le_refl _) rfl (by show 0 + _ ≤ _; rw [Nat.zero_add, List.length_replicate]; exact Nat.le_refl _) N105 (Nat.le_trans Z0 (Nat.le_of_eq g102.symm)) (g := (mkF m 27 #[.val (.ref a1), .val (.int (0 : Int32)), .val (.int n), .val (.int n), .val (.ref b102)] [(.int n), (.int (0 : Int32)), (.ref b102), (.int (0 : Int32)), (.ref a1)])) rfl (by rw [hml]; rfl) rfl (hb hby dk268) (by decide) (W := 0) (Nat.le_of_eq rfl) (by decide)
  have V106 : Arv Z h106 b102 k102 .byte n (((List.replicate (n).toNatClampNeg (Value.int (0 : Int32)))).take (0 : Int32).toNatClampNeg ++ ((List.range (n).toNatClampNeg).map fun i => (vs).getD ((0 : Int32).toNatClampNeg + i) (Value.int (0 : Int32))) ++ ((List.replicate (n).toNatClampNeg (Value.int (0 : Int32)))).drop ((0 : Int32).toNatClampNeg + (n).toNatClampNeg)) (.int (0 : Int32)) := Vr106
  refine Goes.step (S' := T106.setTop (mkF m 32 #[.val (.ref a1), .val (.int (0 : Int32)), .val (.int n), .val (.int n), .val (.ref b102)] [(.ref b102)])) (fun t k => st106 _ (XS.aload X106.here hx rfl (hb hby dk269) rfl rfl k)) ?_
  refine Goes.leave (g := (mkF m 32 #[.val (.ref a1), .val (.int (0 : Int32)), .val (.int n), .val (.int n), .val (.ref b102)] [(.ref b102)])) X106 Bd.notSynchronized (v := (some (.ref b102))) (fun h => by rw [Bd.returns] at h; cases h) (fun fs hr => by jvm_step X106.here [X106.here.top, hx, (hb hby dk270), X106.method', Bd.returns, Value.isRef, FieldType.isReference]; (first | (intro acts; rw [hr _ acts rfl rfl rfl]) | rw [hr _ _ rfl rfl rfl]); exact Steps.refl _) e106 ?_ (by decide) (by decide)
  exact ⟨b102, k102, rfl, N106, (((Keep.refl _ []).ext E102).trans K106 (allS (Or.inr (Nat.le_of_eq g102.symm)) all0)), (Nat.le_of_eq g102.symm), (AE102.keep K106), (Arv.pad V106 (own_cpG QL))⟩

theorem ef_corr (m : MethodId) (x0 : Addr) (x1 : Int32) (x2 : Int32) : entryFrame m #[(.ref x0), (.int x1), (.int x2)] 3 = mkF m 0 #[.val (.ref x0), .val (.int x1), .val (.int x2)] [] := by first | (simp [entryFrame, mkF, argsToLocals, Value.category]; done) | rfl
def Q_corr (Z : State) (a1 : Addr) (k1 : ClassId) (C : Int32) (vs : List Value) (n : Int32) (h0 : Heap) (n0 : Nat) (v : Option Value) (h : Heap) (L : List Loc) : Prop := ∃ (x : Addr) (kx : ClassId), v = some (.ref x) ∧ Fr n0 L ∧ Keep h0 h [] ∧ h0.size ≤ x ∧ Exa Z h x "[B" ∧ Arv Z h x kx .byte n vs (.int (0 : Int32))
set_option maxRecDepth 65536 in
set_option maxHeartbeats 40000000 in
theorem corr (l : Launch) (Z : State) (a0 : Array Value) (hw : ∀ d ∈ tables_1, d.before a0 Z = true) (ws : List Jvm.Cond) (a1 : Addr) (k1 : ClassId) (C : Int32) (vs : List Value) (n : Int32) (h0 : Heap) (n0 : Nat) (Z0 : n0 ≤ h0.size) (V1 : Arv Z h0 a1 k1 .byte C vs (.int (0 : Int32))) (Q1 : ¬ (n < (0 : Int32))) (Q2 : ¬ ((70 : Int32) < n)) (QL : vs.length ≤ n.toNatClampNeg) (Q0 : n < C) :
    MetFree l mth23 (head1 (Jvm.Cond.code mth23 jdk_65_method_132_code 3 (some (.array .byte)) :: ws) rom18) (fun a U => a = #[(.ref a1), (.int (0 : Int32)), (.int n)] ∧ Z.Warmed39 U.vm ∧ U.heap = h0) (fun _ _ _ _ _ => True) (fun _ U o U' => ∃ v L, o = .returned v ∧ Q_corr Z a1 k1 C vs n h0 n0 v U'.heap L ∧ FrameEnd U o U' L rom18.cells rom18.slots) := by
  refine MetFree.of_bodySF (plainFor_of_name pnm3) hisR ?_
  intro p e s m args below meth c s₁ Bd hml0 hP hK
  obtain ⟨rfl, hZ, hh⟩ := hP
  have hx := Bd.exec
  have hby := Bd.bytes
  have hml : c.maxLocals = 3 := hml0
  have hown : s.vm.findClass "java/util/Arrays" = some m.cls := findClass_of_methodNamed Bd.named
  have hnm := (name_of_methodNamed Bd.named Bd.method).1
  have X0 : Stand p l e rom18 s m #[(.ref a1), (.int (0 : Int32)), (.int n)] below meth c s₁ [] 0 0 := Stand.of_body Bd
  have eh0 : s₁.heap = h0 := by rw [← hh, Bd.state]; rfl
  have N0 := Fr.nil n0
  have tw161 := own_hw hw 161 rfl
  have tw163 := own_hw hw 163 rfl
  have tw164 := own_hw hw 164 rfl
  have tw165 := own_hw hw 165 rfl
  show Goes p e below (Pq (Q_corr Z a1 k1 C vs n h0 n0) s rom18.cells rom18.slots) (s₁.setTop (entryFrame m #[(.ref a1), (.int (0 : Int32)), (.int n)] 3))
  refine Goes.step (S' := s₁.setTop (mkF m 0 #[.val (.ref a1), .val (.int (0 : Int32)), .val (.int n)] [])) (fun t k => castTop (ef_corr m a1 (0 : Int32) n) k) ?_
  refine Goes.step (S' := s₁.setTop (mkF m 6 #[.val (.ref a1), .val (.int (0 : Int32)), .val (.int n)] [(.ref a1), (.int n)])) (fun t k => XS.iloadN X0.here hx rfl (hb hby dk271) rfl (XS.ifNo X0.here hx rfl (hb hby dk272) rfl ((if0 _ _).trans (teq ((by decide) : (0 : Int32) = (0 : Int32))).2) (XS.iloadN X0.here hx rfl (hb hby dk273) rfl (XS.aloadN X0.here hx rfl (hb hby dk274) rfl rfl k)))) ?_
  obtain ⟨cl101, Ar101, qk101, Sz101, Nn101, Hs101, Gs101⟩ := id V1
  refine Goes.step (S' := s₁.setTop (mkF m 7 #[.val (.ref a1), .val (.int (0 : Int32)), .val (.int n)] [(.int C), (.int n)])) (fun t k => X0.arraylength hx (by rw [eh0]; exact Ar101.1) (State.isArrayOf_alike hZ.alike Ar101.2.1) (g := (mkF m 6 #[.val (.ref a1), .val (.int (0 : Int32)), .val (.int n)] [(.ref a1), (.int n)])) rfl rfl (hb hby dk275) _ (by rw [len_of Sz101 Nn101]; exact k)) ?_
  refine Goes.step (S' := s₁.setTop (mkF m 13 #[.val (.ref a1), .val (.int (0 : Int32)), .val (.int n)] [(.int n), (.int (0 : Int32)), (.ref a1)])) (fun t k => XS.icmpNo X0.here hx rfl (hb hby dk276) rfl (feq ((by have u0:=Q1; have u1:=Q2; have u2:=Q0; have u3:=rng32 n; have u4:=rng32 C; (try simp only [Int32.lt_iff_toInt_lt, Int64.lt_iff_toInt_lt, ne_eq, ← Int32.toInt_inj, ← Int64.toInt_inj, Int32.reduceToInt, Int64.reduceToInt, Nat.reducePow] at u0 u1 u2 u3 u4 ⊢); try omega) : ¬ (n = C))).1 (XS.aloadN X0.here hx rfl (hb hby dk277) rfl rfl (XS.iloadN X0.here hx rfl (hb hby dk278) rfl (XS.iloadN X0.here hx rfl (hb hby dk279) rfl k)))) ?_
  obtain ⟨_, _, ⟨T103, L103, k103, n103⟩, -, X103, ⟨Lc103, hQ103, l103, y103, z103⟩, st103⟩ := Jvm.LawKit.callS X0 hx (y := mth22) hown (mvT hZ tw163) (mvT hZ tw164) (mvT hZ tw161) (mvT hZ tw165) (by decide) (backOf (W := 0) (crb l Z a0 hw [] a1 k1 C vs n h0 n0 Z0 V1 (Q1 : ¬ (n < (0 : Int32))) (Q2 : ¬ ((70 : Int32) < n)) QL (Q0 : n < C)) hZ tw165 tw161 (by decide) (by decide)) (g := (mkF m 13 #[.val (.ref a1), .val (.int (0 : Int32)), .val (.int n)] [(.int n), (.int (0 : Int32)), (.ref a1)])) rfl (by rw [hml]; rfl) (argsL := [(.ref a1), (.int (0 : Int32)), (.int n)]) (rest := []) (lenOf pd_BII_AB rfl) rfl (Nat.le_of_eq rfl) (hb hby dk280) (fun _ _ => ⟨rfl, eh0, (by decide : 0 + 1 ≤ _), (by decide : 0 + 70 ≤ _)⟩)
  dsimp only [Pt.U, Pt.locs, Pt.cells, Pt.slots] at X103 l103 y103 z103 st103 hQ103
  subst y103 z103
  obtain ⟨x_103, kx_103, rfl, Nq103, q103_0, q103_1, q103_2, q103_3⟩ := hQ103
  have N103 : Fr n0 L103 := by rw [l103]; exact Fr.app N0 Nq103
  refine Goes.step (S' := T103.setTop (mkF m 16 #[.val (.ref a1), .val (.int (0 : Int32)), .val (.int n)] [(.ref x_103)])) (fun t k => st103 _ k) ?_
  refine Goes.leave (g := (mkF m 16 #[.val (.ref a1), .val (.int (0 : Int32)), .val (.int n)] [(.ref x_103)])) X103 Bd.notSynchronized (v := (some (.ref x_103))) (fun h => by rw [Bd.returns] at h; cases h) (fun fs hr => by jvm_step X103.here [X103.here.top, hx, (hb hby dk281), X103.method', Bd.returns, Value.isRef, FieldType.isReference]; (first | (intro acts; rw [hr _ acts rfl rfl rfl]) | rw [hr _ _ rfl rfl rfl]); exact Steps.refl _) rfl ?_ (by decide) (by decide)
  exact ⟨x_103, kx_103, rfl, N103, ((Keep.refl _ []).trans q103_0 all0), q103_1, q103_2, q103_3⟩

theorem ef_corc (m : MethodId) (x0 : Addr) (x1 : Int32) (x2 : Int32) : entryFrame m #[(.ref x0), (.int x1), (.int x2)] 3 = mkF m 0 #[.val (.ref x0), .val (.int x1), .val (.int x2)] [] := by first | (simp [entryFrame, mkF, argsToLocals, Value.category]; done) | rfl
def Q_corc (Z : State) (a1 : Addr) (k1 : ClassId) (C : Int32) (vs : List Value) (n : Int32) (h0 : Heap) (n0 : Nat) (v : Option Value) (h : Heap) (L : List Loc) : Prop := ∃ (x : Addr) (kx : ClassId), v = some (.ref x) ∧ Fr n0 L ∧ Keep h0 h [] ∧ h0.size ≤ x ∧ Exa Z h x "[B" ∧ Arv Z h x kx .byte n vs (.int (0 : Int32))
set_option maxRecDepth 65536 in
set_option maxHeartbeats 40000000 in
theorem corc (l : Launch) (Z : State) (a0 : Array Value) (hw : ∀ d ∈ tables_1, d.before a0 Z = true) (ws : List Jvm.Cond) (a1 : Addr) (k1 : ClassId) (C : Int32) (vs : List Value) (n : Int32) (h0 : Heap) (n0 : Nat) (Z0 : n0 ≤ h0.size) (V1 : Arv Z h0 a1 k1 .byte C vs (.int (0 : Int32))) (Q1 : ¬ (n < (0 : Int32))) (Q2 : ¬ ((70 : Int32) < n)) (QL : vs.length ≤ n.toNatClampNeg) (Q0 : n = C) (E4 : Exa Z h0 a1 "[B") :
    MetFree l mth23 (head1 (Jvm.Cond.code mth23 jdk_65_method_132_code 3 (some (.array .byte)) :: ws) rom19) (fun a U => a = #[(.ref a1), (.int (0 : Int32)), (.int n)] ∧ Z.Warmed39 U.vm ∧ U.heap = h0) (fun _ _ _ _ _ => True) (fun _ U o U' => ∃ v L, o = .returned v ∧ Q_corc Z a1 k1 C vs n h0 n0 v U'.heap L ∧ FrameEnd U o U' L rom19.cells rom19.slots) := by
  refine MetFree.of_bodySF (plainFor_of_name pnm3) hisR ?_
  intro p e s m args below meth c s₁ Bd hml0 hP hK
  obtain ⟨rfl, hZ, hh⟩ := hP
  have hx := Bd.exec
  have hby := Bd.bytes
  have hml : c.maxLocals = 3 := hml0
  have hown : s.vm.findClass "java/util/Arrays" = some m.cls := findClass_of_methodNamed Bd.named
  have hnm := (name_of_methodNamed Bd.named Bd.method).1
  have X0 : Stand p l e rom19 s m #[(.ref a1), (.int (0 : Int32)), (.int n)] below meth c s₁ [] 0 0 := Stand.of_body Bd
  have eh0 : s₁.heap = h0 := by rw [← hh, Bd.state]; rfl
  have N0 := Fr.nil n0
  have tw260 := own_hw hw 260 rfl
  have tw261 := own_hw hw 261 rfl
  have tw263 := own_hw hw 263 rfl
  have tw264 := own_hw hw 264 rfl
  have tw265 := own_hw hw 265 rfl
  have tw266 := own_hw hw 266 rfl
  have tw267 := own_hw hw 267 rfl
  show Goes p e below (Pq (Q_corc Z a1 k1 C vs n h0 n0) s rom19.cells rom19.slots) (s₁.setTop (entryFrame m #[(.ref a1), (.int (0 : Int32)), (.int n)] 3))
  refine Goes.step (S' := s₁.setTop (mkF m 0 #[.val (.ref a1), .val (.int (0 : Int32)), .val (.int n)] [])) (fun t k => castTop (ef_corc m a1 (0 : Int32) n) k) ?_
  refine Goes.step (S' := s₁.setTop (mkF m 6 #[.val (.ref a1), .val (.int (0 : Int32)), .val (.int n)] [(.ref a1), (.int n)])) (fun t k => XS.iloadN X0.here hx rfl (hb hby dk271) rfl (XS.ifNo X0.here hx rfl (hb hby dk272) rfl ((if0 _ _).trans (teq ((by decide) : (0 : Int32) = (0 : Int32))).2) (XS.iloadN X0.here hx rfl (hb hby dk273) rfl (XS.aloadN X0.here hx rfl (hb hby dk274) rfl rfl k)))) ?_
  obtain ⟨cl101, Ar101, qk101, Sz101, Nn101, Hs101, Gs101⟩ := id V1
  refine Goes.step (S' := s₁.setTop (mkF m 7 #[.val (.ref a1), .val (.int (0 : Int32)), .val (.int n)] [(.int C), (.int n)])) (fun t k => X0.arraylength hx (by rw [eh0]; exact Ar101.1) (State.isArrayOf_alike hZ.alike Ar101.2.1) (g := (mkF m 6 #[.val (.ref a1), .val (.int (0 : Int32)), .val (.int n)] [(.ref a1), (.int n)])) rfl rfl (hb hby dk275) _ (by rw [len_of Sz101 Nn101]; exact k)) ?_
  refine Goes.step (S' := s₁.setTop (mkF m 18 #[.val (.ref a1), .val (.int (0 : Int32)), .val (.int n)] [(.ref a1)])) (fun t k => XS.icmpYes X0.here hx rfl (pc0 := 7) (pc' := 17) rfl (hb hby dk276) rfl (teq (Q0 : n = C)).1 (by decide) (by decide) (XS.aloadN X0.here hx rfl (hb hby dk282) rfl rfl k)) ?_
  obtain ⟨T102, h102, X102, e102, E102, A102, AE102, st102⟩ := cloneH X0 hx hZ hown tw260 tw261 tw265 tw263 tw264 tw266 eh0 (Arv.arh V1) E4 (g := (mkF m 18 #[.val (.ref a1), .val (.int (0 : Int32)), .val (.int n)] [(.ref a1)])) rfl (by rw [hml]; rfl) rfl (hb hby dk283) (by decide) (W := 0) (cap := 70) (Nat.le_of_eq rfl) (by decide) (by rw [← Q0]; exact own_capp (by decide) Q2) (by decide) (by decide)
  obtain ⟨b102, g102⟩ : ∃ z, z = h0.size := ⟨_, rfl⟩
  rw [← g102] at A102 AE102 st102
  have V102 : Arv Z h102 b102 k1 .byte C vs (.int (0 : Int32)) := A102
  refine Goes.step (S' := T102.setTop (mkF m 21 #[.val (.ref a1), .val (.int (0 : Int32)), .val (.int n)] [(.ref b102)])) (fun t k => st102 _ k) ?_
  obtain ⟨T103, X103, e103, st103⟩ := castY X102 hx hZ hown tw267 e102 (Ins.self AE102) (g := (mkF m 21 #[.val (.ref a1), .val (.int (0 : Int32)), .val (.int n)] [(.ref b102)])) rfl rfl (hb hby dk284)
  refine Goes.step (S' := T103.setTop (mkF m 24 #[.val (.ref a1), .val (.int (0 : Int32)), .val (.int n)] [(.ref b102)])) (fun t k => st103 _ k) ?_
  refine Goes.leave (g := (mkF m 24 #[.val (.ref a1), .val (.int (0 : Int32)), .val (.int n)] [(.ref b102)])) X103 Bd.notSynchronized (v := (some (.ref b102))) (fun h => by rw [Bd.returns] at h; cases h) (fun fs hr => by jvm_step X103.here [X103.here.top, hx, (hb hby dk285), X103.method', Bd.returns, Value.isRef, FieldType.isReference]; (first | (intro acts; rw [hr _ acts rfl rfl rfl]) | rw [hr _ _ rfl rfl rfl]); exact Steps.refl _) e103 ?_ (by decide) (by decide)
  exact ⟨b102, k1, rfl, N0, ((Keep.refl _ []).ext E102), (Nat.le_of_eq g102.symm), AE102, (own_castN Q0 V102)⟩

theorem ef_gvl (m : MethodId) (x0 : Addr) : entryFrame m #[(.ref x0)] 1 = mkF m 0 #[.val (.ref x0)] [] := by first | (simp [entryFrame, mkF, argsToLocals, Value.category]; done) | rfl
def Q_gvl (Z : State) (b : Addr) (va : Addr) (h0 : Heap) (n0 : Nat) (v : Option Value) (h : Heap) (L : List Loc) : Prop := v = some (.ref va) ∧ Fr n0 L ∧ h = h0
set_option maxRecDepth 65536 in
set_option maxHeartbeats 40000000 in
theorem gvl (l : Launch) (Z : State) (a0 : Array Value) (hw : ∀ d ∈ tables_1, d.before a0 Z = true) (ws : List Jvm.Cond) (b : Addr) (va : Addr) (h0 : Heap) (n0 : Nat) (Z0 : n0 ≤ h0.size) (Fv : Fld Z h0 b "java/lang/AbstractStringBuilder" "value" "[B" (.ref va)) :
    MetFree l mth24 (head1 (Jvm.Cond.code mth24 jdk_68_method_64_code 1 (some (.array .byte)) :: ws) rom2) (fun a U => a = #[(.ref b)] ∧ Z.Warmed39 U.vm ∧ U.heap = h0) (fun _ _ _ _ _ => True) (fun _ U o U' => ∃ v L, o = .returned v ∧ Q_gvl Z b va h0 n0 v U'.heap L ∧ FrameEnd U o U' L rom2.cells rom2.slots) := by
  refine MetFree.of_bodySF (plainFor_of_name pnm0) hisR ?_
  intro p e s m args below meth c s₁ Bd hml0 hP hK
  obtain ⟨rfl, hZ, hh⟩ := hP
  have hx := Bd.exec
  have hby := Bd.bytes
  have hml : c.maxLocals = 1 := hml0
  have hown : s.vm.findClass "java/lang/AbstractStringBuilder" = some m.cls := findClass_of_methodNamed Bd.named
  have hnm := (name_of_methodNamed Bd.named Bd.method).1
  have X0 : Stand p l e rom2 s m #[(.ref b)] below meth c s₁ [] 0 0 := Stand.of_body Bd
  have eh0 : s₁.heap = h0 := by rw [← hh, Bd.state]; rfl
  have N0 := Fr.nil n0
  have tw46 := own_hw hw 46 rfl
  show Goes p e below (Pq (Q_gvl Z b va h0 n0) s rom2.cells rom2.slots) (s₁.setTop (entryFrame m #[(.ref b)] 1))
  refine Goes.step (S' := s₁.setTop (mkF m 0 #[.val (.ref b)] [])) (fun t k => castTop (ef_gvl m b) k) ?_
  refine Goes.step (S' := s₁.setTop (mkF m 1 #[.val (.ref b)] [(.ref b)])) (fun t k => XS.aloadN X0.here hx rfl (hb hby dk286) rfl rfl k) ?_
  obtain ⟨T101, X101, e101, st101⟩ := getF X0 hx hZ hown (host := "") (Or.inl tw46) Via.refl eh0 Fv (g := (mkF m 1 #[.val (.ref b)] [(.ref b)])) rfl rfl (hb hby dk287)
  refine Goes.step (S' := T101.setTop (mkF m 4 #[.val (.ref b)] [(.ref va)])) (fun t k => st101 _ k) ?_
  refine Goes.leave (g := (mkF m 4 #[.val (.ref b)] [(.ref va)])) X101 Bd.notSynchronized (v := (some (.ref va))) (fun h => by rw [Bd.returns] at h; cases h) (fun fs hr => by jvm_step X101.here [X101.here.top, hx, (hb hby dk288), X101.method', Bd.returns, Value.isRef, FieldType.isReference]; (first | (intro acts; rw [hr _ acts rfl rfl rfl]) | rw [hr _ _ rfl rfl rfl]); exact Steps.refl _) e101 ?_ (by decide) (by decide)
  exact ⟨rfl, N0, rfl⟩

theorem ef_asl (m : MethodId) (x0 : Addr) : entryFrame m #[(.ref x0)] 1 = mkF m 0 #[.val (.ref x0)] [] := by first | (simp [entryFrame, mkF, argsToLocals, Value.category]; done) | rfl
def Q_asl (Z : State) (b : Addr) (n : Int32) (h0 : Heap) (n0 : Nat) (v : Option Value) (h : Heap) (L : List Loc) : Prop := v = some (.int n) ∧ Fr n0 L ∧ h = h0
set_option maxRecDepth 65536 in
set_option maxHeartbeats 40000000 in
theorem asl (l : Launch) (Z : State) (a0 : Array Value) (hw : ∀ d ∈ tables_1, d.before a0 Z = true) (ws : List Jvm.Cond) (b : Addr) (n : Int32) (h0 : Heap) (n0 : Nat) (Z0 : n0 ≤ h0.size) (Fn : Fld Z h0 b "java/lang/AbstractStringBuilder" "count" "I" (.int n)) :
    MetFree l mth25 (head1 (Jvm.Cond.code mth25 jdk_68_method_6_code 1 (some .int) :: ws) rom2) (fun a U => a = #[(.ref b)] ∧ Z.Warmed39 U.vm ∧ U.heap = h0) (fun _ _ _ _ _ => True) (fun _ U o U' => ∃ v L, o = .returned v ∧ Q_asl Z b n h0 n0 v U'.heap L ∧ FrameEnd U o U' L rom2.cells rom2.slots) := by
  refine MetFree.of_bodySF (plainFor_of_name pnm0) hisR ?_
  intro p e s m args below meth c s₁ Bd hml0 hP hK
  obtain ⟨rfl, hZ, hh⟩ := hP
  have hx := Bd.exec
  have hby := Bd.bytes
  have hml : c.maxLocals = 1 := hml0
  have hown : s.vm.findClass "java/lang/AbstractStringBuilder" = some m.cls := findClass_of_methodNamed Bd.named
  have hnm := (name_of_methodNamed Bd.named Bd.method).1
  have X0 : Stand p l e rom2 s m #[(.ref b)] below meth c s₁ [] 0 0 := Stand.of_body Bd
  have eh0 : s₁.heap = h0 := by rw [← hh, Bd.state]; rfl
  have N0 := Fr.nil n0
  have tw60 := own_hw hw 60 rfl
  show Goes p e below (Pq (Q_asl Z b n h0 n0) s rom2.cells rom2.slots) (s₁.setTop (entryFrame m #[(.ref b)] 1))
  refine Goes.step (S' := s₁.setTop (mkF m 0 #[.val (.ref b)] [])) (fun t k => castTop (ef_asl m b) k) ?_
  refine Goes.step (S' := s₁.setTop (mkF m 1 #[.val (.ref b)] [(.ref b)])) (fun t k => XS.aloadN X0.here hx rfl (hb hby dk289) rfl rfl k) ?_
  obtain ⟨T101, X101, e101, st101⟩ := getF X0 hx hZ hown (host := "") (Or.inl tw60) Via.refl eh0 Fn (g := (mkF m 1 #[.val (.ref b)] [(.ref b)])) rfl rfl (hb hby dk290)
  refine Goes.step (S' := T101.setTop (mkF m 4 #[.val (.ref b)] [(.int n)])) (fun t k => st101 _ k) ?_
  refine Goes.leave (g := (mkF m 4 #[.val (.ref b)] [(.int n)])) X101 Bd.notSynchronized (v := (some (.int n))) (fun h => by rw [Bd.returns] at h; cases h) (fun fs hr => retI X101 hx Bd.returns (hb hby dk291) hr) e101 ?_ (by decide) (by decide)
  exact ⟨rfl, N0, rfl⟩

theorem ef_sbl (m : MethodId) (x0 : Addr) : entryFrame m #[(.ref x0)] 1 = mkF m 0 #[.val (.ref x0)] [] := by first | (simp [entryFrame, mkF, argsToLocals, Value.category]; done) | rfl
def Q_sbl (Z : State) (b : Addr) (n : Int32) (h0 : Heap) (n0 : Nat) (v : Option Value) (h : Heap) (L : List Loc) : Prop := v = some (.int n) ∧ Fr n0 L ∧ h = h0
set_option maxRecDepth 65536 in
set_option maxHeartbeats 40000000 in
theorem sbl (l : Launch) (Z : State) (a0 : Array Value) (hw : ∀ d ∈ tables_1, d.before a0 Z = true) (ws : List Jvm.Cond) (b : Addr) (n : Int32) (h0 : Heap) (n0 : Nat) (Z0 : n0 ≤ h0.size) (E1 : Exa Z h0 b "java/lang/StringBuilder") (Fn : Fld Z h0 b "java/lang/AbstractStringBuilder" "count" "I" (.int n)) :
    MetFree l mth26 (head1 (Jvm.Cond.code mth26 jdk_67_method_93_code 1 (some .int) :: ws) rom20) (fun a U => a = #[(.ref b)] ∧ Z.Warmed39 U.vm ∧ U.heap = h0) (fun _ _ _ _ _ => True) (fun _ U o U' => ∃ v L, o = .returned v ∧ Q_sbl Z b n h0 n0 v U'.heap L ∧ FrameEnd U o U' L rom20.cells rom20.slots) := by
  refine MetFree.of_bodySF (plainFor_of_name pnm1) hisR ?_
  intro p e s m args below meth c s₁ Bd hml0 hP hK
  obtain ⟨rfl, hZ, hh⟩ := hP
  have hx := Bd.exec
  have hby := Bd.bytes
  have hml : c.maxLocals = 1 := hml0
  have hown : s.vm.findClass "java/lang/StringBuilder" = some m.cls := findClass_of_methodNamed Bd.named
  have hnm := (name_of_methodNamed Bd.named Bd.method).1
  have X0 : Stand p l e rom20 s m #[(.ref b)] below meth c s₁ [] 0 0 := Stand.of_body Bd
  have eh0 : s₁.heap = h0 := by rw [← hh, Bd.state]; rfl
  have N0 := Fr.nil n0
  have tw40 := own_hw hw 40 rfl
  have tw57 := own_hw hw 57 rfl
  have tw70 := own_hw hw 70 rfl
  have tw152 := own_hw hw 152 rfl
  have tw156 := own_hw hw 156 rfl
  have tw157 := own_hw hw 157 rfl
  show Goes p e below (Pq (Q_sbl Z b n h0 n0) s rom20.cells rom20.slots) (s₁.setTop (entryFrame m #[(.ref b)] 1))
  refine Goes.step (S' := s₁.setTop (mkF m 0 #[.val (.ref b)] [])) (fun t k => castTop (ef_sbl m b) k) ?_
  refine Goes.step (S' := s₁.setTop (mkF m 1 #[.val (.ref b)] [(.ref b)])) (fun t k => XS.aloadN X0.here hx rfl (hb hby dk292) rfl rfl k) ?_
  obtain ⟨_, _, ⟨T101, L101, k101, n101⟩, -, X101, ⟨Lc101, hQ101, l101, y101, z101⟩, st101⟩ := superBack X0 hx hZ (y := mth25) hown tw156 (own_sameM tw70 tw152 rfl (by decide)) tw152 tw57 (by decide) (backOf (W := 0) (asl l Z a0 hw [] b n h0 n0 Z0 Fn) hZ tw157 tw40 (by decide) (by decide)) eh0 (Ins.self E1) (g := (mkF m 1 #[.val (.ref b)] [(.ref b)])) rfl (by rw [hml]; rfl) tw157 (argsL := []) (rest := []) (lenOf pd_I rfl) rfl (Nat.le_of_eq rfl) (hb hby dk293) (fun _ _ => ⟨rfl, eh0, (by decide : 0 + 0 ≤ _), (by decide : 0 + 0 ≤ _)⟩)
  dsimp only [Pt.U, Pt.locs, Pt.cells, Pt.slots] at X101 l101 y101 z101 st101 hQ101
  subst y101 z101
  obtain ⟨rfl, Nq101, q101_0⟩ := hQ101
  have N101 : Fr n0 L101 := by rw [l101]; exact Fr.app N0 Nq101
  refine Goes.step (S' := T101.setTop (mkF m 4 #[.val (.ref b)] [(.int n)])) (fun t k => st101.trans k) ?_
  refine Goes.leave (g := (mkF m 4 #[.val (.ref b)] [(.int n)])) X101 Bd.notSynchronized (v := (some (.int n))) (fun h => by rw [Bd.returns] at h; cases h) (fun fs hr => retI X101 hx Bd.returns (hb hby dk294) hr) q101_0 ?_ (by decide) (by decide)
  exact ⟨rfl, N101, rfl⟩

theorem ef_siar (m : MethodId) (x0 : Addr) (x1 : Addr) : entryFrame m #[(.ref x0), (.ref x1), .null] 5 = mkF m 0 #[.val (.ref x0), .val (.ref x1), .val .null, .unset, .unset] [] := by first | (simp [entryFrame, mkF, argsToLocals, Value.category]; done) | rfl
def Q_siar (Z : State) (a1 : Addr) (b : Addr) (va : Addr) (kv : ClassId) (C : Int32) (vs : List Value) (n : Int32) (cs : Int32) (h0 : Heap) (n0 : Nat) (v : Option Value) (h : Heap) (L : List Loc) : Prop := ∃ (x : Addr) (kx : ClassId), v = none ∧ Fr n0 L ∧ Keep h0 h [a1] ∧ h0.size ≤ x ∧ Exa Z h x "[B" ∧ Fld Z h a1 "java/lang/String" "value" "[B" (.ref x) ∧ Fld Z h a1 "java/lang/String" "coder" "B" (.int (0 : Int32)) ∧ Arv Z h x kx .byte n vs (.int (0 : Int32))
set_option maxRecDepth 65536 in
set_option maxHeartbeats 40000000 in
theorem siar (l : Launch) (Z : State) (a0 : Array Value) (hw : ∀ d ∈ tables_1, d.before a0 Z = true) (ws : List Jvm.Cond) (a1 : Addr) (b : Addr) (va : Addr) (kv : ClassId) (C : Int32) (vs : List Value) (n : Int32) (cs : Int32) (h0 : Heap) (n0 : Nat) (Z0 : n0 ≤ h0.size) (E5 : Exa Z h0 a1 "java/lang/String") (Fs : Fld Z h0 a1 "java/lang/String" "value" "[B" .null) (Fk : Fld Z h0 a1 "java/lang/String" "coder" "B" (.int (0 : Int32))) (G5 : n0 ≤ a1) (E1 : Exa Z h0 b "java/lang/StringBuilder") (E2 : Exa Z h0 va "[B") (Fv : Fld Z h0 b "java/lang/AbstractStringBuilder" "value" "[B" (.ref va)) (Fc : Fld Z h0 b "java/lang/AbstractStringBuilder" "coder" "B" (.int (0 : Int32))) (Fn : Fld Z h0 b "java/lang/AbstractStringBuilder" "count" "I" (.int n)) (V1 : Arv Z h0 va kv .byte C vs (.int (0 : Int32))) (SC : Sta Z h0 "java/lang/String" "COMPACT_STRINGS" "Z" (.int cs)) (PC : ¬ (cs = (0 : Int32))) (HN : n = Int32.ofNat vs.length) (HB : vs.length ≤ 44) (Q1 : ¬ (n < (0 : Int32))) (Q2 : ¬ ((70 : Int32) < n)) (Q0 : n < C) :
    MetFree l mth27 (head1 (Jvm.Cond.code mth27 jdk_42_method_150_code 5 none :: ws) rom21) (fun a U => a = #[(.ref a1), (.ref b), .null] ∧ Z.Warmed39 U.vm ∧ U.heap = h0) (fun _ _ _ _ _ => True) (fun _ U o U' => ∃ v L, o = .returned v ∧ Q_siar Z a1 b va kv C vs n cs h0 n0 v U'.heap L ∧ FrameEnd U o U' L rom21.cells rom21.slots) := by
  refine MetFree.of_bodySF (plainFor_of_name pnm4) hisR ?_
  intro p e s m args below meth c s₁ Bd hml0 hP hK
  obtain ⟨rfl, hZ, hh⟩ := hP
  have hx := Bd.exec
  have hby := Bd.bytes
  have hml : c.maxLocals = 5 := hml0
  have hown : s.vm.findClass "java/lang/String" = some m.cls := findClass_of_methodNamed Bd.named
  have hnm := (name_of_methodNamed Bd.named Bd.method).1
  have X0 : Stand p l e rom21 s m #[(.ref a1), (.ref b), .null] below meth c s₁ [] 0 0 := Stand.of_body Bd
  have eh0 : s₁.heap = h0 := by rw [← hh, Bd.state]; rfl
  have N0 := Fr.nil n0
  have tw19 := own_hw hw 19 rfl
  have tw20 := own_hw hw 20 rfl
  have tw32 := own_hw hw 32 rfl
  have tw40 := own_hw hw 40 rfl
  have tw70 := own_hw hw 70 rfl
  have tw73 := own_hw hw 73 rfl
  have tw74 := own_hw hw 74 rfl
  have tw75 := own_hw hw 75 rfl
  have tw76 := own_hw hw 76 rfl
  have tw84 := own_hw hw 84 rfl
  have tw85 := own_hw hw 85 rfl
  have tw86 := own_hw hw 86 rfl
  have tw103 := own_hw hw 103 rfl
  have tw110 := own_hw hw 110 rfl
  have tw144 := own_hw hw 144 rfl
  have tw145 := own_hw hw 145 rfl
  have tw146 := own_hw hw 146 rfl
  have tw147 := own_hw hw 147 rfl
  have tw148 := own_hw hw 148 rfl
  have tw149 := own_hw hw 149 rfl
  have tw150 := own_hw hw 150 rfl
  have tw151 := own_hw hw 151 rfl
  have tw153 := own_hw hw 153 rfl
  have tw154 := own_hw hw 154 rfl
  have tw155 := own_hw hw 155 rfl
  have tw158 := own_hw hw 158 rfl
  have tw159 := own_hw hw 159 rfl
  have tw160 := own_hw hw 160 rfl
  have tw161 := own_hw hw 161 rfl
  have tw162 := own_hw hw 162 rfl
  show Goes p e below (Pq (Q_siar Z a1 b va kv C vs n cs h0 n0) s rom21.cells rom21.slots) (s₁.setTop (entryFrame m #[(.ref a1), (.ref b), .null] 5))
  refine Goes.step (S' := s₁.setTop (mkF m 0 #[.val (.ref a1), .val (.ref b), .val .null, .unset, .unset] [])) (fun t k => castTop (ef_siar m a1 b) k) ?_
  refine Goes.step (S' := s₁.setTop (mkF m 1 #[.val (.ref a1), .val (.ref b), .val .null, .unset, .unset] [(.ref a1)])) (fun t k => XS.aloadN X0.here hx rfl (hb hby dk295) rfl rfl k) ?_
  obtain ⟨T101, X101, e101, st101⟩ := initO X0 hx hZ hown tw144 tw19 tw20 eh0 (g := (mkF m 1 #[.val (.ref a1), .val (.ref b), .val .null, .unset, .unset] [(.ref a1)])) rfl (by rw [hml]; rfl) rfl (hb hby dk296) (by decide) (W := 0) (Nat.le_of_eq rfl) (by decide)
  refine Goes.step (S' := T101.setTop (mkF m 5 #[.val (.ref a1), .val (.ref b), .val .null, .unset, .unset] [(.ref b)])) (fun t k => st101 _ (XS.aloadN X101.here hx rfl (hb hby dk297) rfl rfl k)) ?_
  obtain ⟨cq102, kq102, q102a, q102b, q102c⟩ := isOf hZ e101 E1
  obtain ⟨_, _, ⟨T102, L102, k102, n102⟩, -, X102, ⟨Lc102, hQ102, l102, y102, z102⟩, st102⟩ := X101.virtualBack hx (y := mth24) (z := mth24) hown (mvT hZ tw145) (mvT hZ tw146) (notFace_of_selects (args := #[]) (mvT hZ tw148)) (mvT hZ tw148) (mvT hZ tw147) (by decide) (backOf (W := 0) (gvl l Z a0 hw [] b va h0 n0 Z0 Fv) hZ tw149 tw40 (by decide) (by decide)) q102a q102c (g := (mkF m 5 #[.val (.ref a1), .val (.ref b), .val .null, .unset, .unset] [(.ref b)])) rfl (by rw [hml]; rfl) (Steps.refl _) (argsL := []) (rest := []) (lenOf pd_AB rfl) rfl (Nat.le_of_eq rfl) (hb hby dk298) (fun _ _ => ⟨rfl, e101, (by decide : 0 + 0 ≤ _), (by decide : 0 + 0 ≤ _)⟩)
  dsimp only [Pt.U, Pt.locs, Pt.cells, Pt.slots] at X102 l102 y102 z102 st102 hQ102
  subst y102 z102
  obtain ⟨rfl, Nq102, q102_0⟩ := hQ102
  have N102 : Fr n0 L102 := by rw [l102]; exact Fr.app N0 Nq102
  refine Goes.step (S' := T102.setTop (mkF m 10 #[.val (.ref a1), .val (.ref b), .val .null, .val (.ref va), .unset] [(.ref b)])) (fun t k => st102.trans (XS.astoreN X102.here hx rfl (hb hby dk299) rfl rfl (l' := #[.val (.ref a1), .val (.ref b), .val .null, .val (.ref va), .unset]) rfl (XS.aloadN X102.here hx rfl (hb hby dk300) rfl rfl k))) ?_
  obtain ⟨cq103, kq103, q103a, q103b, q103c⟩ := isOf hZ q102_0 E1
  obtain ⟨_, _, ⟨T103, L103, k103, n103⟩, -, X103, ⟨Lc103, hQ103, l103, y103, z103⟩, st103⟩ := X102.virtualBack hx (y := mth25) (z := mth26) hown (mvT hZ tw150) (mvT hZ tw151) (own_nf (args := #[]) (mvT hZ tw70) rfl) (mvT hZ tw153) (mvT hZ tw154) (by decide) (backOf (W := 0) (sbl l Z a0 hw [] b n h0 n0 Z0 E1 Fn) hZ tw155 tw32 (by decide) (by decide)) q103a q103c (g := (mkF m 10 #[.val (.ref a1), .val (.ref b), .val .null, .val (.ref va), .unset] [(.ref b)])) rfl (by rw [hml]; rfl) (Steps.refl _) (argsL := []) (rest := []) (lenOf pd_I rfl) rfl (Nat.le_of_eq rfl) (hb hby dk301) (fun _ _ => ⟨rfl, q102_0, (by decide : 0 + 0 ≤ _), (by decide : 0 + 0 ≤ _)⟩)
  dsimp only [Pt.U, Pt.locs, Pt.cells, Pt.slots] at X103 l103 y103 z103 st103 hQ103
  subst y103 z103
  obtain ⟨rfl, Nq103, q103_0⟩ := hQ103
  have N103 : Fr n0 L103 := by rw [l103]; exact Fr.app N102 Nq103
  refine Goes.step (S' := T103.setTop (mkF m 16 #[.val (.ref a1), .val (.ref b), .val .null, .val (.ref va), .val (.int n)] [(.ref b)])) (fun t k => st103.trans (XS.istore X103.here hx rfl (hb hby dk302) rfl (l' := #[.val (.ref a1), .val (.ref b), .val .null, .val (.ref va), .val (.int n)]) rfl (XS.aloadN X103.here hx rfl (hb hby dk303) rfl rfl k))) ?_
  obtain ⟨cq104, kq104, q104a, q104b, q104c⟩ := isOf hZ q103_0 E1
  obtain ⟨_, _, ⟨T104, L104, k104, n104⟩, -, X104, ⟨Lc104, hQ104, l104, y104, z104⟩, st104⟩ := X103.virtualBack hx (y := mth8) (z := mth8) hown (mvT hZ tw158) (mvT hZ tw73) (notFace_of_selects (args := #[]) (mvT hZ tw75)) (mvT hZ tw75) (mvT hZ tw74) (by decide) (backOf (W := 0) (ail l Z a0 hw [] b cs h0 n0 Z0 Fc SC (PC : ¬ (cs = (0 : Int32)))) hZ tw76 tw40 (by decide) (by decide)) q104a q104c (g := (mkF m 16 #[.val (.ref a1), .val (.ref b), .val .null, .val (.ref va), .val (.int n)] [(.ref b)])) rfl (by rw [hml]; rfl) (Steps.refl _) (argsL := []) (rest := []) (lenOf pd_Z rfl) rfl (Nat.le_of_eq rfl) (hb hby dk304) (fun _ _ => ⟨rfl, q103_0, (by decide : 0 + 0 ≤ _), (by decide : 0 + 0 ≤ _)⟩)
  dsimp only [Pt.U, Pt.locs, Pt.cells, Pt.slots] at X104 l104 y104 z104 st104 hQ104
  subst y104 z104
  obtain ⟨rfl, Nq104, q104_0⟩ := hQ104
  have N104 : Fr n0 L104 := by rw [l104]; exact Fr.app N103 Nq104
  refine Goes.step (S' := T104.setTop (mkF m 24 #[.val (.ref a1), .val (.ref b), .val .null, .val (.ref va), .val (.int n)] [(.int (0 : Int32)), (.ref a1)])) (fun t k => st104.trans (XS.ifNo X104.here hx rfl (hb hby dk305) rfl ((if0 _ _).trans (feq ((by decide) : ¬ ((1 : Int32) = (0 : Int32)))).1) (XS.aloadN X104.here hx rfl (hb hby dk306) rfl rfl (XS.iconst X104.here hx rfl (hb hby dk307) k)))) ?_
  obtain ⟨T105, h105, X105, e105, W105, st105⟩ := putFN X104 hx hZ hown tw110 Via.refl q104_0 Fk E5 (Or.inr ⟨tw86, rfl, hnm⟩) tw84 (ty := .byte) (v' := (.int (0 : Int32))) (by decide) rfl (by decide) (g := (mkF m 24 #[.val (.ref a1), .val (.ref b), .val .null, .val (.ref va), .val (.int n)] [(.int (0 : Int32)), (.ref a1)])) rfl rfl (hb hby dk308)
  have Fw105 : Fld Z h105 a1 "java/lang/String" "coder" "B" (.int (0 : Int32)) := Fld.same W105 Fk
  have N105 := Fr.snoc X105 N104 G5
  refine Goes.step (S' := T105.setTop (mkF m 32 #[.val (.ref a1), .val (.ref b), .val .null, .val (.ref va), .val (.int n)] [(.int n), (.int (0 : Int32)), (.ref va), (.ref a1)])) (fun t k => st105 _ (XS.aloadN X105.here hx rfl (hb hby dk309) rfl rfl (XS.aloadN X105.here hx rfl (hb hby dk310) rfl rfl (XS.iconst X105.here hx rfl (hb hby dk311) (XS.iload X105.here hx rfl (hb hby dk312) rfl k))))) ?_
  obtain ⟨_, _, ⟨T106, L106, k106, n106⟩, -, X106, ⟨Lc106, hQ106, l106, y106, z106⟩, st106⟩ := Jvm.LawKit.callS X105 hx (y := mth23) hown (mvT hZ tw159) (mvT hZ tw160) (mvT hZ tw161) (mvT hZ tw162) (by decide) (backOf (W := 1) (corr l Z a0 hw [] va kv C vs n h105 n0 (Nat.le_trans Z0 (Nat.le_of_eq W105.size.symm)) (V1.other W105 (Exa.ne E2 E5 (by decide))) (Q1 : ¬ (n < (0 : Int32))) (Q2 : ¬ ((70 : Int32) < n)) (Nat.le_of_eq (own_ncl HN (Nat.le_trans HB (by decide))).symm) (Q0 : n < C)) hZ tw162 tw161 (by decide) (by decide)) (g := (mkF m 32 #[.val (.ref a1), .val (.ref b), .val .null, .val (.ref va), .val (.int n)] [(.int n), (.int (0 : Int32)), (.ref va), (.ref a1)])) rfl (by rw [hml]; rfl) (argsL := [(.ref va), (.int (0 : Int32)), (.int n)]) (rest := [(.ref a1)]) (lenOf pd_BII_AB rfl) rfl (Nat.le_of_eq rfl) (hb hby dk313) (fun _ _ => ⟨rfl, e105, (by decide : 0 + 1 ≤ _), (by decide : 0 + 70 ≤ _)⟩)
  dsimp only [Pt.U, Pt.locs, Pt.cells, Pt.slots] at X106 l106 y106 z106 st106 hQ106
  subst y106 z106
  obtain ⟨x_106, kx_106, rfl, Nq106, q106_0, q106_1, q106_2, q106_3⟩ := hQ106
  have N106 : Fr n0 L106 := by rw [l106]; exact Fr.app N105 Nq106
  refine Goes.step (S' := T106.setTop (mkF m 35 #[.val (.ref a1), .val (.ref b), .val .null, .val (.ref va), .val (.int n)] [(.ref x_106), (.ref a1)])) (fun t k => st106 _ k) ?_
  obtain ⟨T107, h107, X107, e107, W107, st107⟩ := putF X106 hx hZ hown (host := "") (Or.inl tw103) Via.refl rfl ((Fld.other W105 Fs (Or.inr (slot_ne (Or.inr tw85) (Or.inr tw86) (by decide) (t := (.array .byte)) (t' := .byte) (by decide) (by decide)))).keep q106_0 nin0) ((Exa.wr W105 E5).keep q106_0) (Or.inr ⟨tw85, rfl, hnm⟩) tw84 (ty := (.array .byte)) (by decide) rfl rfl (g := (mkF m 35 #[.val (.ref a1), .val (.ref b), .val .null, .val (.ref va), .val (.int n)] [(.ref x_106), (.ref a1)])) rfl rfl (hb hby dk314)
  have Fw107 : Fld Z h107 a1 "java/lang/String" "value" "[B" (.ref x_106) := Fld.same W107 ((Fld.other W105 Fs (Or.inr (slot_ne (Or.inr tw85) (Or.inr tw86) (by decide) (t := (.array .byte)) (t' := .byte) (by decide) (by decide)))).keep q106_0 nin0)
  have N107 := Fr.snoc X107 N106 G5
  refine Goes.step (S' := T107.setTop (mkF m 97 #[.val (.ref a1), .val (.ref b), .val .null, .val (.ref va), .val (.int n)] [])) (fun t k => st107 _ (XS.goto X107.here hx rfl (pc0 := 38) (pc' := 97) rfl (hb hby dk315) (by decide) (by decide) k)) ?_
  refine Goes.leave (g := (mkF m 97 #[.val (.ref a1), .val (.ref b), .val .null, .val (.ref va), .val (.int n)] [])) X107 Bd.notSynchronized (v := none) (fun _ => rfl) (fun fs hr => X107.returnOut hx Bd.returns (hb hby dk316) hr) e107 ?_ (by decide) (by decide)
  exact ⟨x_106, kx_106, rfl, N107, ((((Keep.refl _ [a1]).wr W105 (Or.inl (List.mem_of_getElem? (i := 0) rfl))).trans q106_0 all0).wr W107 (Or.inl (List.mem_of_getElem? (i := 0) rfl))), (Nat.le_trans (Nat.le_of_eq W105.size.symm) q106_1), (Exa.wr W107 q106_2), Fw107, (Fld.other W107 (Fw105.keep q106_0 nin0) (Or.inr (slot_ne (Or.inr tw86) (Or.inr tw85) (by decide) (t := .byte) (t' := (.array .byte)) (by decide) (by decide)))), (q106_3.other W107 (Ne.symm (Nat.ne_of_lt (Nat.lt_of_lt_of_le E5.lt (Nat.le_trans (Nat.le_of_eq W105.size.symm) q106_1)))))⟩

theorem ef_sisr (m : MethodId) (x0 : Addr) (x1 : Addr) : entryFrame m #[(.ref x0), (.ref x1)] 2 = mkF m 0 #[.val (.ref x0), .val (.ref x1)] [] := by first | (simp [entryFrame, mkF, argsToLocals, Value.category]; done) | rfl
def Q_sisr (Z : State) (a1 : Addr) (b : Addr) (va : Addr) (kv : ClassId) (C : Int32) (vs : List Value) (n : Int32) (cs : Int32) (h0 : Heap) (n0 : Nat) (v : Option Value) (h : Heap) (L : List Loc) : Prop := ∃ (x : Addr) (kx : ClassId), v = none ∧ Fr n0 L ∧ Keep h0 h [a1] ∧ h0.size ≤ x ∧ Exa Z h x "[B" ∧ Fld Z h a1 "java/lang/String" "value" "[B" (.ref x) ∧ Fld Z h a1 "java/lang/String" "coder" "B" (.int (0 : Int32)) ∧ Arv Z h x kx .byte n vs (.int (0 : Int32))
set_option maxRecDepth 65536 in
set_option maxHeartbeats 40000000 in
theorem sisr (l : Launch) (Z : State) (a0 : Array Value) (hw : ∀ d ∈ tables_1, d.before a0 Z = true) (ws : List Jvm.Cond) (a1 : Addr) (b : Addr) (va : Addr) (kv : ClassId) (C : Int32) (vs : List Value) (n : Int32) (cs : Int32) (h0 : Heap) (n0 : Nat) (Z0 : n0 ≤ h0.size) (E5 : Exa Z h0 a1 "java/lang/String") (Fs : Fld Z h0 a1 "java/lang/String" "value" "[B" .null) (Fk : Fld Z h0 a1 "java/lang/String" "coder" "B" (.int (0 : Int32))) (G5 : n0 ≤ a1) (E1 : Exa Z h0 b "java/lang/StringBuilder") (E2 : Exa Z h0 va "[B") (Fv : Fld Z h0 b "java/lang/AbstractStringBuilder" "value" "[B" (.ref va)) (Fc : Fld Z h0 b "java/lang/AbstractStringBuilder" "coder" "B" (.int (0 : Int32))) (Fn : Fld Z h0 b "java/lang/AbstractStringBuilder" "count" "I" (.int n)) (V1 : Arv Z h0 va kv .byte C vs (.int (0 : Int32))) (SC : Sta Z h0 "java/lang/String" "COMPACT_STRINGS" "Z" (.int cs)) (PC : ¬ (cs = (0 : Int32))) (HN : n = Int32.ofNat vs.length) (HB : vs.length ≤ 44) (Q1 : ¬ (n < (0 : Int32))) (Q2 : ¬ ((70 : Int32) < n)) (Q0 : n < C) :
    MetFree l mth28 (head1 (Jvm.Cond.code mth28 jdk_42_method_53_code 2 none :: ws) rom22) (fun a U => a = #[(.ref a1), (.ref b)] ∧ Z.Warmed39 U.vm ∧ U.heap = h0) (fun _ _ _ _ _ => True) (fun _ U o U' => ∃ v L, o = .returned v ∧ Q_sisr Z a1 b va kv C vs n cs h0 n0 v U'.heap L ∧ FrameEnd U o U' L rom22.cells rom22.slots) := by
  refine MetFree.of_bodySF (plainFor_of_name pnm4) hisR ?_
  intro p e s m args below meth c s₁ Bd hml0 hP hK
  obtain ⟨rfl, hZ, hh⟩ := hP
  have hx := Bd.exec
  have hby := Bd.bytes
  have hml : c.maxLocals = 2 := hml0
  have hown : s.vm.findClass "java/lang/String" = some m.cls := findClass_of_methodNamed Bd.named
  have hnm := (name_of_methodNamed Bd.named Bd.method).1
  have X0 : Stand p l e rom22 s m #[(.ref a1), (.ref b)] below meth c s₁ [] 0 0 := Stand.of_body Bd
  have eh0 : s₁.heap = h0 := by rw [← hh, Bd.state]; rfl
  have N0 := Fr.nil n0
  have tw44 := own_hw hw 44 rfl
  have tw141 := own_hw hw 141 rfl
  have tw142 := own_hw hw 142 rfl
  have tw143 := own_hw hw 143 rfl
  show Goes p e below (Pq (Q_sisr Z a1 b va kv C vs n cs h0 n0) s rom22.cells rom22.slots) (s₁.setTop (entryFrame m #[(.ref a1), (.ref b)] 2))
  refine Goes.step (S' := s₁.setTop (mkF m 0 #[.val (.ref a1), .val (.ref b)] [])) (fun t k => castTop (ef_sisr m a1 b) k) ?_
  refine Goes.step (S' := s₁.setTop (mkF m 3 #[.val (.ref a1), .val (.ref b)] [.null, (.ref b), (.ref a1)])) (fun t k => XS.aloadN X0.here hx rfl (hb hby dk317) rfl rfl (XS.aloadN X0.here hx rfl (hb hby dk318) rfl rfl (XS.aconstNull X0.here hx rfl (hb hby dk319) k))) ?_
  obtain ⟨_, _, ⟨T101, L101, k101, n101⟩, -, X101, ⟨Lc101, hQ101, l101, y101, z101⟩, st101⟩ := X0.specialBack hx (y := mth27) rfl hown (mvT hZ tw141) (mvT hZ tw142) (mvT hZ tw143) (by decide) (backOf (W := 0) (siar l Z a0 hw [] a1 b va kv C vs n cs h0 n0 Z0 E5 Fs Fk G5 E1 E2 Fv Fc Fn V1 SC (PC : ¬ (cs = (0 : Int32))) HN HB (Q1 : ¬ (n < (0 : Int32))) (Q2 : ¬ ((70 : Int32) < n)) (Q0 : n < C)) hZ tw143 tw44 (by decide) (by decide)) (g := (mkF m 3 #[.val (.ref a1), .val (.ref b)] [.null, (.ref b), (.ref a1)])) rfl (by rw [hml]; rfl) (Steps.refl _) (a := a1) (argsL := [(.ref b), .null]) (rest := []) (lenOf pd_Ljava_lang_AbstractStringBuilder_Ljava_lang_Void__V rfl) rfl (Nat.le_of_eq rfl) (hb hby dk320) (fun _ _ => ⟨rfl, eh0, (by decide : 0 + 1 ≤ _), (by decide : 0 + 70 ≤ _)⟩)
  dsimp only [Pt.U, Pt.locs, Pt.cells, Pt.slots] at X101 l101 y101 z101 st101 hQ101
  subst y101 z101
  obtain ⟨x_101, kx_101, rfl, Nq101, q101_0, q101_1, q101_2, q101_3, q101_4, q101_5⟩ := hQ101
  have N101 : Fr n0 L101 := by rw [l101]; exact Fr.app N0 Nq101
  refine Goes.step (S' := T101.setTop (mkF m 6 #[.val (.ref a1), .val (.ref b)] [])) (fun t k => st101.trans k) ?_
  refine Goes.leave (g := (mkF m 6 #[.val (.ref a1), .val (.ref b)] [])) X101 Bd.notSynchronized (v := none) (fun _ => rfl) (fun fs hr => X101.returnOut hx Bd.returns (hb hby dk321) hr) rfl ?_ (by decide) (by decide)
  exact ⟨x_101, kx_101, rfl, N101, ((Keep.refl _ [a1]).trans q101_0 (allS (Or.inl (List.mem_of_getElem? (i := 0) rfl)) all0)), q101_1, q101_2, q101_3, q101_4, q101_5⟩

theorem ef_tosr (m : MethodId) (x0 : Addr) : entryFrame m #[(.ref x0)] 1 = mkF m 0 #[.val (.ref x0)] [] := by first | (simp [entryFrame, mkF, argsToLocals, Value.category]; done) | rfl
def Q_tosr (Z : State) (b : Addr) (va : Addr) (kv : ClassId) (C : Int32) (vs : List Value) (n : Int32) (cs : Int32) (h0 : Heap) (n0 : Nat) (v : Option Value) (h : Heap) (L : List Loc) : Prop := ∃ (s1 : Addr) (x : Addr) (kx : ClassId), v = some (.ref s1) ∧ Fr n0 L ∧ Keep h0 h [] ∧ h0.size ≤ s1 ∧ Exa Z h s1 "java/lang/String" ∧ Fld Z h s1 "java/lang/String" "value" "[B" (.ref x) ∧ Fld Z h s1 "java/lang/String" "coder" "B" (.int (0 : Int32)) ∧ Exa Z h x "[B" ∧ Arv Z h x kx .byte n vs (.int (0 : Int32))
set_option maxRecDepth 65536 in
set_option maxHeartbeats 40000000 in
theorem tosr (l : Launch) (Z : State) (a0 : Array Value) (hw : ∀ d ∈ tables_1, d.before a0 Z = true) (ws : List Jvm.Cond) (b : Addr) (va : Addr) (kv : ClassId) (C : Int32) (vs : List Value) (n : Int32) (cs : Int32) (h0 : Heap) (n0 : Nat) (Z0 : n0 ≤ h0.size) (E1 : Exa Z h0 b "java/lang/StringBuilder") (E2 : Exa Z h0 va "[B") (Fv : Fld Z h0 b "java/lang/AbstractStringBuilder" "value" "[B" (.ref va)) (Fc : Fld Z h0 b "java/lang/AbstractStringBuilder" "coder" "B" (.int (0 : Int32))) (Fn : Fld Z h0 b "java/lang/AbstractStringBuilder" "count" "I" (.int n)) (V1 : Arv Z h0 va kv .byte C vs (.int (0 : Int32))) (SC : Sta Z h0 "java/lang/String" "COMPACT_STRINGS" "Z" (.int cs)) (PC : ¬ (cs = (0 : Int32))) (HN : n = Int32.ofNat vs.length) (HB : vs.length ≤ 44) (Q1 : ¬ (n < (0 : Int32))) (Q2 : ¬ ((70 : Int32) < n)) (Q0 : n < C) :
    MetFree l mth29 (head1 (Jvm.Cond.code mth29 jdk_67_method_42_code 1 (some (.object "java/lang/String")) :: ws) rom23) (fun a U => a = #[(.ref b)] ∧ Z.Warmed39 U.vm ∧ U.heap = h0) (fun _ _ _ _ _ => True) (fun _ U o U' => ∃ v L, o = .returned v ∧ Q_tosr Z b va kv C vs n cs h0 n0 v U'.heap L ∧ FrameEnd U o U' L rom23.cells rom23.slots) := by
  refine MetFree.of_bodySF (plainFor_of_name pnm1) hisR ?_
  intro p e s m args below meth c s₁ Bd hml0 hP hK
  obtain ⟨rfl, hZ, hh⟩ := hP
  have hx := Bd.exec
  have hby := Bd.bytes
  have hml : c.maxLocals = 1 := hml0
  have hown : s.vm.findClass "java/lang/StringBuilder" = some m.cls := findClass_of_methodNamed Bd.named
  have hnm := (name_of_methodNamed Bd.named Bd.method).1
  have X0 : Stand p l e rom23 s m #[(.ref b)] below meth c s₁ [] 0 0 := Stand.of_body Bd
  have eh0 : s₁.heap = h0 := by rw [← hh, Bd.state]; rfl
  have N0 := Fr.nil n0
  have tw44 := own_hw hw 44 rfl
  have tw84 := own_hw hw 84 rfl
  have tw85 := own_hw hw 85 rfl
  have tw86 := own_hw hw 86 rfl
  have tw136 := own_hw hw 136 rfl
  have tw137 := own_hw hw 137 rfl
  have tw138 := own_hw hw 138 rfl
  have tw140 := own_hw hw 140 rfl
  show Goes p e below (Pq (Q_tosr Z b va kv C vs n cs h0 n0) s rom23.cells rom23.slots) (s₁.setTop (entryFrame m #[(.ref b)] 1))
  refine Goes.step (S' := s₁.setTop (mkF m 0 #[.val (.ref b)] [])) (fun t k => castTop (ef_tosr m b) k) ?_
  obtain ⟨T101, h101, X101, e101, E101, A101, D101, U101, st101⟩ := newO X0 hx hZ hown tw136 tw84 tw44 eh0 (g := (mkF m 0 #[.val (.ref b)] [])) rfl (hb hby dk322) (by decide) (by decide)
  obtain ⟨b101, g101⟩ : ∃ z, z = h0.size := ⟨_, rfl⟩
  rw [← g101] at A101 D101 U101 st101
  have F101_value : Fld Z h101 b101 "java/lang/String" "value" "[B" .null := D101 (Or.inr tw85) (ty := (.array .byte)) (by decide)
  have F101_coder : Fld Z h101 b101 "java/lang/String" "coder" "B" (.int (0 : Int32)) := D101 (Or.inr tw86) (ty := .byte) (by decide)
  refine Goes.step (S' := T101.setTop (mkF m 5 #[.val (.ref b)] [(.ref b), (.ref b101), (.ref b101)])) (fun t k => st101 _ (XS.dup X101.here hx rfl (hb hby dk323) rfl rfl (XS.aloadN X101.here hx rfl (hb hby dk324) rfl rfl k))) ?_
  obtain ⟨_, _, ⟨T102, L102, k102, n102⟩, -, X102, ⟨Lc102, hQ102, l102, y102, z102⟩, st102⟩ := X101.specialBack hx (y := mth28) rfl hown (mvT hZ tw137) (mvT hZ tw138) (mvT hZ tw140) (by decide) (backOf (W := 1) (sisr l Z a0 hw [] b101 b va kv C vs n cs h101 n0 (Nat.le_trans Z0 E101.1) A101 F101_value F101_coder (Nat.le_trans Z0 (Nat.le_of_eq g101.symm)) (Exa.ext E101 E1) (Exa.ext E101 E2) (Fld.ext E101 Fv) (Fld.ext E101 Fc) (Fld.ext E101 Fn) (V1.ext E101) (Sta.ext E101 SC) (PC : ¬ (cs = (0 : Int32))) HN HB (Q1 : ¬ (n < (0 : Int32))) (Q2 : ¬ ((70 : Int32) < n)) (Q0 : n < C)) hZ tw140 tw44 (by decide) (by decide)) (g := (mkF m 5 #[.val (.ref b)] [(.ref b), (.ref b101), (.ref b101)])) rfl (by rw [hml]; rfl) (Steps.refl _) (a := b101) (argsL := [(.ref b)]) (rest := [(.ref b101)]) (lenOf pd_Ljava_lang_StringBuilder__V rfl) rfl (Nat.le_of_eq rfl) (hb hby dk325) (fun _ _ => ⟨rfl, e101, (by decide : 1 + 1 ≤ _), (by decide : 4 + 70 ≤ _)⟩)
  dsimp only [Pt.U, Pt.locs, Pt.cells, Pt.slots] at X102 l102 y102 z102 st102 hQ102
  subst y102 z102
  obtain ⟨x_102, kx_102, rfl, Nq102, q102_0, q102_1, q102_2, q102_3, q102_4, q102_5⟩ := hQ102
  have N102 : Fr n0 L102 := by rw [l102]; exact Fr.app N0 Nq102
  refine Goes.step (S' := T102.setTop (mkF m 8 #[.val (.ref b)] [(.ref b101)])) (fun t k => st102.trans k) ?_
  refine Goes.leave (g := (mkF m 8 #[.val (.ref b)] [(.ref b101)])) X102 Bd.notSynchronized (v := (some (.ref b101))) (fun h => by rw [Bd.returns] at h; cases h) (fun fs hr => by jvm_step X102.here [X102.here.top, hx, (hb hby dk326), X102.method', Bd.returns, Value.isRef, FieldType.isReference]; (first | (intro acts; rw [hr _ acts rfl rfl rfl]) | rw [hr _ _ rfl rfl rfl]); exact Steps.refl _) rfl ?_ (by decide) (by decide)
  exact ⟨b101, x_102, kx_102, rfl, N102, (((Keep.refl _ []).ext E101).trans q102_0 (allS (Or.inr (Nat.le_of_eq g101.symm)) all0)), (Nat.le_of_eq g101.symm), (A101.keep q102_0), q102_3, q102_4, q102_2, q102_5⟩

theorem ef_siac (m : MethodId) (x0 : Addr) (x1 : Addr) : entryFrame m #[(.ref x0), (.ref x1), .null] 5 = mkF m 0 #[.val (.ref x0), .val (.ref x1), .val .null, .unset, .unset] [] := by first | (simp [entryFrame, mkF, argsToLocals, Value.category]; done) | rfl
def Q_siac (Z : State) (a1 : Addr) (b : Addr) (va : Addr) (kv : ClassId) (C : Int32) (vs : List Value) (n : Int32) (cs : Int32) (h0 : Heap) (n0 : Nat) (v : Option Value) (h : Heap) (L : List Loc) : Prop := ∃ (x : Addr) (kx : ClassId), v = none ∧ Fr n0 L ∧ Keep h0 h [a1] ∧ h0.size ≤ x ∧ Exa Z h x "[B" ∧ Fld Z h a1 "java/lang/String" "value" "[B" (.ref x) ∧ Fld Z h a1 "java/lang/String" "coder" "B" (.int (0 : Int32)) ∧ Arv Z h x kx .byte n vs (.int (0 : Int32))
set_option maxRecDepth 65536 in
set_option maxHeartbeats 40000000 in
theorem siac (l : Launch) (Z : State) (a0 : Array Value) (hw : ∀ d ∈ tables_1, d.before a0 Z = true) (ws : List Jvm.Cond) (a1 : Addr) (b : Addr) (va : Addr) (kv : ClassId) (C : Int32) (vs : List Value) (n : Int32) (cs : Int32) (h0 : Heap) (n0 : Nat) (Z0 : n0 ≤ h0.size) (E5 : Exa Z h0 a1 "java/lang/String") (Fs : Fld Z h0 a1 "java/lang/String" "value" "[B" .null) (Fk : Fld Z h0 a1 "java/lang/String" "coder" "B" (.int (0 : Int32))) (G5 : n0 ≤ a1) (E1 : Exa Z h0 b "java/lang/StringBuilder") (E2 : Exa Z h0 va "[B") (Fv : Fld Z h0 b "java/lang/AbstractStringBuilder" "value" "[B" (.ref va)) (Fc : Fld Z h0 b "java/lang/AbstractStringBuilder" "coder" "B" (.int (0 : Int32))) (Fn : Fld Z h0 b "java/lang/AbstractStringBuilder" "count" "I" (.int n)) (V1 : Arv Z h0 va kv .byte C vs (.int (0 : Int32))) (SC : Sta Z h0 "java/lang/String" "COMPACT_STRINGS" "Z" (.int cs)) (PC : ¬ (cs = (0 : Int32))) (HN : n = Int32.ofNat vs.length) (HB : vs.length ≤ 44) (Q1 : ¬ (n < (0 : Int32))) (Q2 : ¬ ((70 : Int32) < n)) (Q0 : n = C) :
    MetFree l mth27 (head1 (Jvm.Cond.code mth27 jdk_42_method_150_code 5 none :: ws) rom24) (fun a U => a = #[(.ref a1), (.ref b), .null] ∧ Z.Warmed39 U.vm ∧ U.heap = h0) (fun _ _ _ _ _ => True) (fun _ U o U' => ∃ v L, o = .returned v ∧ Q_siac Z a1 b va kv C vs n cs h0 n0 v U'.heap L ∧ FrameEnd U o U' L rom24.cells rom24.slots) := by
  refine MetFree.of_bodySF (plainFor_of_name pnm4) hisR ?_
  intro p e s m args below meth c s₁ Bd hml0 hP hK
  obtain ⟨rfl, hZ, hh⟩ := hP
  have hx := Bd.exec
  have hby := Bd.bytes
  have hml : c.maxLocals = 5 := hml0
  have hown : s.vm.findClass "java/lang/String" = some m.cls := findClass_of_methodNamed Bd.named
  have hnm := (name_of_methodNamed Bd.named Bd.method).1
  have X0 : Stand p l e rom24 s m #[(.ref a1), (.ref b), .null] below meth c s₁ [] 0 0 := Stand.of_body Bd
  have eh0 : s₁.heap = h0 := by rw [← hh, Bd.state]; rfl
  have N0 := Fr.nil n0
  have tw19 := own_hw hw 19 rfl
  have tw20 := own_hw hw 20 rfl
  have tw32 := own_hw hw 32 rfl
  have tw40 := own_hw hw 40 rfl
  have tw70 := own_hw hw 70 rfl
  have tw73 := own_hw hw 73 rfl
  have tw74 := own_hw hw 74 rfl
  have tw75 := own_hw hw 75 rfl
  have tw76 := own_hw hw 76 rfl
  have tw84 := own_hw hw 84 rfl
  have tw85 := own_hw hw 85 rfl
  have tw86 := own_hw hw 86 rfl
  have tw103 := own_hw hw 103 rfl
  have tw110 := own_hw hw 110 rfl
  have tw144 := own_hw hw 144 rfl
  have tw145 := own_hw hw 145 rfl
  have tw146 := own_hw hw 146 rfl
  have tw147 := own_hw hw 147 rfl
  have tw148 := own_hw hw 148 rfl
  have tw149 := own_hw hw 149 rfl
  have tw150 := own_hw hw 150 rfl
  have tw151 := own_hw hw 151 rfl
  have tw153 := own_hw hw 153 rfl
  have tw154 := own_hw hw 154 rfl
  have tw155 := own_hw hw 155 rfl
  have tw158 := own_hw hw 158 rfl
  have tw159 := own_hw hw 159 rfl
  have tw160 := own_hw hw 160 rfl
  have tw161 := own_hw hw 161 rfl
  have tw162 := own_hw hw 162 rfl
  show Goes p e below (Pq (Q_siac Z a1 b va kv C vs n cs h0 n0) s rom24.cells rom24.slots) (s₁.setTop (entryFrame m #[(.ref a1), (.ref b), .null] 5))
  refine Goes.step (S' := s₁.setTop (mkF m 0 #[.val (.ref a1), .val (.ref b), .val .null, .unset, .unset] [])) (fun t k => castTop (ef_siac m a1 b) k) ?_
  refine Goes.step (S' := s₁.setTop (mkF m 1 #[.val (.ref a1), .val (.ref b), .val .null, .unset, .unset] [(.ref a1)])) (fun t k => XS.aloadN X0.here hx rfl (hb hby dk295) rfl rfl k) ?_
  obtain ⟨T101, X101, e101, st101⟩ := initO X0 hx hZ hown tw144 tw19 tw20 eh0 (g := (mkF m 1 #[.val (.ref a1), .val (.ref b), .val .null, .unset, .unset] [(.ref a1)])) rfl (by rw [hml]; rfl) rfl (hb hby dk296) (by decide) (W := 0) (Nat.le_of_eq rfl) (by decide)
  refine Goes.step (S' := T101.setTop (mkF m 5 #[.val (.ref a1), .val (.ref b), .val .null, .unset, .unset] [(.ref b)])) (fun t k => st101 _ (XS.aloadN X101.here hx rfl (hb hby dk297) rfl rfl k)) ?_
  obtain ⟨cq102, kq102, q102a, q102b, q102c⟩ := isOf hZ e101 E1
  obtain ⟨_, _, ⟨T102, L102, k102, n102⟩, -, X102, ⟨Lc102, hQ102, l102, y102, z102⟩, st102⟩ := X101.virtualBack hx (y := mth24) (z := mth24) hown (mvT hZ tw145) (mvT hZ tw146) (notFace_of_selects (args := #[]) (mvT hZ tw148)) (mvT hZ tw148) (mvT hZ tw147) (by decide) (backOf (W := 0) (gvl l Z a0 hw [] b va h0 n0 Z0 Fv) hZ tw149 tw40 (by decide) (by decide)) q102a q102c (g := (mkF m 5 #[.val (.ref a1), .val (.ref b), .val .null, .unset, .unset] [(.ref b)])) rfl (by rw [hml]; rfl) (Steps.refl _) (argsL := []) (rest := []) (lenOf pd_AB rfl) rfl (Nat.le_of_eq rfl) (hb hby dk298) (fun _ _ => ⟨rfl, e101, (by decide : 0 + 0 ≤ _), (by decide : 0 + 0 ≤ _)⟩)
  dsimp only [Pt.U, Pt.locs, Pt.cells, Pt.slots] at X102 l102 y102 z102 st102 hQ102
  subst y102 z102
  obtain ⟨rfl, Nq102, q102_0⟩ := hQ102
  have N102 : Fr n0 L102 := by rw [l102]; exact Fr.app N0 Nq102
  refine Goes.step (S' := T102.setTop (mkF m 10 #[.val (.ref a1), .val (.ref b), .val .null, .val (.ref va), .unset] [(.ref b)])) (fun t k => st102.trans (XS.astoreN X102.here hx rfl (hb hby dk299) rfl rfl (l' := #[.val (.ref a1), .val (.ref b), .val .null, .val (.ref va), .unset]) rfl (XS.aloadN X102.here hx rfl (hb hby dk300) rfl rfl k))) ?_
  obtain ⟨cq103, kq103, q103a, q103b, q103c⟩ := isOf hZ q102_0 E1
  obtain ⟨_, _, ⟨T103, L103, k103, n103⟩, -, X103, ⟨Lc103, hQ103, l103, y103, z103⟩, st103⟩ := X102.virtualBack hx (y := mth25) (z := mth26) hown (mvT hZ tw150) (mvT hZ tw151) (own_nf (args := #[]) (mvT hZ tw70) rfl) (mvT hZ tw153) (mvT hZ tw154) (by decide) (backOf (W := 0) (sbl l Z a0 hw [] b n h0 n0 Z0 E1 Fn) hZ tw155 tw32 (by decide) (by decide)) q103a q103c (g := (mkF m 10 #[.val (.ref a1), .val (.ref b), .val .null, .val (.ref va), .unset] [(.ref b)])) rfl (by rw [hml]; rfl) (Steps.refl _) (argsL := []) (rest := []) (lenOf pd_I rfl) rfl (Nat.le_of_eq rfl) (hb hby dk301) (fun _ _ => ⟨rfl, q102_0, (by decide : 0 + 0 ≤ _), (by decide : 0 + 0 ≤ _)⟩)
  dsimp only [Pt.U, Pt.locs, Pt.cells, Pt.slots] at X103 l103 y103 z103 st103 hQ103
  subst y103 z103
  obtain ⟨rfl, Nq103, q103_0⟩ := hQ103
  have N103 : Fr n0 L103 := by rw [l103]; exact Fr.app N102 Nq103
  refine Goes.step (S' := T103.setTop (mkF m 16 #[.val (.ref a1), .val (.ref b), .val .null, .val (.ref va), .val (.int n)] [(.ref b)])) (fun t k => st103.trans (XS.istore X103.here hx rfl (hb hby dk302) rfl (l' := #[.val (.ref a1), .val (.ref b), .val .null, .val (.ref va), .val (.int n)]) rfl (XS.aloadN X103.here hx rfl (hb hby dk303) rfl rfl k))) ?_
  obtain ⟨cq104, kq104, q104a, q104b, q104c⟩ := isOf hZ q103_0 E1
  obtain ⟨_, _, ⟨T104, L104, k104, n104⟩, -, X104, ⟨Lc104, hQ104, l104, y104, z104⟩, st104⟩ := X103.virtualBack hx (y := mth8) (z := mth8) hown (mvT hZ tw158) (mvT hZ tw73) (notFace_of_selects (args := #[]) (mvT hZ tw75)) (mvT hZ tw75) (mvT hZ tw74) (by decide) (backOf (W := 0) (ail l Z a0 hw [] b cs h0 n0 Z0 Fc SC (PC : ¬ (cs = (0 : Int32)))) hZ tw76 tw40 (by decide) (by decide)) q104a q104c (g := (mkF m 16 #[.val (.ref a1), .val (.ref b), .val .null, .val (.ref va), .val (.int n)] [(.ref b)])) rfl (by rw [hml]; rfl) (Steps.refl _) (argsL := []) (rest := []) (lenOf pd_Z rfl) rfl (Nat.le_of_eq rfl) (hb hby dk304) (fun _ _ => ⟨rfl, q103_0, (by decide : 0 + 0 ≤ _), (by decide : 0 + 0 ≤ _)⟩)
  dsimp only [Pt.U, Pt.locs, Pt.cells, Pt.slots] at X104 l104 y104 z104 st104 hQ104
  subst y104 z104
  obtain ⟨rfl, Nq104, q104_0⟩ := hQ104
  have N104 : Fr n0 L104 := by rw [l104]; exact Fr.app N103 Nq104
  refine Goes.step (S' := T104.setTop (mkF m 24 #[.val (.ref a1), .val (.ref b), .val .null, .val (.ref va), .val (.int n)] [(.int (0 : Int32)), (.ref a1)])) (fun t k => st104.trans (XS.ifNo X104.here hx rfl (hb hby dk305) rfl ((if0 _ _).trans (feq ((by decide) : ¬ ((1 : Int32) = (0 : Int32)))).1) (XS.aloadN X104.here hx rfl (hb hby dk306) rfl rfl (XS.iconst X104.here hx rfl (hb hby dk307) k)))) ?_
  obtain ⟨T105, h105, X105, e105, W105, st105⟩ := putFN X104 hx hZ hown tw110 Via.refl q104_0 Fk E5 (Or.inr ⟨tw86, rfl, hnm⟩) tw84 (ty := .byte) (v' := (.int (0 : Int32))) (by decide) rfl (by decide) (g := (mkF m 24 #[.val (.ref a1), .val (.ref b), .val .null, .val (.ref va), .val (.int n)] [(.int (0 : Int32)), (.ref a1)])) rfl rfl (hb hby dk308)
  have Fw105 : Fld Z h105 a1 "java/lang/String" "coder" "B" (.int (0 : Int32)) := Fld.same W105 Fk
  have N105 := Fr.snoc X105 N104 G5
  refine Goes.step (S' := T105.setTop (mkF m 32 #[.val (.ref a1), .val (.ref b), .val .null, .val (.ref va), .val (.int n)] [(.int n), (.int (0 : Int32)), (.ref va), (.ref a1)])) (fun t k => st105 _ (XS.aloadN X105.here hx rfl (hb hby dk309) rfl rfl (XS.aloadN X105.here hx rfl (hb hby dk310) rfl rfl (XS.iconst X105.here hx rfl (hb hby dk311) (XS.iload X105.here hx rfl (hb hby dk312) rfl k))))) ?_
  obtain ⟨_, _, ⟨T106, L106, k106, n106⟩, -, X106, ⟨Lc106, hQ106, l106, y106, z106⟩, st106⟩ := Jvm.LawKit.callS X105 hx (y := mth23) hown (mvT hZ tw159) (mvT hZ tw160) (mvT hZ tw161) (mvT hZ tw162) (by decide) (backOf (W := 1) (corc l Z a0 hw [] va kv C vs n h105 n0 (Nat.le_trans Z0 (Nat.le_of_eq W105.size.symm)) (V1.other W105 (Exa.ne E2 E5 (by decide))) (Q1 : ¬ (n < (0 : Int32))) (Q2 : ¬ ((70 : Int32) < n)) (Nat.le_of_eq (own_ncl HN (Nat.le_trans HB (by decide))).symm) (Q0 : n = C) (Exa.wr W105 E2)) hZ tw162 tw161 (by decide) (by decide)) (g := (mkF m 32 #[.val (.ref a1), .val (.ref b), .val .null, .val (.ref va), .val (.int n)] [(.int n), (.int (0 : Int32)), (.ref va), (.ref a1)])) rfl (by rw [hml]; rfl) (argsL := [(.ref va), (.int (0 : Int32)), (.int n)]) (rest := [(.ref a1)]) (lenOf pd_BII_AB rfl) rfl (Nat.le_of_eq rfl) (hb hby dk313) (fun _ _ => ⟨rfl, e105, (by decide : 0 + 1 ≤ _), (by decide : 0 + 70 ≤ _)⟩)
  dsimp only [Pt.U, Pt.locs, Pt.cells, Pt.slots] at X106 l106 y106 z106 st106 hQ106
  subst y106 z106
  obtain ⟨x_106, kx_106, rfl, Nq106, q106_0, q106_1, q106_2, q106_3⟩ := hQ106
  have N106 : Fr n0 L106 := by rw [l106]; exact Fr.app N105 Nq106
  refine Goes.step (S' := T106.setTop (mkF m 35 #[.val (.ref a1), .val (.ref b), .val .null, .val (.ref va), .val (.int n)] [(.ref x_106), (.ref a1)])) (fun t k => st106 _ k) ?_
  obtain ⟨T107, h107, X107, e107, W107, st107⟩ := putF X106 hx hZ hown (host := "") (Or.inl tw103) Via.refl rfl ((Fld.other W105 Fs (Or.inr (slot_ne (Or.inr tw85) (Or.inr tw86) (by decide) (t := (.array .byte)) (t' := .byte) (by decide) (by decide)))).keep q106_0 nin0) ((Exa.wr W105 E5).keep q106_0) (Or.inr ⟨tw85, rfl, hnm⟩) tw84 (ty := (.array .byte)) (by decide) rfl rfl (g := (mkF m 35 #[.val (.ref a1), .val (.ref b), .val .null, .val (.ref va), .val (.int n)] [(.ref x_106), (.ref a1)])) rfl rfl (hb hby dk314)
  have Fw107 : Fld Z h107 a1 "java/lang/String" "value" "[B" (.ref x_106) := Fld.same W107 ((Fld.other W105 Fs (Or.inr (slot_ne (Or.inr tw85) (Or.inr tw86) (by decide) (t := (.array .byte)) (t' := .byte) (by decide) (by decide)))).keep q106_0 nin0)
  have N107 := Fr.snoc X107 N106 G5
  refine Goes.step (S' := T107.setTop (mkF m 97 #[.val (.ref a1), .val (.ref b), .val .null, .val (.ref va), .val (.int n)] [])) (fun t k => st107 _ (XS.goto X107.here hx rfl (pc0 := 38) (pc' := 97) rfl (hb hby dk315) (by decide) (by decide) k)) ?_
  refine Goes.leave (g := (mkF m 97 #[.val (.ref a1), .val (.ref b), .val .null, .val (.ref va), .val (.int n)] [])) X107 Bd.notSynchronized (v := none) (fun _ => rfl) (fun fs hr => X107.returnOut hx Bd.returns (hb hby dk316) hr) e107 ?_ (by decide) (by decide)
  exact ⟨x_106, kx_106, rfl, N107, ((((Keep.refl _ [a1]).wr W105 (Or.inl (List.mem_of_getElem? (i := 0) rfl))).trans q106_0 all0).wr W107 (Or.inl (List.mem_of_getElem? (i := 0) rfl))), (Nat.le_trans (Nat.le_of_eq W105.size.symm) q106_1), (Exa.wr W107 q106_2), Fw107, (Fld.other W107 (Fw105.keep q106_0 nin0) (Or.inr (slot_ne (Or.inr tw86) (Or.inr tw85) (by decide) (t := .byte) (t' := (.array .byte)) (by decide) (by decide)))), (q106_3.other W107 (Ne.symm (Nat.ne_of_lt (Nat.lt_of_lt_of_le E5.lt (Nat.le_trans (Nat.le_of_eq W105.size.symm) q106_1)))))⟩

theorem ef_sisc (m : MethodId) (x0 : Addr) (x1 : Addr) : entryFrame m #[(.ref x0), (.ref x1)] 2 = mkF m 0 #[.val (.ref x0), .val (.ref x1)] [] := by first | (simp [entryFrame, mkF, argsToLocals, Value.category]; done) | rfl
def Q_sisc (Z : State) (a1 : Addr) (b : Addr) (va : Addr) (kv : ClassId) (C : Int32) (vs : List Value) (n : Int32) (cs : Int32) (h0 : Heap) (n0 : Nat) (v : Option Value) (h : Heap) (L : List Loc) : Prop := ∃ (x : Addr) (kx : ClassId), v = none ∧ Fr n0 L ∧ Keep h0 h [a1] ∧ h0.size ≤ x ∧ Exa Z h x "[B" ∧ Fld Z h a1 "java/lang/String" "value" "[B" (.ref x) ∧ Fld Z h a1 "java/lang/String" "coder" "B" (.int (0 : Int32)) ∧ Arv Z h x kx .byte n vs (.int (0 : Int32))
set_option maxRecDepth 65536 in
set_option maxHeartbeats 40000000 in
theorem sisc (l : Launch) (Z : State) (a0 : Array Value) (hw : ∀ d ∈ tables_1, d.before a0 Z = true) (ws : List Jvm.Cond) (a1 : Addr) (b : Addr) (va : Addr) (kv : ClassId) (C : Int32) (vs : List Value) (n : Int32) (cs : Int32) (h0 : Heap) (n0 : Nat) (Z0 : n0 ≤ h0.size) (E5 : Exa Z h0 a1 "java/lang/String") (Fs : Fld Z h0 a1 "java/lang/String" "value" "[B" .null) (Fk : Fld Z h0 a1 "java/lang/String" "coder" "B" (.int (0 : Int32))) (G5 : n0 ≤ a1) (E1 : Exa Z h0 b "java/lang/StringBuilder") (E2 : Exa Z h0 va "[B") (Fv : Fld Z h0 b "java/lang/AbstractStringBuilder" "value" "[B" (.ref va)) (Fc : Fld Z h0 b "java/lang/AbstractStringBuilder" "coder" "B" (.int (0 : Int32))) (Fn : Fld Z h0 b "java/lang/AbstractStringBuilder" "count" "I" (.int n)) (V1 : Arv Z h0 va kv .byte C vs (.int (0 : Int32))) (SC : Sta Z h0 "java/lang/String" "COMPACT_STRINGS" "Z" (.int cs)) (PC : ¬ (cs = (0 : Int32))) (HN : n = Int32.ofNat vs.length) (HB : vs.length ≤ 44) (Q1 : ¬ (n < (0 : Int32))) (Q2 : ¬ ((70 : Int32) < n)) (Q0 : n = C) :
    MetFree l mth28 (head1 (Jvm.Cond.code mth28 jdk_42_method_53_code 2 none :: ws) rom25) (fun a U => a = #[(.ref a1), (.ref b)] ∧ Z.Warmed39 U.vm ∧ U.heap = h0) (fun _ _ _ _ _ => True) (fun _ U o U' => ∃ v L, o = .returned v ∧ Q_sisc Z a1 b va kv C vs n cs h0 n0 v U'.heap L ∧ FrameEnd U o U' L rom25.cells rom25.slots) := by
  refine MetFree.of_bodySF (plainFor_of_name pnm4) hisR ?_
  intro p e s m args below meth c s₁ Bd hml0 hP hK
  obtain ⟨rfl, hZ, hh⟩ := hP
  have hx := Bd.exec
  have hby := Bd.bytes
  have hml : c.maxLocals = 2 := hml0
  have hown : s.vm.findClass "java/lang/String" = some m.cls := findClass_of_methodNamed Bd.named
  have hnm := (name_of_methodNamed Bd.named Bd.method).1
  have X0 : Stand p l e rom25 s m #[(.ref a1), (.ref b)] below meth c s₁ [] 0 0 := Stand.of_body Bd
  have eh0 : s₁.heap = h0 := by rw [← hh, Bd.state]; rfl
  have N0 := Fr.nil n0
  have tw44 := own_hw hw 44 rfl
  have tw141 := own_hw hw 141 rfl
  have tw142 := own_hw hw 142 rfl
  have tw143 := own_hw hw 143 rfl
  show Goes p e below (Pq (Q_sisc Z a1 b va kv C vs n cs h0 n0) s rom25.cells rom25.slots) (s₁.setTop (entryFrame m #[(.ref a1), (.ref b)] 2))
  refine Goes.step (S' := s₁.setTop (mkF m 0 #[.val (.ref a1), .val (.ref b)] [])) (fun t k => castTop (ef_sisc m a1 b) k) ?_
  refine Goes.step (S' := s₁.setTop (mkF m 3 #[.val (.ref a1), .val (.ref b)] [.null, (.ref b), (.ref a1)])) (fun t k => XS.aloadN X0.here hx rfl (hb hby dk317) rfl rfl (XS.aloadN X0.here hx rfl (hb hby dk318) rfl rfl (XS.aconstNull X0.here hx rfl (hb hby dk319) k))) ?_
  obtain ⟨_, _, ⟨T101, L101, k101, n101⟩, -, X101, ⟨Lc101, hQ101, l101, y101, z101⟩, st101⟩ := X0.specialBack hx (y := mth27) rfl hown (mvT hZ tw141) (mvT hZ tw142) (mvT hZ tw143) (by decide) (backOf (W := 0) (siac l Z a0 hw [] a1 b va kv C vs n cs h0 n0 Z0 E5 Fs Fk G5 E1 E2 Fv Fc Fn V1 SC (PC : ¬ (cs = (0 : Int32))) HN HB (Q1 : ¬ (n < (0 : Int32))) (Q2 : ¬ ((70 : Int32) < n)) (Q0 : n = C)) hZ tw143 tw44 (by decide) (by decide)) (g := (mkF m 3 #[.val (.ref a1), .val (.ref b)] [.null, (.ref b), (.ref a1)])) rfl (by rw [hml]; rfl) (Steps.refl _) (a := a1) (argsL := [(.ref b), .null]) (rest := []) (lenOf pd_Ljava_lang_AbstractStringBuilder_Ljava_lang_Void__V rfl) rfl (Nat.le_of_eq rfl) (hb hby dk320) (fun _ _ => ⟨rfl, eh0, (by decide : 0 + 1 ≤ _), (by decide : 0 + 70 ≤ _)⟩)
  dsimp only [Pt.U, Pt.locs, Pt.cells, Pt.slots] at X101 l101 y101 z101 st101 hQ101
  subst y101 z101
  obtain ⟨x_101, kx_101, rfl, Nq101, q101_0, q101_1, q101_2, q101_3, q101_4, q101_5⟩ := hQ101
  have N101 : Fr n0 L101 := by rw [l101]; exact Fr.app N0 Nq101
  refine Goes.step (S' := T101.setTop (mkF m 6 #[.val (.ref a1), .val (.ref b)] [])) (fun t k => st101.trans k) ?_
  refine Goes.leave (g := (mkF m 6 #[.val (.ref a1), .val (.ref b)] [])) X101 Bd.notSynchronized (v := none) (fun _ => rfl) (fun fs hr => X101.returnOut hx Bd.returns (hb hby dk321) hr) rfl ?_ (by decide) (by decide)
  exact ⟨x_101, kx_101, rfl, N101, ((Keep.refl _ [a1]).trans q101_0 (allS (Or.inl (List.mem_of_getElem? (i := 0) rfl)) all0)), q101_1, q101_2, q101_3, q101_4, q101_5⟩

theorem ef_tosc (m : MethodId) (x0 : Addr) : entryFrame m #[(.ref x0)] 1 = mkF m 0 #[.val (.ref x0)] [] := by first | (simp [entryFrame, mkF, argsToLocals, Value.category]; done) | rfl
def Q_tosc (Z : State) (b : Addr) (va : Addr) (kv : ClassId) (C : Int32) (vs : List Value) (n : Int32) (cs : Int32) (h0 : Heap) (n0 : Nat) (v : Option Value) (h : Heap) (L : List Loc) : Prop := ∃ (s1 : Addr) (x : Addr) (kx : ClassId), v = some (.ref s1) ∧ Fr n0 L ∧ Keep h0 h [] ∧ h0.size ≤ s1 ∧ Exa Z h s1 "java/lang/String" ∧ Fld Z h s1 "java/lang/String" "value" "[B" (.ref x) ∧ Fld Z h s1 "java/lang/String" "coder" "B" (.int (0 : Int32)) ∧ Exa Z h x "[B" ∧ Arv Z h x kx .byte n vs (.int (0 : Int32))
set_option maxRecDepth 65536 in
set_option maxHeartbeats 40000000 in
theorem tosc (l : Launch) (Z : State) (a0 : Array Value) (hw : ∀ d ∈ tables_1, d.before a0 Z = true) (ws : List Jvm.Cond) (b : Addr) (va : Addr) (kv : ClassId) (C : Int32) (vs : List Value) (n : Int32) (cs : Int32) (h0 : Heap) (n0 : Nat) (Z0 : n0 ≤ h0.size) (E1 : Exa Z h0 b "java/lang/StringBuilder") (E2 : Exa Z h0 va "[B") (Fv : Fld Z h0 b "java/lang/AbstractStringBuilder" "value" "[B" (.ref va)) (Fc : Fld Z h0 b "java/lang/AbstractStringBuilder" "coder" "B" (.int (0 : Int32))) (Fn : Fld Z h0 b "java/lang/AbstractStringBuilder" "count" "I" (.int n)) (V1 : Arv Z h0 va kv .byte C vs (.int (0 : Int32))) (SC : Sta Z h0 "java/lang/String" "COMPACT_STRINGS" "Z" (.int cs)) (PC : ¬ (cs = (0 : Int32))) (HN : n = Int32.ofNat vs.length) (HB : vs.length ≤ 44) (Q1 : ¬ (n < (0 : Int32))) (Q2 : ¬ ((70 : Int32) < n)) (Q0 : n = C) :
    MetFree l mth29 (head1 (Jvm.Cond.code mth29 jdk_67_method_42_code 1 (some (.object "java/lang/String")) :: ws) rom26) (fun a U => a = #[(.ref b)] ∧ Z.Warmed39 U.vm ∧ U.heap = h0) (fun _ _ _ _ _ => True) (fun _ U o U' => ∃ v L, o = .returned v ∧ Q_tosc Z b va kv C vs n cs h0 n0 v U'.heap L ∧ FrameEnd U o U' L rom26.cells rom26.slots) := by
  refine MetFree.of_bodySF (plainFor_of_name pnm1) hisR ?_
  intro p e s m args below meth c s₁ Bd hml0 hP hK
  obtain ⟨rfl, hZ, hh⟩ := hP
  have hx := Bd.exec
  have hby := Bd.bytes
  have hml : c.maxLocals = 1 := hml0
  have hown : s.vm.findClass "java/lang/StringBuilder" = some m.cls := findClass_of_methodNamed Bd.named
  have hnm := (name_of_methodNamed Bd.named Bd.method).1
  have X0 : Stand p l e rom26 s m #[(.ref b)] below meth c s₁ [] 0 0 := Stand.of_body Bd
  have eh0 : s₁.heap = h0 := by rw [← hh, Bd.state]; rfl
  have N0 := Fr.nil n0
  have tw44 := own_hw hw 44 rfl
  have tw84 := own_hw hw 84 rfl
  have tw85 := own_hw hw 85 rfl
  have tw86 := own_hw hw 86 rfl
  have tw136 := own_hw hw 136 rfl
  have tw137 := own_hw hw 137 rfl
  have tw138 := own_hw hw 138 rfl
  have tw140 := own_hw hw 140 rfl
  show Goes p e below (Pq (Q_tosc Z b va kv C vs n cs h0 n0) s rom26.cells rom26.slots) (s₁.setTop (entryFrame m #[(.ref b)] 1))
  refine Goes.step (S' := s₁.setTop (mkF m 0 #[.val (.ref b)] [])) (fun t k => castTop (ef_tosc m b) k) ?_
  obtain ⟨T101, h101, X101, e101, E101, A101, D101, U101, st101⟩ := newO X0 hx hZ hown tw136 tw84 tw44 eh0 (g := (mkF m 0 #[.val (.ref b)] [])) rfl (hb hby dk322) (by decide) (by decide)
  obtain ⟨b101, g101⟩ : ∃ z, z = h0.size := ⟨_, rfl⟩
  rw [← g101] at A101 D101 U101 st101
  have F101_value : Fld Z h101 b101 "java/lang/String" "value" "[B" .null := D101 (Or.inr tw85) (ty := (.array .byte)) (by decide)
  have F101_coder : Fld Z h101 b101 "java/lang/String" "coder" "B" (.int (0 : Int32)) := D101 (Or.inr tw86) (ty := .byte) (by decide)
  refine Goes.step (S' := T101.setTop (mkF m 5 #[.val (.ref b)] [(.ref b), (.ref b101), (.ref b101)])) (fun t k => st101 _ (XS.dup X101.here hx rfl (hb hby dk323) rfl rfl (XS.aloadN X101.here hx rfl (hb hby dk324) rfl rfl k))) ?_
  obtain ⟨_, _, ⟨T102, L102, k102, n102⟩, -, X102, ⟨Lc102, hQ102, l102, y102, z102⟩, st102⟩ := X101.specialBack hx (y := mth28) rfl hown (mvT hZ tw137) (mvT hZ tw138) (mvT hZ tw140) (by decide) (backOf (W := 1) (sisc l Z a0 hw [] b101 b va kv C vs n cs h101 n0 (Nat.le_trans Z0 E101.1) A101 F101_value F101_coder (Nat.le_trans Z0 (Nat.le_of_eq g101.symm)) (Exa.ext E101 E1) (Exa.ext E101 E2) (Fld.ext E101 Fv) (Fld.ext E101 Fc) (Fld.ext E101 Fn) (V1.ext E101) (Sta.ext E101 SC) (PC : ¬ (cs = (0 : Int32))) HN HB (Q1 : ¬ (n < (0 : Int32))) (Q2 : ¬ ((70 : Int32) < n)) (Q0 : n = C)) hZ tw140 tw44 (by decide) (by decide)) (g := (mkF m 5 #[.val (.ref b)] [(.ref b), (.ref b101), (.ref b101)])) rfl (by rw [hml]; rfl) (Steps.refl _) (a := b101) (argsL := [(.ref b)]) (rest := [(.ref b101)]) (lenOf pd_Ljava_lang_StringBuilder__V rfl) rfl (Nat.le_of_eq rfl) (hb hby dk325) (fun _ _ => ⟨rfl, e101, (by decide : 1 + 1 ≤ _), (by decide : 4 + 70 ≤ _)⟩)
  dsimp only [Pt.U, Pt.locs, Pt.cells, Pt.slots] at X102 l102 y102 z102 st102 hQ102
  subst y102 z102
  obtain ⟨x_102, kx_102, rfl, Nq102, q102_0, q102_1, q102_2, q102_3, q102_4, q102_5⟩ := hQ102
  have N102 : Fr n0 L102 := by rw [l102]; exact Fr.app N0 Nq102
  refine Goes.step (S' := T102.setTop (mkF m 8 #[.val (.ref b)] [(.ref b101)])) (fun t k => st102.trans k) ?_
  refine Goes.leave (g := (mkF m 8 #[.val (.ref b)] [(.ref b101)])) X102 Bd.notSynchronized (v := (some (.ref b101))) (fun h => by rw [Bd.returns] at h; cases h) (fun fs hr => by jvm_step X102.here [X102.here.top, hx, (hb hby dk326), X102.method', Bd.returns, Value.isRef, FieldType.isReference]; (first | (intro acts; rw [hr _ acts rfl rfl rfl]) | rw [hr _ _ rfl rfl rfl]); exact Steps.refl _) rfl ?_ (by decide) (by decide)
  exact ⟨b101, x_102, kx_102, rfl, N102, (((Keep.refl _ []).ext E101).trans q102_0 (allS (Or.inr (Nat.le_of_eq g101.symm)) all0)), (Nat.le_of_eq g101.symm), (A101.keep q102_0), q102_3, q102_4, q102_2, q102_5⟩

theorem ef_rec (m : MethodId) (x0 : Addr) : entryFrame m #[(.ref x0)] 1 = mkF m 0 #[.val (.ref x0)] [] := by first | (simp [entryFrame, mkF, argsToLocals, Value.category]; done) | rfl
def Q_rec (Z : State) (a1 : Addr) (h0 : Heap) (n0 : Nat) (v : Option Value) (h : Heap) (L : List Loc) : Prop := v = none ∧ Fr n0 L ∧ h = h0
set_option maxRecDepth 65536 in
set_option maxHeartbeats 40000000 in
theorem rec (l : Launch) (Z : State) (a0 : Array Value) (hw : ∀ d ∈ tables_1, d.before a0 Z = true) (ws : List Jvm.Cond) (a1 : Addr) (h0 : Heap) (n0 : Nat) (Z0 : n0 ≤ h0.size) :
    MetFree l mth30 (head1 (Jvm.Cond.code mth30 jdk_30_method_1_code 1 none :: ws) rom20) (fun a U => a = #[(.ref a1)] ∧ Z.Warmed39 U.vm ∧ U.heap = h0) (fun _ _ _ _ _ => True) (fun _ U o U' => ∃ v L, o = .returned v ∧ Q_rec Z a1 h0 n0 v U'.heap L ∧ FrameEnd U o U' L rom20.cells rom20.slots) := by
  refine MetFree.of_bodySF (plainFor_of_name pnm5) hisR ?_
  intro p e s m args below meth c s₁ Bd hml0 hP hK
  obtain ⟨rfl, hZ, hh⟩ := hP
  have hx := Bd.exec
  have hby := Bd.bytes
  have hml : c.maxLocals = 1 := hml0
  have hown : s.vm.findClass "java/lang/Record" = some m.cls := findClass_of_methodNamed Bd.named
  have hnm := (name_of_methodNamed Bd.named Bd.method).1
  have X0 : Stand p l e rom20 s m #[(.ref a1)] below meth c s₁ [] 0 0 := Stand.of_body Bd
  have eh0 : s₁.heap = h0 := by rw [← hh, Bd.state]; rfl
  have N0 := Fr.nil n0
  have tw18 := own_hw hw 18 rfl
  have tw19 := own_hw hw 19 rfl
  have tw20 := own_hw hw 20 rfl
  show Goes p e below (Pq (Q_rec Z a1 h0 n0) s rom20.cells rom20.slots) (s₁.setTop (entryFrame m #[(.ref a1)] 1))
  refine Goes.step (S' := s₁.setTop (mkF m 0 #[.val (.ref a1)] [])) (fun t k => castTop (ef_rec m a1) k) ?_
  refine Goes.step (S' := s₁.setTop (mkF m 1 #[.val (.ref a1)] [(.ref a1)])) (fun t k => XS.aloadN X0.here hx rfl (hb hby dk327) rfl rfl k) ?_
  obtain ⟨T101, X101, e101, st101⟩ := initO X0 hx hZ hown tw18 tw19 tw20 eh0 (g := (mkF m 1 #[.val (.ref a1)] [(.ref a1)])) rfl (by rw [hml]; rfl) rfl (hb hby dk328) (by decide) (W := 0) (Nat.le_of_eq rfl) (by decide)
  refine Goes.step (S' := T101.setTop (mkF m 4 #[.val (.ref a1)] [])) (fun t k => st101 _ k) ?_
  refine Goes.leave (g := (mkF m 4 #[.val (.ref a1)] [])) X101 Bd.notSynchronized (v := none) (fun _ => rfl) (fun fs hr => X101.returnOut hx Bd.returns (hb hby dk329) hr) e101 ?_ (by decide) (by decide)
  exact ⟨rfl, N0, rfl⟩

theorem ef_prin (m : MethodId) (x0 : Addr) (x1 : Int64) (x2 : Int64) : entryFrame m #[(.ref x0), (.long x1), (.long x2)] 5 = mkF m 0 #[.val (.ref x0), .val (.long x1), .second, .val (.long x2), .second] [] := by first | (simp [entryFrame, mkF, argsToLocals, Value.category]; done) | rfl
def Q_prin (Z : State) (a1 : Addr) (lo : Int64) (hi : Int64) (h0 : Heap) (n0 : Nat) (v : Option Value) (h : Heap) (L : List Loc) : Prop := v = none ∧ Fr n0 L ∧ Keep h0 h [a1] ∧ Fld Z h a1 "com/example/uraniborg/uraniborg/model/PriorityRange" "min" "J" (.long lo) ∧ Fld Z h a1 "com/example/uraniborg/uraniborg/model/PriorityRange" "max" "J" (.long hi)
set_option maxRecDepth 65536 in
set_option maxHeartbeats 40000000 in
theorem prin (l : Launch) (Z : State) (a0 : Array Value) (hw : ∀ d ∈ tables_1, d.before a0 Z = true) (ws : List Jvm.Cond) (a1 : Addr) (lo : Int64) (hi : Int64) (h0 : Heap) (n0 : Nat) (Z0 : n0 ≤ h0.size) (E1 : Exa Z h0 a1 "com/example/uraniborg/uraniborg/model/PriorityRange") (G1 : n0 ≤ a1) (Fm : Fld Z h0 a1 "com/example/uraniborg/uraniborg/model/PriorityRange" "min" "J" (.long (0 : Int64))) (FM : Fld Z h0 a1 "com/example/uraniborg/uraniborg/model/PriorityRange" "max" "J" (.long (0 : Int64))) (Q0 : ¬ (hi < lo)) :
    MetFree l mth31 (head1 (Jvm.Cond.code mth31 prog_12_method_1_code 5 none :: ws) rom27) (fun a U => a = #[(.ref a1), (.long lo), (.long hi)] ∧ Z.Warmed39 U.vm ∧ U.heap = h0) (fun _ _ _ _ _ => True) (fun _ U o U' => ∃ v L, o = .returned v ∧ Q_prin Z a1 lo hi h0 n0 v U'.heap L ∧ FrameEnd U o U' L rom27.cells rom27.slots) := by
  refine MetFree.of_bodySF (plainFor_of_name pnm6) hisR ?_
  intro p e s m args below meth c s₁ Bd hml0 hP hK
  obtain ⟨rfl, hZ, hh⟩ := hP
  have hx := Bd.exec
  have hby := Bd.bytes
  have hml : c.maxLocals = 5 := hml0
  have hown : s.vm.findClass "com/example/uraniborg/uraniborg/model/PriorityRange" = some m.cls := findClass_of_methodNamed Bd.named
  have hnm := (name_of_methodNamed Bd.named Bd.method).1
  have X0 : Stand p l e rom27 s m #[(.ref a1), (.long lo), (.long hi)] below meth c s₁ [] 0 0 := Stand.of_body Bd
  have eh0 : s₁.heap = h0 := by rw [← hh, Bd.state]; rfl
  have N0 := Fr.nil n0
  have tw8 := own_hw hw 8 rfl
  have tw13 := own_hw hw 13 rfl
  have tw14 := own_hw hw 14 rfl
  have tw16 := own_hw hw 16 rfl
  have tw17 := own_hw hw 17 rfl
  have tw21 := own_hw hw 21 rfl
  have tw22 := own_hw hw 22 rfl
  have tw23 := own_hw hw 23 rfl
  have tw24 := own_hw hw 24 rfl
  show Goes p e below (Pq (Q_prin Z a1 lo hi h0 n0) s rom27.cells rom27.slots) (s₁.setTop (entryFrame m #[(.ref a1), (.long lo), (.long hi)] 5))
  refine Goes.step (S' := s₁.setTop (mkF m 0 #[.val (.ref a1), .val (.long lo), .second, .val (.long hi), .second] [])) (fun t k => castTop (ef_prin m a1 lo hi) k) ?_
  refine Goes.step (S' := s₁.setTop (mkF m 1 #[.val (.ref a1), .val (.long lo), .second, .val (.long hi), .second] [(.ref a1)])) (fun t k => XS.aloadN X0.here hx rfl (hb hby dk330) rfl rfl k) ?_
  obtain ⟨_, _, ⟨T101, L101, k101, n101⟩, -, X101, ⟨Lc101, hQ101, l101, y101, z101⟩, st101⟩ := X0.specialBack hx (y := mth30) rfl hown (mvT hZ tw13) (mvT hZ tw14) (mvT hZ tw17) (by decide) (backOf (W := 0) (rec l Z a0 hw [] a1 h0 n0 Z0 ) hZ tw17 tw16 (by decide) (by decide)) (g := (mkF m 1 #[.val (.ref a1), .val (.long lo), .second, .val (.long hi), .second] [(.ref a1)])) rfl (by rw [hml]; rfl) (Steps.refl _) (a := a1) (argsL := []) (rest := []) (lenOf pd_V rfl) rfl (Nat.le_of_eq rfl) (hb hby dk331) (fun _ _ => ⟨rfl, eh0, (by decide : 0 + 0 ≤ _), (by decide : 0 + 0 ≤ _)⟩)
  dsimp only [Pt.U, Pt.locs, Pt.cells, Pt.slots] at X101 l101 y101 z101 st101 hQ101
  subst y101 z101
  obtain ⟨rfl, Nq101, q101_0⟩ := hQ101
  have N101 : Fr n0 L101 := by rw [l101]; exact Fr.app N0 Nq101
  refine Goes.step (S' := T101.setTop (mkF m 48 #[.val (.ref a1), .val (.long lo), .second, .val (.long hi), .second] [(.long lo), (.ref a1)])) (fun t k => st101.trans (XS.lloadN X101.here hx rfl (hb hby dk332) rfl (XS.lloadN X101.here hx rfl (hb hby dk333) rfl (XS.lcmp X101.here hx rfl (hb hby dk334) rfl (XS.ifYes X101.here hx rfl (pc0 := 7) (pc' := 46) rfl (hb hby dk335) rfl ((if0 _ _).trans (flt ((by have u0:=Q0; have u1:=rng64 hi; have u2:=rng64 lo; have u3:=rng32 (lcmpW lo hi); have u4:=c_lcmp lo hi; (try simp only [Int32.lt_iff_toInt_lt, Int64.lt_iff_toInt_lt, ne_eq, ← Int32.toInt_inj, ← Int64.toInt_inj, Int32.reduceToInt, Int64.reduceToInt, Nat.reducePow] at u0 u1 u2 u3 u4 ⊢); try omega) : ¬ ((0 : Int32) < (lcmpW lo hi)))).2.2.2) (by decide) (by decide) (XS.aloadN X101.here hx rfl (hb hby dk336) rfl rfl (XS.lloadN X101.here hx rfl (hb hby dk337) rfl k))))))) ?_
  obtain ⟨T103, h103, X103, e103, W103, st103⟩ := putF X101 hx hZ hown (host := "") (Or.inl tw21) Via.refl q101_0 Fm E1 (Or.inr ⟨tw22, rfl, hnm⟩) tw8 (ty := .long) (by decide) rfl rfl (g := (mkF m 48 #[.val (.ref a1), .val (.long lo), .second, .val (.long hi), .second] [(.long lo), (.ref a1)])) rfl rfl (hb hby dk338)
  have Fw103 : Fld Z h103 a1 "com/example/uraniborg/uraniborg/model/PriorityRange" "min" "J" (.long lo) := Fld.same W103 Fm
  have N103 := Fr.snoc X103 N101 G1
  refine Goes.step (S' := T103.setTop (mkF m 53 #[.val (.ref a1), .val (.long lo), .second, .val (.long hi), .second] [(.long hi), (.ref a1)])) (fun t k => st103 _ (XS.aloadN X103.here hx rfl (hb hby dk339) rfl rfl (XS.lloadN X103.here hx rfl (hb hby dk340) rfl k))) ?_
  obtain ⟨T104, h104, X104, e104, W104, st104⟩ := putF X103 hx hZ hown (host := "") (Or.inl tw23) Via.refl e103 (Fld.other W103 FM (Or.inr (slot_ne (Or.inr tw24) (Or.inr tw22) (by decide) (t := .long) (t' := .long) (by decide) (by decide)))) (Exa.wr W103 E1) (Or.inr ⟨tw24, rfl, hnm⟩) tw8 (ty := .long) (by decide) rfl rfl (g := (mkF m 53 #[.val (.ref a1), .val (.long lo), .second, .val (.long hi), .second] [(.long hi), (.ref a1)])) rfl rfl (hb hby dk341)
  have Fw104 : Fld Z h104 a1 "com/example/uraniborg/uraniborg/model/PriorityRange" "max" "J" (.long hi) := Fld.same W104 (Fld.other W103 FM (Or.inr (slot_ne (Or.inr tw24) (Or.inr tw22) (by decide) (t := .long) (t' := .long) (by decide) (by decide))))
  have N104 := Fr.snoc X104 N103 G1
  refine Goes.step (S' := T104.setTop (mkF m 56 #[.val (.ref a1), .val (.long lo), .second, .val (.long hi), .second] [])) (fun t k => st104 _ k) ?_
  refine Goes.leave (g := (mkF m 56 #[.val (.ref a1), .val (.long lo), .second, .val (.long hi), .second] [])) X104 Bd.notSynchronized (v := none) (fun _ => rfl) (fun fs hr => X104.returnOut hx Bd.returns (hb hby dk342) hr) e104 ?_ (by decide) (by decide)
  exact ⟨rfl, N104, (((Keep.refl _ [a1]).wr W103 (Or.inl (List.mem_of_getElem? (i := 0) rfl))).wr W104 (Or.inl (List.mem_of_getElem? (i := 0) rfl))), (Fld.other W104 Fw103 (Or.inr (slot_ne (Or.inr tw22) (Or.inr tw24) (by decide) (t := .long) (t' := .long) (by decide) (by decide)))), Fw104⟩

theorem ef_prts (m : MethodId) (x0 : Addr) : entryFrame m #[(.ref x0)] 1 = mkF m 0 #[.val (.ref x0)] [] := by first | (simp [entryFrame, mkF, argsToLocals, Value.category]; done) | rfl
def Q_prts (Z : State) (a1 : Addr) (lo : Int64) (n1 : Nat) (hi : Int64) (n2 : Nat) (sz1 : Int32) (sz2 : Int32) (cs : Int32) (d1 : Addr) (d2 : Addr) (kd1 : ClassId) (kd2 : ClassId) (h0 : Heap) (n0 : Nat) (v : Option Value) (h : Heap) (L : List Loc) : Prop := ∃ (s1 : Addr) (x : Addr) (kx : ClassId) (N : Int32), v = some (.ref s1) ∧ Fr n0 L ∧ Keep h0 h [] ∧ Exa Z h s1 "java/lang/String" ∧ Fld Z h s1 "java/lang/String" "value" "[B" (.ref x) ∧ Fld Z h s1 "java/lang/String" "coder" "B" (.int (0 : Int32)) ∧ Arv Z h x kx .byte N (own_all lo n1 hi n2) (.int (0 : Int32)) ∧ N = Int32.ofNat (own_all lo n1 hi n2).length
set_option maxRecDepth 65536 in
set_option maxHeartbeats 40000000 in
theorem prts (l : Launch) (Z : State) (a0 : Array Value) (hw : ∀ d ∈ tables_1, d.before a0 Z = true) (ws : List Jvm.Cond) (a1 : Addr) (lo : Int64) (n1 : Nat) (hi : Int64) (n2 : Nat) (sz1 : Int32) (sz2 : Int32) (cs : Int32) (d1 : Addr) (d2 : Addr) (kd1 : ClassId) (kd2 : ClassId) (h0 : Heap) (n0 : Nat) (Z0 : n0 ≤ h0.size) (E1 : Exa Z h0 a1 "com/example/uraniborg/uraniborg/model/PriorityRange") (Fm : Fld Z h0 a1 "com/example/uraniborg/uraniborg/model/PriorityRange" "min" "J" (.long lo)) (FM : Fld Z h0 a1 "com/example/uraniborg/uraniborg/model/PriorityRange" "max" "J" (.long hi)) (SC : Sta Z h0 "java/lang/String" "COMPACT_STRINGS" "Z" (.int cs)) (PC : ¬ (cs = (0 : Int32))) (HA1 : own_abs lo n1) (HZ1 : sz1 = Int32.ofNat (own_rep lo n1).length) (BA1 : (0 : Int32) < sz1) (BB1 : ¬ ((21 : Int32) < sz1)) (HA2 : own_abs hi n2) (HZ2 : sz2 = Int32.ofNat (own_rep hi n2).length) (BA2 : (0 : Int32) < sz2) (BB2 : ¬ ((21 : Int32) < sz2)) (S1 : Sta Z h0 "java/lang/Integer" "DigitOnes" "[B" (.ref d1)) (W1 : Arv Z h0 d1 kd1 .byte (100 : Int32) own_ones (.int (0 : Int32))) (S2 : Sta Z h0 "java/lang/Integer" "DigitTens" "[B" (.ref d2)) (W2 : Arv Z h0 d2 kd2 .byte (100 : Int32) own_tens (.int (0 : Int32))) (HS : own_same Z) :
    MetFree l mth32 (head1 (Jvm.Cond.code mth32 prog_12_method_2_code 1 (some (.object "java/lang/String")) :: ws) rom28) (fun a U => a = #[(.ref a1)] ∧ Z.Warmed39 U.vm ∧ U.heap = h0 ∧ CHv Z own_EL U.vm h0) (fun _ _ _ _ _ => True) (fun _ U o U' => ∃ v L, o = .returned v ∧ Q_prts Z a1 lo n1 hi n2 sz1 sz2 cs d1 d2 kd1 kd2 h0 n0 v U'.heap L ∧ CHr Z own_EL U.vm U.heap U'.vm U'.heap ∧ ReturnedEndW U o U' L rom28.cells rom28.slots) := by
  refine MetFree.of_bodySF (plainFor_of_name pnm6) hisR ?_
  intro p e s m args below meth c s₁ Bd hml0 hP hK
  obtain ⟨rfl, hZ, hh, hC⟩ := hP
  have hx := Bd.exec
  have hby := Bd.bytes
  have hml : c.maxLocals = 1 := hml0
  have hown : s.vm.findClass "com/example/uraniborg/uraniborg/model/PriorityRange" = some m.cls := findClass_of_methodNamed Bd.named
  have hnm := (name_of_methodNamed Bd.named Bd.method).1
  have X0 : Stand p l e rom28 s m #[(.ref a1)] below meth c s₁ [] 0 0 := Stand.of_body Bd
  replace X0 : Stand p l e rom28 (s.setVm s.vm) m #[(.ref a1)] below meth c s₁ [] 0 0 := X0
  have hZ0 := hZ
  have hown0 := hown
  have hS0 := own_s0 s h0.size
  have CR0 : CHr Z own_EL s.vm h0 s.vm h0 := CHr.refl hC
  have eh0 : s₁.heap = h0 := by rw [← hh, Bd.state]; rfl
  have N0 := Fr.nil n0
  have tw21 := own_hw hw 21 rfl
  have tw23 := own_hw hw 23 rfl
  have tw30 := own_hw hw 30 rfl
  have tw31 := own_hw hw 31 rfl
  have tw32 := own_hw hw 32 rfl
  have tw33 := own_hw hw 33 rfl
  have tw34 := own_hw hw 34 rfl
  have tw35 := own_hw hw 35 rfl
  have tw47 := own_hw hw 47 rfl
  have tw49 := own_hw hw 49 rfl
  have tw50 := own_hw hw 50 rfl
  have tw51 := own_hw hw 51 rfl
  have tw52 := own_hw hw 52 rfl
  have tw53 := own_hw hw 53 rfl
  have tw54 := own_hw hw 54 rfl
  have tw61 := own_hw hw 61 rfl
  have tw83 := own_hw hw 83 rfl
  have tw89 := own_hw hw 89 rfl
  have tw90 := own_hw hw 90 rfl
  have tw91 := own_hw hw 91 rfl
  have tw92 := own_hw hw 92 rfl
  have tw93 := own_hw hw 93 rfl
  have tw131 := own_hw hw 131 rfl
  have tw132 := own_hw hw 132 rfl
  have tw133 := own_hw hw 133 rfl
  have tw134 := own_hw hw 134 rfl
  have tw135 := own_hw hw 135 rfl
  show Goes p e below (Ph Z own_EL (Q_prts Z a1 lo n1 hi n2 sz1 sz2 cs d1 d2 kd1 kd2 h0 n0) s rom28.cells rom28.slots) (s₁.setTop (entryFrame m #[(.ref a1)] 1))
  refine Goes.step (S' := s₁.setTop (mkF m 0 #[.val (.ref a1)] [])) (fun t k => castTop (ef_prts m a1) k) ?_
  obtain ⟨T101, h101, X101, e101, E101, A101, D101, U101, st101⟩ := newO X0 hx hZ hown tw30 tw31 tw32 eh0 (g := (mkF m 0 #[.val (.ref a1)] [])) rfl (hb hby dk343) (by decide) (by decide)
  obtain ⟨b101, g101⟩ : ∃ z, z = h0.size := ⟨_, rfl⟩
  rw [← g101] at A101 D101 U101 st101
  have F101_value : Fld Z h101 b101 "java/lang/AbstractStringBuilder" "value" "[B" .null := D101 (Or.inl tw47) (ty := (.array .byte)) (by decide)
  have F101_coder : Fld Z h101 b101 "java/lang/AbstractStringBuilder" "coder" "B" (.int (0 : Int32)) := D101 (Or.inl tw49) (ty := .byte) (by decide)
  have F101_count : Fld Z h101 b101 "java/lang/AbstractStringBuilder" "count" "I" (.int (0 : Int32)) := D101 (Or.inl tw61) (ty := .int) (by decide)
  refine Goes.step (S' := T101.setTop (mkF m 4 #[.val (.ref a1)] [(.ref b101), (.ref b101)])) (fun t k => st101 _ (XS.dup X101.here hx rfl (hb hby dk344) rfl rfl k)) ?_
  obtain ⟨_, _, ⟨T102, L102, k102, n102⟩, -, X102, ⟨Lc102, hQ102, l102, y102, z102⟩, st102⟩ := X101.specialBack hx (y := mth1) rfl hown (mvT hZ tw33) (mvT hZ tw34) (mvT hZ tw35) (by decide) (backOf (W := 1) (sini l Z a0 hw [] b101 cs h101 n0 (Nat.le_trans Z0 E101.1) A101 (Nat.le_trans Z0 (Nat.le_of_eq g101.symm)) F101_value F101_coder F101_count (Sta.ext E101 SC) (PC : ¬ (cs = (0 : Int32)))) hZ tw35 tw32 (by decide) (by decide)) (g := (mkF m 4 #[.val (.ref a1)] [(.ref b101), (.ref b101)])) rfl (by rw [hml]; rfl) (Steps.refl _) (a := b101) (argsL := []) (rest := [(.ref b101)]) (lenOf pd_V rfl) rfl (Nat.le_of_eq rfl) (hb hby dk345) (fun _ _ => ⟨rfl, e101, (by decide : 1 + 1 ≤ _), (by decide : 4 + 16 ≤ _)⟩)
  dsimp only [Pt.U, Pt.locs, Pt.cells, Pt.slots] at X102 l102 y102 z102 st102 hQ102
  subst y102 z102
  obtain ⟨va_102, kv_102, rfl, Nq102, q102_0, q102_1, q102_2, q102_3, q102_4, q102_5, q102_6⟩ := hQ102
  have N102 : Fr n0 L102 := by rw [l102]; exact Fr.app N0 Nq102
  refine Goes.step (S' := T102.setTop (mkF m 8 #[.val (.ref a1)] [(.ref a1), (.ref b101)])) (fun t k => st102.trans (XS.aloadN X102.here hx rfl (hb hby dk346) rfl rfl k)) ?_
  obtain ⟨T103, X103, e103, st103⟩ := getF X102 hx hZ hown (host := "") (Or.inl tw21) Via.refl rfl ((Fld.ext E101 Fm).keep q102_0 (ninS (Nat.ne_of_lt (Nat.lt_of_lt_of_le E1.lt (Nat.le_of_eq g101.symm))) nin0)) (g := (mkF m 8 #[.val (.ref a1)] [(.ref a1), (.ref b101)])) rfl rfl (hb hby dk347)
  refine Goes.step (S' := T103.setTop (mkF m 11 #[.val (.ref a1)] [(.long lo), (.ref b101)])) (fun t k => st103 _ k) ?_
  by_cases hc104 : (16 : Int32) < ((0 : Int32) + sz1)
  case pos =>
    obtain ⟨cq105, kq105, q105a, q105b, q105c⟩ := isOf hZ e103 (A101.keep q102_0)
    obtain ⟨_, _, ⟨T105, L105, k105, n105⟩, -, X105, ⟨Lc105, hQ105, l105, y105, z105⟩, st105⟩ := X103.virtualBack hx (y := mth12) (z := mth12) hown (mvT hZ tw50) (mvT hZ tw51) (notFace_of_selects (args := #[]) (mvT hZ tw53)) (mvT hZ tw53) (mvT hZ tw52) (by decide) (backOf (W := 0) (sjg l Z a0 hw [] b101 va_102 kv_102 (16 : Int32) ([] : List Value) (0 : Int32) cs lo n1 sz1 d1 d2 kd1 kd2 (34 : Int32) T102.heap n0 (Nat.le_trans Z0 (Nat.le_trans E101.1 q102_0.1)) (A101.keep q102_0) (Nat.le_trans Z0 (Nat.le_of_eq g101.symm)) q102_2 (Nat.le_trans Z0 (Nat.le_trans E101.1 q102_1)) q102_3 q102_4 q102_5 q102_6 (own_stakeep (Sta.ext E101 SC) q102_0 (nsS A101.nostat ns0)) (PC : ¬ (cs = (0 : Int32))) rfl (Nat.zero_le _) ((by decide) : ¬ ((0 : Int32) < (0 : Int32))) ((by decide) : ¬ ((40 : Int32) < (0 : Int32))) ((by decide) : ¬ ((16 : Int32) < (0 : Int32))) ((by decide) : ¬ ((70 : Int32) < (16 : Int32))) HA1 HZ1 (BA1 : (0 : Int32) < sz1) (BB1 : ¬ ((21 : Int32) < sz1)) (own_stakeep (Sta.ext E101 S1) q102_0 (nsS A101.nostat ns0)) ((W1.ext E101).keep q102_0 (ninS (Nat.ne_of_lt (Nat.lt_of_lt_of_le W1.lt (Nat.le_of_eq g101.symm))) nin0)) (own_stakeep (Sta.ext E101 S2) q102_0 (nsS A101.nostat ns0)) ((W2.ext E101).keep q102_0 (ninS (Nat.ne_of_lt (Nat.lt_of_lt_of_le W2.lt (Nat.le_of_eq g101.symm))) nin0)) HS (Ne.symm (Nat.ne_of_lt (Nat.lt_of_lt_of_le W1.lt (Nat.le_trans E101.1 q102_1)))) (Ne.symm (Nat.ne_of_lt (Nat.lt_of_lt_of_le W2.lt (Nat.le_trans E101.1 q102_1)))) (hc104 : (16 : Int32) < ((0 : Int32) + sz1)) ((by have u0:=PC; have u1:=BA1; have u2:=BB1; have u3:=BA2; have u4:=BB2; have u5:=hc104; have u6:=rng32 cs; have u7:=rng32 sz1; have u8:=rng32 sz2; have u9:=rng32 ((0 : Int32) + sz1); have u10:=c_iadd (0 : Int32) sz1; (try simp only [Int32.lt_iff_toInt_lt, Int64.lt_iff_toInt_lt, ne_eq, ← Int32.toInt_inj, ← Int64.toInt_inj, Int32.reduceToInt, Int64.reduceToInt, Nat.reducePow] at u0 u1 u2 u3 u4 u5 u6 u7 u8 u9 u10 ⊢); try omega) : ¬ ((34 : Int32) < ((0 : Int32) + sz1))) ((by have u0:=PC; have u1:=BA1; have u2:=BB1; have u3:=BA2; have u4:=BB2; have u5:=hc104; have u6:=rng32 cs; have u7:=rng32 sz1; have u8:=rng32 sz2; have u9:=rng32 ((0 : Int32) + sz1); have u10:=c_iadd (0 : Int32) sz1; have u11:=rng32 ((16 : Int32) + ((16 : Int32) + (2 : Int32))); have u12:=c_iadd (16 : Int32) ((16 : Int32) + (2 : Int32)); have u13:=rng32 ((16 : Int32) + (2 : Int32)); have u14:=c_iadd (16 : Int32) (2 : Int32); (try simp only [Int32.lt_iff_toInt_lt, Int64.lt_iff_toInt_lt, ne_eq, ← Int32.toInt_inj, ← Int64.toInt_inj, Int32.reduceToInt, Int64.reduceToInt, Nat.reducePow] at u0 u1 u2 u3 u4 u5 u6 u7 u8 u9 u10 u11 u12 u13 u14 ⊢); try omega) : ¬ ((34 : Int32) < ((16 : Int32) + ((16 : Int32) + (2 : Int32))))) ((by decide) : ¬ ((70 : Int32) < (34 : Int32))) ((by decide) : ¬ ((16 : Int32) < (0 : Int32)))) hZ tw54 tw32 (by decide) (by decide)) q105a q105c (g := (mkF m 11 #[.val (.ref a1)] [(.long lo), (.ref b101)])) rfl (by rw [hml]; rfl) (Steps.refl _) (argsL := [(.long lo)]) (rest := []) (lenOf pd_J_Ljava_lang_StringBuilder rfl) rfl (Nat.le_of_eq rfl) (hb hby dk348) (fun _ _ => ⟨rfl, e103, (by decide : 2 + 1 ≤ _), (by decide : 20 + 70 ≤ _)⟩)
    dsimp only [Pt.U, Pt.locs, Pt.cells, Pt.slots] at X105 l105 y105 z105 st105 hQ105
    subst y105 z105
    obtain ⟨va2_105, kv2_105, C2_105, rfl, Nq105, q105_0, q105_1, q105_2, q105_3, q105_4, q105_5, q105_6, q105_7, q105_8, q105_9⟩ := hQ105
    have N105 : Fr n0 L105 := by rw [l105]; exact Fr.app N102 Nq105
    refine Goes.step (S' := T105.setTop (mkF m 14 #[.val (.ref a1)] [(.ref b101)])) (fun t k => st105.trans k) ?_
    have CR109 := CR0.trans (CHr.ext E101 CR0.1)
    have CR110 := CR109.trans (CHr.keep q102_0 (sfS (Safe.exa hZ.alike A101 (by decide) (by decide)) sf0) CR109.1)
    have Q110_va_102 := Safe.keep q102_0 (sfS (Safe.exa hZ.alike A101 (by decide) (by decide)) sf0) CR109.1 (Safe.new q102_1)
    have CR111 := CR110.trans (CHr.keep q105_0 (sfS (Safe.exa hZ.alike (A101.keep q102_0) (by decide) (by decide)) sf0) CR110.1)
    have Q111_va_102 := Safe.keep q105_0 (sfS (Safe.exa hZ.alike (A101.keep q102_0) (by decide) (by decide)) sf0) CR110.1 Q110_va_102
    have Q111_va2_105 := Safe.keep q105_0 (sfS (Safe.exa hZ.alike (A101.keep q102_0) (by decide) (by decide)) sf0) CR110.1 (Safe.new q105_1)
    obtain ⟨b108, T108, h108, k108, v108, kv108, X108, e108, E108, hS108, hk108, hZ, hown, Ea108, Fc108, Fv108, Va108, lta108, ltb108, CX108, Lt108, Sn108, st108⟩ := ldcCH (s := s) (EL := own_EL) X105 hx hZ hown tw83 (fun d hd => hw d (own_sin d hd)) rfl hS0 (Nat.le_trans (Nat.le_refl _) (Nat.le_trans (Nat.le_trans E101.1 q102_0.1) q105_0.1)) (own_ew hw) (by decide) CR111.1 (vs := [(.int (46 : Int32)), (.int (46 : Int32))]) (z := (2 : Int32)) ⟨by decide +kernel, by decide +kernel⟩ (by decide) (by decide +kernel) (g := (mkF m 14 #[.val (.ref a1)] [(.ref b101)])) rfl (hb hby dk349) (n := 8) (by decide +kernel) (by decide) (by decide) (by decide)
    have CR108 := CR111.trans CX108
    have Q108_va_102 := CX108.safe (q102_2.keep q105_0).lt Q111_va_102
    have Q108_va2_105 := CX108.safe q105_2.lt Q111_va2_105
    refine Goes.step (S' := T108.setTop (mkF m 16 #[.val (.ref a1)] [(.ref b108), (.ref b101)])) (fun t k => st108 _ k) ?_
    have hc112 : ¬ (C2_105 < (((0 : Int32) + sz1) + (2 : Int32))) := (by have u0:=PC; have u1:=BA1; have u2:=BB1; have u3:=BA2; have u4:=BB2; have u5:=hc104; have u6:=q105_7; have u7:=q105_8; have u8:=q105_9; have u9:=rng32 cs; have u10:=rng32 sz1; have u11:=rng32 sz2; have u12:=rng32 ((0 : Int32) + sz1); have u13:=c_iadd (0 : Int32) sz1; have u14:=rng32 C2_105; have u15:=rng32 ((16 : Int32) + ((16 : Int32) + (2 : Int32))); have u16:=c_iadd (16 : Int32) ((16 : Int32) + (2 : Int32)); have u17:=rng32 ((16 : Int32) + (2 : Int32)); have u18:=c_iadd (16 : Int32) (2 : Int32); have u19:=rng32 (((0 : Int32) + sz1) + (2 : Int32)); have u20:=c_iadd ((0 : Int32) + sz1) (2 : Int32); (try simp only [Int32.lt_iff_toInt_lt, Int64.lt_iff_toInt_lt, ne_eq, ← Int32.toInt_inj, ← Int64.toInt_inj, Int32.reduceToInt, Int64.reduceToInt, Nat.reducePow] at u0 u1 u2 u3 u4 u5 u6 u7 u8 u9 u10 u11 u12 u13 u14 u15 u16 u17 u18 u19 u20 ⊢); try omega)
    obtain ⟨cq114, kq114, q114a, q114b, q114c⟩ := isOf hZ e108 (Exa.ext E108 ((A101.keep q102_0).keep q105_0))
    obtain ⟨_, _, ⟨T114, L114, k114, n114⟩, -, X114, ⟨Lc114, hQ114, l114, y114, z114⟩, st114⟩ := X108.virtualBack hx (y := mth20) (z := mth20) hown (mvT hZ tw89) (mvT hZ tw90) (notFace_of_selects (args := #[]) (mvT hZ tw92)) (mvT hZ tw92) (mvT hZ tw91) (by decide) (backOf (W := 0) (sas l Z a0 hw [] b101 va2_105 kv2_105 C2_105 (([] : List Value) ++ own_rep lo n1) ((0 : Int32) + sz1) cs b108 v108 kv108 h108 n0 (Nat.le_trans Z0 (Nat.le_trans (Nat.le_trans (Nat.le_trans E101.1 q102_0.1) q105_0.1) E108.1)) (Exa.ext E108 ((A101.keep q102_0).keep q105_0)) (Nat.le_trans Z0 (Nat.le_of_eq g101.symm)) (Exa.ext E108 q105_2) (Nat.le_trans Z0 (Nat.le_trans (Nat.le_trans E101.1 q102_0.1) q105_1)) (Fld.ext E108 q105_3) (Fld.ext E108 q105_4) (Fld.ext E108 q105_5) (q105_6.ext E108) (Sta.ext E108 (own_stakeep (own_stakeep (Sta.ext E101 SC) q102_0 (nsS A101.nostat ns0)) q105_0 (nsS (A101.keep q102_0).nostat ns0))) (PC : ¬ (cs = (0 : Int32))) (own_idx2 rfl HZ1) (own_b1 _ _) ((by have u0:=PC; have u1:=BA1; have u2:=BB1; have u3:=BA2; have u4:=BB2; have u5:=hc104; have u6:=q105_7; have u7:=q105_8; have u8:=q105_9; have u9:=hc112; have u10:=rng32 cs; have u11:=rng32 sz1; have u12:=rng32 sz2; have u13:=rng32 ((0 : Int32) + sz1); have u14:=c_iadd (0 : Int32) sz1; have u15:=rng32 C2_105; have u16:=rng32 ((16 : Int32) + ((16 : Int32) + (2 : Int32))); have u17:=c_iadd (16 : Int32) ((16 : Int32) + (2 : Int32)); have u18:=rng32 ((16 : Int32) + (2 : Int32)); have u19:=c_iadd (16 : Int32) (2 : Int32); have u20:=rng32 (((0 : Int32) + sz1) + (2 : Int32)); have u21:=c_iadd ((0 : Int32) + sz1) (2 : Int32); (try simp only [Int32.lt_iff_toInt_lt, Int64.lt_iff_toInt_lt, ne_eq, ← Int32.toInt_inj, ← Int64.toInt_inj, Int32.reduceToInt, Int64.reduceToInt, Nat.reducePow] at u0 u1 u2 u3 u4 u5 u6 u7 u8 u9 u10 u11 u12 u13 u14 u15 u16 u17 u18 u19 u20 u21 ⊢); try omega) : ¬ (((0 : Int32) + sz1) < (0 : Int32))) ((by have u0:=PC; have u1:=BA1; have u2:=BB1; have u3:=BA2; have u4:=BB2; have u5:=hc104; have u6:=q105_7; have u7:=q105_8; have u8:=q105_9; have u9:=hc112; have u10:=rng32 cs; have u11:=rng32 sz1; have u12:=rng32 sz2; have u13:=rng32 ((0 : Int32) + sz1); have u14:=c_iadd (0 : Int32) sz1; have u15:=rng32 C2_105; have u16:=rng32 ((16 : Int32) + ((16 : Int32) + (2 : Int32))); have u17:=c_iadd (16 : Int32) ((16 : Int32) + (2 : Int32)); have u18:=rng32 ((16 : Int32) + (2 : Int32)); have u19:=c_iadd (16 : Int32) (2 : Int32); have u20:=rng32 (((0 : Int32) + sz1) + (2 : Int32)); have u21:=c_iadd ((0 : Int32) + sz1) (2 : Int32); (try simp only [Int32.lt_iff_toInt_lt, Int64.lt_iff_toInt_lt, ne_eq, ← Int32.toInt_inj, ← Int64.toInt_inj, Int32.reduceToInt, Int64.reduceToInt, Nat.reducePow] at u0 u1 u2 u3 u4 u5 u6 u7 u8 u9 u10 u11 u12 u13 u14 u15 u16 u17 u18 u19 u20 u21 ⊢); try omega) : ¬ ((40 : Int32) < ((0 : Int32) + sz1))) ((by have u0:=PC; have u1:=BA1; have u2:=BB1; have u3:=BA2; have u4:=BB2; have u5:=hc104; have u6:=q105_7; have u7:=q105_8; have u8:=q105_9; have u9:=hc112; have u10:=rng32 cs; have u11:=rng32 sz1; have u12:=rng32 sz2; have u13:=rng32 ((0 : Int32) + sz1); have u14:=c_iadd (0 : Int32) sz1; have u15:=rng32 C2_105; have u16:=rng32 ((16 : Int32) + ((16 : Int32) + (2 : Int32))); have u17:=c_iadd (16 : Int32) ((16 : Int32) + (2 : Int32)); have u18:=rng32 ((16 : Int32) + (2 : Int32)); have u19:=c_iadd (16 : Int32) (2 : Int32); have u20:=rng32 (((0 : Int32) + sz1) + (2 : Int32)); have u21:=c_iadd ((0 : Int32) + sz1) (2 : Int32); (try simp only [Int32.lt_iff_toInt_lt, Int64.lt_iff_toInt_lt, ne_eq, ← Int32.toInt_inj, ← Int64.toInt_inj, Int32.reduceToInt, Int64.reduceToInt, Nat.reducePow] at u0 u1 u2 u3 u4 u5 u6 u7 u8 u9 u10 u11 u12 u13 u14 u15 u16 u17 u18 u19 u20 u21 ⊢); try omega) : ¬ (C2_105 < (0 : Int32))) ((by have u0:=PC; have u1:=BA1; have u2:=BB1; have u3:=BA2; have u4:=BB2; have u5:=hc104; have u6:=q105_7; have u7:=q105_8; have u8:=q105_9; have u9:=hc112; have u10:=rng32 cs; have u11:=rng32 sz1; have u12:=rng32 sz2; have u13:=rng32 ((0 : Int32) + sz1); have u14:=c_iadd (0 : Int32) sz1; have u15:=rng32 C2_105; have u16:=rng32 ((16 : Int32) + ((16 : Int32) + (2 : Int32))); have u17:=c_iadd (16 : Int32) ((16 : Int32) + (2 : Int32)); have u18:=rng32 ((16 : Int32) + (2 : Int32)); have u19:=c_iadd (16 : Int32) (2 : Int32); have u20:=rng32 (((0 : Int32) + sz1) + (2 : Int32)); have u21:=c_iadd ((0 : Int32) + sz1) (2 : Int32); (try simp only [Int32.lt_iff_toInt_lt, Int64.lt_iff_toInt_lt, ne_eq, ← Int32.toInt_inj, ← Int64.toInt_inj, Int32.reduceToInt, Int64.reduceToInt, Nat.reducePow] at u0 u1 u2 u3 u4 u5 u6 u7 u8 u9 u10 u11 u12 u13 u14 u15 u16 u17 u18 u19 u20 u21 ⊢); try omega) : ¬ ((70 : Int32) < C2_105)) Ea108 Fv108 Fc108 Va108 (Ne.symm (Sn108 _ Q108_va2_105).2) (hc112 : ¬ (C2_105 < (((0 : Int32) + sz1) + (2 : Int32))))) hZ tw93 tw32 (by decide) (by decide)) q114a q114c (g := (mkF m 16 #[.val (.ref a1)] [(.ref b108), (.ref b101)])) rfl (by rw [hml]; rfl) (Steps.refl _) (argsL := [(.ref b108)]) (rest := []) (lenOf pd_Ljava_lang_String__Ljava_lang_StringBuilder rfl) rfl (Nat.le_of_eq rfl) (hb hby dk350) (fun _ _ => ⟨rfl, e108, (by decide : 5 + 0 ≤ _), (by decide : 102 + 0 ≤ _)⟩)
    dsimp only [Pt.U, Pt.locs, Pt.cells, Pt.slots] at X114 l114 y114 z114 st114 hQ114
    subst y114 z114
    obtain ⟨rfl, Nq114, q114_0, q114_1, q114_2, q114_3, q114_4⟩ := hQ114
    have N114 : Fr n0 L114 := by rw [l114]; exact Fr.app N105 Nq114
    refine Goes.step (S' := T114.setTop (mkF m 20 #[.val (.ref a1)] [(.ref a1), (.ref b101)])) (fun t k => st114.trans (XS.aloadN X114.here hx rfl (hb hby dk351) rfl rfl k)) ?_
    obtain ⟨T119, X119, e119, st119⟩ := getF X114 hx hZ hown (host := "") (Or.inl tw23) Via.refl rfl ((Fld.ext E108 (((Fld.ext E101 FM).keep q102_0 (ninS (Nat.ne_of_lt (Nat.lt_of_lt_of_le E1.lt (Nat.le_of_eq g101.symm))) nin0)).keep q105_0 (ninS (Nat.ne_of_lt (Nat.lt_of_lt_of_le E1.lt (Nat.le_of_eq g101.symm))) nin0))).keep q114_0 (ninS (Nat.ne_of_lt (Nat.lt_of_lt_of_le E1.lt (Nat.le_of_eq g101.symm))) (ninS (Nat.ne_of_lt (Nat.lt_of_lt_of_le E1.lt (Nat.le_trans (Nat.le_trans E101.1 q102_0.1) q105_1))) nin0))) (g := (mkF m 20 #[.val (.ref a1)] [(.ref a1), (.ref b101)])) rfl rfl (hb hby dk352)
    refine Goes.step (S' := T119.setTop (mkF m 23 #[.val (.ref a1)] [(.long hi), (.ref b101)])) (fun t k => st119 _ k) ?_
    by_cases hc120 : C2_105 < ((((0 : Int32) + sz1) + (2 : Int32)) + sz2)
    case pos =>
      obtain ⟨cq121, kq121, q121a, q121b, q121c⟩ := isOf hZ e119 ((Exa.ext E108 ((A101.keep q102_0).keep q105_0)).keep q114_0)
      obtain ⟨_, _, ⟨T121, L121, k121, n121⟩, -, X121, ⟨Lc121, hQ121, l121, y121, z121⟩, st121⟩ := X119.virtualBack hx (y := mth12) (z := mth12) hown (mvT hZ tw50) (mvT hZ tw51) (notFace_of_selects (args := #[]) (mvT hZ tw53)) (mvT hZ tw53) (mvT hZ tw52) (by decide) (backOf (W := 0) (sjg l Z a0 hw [] b101 va2_105 kv2_105 C2_105 ((([] : List Value) ++ own_rep lo n1) ++ [(.int (46 : Int32)), (.int (46 : Int32))]) (((0 : Int32) + sz1) + (2 : Int32)) cs hi n2 sz2 d1 d2 kd1 kd2 (70 : Int32) T114.heap n0 (Nat.le_trans Z0 (Nat.le_trans (Nat.le_trans (Nat.le_trans (Nat.le_trans E101.1 q102_0.1) q105_0.1) E108.1) q114_0.1)) ((Exa.ext E108 ((A101.keep q102_0).keep q105_0)).keep q114_0) (Nat.le_trans Z0 (Nat.le_of_eq g101.symm)) ((Exa.ext E108 q105_2).keep q114_0) (Nat.le_trans Z0 (Nat.le_trans (Nat.le_trans E101.1 q102_0.1) q105_1)) q114_1 q114_2 q114_3 q114_4 (own_stakeep (Sta.ext E108 (own_stakeep (own_stakeep (Sta.ext E101 SC) q102_0 (nsS A101.nostat ns0)) q105_0 (nsS (A101.keep q102_0).nostat ns0))) q114_0 (nsS (Exa.ext E108 ((A101.keep q102_0).keep q105_0)).nostat (nsS (Exa.ext E108 q105_2).nostat ns0))) (PC : ¬ (cs = (0 : Int32))) (own_idx2 (own_idx2 rfl HZ1) rfl) (own_b2 _ _ _ _) ((by have u0:=PC; have u1:=BA1; have u2:=BB1; have u3:=BA2; have u4:=BB2; have u5:=hc104; have u6:=q105_7; have u7:=q105_8; have u8:=q105_9; have u9:=hc112; have u10:=hc120; have u11:=rng32 cs; have u12:=rng32 sz1; have u13:=rng32 sz2; have u14:=rng32 ((0 : Int32) + sz1); have u15:=c_iadd (0 : Int32) sz1; have u16:=rng32 C2_105; have u17:=rng32 ((16 : Int32) + ((16 : Int32) + (2 : Int32))); have u18:=c_iadd (16 : Int32) ((16 : Int32) + (2 : Int32)); have u19:=rng32 ((16 : Int32) + (2 : Int32)); have u20:=c_iadd (16 : Int32) (2 : Int32); have u21:=rng32 (((0 : Int32) + sz1) + (2 : Int32)); have u22:=c_iadd ((0 : Int32) + sz1) (2 : Int32); have u23:=rng32 ((((0 : Int32) + sz1) + (2 : Int32)) + sz2); have u24:=c_iadd (((0 : Int32) + sz1) + (2 : Int32)) sz2; (try simp only [Int32.lt_iff_toInt_lt, Int64.lt_iff_toInt_lt, ne_eq, ← Int32.toInt_inj, ← Int64.toInt_inj, Int32.reduceToInt, Int64.reduceToInt, Nat.reducePow] at u0 u1 u2 u3 u4 u5 u6 u7 u8 u9 u10 u11 u12 u13 u14 u15 u16 u17 u18 u19 u20 u21 u22 u23 u24 ⊢); try omega) : ¬ ((((0 : Int32) + sz1) + (2 : Int32)) < (0 : Int32))) ((by have u0:=PC; have u1:=BA1; have u2:=BB1; have u3:=BA2; have u4:=BB2; have u5:=hc104; have u6:=q105_7; have u7:=q105_8; have u8:=q105_9; have u9:=hc112; have u10:=hc120; have u11:=rng32 cs; have u12:=rng32 sz1; have u13:=rng32 sz2; have u14:=rng32 ((0 : Int32) + sz1); have u15:=c_iadd (0 : Int32) sz1; have u16:=rng32 C2_105; have u17:=rng32 ((16 : Int32) + ((16 : Int32) + (2 : Int32))); have u18:=c_iadd (16 : Int32) ((16 : Int32) + (2 : Int32)); have u19:=rng32 ((16 : Int32) + (2 : Int32)); have u20:=c_iadd (16 : Int32) (2 : Int32); have u21:=rng32 (((0 : Int32) + sz1) + (2 : Int32)); have u22:=c_iadd ((0 : Int32) + sz1) (2 : Int32); have u23:=rng32 ((((0 : Int32) + sz1) + (2 : Int32)) + sz2); have u24:=c_iadd (((0 : Int32) + sz1) + (2 : Int32)) sz2; (try simp only [Int32.lt_iff_toInt_lt, Int64.lt_iff_toInt_lt, ne_eq, ← Int32.toInt_inj, ← Int64.toInt_inj, Int32.reduceToInt, Int64.reduceToInt, Nat.reducePow] at u0 u1 u2 u3 u4 u5 u6 u7 u8 u9 u10 u11 u12 u13 u14 u15 u16 u17 u18 u19 u20 u21 u22 u23 u24 ⊢); try omega) : ¬ ((40 : Int32) < (((0 : Int32) + sz1) + (2 : Int32)))) ((by have u0:=PC; have u1:=BA1; have u2:=BB1; have u3:=BA2; have u4:=BB2; have u5:=hc104; have u6:=q105_7; have u7:=q105_8; have u8:=q105_9; have u9:=hc112; have u10:=hc120; have u11:=rng32 cs; have u12:=rng32 sz1; have u13:=rng32 sz2; have u14:=rng32 ((0 : Int32) + sz1); have u15:=c_iadd (0 : Int32) sz1; have u16:=rng32 C2_105; have u17:=rng32 ((16 : Int32) + ((16 : Int32) + (2 : Int32))); have u18:=c_iadd (16 : Int32) ((16 : Int32) + (2 : Int32)); have u19:=rng32 ((16 : Int32) + (2 : Int32)); have u20:=c_iadd (16 : Int32) (2 : Int32); have u21:=rng32 (((0 : Int32) + sz1) + (2 : Int32)); have u22:=c_iadd ((0 : Int32) + sz1) (2 : Int32); have u23:=rng32 ((((0 : Int32) + sz1) + (2 : Int32)) + sz2); have u24:=c_iadd (((0 : Int32) + sz1) + (2 : Int32)) sz2; (try simp only [Int32.lt_iff_toInt_lt, Int64.lt_iff_toInt_lt, ne_eq, ← Int32.toInt_inj, ← Int64.toInt_inj, Int32.reduceToInt, Int64.reduceToInt, Nat.reducePow] at u0 u1 u2 u3 u4 u5 u6 u7 u8 u9 u10 u11 u12 u13 u14 u15 u16 u17 u18 u19 u20 u21 u22 u23 u24 ⊢); try omega) : ¬ (C2_105 < (0 : Int32))) ((by have u0:=PC; have u1:=BA1; have u2:=BB1; have u3:=BA2; have u4:=BB2; have u5:=hc104; have u6:=q105_7; have u7:=q105_8; have u8:=q105_9; have u9:=hc112; have u10:=hc120; have u11:=rng32 cs; have u12:=rng32 sz1; have u13:=rng32 sz2; have u14:=rng32 ((0 : Int32) + sz1); have u15:=c_iadd (0 : Int32) sz1; have u16:=rng32 C2_105; have u17:=rng32 ((16 : Int32) + ((16 : Int32) + (2 : Int32))); have u18:=c_iadd (16 : Int32) ((16 : Int32) + (2 : Int32)); have u19:=rng32 ((16 : Int32) + (2 : Int32)); have u20:=c_iadd (16 : Int32) (2 : Int32); have u21:=rng32 (((0 : Int32) + sz1) + (2 : Int32)); have u22:=c_iadd ((0 : Int32) + sz1) (2 : Int32); have u23:=rng32 ((((0 : Int32) + sz1) + (2 : Int32)) + sz2); have u24:=c_iadd (((0 : Int32) + sz1) + (2 : Int32)) sz2; (try simp only [Int32.lt_iff_toInt_lt, Int64.lt_iff_toInt_lt, ne_eq, ← Int32.toInt_inj, ← Int64.toInt_inj, Int32.reduceToInt, Int64.reduceToInt, Nat.reducePow] at u0 u1 u2 u3 u4 u5 u6 u7 u8 u9 u10 u11 u12 u13 u14 u15 u16 u17 u18 u19 u20 u21 u22 u23 u24 ⊢); try omega) : ¬ ((70 : Int32) < C2_105)) HA2 HZ2 (BA2 : (0 : Int32) < sz2) (BB2 : ¬ ((21 : Int32) < sz2)) (own_stakeep (Sta.ext E108 (own_stakeep (own_stakeep (Sta.ext E101 S1) q102_0 (nsS A101.nostat ns0)) q105_0 (nsS (A101.keep q102_0).nostat ns0))) q114_0 (nsS (Exa.ext E108 ((A101.keep q102_0).keep q105_0)).nostat (nsS (Exa.ext E108 q105_2).nostat ns0))) (((((W1.ext E101).keep q102_0 (ninS (Nat.ne_of_lt (Nat.lt_of_lt_of_le W1.lt (Nat.le_of_eq g101.symm))) nin0)).keep q105_0 (ninS (Nat.ne_of_lt (Nat.lt_of_lt_of_le W1.lt (Nat.le_of_eq g101.symm))) nin0)).ext E108).keep q114_0 (ninS (Nat.ne_of_lt (Nat.lt_of_lt_of_le W1.lt (Nat.le_of_eq g101.symm))) (ninS (Nat.ne_of_lt (Nat.lt_of_lt_of_le W1.lt (Nat.le_trans (Nat.le_trans E101.1 q102_0.1) q105_1))) nin0))) (own_stakeep (Sta.ext E108 (own_stakeep (own_stakeep (Sta.ext E101 S2) q102_0 (nsS A101.nostat ns0)) q105_0 (nsS (A101.keep q102_0).nostat ns0))) q114_0 (nsS (Exa.ext E108 ((A101.keep q102_0).keep q105_0)).nostat (nsS (Exa.ext E108 q105_2).nostat ns0))) (((((W2.ext E101).keep q102_0 (ninS (Nat.ne_of_lt (Nat.lt_of_lt_of_le W2.lt (Nat.le_of_eq g101.symm))) nin0)).keep q105_0 (ninS (Nat.ne_of_lt (Nat.lt_of_lt_of_le W2.lt (Nat.le_of_eq g101.symm))) nin0)).ext E108).keep q114_0 (ninS (Nat.ne_of_lt (Nat.lt_of_lt_of_le W2.lt (Nat.le_of_eq g101.symm))) (ninS (Nat.ne_of_lt (Nat.lt_of_lt_of_le W2.lt (Nat.le_trans (Nat.le_trans E101.1 q102_0.1) q105_1))) nin0))) HS (Ne.symm (Nat.ne_of_lt (Nat.lt_of_lt_of_le W1.lt (Nat.le_trans (Nat.le_trans E101.1 q102_0.1) q105_1)))) (Ne.symm (Nat.ne_of_lt (Nat.lt_of_lt_of_le W2.lt (Nat.le_trans (Nat.le_trans E101.1 q102_0.1) q105_1)))) (hc120 : C2_105 < ((((0 : Int32) + sz1) + (2 : Int32)) + sz2)) ((by have u0:=PC; have u1:=BA1; have u2:=BB1; have u3:=BA2; have u4:=BB2; have u5:=hc104; have u6:=q105_7; have u7:=q105_8; have u8:=q105_9; have u9:=hc112; have u10:=hc120; have u11:=rng32 cs; have u12:=rng32 sz1; have u13:=rng32 sz2; have u14:=rng32 ((0 : Int32) + sz1); have u15:=c_iadd (0 : Int32) sz1; have u16:=rng32 C2_105; have u17:=rng32 ((16 : Int32) + ((16 : Int32) + (2 : Int32))); have u18:=c_iadd (16 : Int32) ((16 : Int32) + (2 : Int32)); have u19:=rng32 ((16 : Int32) + (2 : Int32)); have u20:=c_iadd (16 : Int32) (2 : Int32); have u21:=rng32 (((0 : Int32) + sz1) + (2 : Int32)); have u22:=c_iadd ((0 : Int32) + sz1) (2 : Int32); have u23:=rng32 ((((0 : Int32) + sz1) + (2 : Int32)) + sz2); have u24:=c_iadd (((0 : Int32) + sz1) + (2 : Int32)) sz2; (try simp only [Int32.lt_iff_toInt_lt, Int64.lt_iff_toInt_lt, ne_eq, ← Int32.toInt_inj, ← Int64.toInt_inj, Int32.reduceToInt, Int64.reduceToInt, Nat.reducePow] at u0 u1 u2 u3 u4 u5 u6 u7 u8 u9 u10 u11 u12 u13 u14 u15 u16 u17 u18 u19 u20 u21 u22 u23 u24 ⊢); try omega) : ¬ ((70 : Int32) < ((((0 : Int32) + sz1) + (2 : Int32)) + sz2))) ((by have u0:=PC; have u1:=BA1; have u2:=BB1; have u3:=BA2; have u4:=BB2; have u5:=hc104; have u6:=q105_7; have u7:=q105_8; have u8:=q105_9; have u9:=hc112; have u10:=hc120; have u11:=rng32 cs; have u12:=rng32 sz1; have u13:=rng32 sz2; have u14:=rng32 ((0 : Int32) + sz1); have u15:=c_iadd (0 : Int32) sz1; have u16:=rng32 C2_105; have u17:=rng32 ((16 : Int32) + ((16 : Int32) + (2 : Int32))); have u18:=c_iadd (16 : Int32) ((16 : Int32) + (2 : Int32)); have u19:=rng32 ((16 : Int32) + (2 : Int32)); have u20:=c_iadd (16 : Int32) (2 : Int32); have u21:=rng32 (((0 : Int32) + sz1) + (2 : Int32)); have u22:=c_iadd ((0 : Int32) + sz1) (2 : Int32); have u23:=rng32 ((((0 : Int32) + sz1) + (2 : Int32)) + sz2); have u24:=c_iadd (((0 : Int32) + sz1) + (2 : Int32)) sz2; have u25:=rng32 (C2_105 + (C2_105 + (2 : Int32))); have u26:=c_iadd C2_105 (C2_105 + (2 : Int32)); have u27:=rng32 (C2_105 + (2 : Int32)); have u28:=c_iadd C2_105 (2 : Int32); (try simp only [Int32.lt_iff_toInt_lt, Int64.lt_iff_toInt_lt, ne_eq, ← Int32.toInt_inj, ← Int64.toInt_inj, Int32.reduceToInt, Int64.reduceToInt, Nat.reducePow] at u0 u1 u2 u3 u4 u5 u6 u7 u8 u9 u10 u11 u12 u13 u14 u15 u16 u17 u18 u19 u20 u21 u22 u23 u24 u25 u26 u27 u28 ⊢); try omega) : ¬ ((70 : Int32) < (C2_105 + (C2_105 + (2 : Int32))))) ((by decide) : ¬ ((70 : Int32) < (70 : Int32))) (hc112 : ¬ (C2_105 < (((0 : Int32) + sz1) + (2 : Int32))))) hZ tw54 tw32 (by decide) (by decide)) q121a q121c (g := (mkF m 23 #[.val (.ref a1)] [(.long hi), (.ref b101)])) rfl (by rw [hml]; rfl) (Steps.refl _) (argsL := [(.long hi)]) (rest := []) (lenOf pd_J_Ljava_lang_StringBuilder rfl) rfl (Nat.le_of_eq rfl) (hb hby dk353) (fun _ _ => ⟨rfl, e119, (by decide : 5 + 1 ≤ _), (by decide : 102 + 70 ≤ _)⟩)
      dsimp only [Pt.U, Pt.locs, Pt.cells, Pt.slots] at X121 l121 y121 z121 st121 hQ121
      subst y121 z121
      obtain ⟨va2_121, kv2_121, C2_121, rfl, Nq121, q121_0, q121_1, q121_2, q121_3, q121_4, q121_5, q121_6, q121_7, q121_8, q121_9⟩ := hQ121
      have N121 : Fr n0 L121 := by rw [l121]; exact Fr.app N114 Nq121
      refine Goes.step (S' := T121.setTop (mkF m 26 #[.val (.ref a1)] [(.ref b101)])) (fun t k => st121.trans k) ?_
      by_cases hc128 : ((((0 : Int32) + sz1) + (2 : Int32)) + sz2) = C2_121
      case pos =>
        obtain ⟨cq129, kq129, q129a, q129b, q129c⟩ := isOf hZ rfl (((Exa.ext E108 ((A101.keep q102_0).keep q105_0)).keep q114_0).keep q121_0)
        obtain ⟨_, _, ⟨T129, L129, k129, n129⟩, -, X129, ⟨Lc129, hQ129, l129, y129, z129⟩, st129⟩ := X121.virtualBack hx (y := mth29) (z := mth29) hown (mvT hZ tw131) (mvT hZ tw132) (notFace_of_selects (args := #[]) (mvT hZ tw134)) (mvT hZ tw134) (mvT hZ tw133) (by decide) (backOf (W := 0) (tosc l Z a0 hw [] b101 va2_121 kv2_121 C2_121 (((([] : List Value) ++ own_rep lo n1) ++ [(.int (46 : Int32)), (.int (46 : Int32))]) ++ own_rep hi n2) ((((0 : Int32) + sz1) + (2 : Int32)) + sz2) cs T121.heap n0 (Nat.le_trans Z0 (Nat.le_trans (Nat.le_trans (Nat.le_trans (Nat.le_trans (Nat.le_trans E101.1 q102_0.1) q105_0.1) E108.1) q114_0.1) q121_0.1)) (((Exa.ext E108 ((A101.keep q102_0).keep q105_0)).keep q114_0).keep q121_0) q121_2 q121_3 q121_4 q121_5 q121_6 (own_stakeep (own_stakeep (Sta.ext E108 (own_stakeep (own_stakeep (Sta.ext E101 SC) q102_0 (nsS A101.nostat ns0)) q105_0 (nsS (A101.keep q102_0).nostat ns0))) q114_0 (nsS (Exa.ext E108 ((A101.keep q102_0).keep q105_0)).nostat (nsS (Exa.ext E108 q105_2).nostat ns0))) q121_0 (nsS ((Exa.ext E108 ((A101.keep q102_0).keep q105_0)).keep q114_0).nostat ns0)) (PC : ¬ (cs = (0 : Int32))) (own_idx2 (own_idx2 (own_idx2 rfl HZ1) rfl) HZ2) (by exact own_allB (lo := lo) (n1 := n1) (hi := hi) (n2 := n2)) ((by have u0:=PC; have u1:=BA1; have u2:=BB1; have u3:=BA2; have u4:=BB2; have u5:=hc104; have u6:=q105_7; have u7:=q105_8; have u8:=q105_9; have u9:=hc112; have u10:=hc120; have u11:=q121_7; have u12:=q121_8; have u13:=q121_9; have u14:=hc128; have u15:=rng32 cs; have u16:=rng32 sz1; have u17:=rng32 sz2; have u18:=rng32 ((0 : Int32) + sz1); have u19:=c_iadd (0 : Int32) sz1; have u20:=rng32 C2_105; have u21:=rng32 ((16 : Int32) + ((16 : Int32) + (2 : Int32))); have u22:=c_iadd (16 : Int32) ((16 : Int32) + (2 : Int32)); have u23:=rng32 ((16 : Int32) + (2 : Int32)); have u24:=c_iadd (16 : Int32) (2 : Int32); have u25:=rng32 (((0 : Int32) + sz1) + (2 : Int32)); have u26:=c_iadd ((0 : Int32) + sz1) (2 : Int32); have u27:=rng32 ((((0 : Int32) + sz1) + (2 : Int32)) + sz2); have u28:=c_iadd (((0 : Int32) + sz1) + (2 : Int32)) sz2; have u29:=rng32 C2_121; have u30:=rng32 (C2_105 + (C2_105 + (2 : Int32))); have u31:=c_iadd C2_105 (C2_105 + (2 : Int32)); have u32:=rng32 (C2_105 + (2 : Int32)); have u33:=c_iadd C2_105 (2 : Int32); (try simp only [Int32.lt_iff_toInt_lt, Int64.lt_iff_toInt_lt, ne_eq, ← Int32.toInt_inj, ← Int64.toInt_inj, Int32.reduceToInt, Int64.reduceToInt, Nat.reducePow] at u0 u1 u2 u3 u4 u5 u6 u7 u8 u9 u10 u11 u12 u13 u14 u15 u16 u17 u18 u19 u20 u21 u22 u23 u24 u25 u26 u27 u28 u29 u30 u31 u32 u33 ⊢); try omega) : ¬ (((((0 : Int32) + sz1) + (2 : Int32)) + sz2) < (0 : Int32))) ((by have u0:=PC; have u1:=BA1; have u2:=BB1; have u3:=BA2; have u4:=BB2; have u5:=hc104; have u6:=q105_7; have u7:=q105_8; have u8:=q105_9; have u9:=hc112; have u10:=hc120; have u11:=q121_7; have u12:=q121_8; have u13:=q121_9; have u14:=hc128; have u15:=rng32 cs; have u16:=rng32 sz1; have u17:=rng32 sz2; have u18:=rng32 ((0 : Int32) + sz1); have u19:=c_iadd (0 : Int32) sz1; have u20:=rng32 C2_105; have u21:=rng32 ((16 : Int32) + ((16 : Int32) + (2 : Int32))); have u22:=c_iadd (16 : Int32) ((16 : Int32) + (2 : Int32)); have u23:=rng32 ((16 : Int32) + (2 : Int32)); have u24:=c_iadd (16 : Int32) (2 : Int32); have u25:=rng32 (((0 : Int32) + sz1) + (2 : Int32)); have u26:=c_iadd ((0 : Int32) + sz1) (2 : Int32); have u27:=rng32 ((((0 : Int32) + sz1) + (2 : Int32)) + sz2); have u28:=c_iadd (((0 : Int32) + sz1) + (2 : Int32)) sz2; have u29:=rng32 C2_121; have u30:=rng32 (C2_105 + (C2_105 + (2 : Int32))); have u31:=c_iadd C2_105 (C2_105 + (2 : Int32)); have u32:=rng32 (C2_105 + (2 : Int32)); have u33:=c_iadd C2_105 (2 : Int32); (try simp only [Int32.lt_iff_toInt_lt, Int64.lt_iff_toInt_lt, ne_eq, ← Int32.toInt_inj, ← Int64.toInt_inj, Int32.reduceToInt, Int64.reduceToInt, Nat.reducePow] at u0 u1 u2 u3 u4 u5 u6 u7 u8 u9 u10 u11 u12 u13 u14 u15 u16 u17 u18 u19 u20 u21 u22 u23 u24 u25 u26 u27 u28 u29 u30 u31 u32 u33 ⊢); try omega) : ¬ ((70 : Int32) < ((((0 : Int32) + sz1) + (2 : Int32)) + sz2))) (hc128 : ((((0 : Int32) + sz1) + (2 : Int32)) + sz2) = C2_121)) hZ tw135 tw32 (by decide) (by decide)) q129a q129c (g := (mkF m 26 #[.val (.ref a1)] [(.ref b101)])) rfl (by rw [hml]; rfl) (Steps.refl _) (argsL := []) (rest := []) (lenOf pd_Ljava_lang_String rfl) rfl (Nat.le_of_eq rfl) (hb hby dk354) (fun _ _ => ⟨rfl, rfl, (by decide : 6 + 2 ≤ _), (by decide : 172 + 74 ≤ _)⟩)
        dsimp only [Pt.U, Pt.locs, Pt.cells, Pt.slots] at X129 l129 y129 z129 st129 hQ129
        subst y129 z129
        obtain ⟨s1_129, x_129, kx_129, rfl, Nq129, q129_0, q129_1, q129_2, q129_3, q129_4, q129_5, q129_6⟩ := hQ129
        have N129 : Fr n0 L129 := by rw [l129]; exact Fr.app N121 Nq129
        refine Goes.step (S' := T129.setTop (mkF m 29 #[.val (.ref a1)] [(.ref s1_129)])) (fun t k => st129.trans k) ?_
        have CR132 := CR108.trans (CHr.keep q114_0 (sfS (Safe.exa hZ.alike (Exa.ext E108 ((A101.keep q102_0).keep q105_0)) (by decide) (by decide)) (sfS Q108_va2_105 sf0)) CR108.1)
        have Q132_va_102 := Safe.keep q114_0 (sfS (Safe.exa hZ.alike (Exa.ext E108 ((A101.keep q102_0).keep q105_0)) (by decide) (by decide)) (sfS Q108_va2_105 sf0)) CR108.1 Q108_va_102
        have Q132_va2_105 := Safe.keep q114_0 (sfS (Safe.exa hZ.alike (Exa.ext E108 ((A101.keep q102_0).keep q105_0)) (by decide) (by decide)) (sfS Q108_va2_105 sf0)) CR108.1 Q108_va2_105
        have CR133 := CR132.trans (CHr.keep q121_0 (sfS (Safe.exa hZ.alike ((Exa.ext E108 ((A101.keep q102_0).keep q105_0)).keep q114_0) (by decide) (by decide)) sf0) CR132.1)
        have Q133_va_102 := Safe.keep q121_0 (sfS (Safe.exa hZ.alike ((Exa.ext E108 ((A101.keep q102_0).keep q105_0)).keep q114_0) (by decide) (by decide)) sf0) CR132.1 Q132_va_102
        have Q133_va2_105 := Safe.keep q121_0 (sfS (Safe.exa hZ.alike ((Exa.ext E108 ((A101.keep q102_0).keep q105_0)).keep q114_0) (by decide) (by decide)) sf0) CR132.1 Q132_va2_105
        have Q133_va2_121 := Safe.keep q121_0 (sfS (Safe.exa hZ.alike ((Exa.ext E108 ((A101.keep q102_0).keep q105_0)).keep q114_0) (by decide) (by decide)) sf0) CR132.1 (Safe.new q121_1)
        have CR134 := CR133.trans (CHr.keep q129_0 sf0 CR133.1)
        have Q134_va_102 := Safe.keep q129_0 sf0 CR133.1 Q133_va_102
        have Q134_va2_105 := Safe.keep q129_0 sf0 CR133.1 Q133_va2_105
        have Q134_va2_121 := Safe.keep q129_0 sf0 CR133.1 Q133_va2_121
        have Q134_s1_129 := Safe.keep q129_0 sf0 CR133.1 (Safe.new q129_1)
        refine Goes.leaveH (g := (mkF m 29 #[.val (.ref a1)] [(.ref s1_129)])) (own_ew hw) hZ hh CR134 X129 hS108 (Nat.le_trans hk108 (Nat.le_trans (Nat.le_trans q114_0.1 q121_0.1) q129_0.1)) Bd.notSynchronized (v := (some (.ref s1_129))) (fun h => by rw [Bd.returns] at h; cases h) (fun fs hr => by jvm_step X129.here [X129.here.top, hx, (hb hby dk355), X129.method', Bd.returns, Value.isRef, FieldType.isReference]; (first | (intro acts; rw [hr _ acts rfl rfl rfl]) | rw [hr _ _ rfl rfl rfl]); exact Steps.refl _) rfl ?_ (by decide) (by decide)
        exact ⟨s1_129, x_129, kx_129, ((((0 : Int32) + sz1) + (2 : Int32)) + sz2), rfl, N129, ((((((((Keep.refl _ []).ext E101).trans q102_0 (allS (Or.inr (Nat.le_of_eq g101.symm)) all0)).trans q105_0 (allS (Or.inr (Nat.le_of_eq g101.symm)) all0)).ext E108).trans q114_0 (allS (Or.inr (Nat.le_of_eq g101.symm)) (allS (Or.inr (Nat.le_trans (Nat.le_trans E101.1 q102_0.1) q105_1)) all0))).trans q121_0 (allS (Or.inr (Nat.le_of_eq g101.symm)) all0)).trans q129_0 all0), q129_2, q129_3, q129_4, q129_6, (own_idx2 (own_idx2 (own_idx2 rfl HZ1) rfl) HZ2)⟩
      case neg =>
        obtain ⟨cq135, kq135, q135a, q135b, q135c⟩ := isOf hZ rfl (((Exa.ext E108 ((A101.keep q102_0).keep q105_0)).keep q114_0).keep q121_0)
        obtain ⟨_, _, ⟨T135, L135, k135, n135⟩, -, X135, ⟨Lc135, hQ135, l135, y135, z135⟩, st135⟩ := X121.virtualBack hx (y := mth29) (z := mth29) hown (mvT hZ tw131) (mvT hZ tw132) (notFace_of_selects (args := #[]) (mvT hZ tw134)) (mvT hZ tw134) (mvT hZ tw133) (by decide) (backOf (W := 0) (tosr l Z a0 hw [] b101 va2_121 kv2_121 C2_121 (((([] : List Value) ++ own_rep lo n1) ++ [(.int (46 : Int32)), (.int (46 : Int32))]) ++ own_rep hi n2) ((((0 : Int32) + sz1) + (2 : Int32)) + sz2) cs T121.heap n0 (Nat.le_trans Z0 (Nat.le_trans (Nat.le_trans (Nat.le_trans (Nat.le_trans (Nat.le_trans E101.1 q102_0.1) q105_0.1) E108.1) q114_0.1) q121_0.1)) (((Exa.ext E108 ((A101.keep q102_0).keep q105_0)).keep q114_0).keep q121_0) q121_2 q121_3 q121_4 q121_5 q121_6 (own_stakeep (own_stakeep (Sta.ext E108 (own_stakeep (own_stakeep (Sta.ext E101 SC) q102_0 (nsS A101.nostat ns0)) q105_0 (nsS (A101.keep q102_0).nostat ns0))) q114_0 (nsS (Exa.ext E108 ((A101.keep q102_0).keep q105_0)).nostat (nsS (Exa.ext E108 q105_2).nostat ns0))) q121_0 (nsS ((Exa.ext E108 ((A101.keep q102_0).keep q105_0)).keep q114_0).nostat ns0)) (PC : ¬ (cs = (0 : Int32))) (own_idx2 (own_idx2 (own_idx2 rfl HZ1) rfl) HZ2) (by exact own_allB (lo := lo) (n1 := n1) (hi := hi) (n2 := n2)) ((by have u0:=PC; have u1:=BA1; have u2:=BB1; have u3:=BA2; have u4:=BB2; have u5:=hc104; have u6:=q105_7; have u7:=q105_8; have u8:=q105_9; have u9:=hc112; have u10:=hc120; have u11:=q121_7; have u12:=q121_8; have u13:=q121_9; have u14:=hc128; have u15:=rng32 cs; have u16:=rng32 sz1; have u17:=rng32 sz2; have u18:=rng32 ((0 : Int32) + sz1); have u19:=c_iadd (0 : Int32) sz1; have u20:=rng32 C2_105; have u21:=rng32 ((16 : Int32) + ((16 : Int32) + (2 : Int32))); have u22:=c_iadd (16 : Int32) ((16 : Int32) + (2 : Int32)); have u23:=rng32 ((16 : Int32) + (2 : Int32)); have u24:=c_iadd (16 : Int32) (2 : Int32); have u25:=rng32 (((0 : Int32) + sz1) + (2 : Int32)); have u26:=c_iadd ((0 : Int32) + sz1) (2 : Int32); have u27:=rng32 ((((0 : Int32) + sz1) + (2 : Int32)) + sz2); have u28:=c_iadd (((0 : Int32) + sz1) + (2 : Int32)) sz2; have u29:=rng32 C2_121; have u30:=rng32 (C2_105 + (C2_105 + (2 : Int32))); have u31:=c_iadd C2_105 (C2_105 + (2 : Int32)); have u32:=rng32 (C2_105 + (2 : Int32)); have u33:=c_iadd C2_105 (2 : Int32); (try simp only [Int32.lt_iff_toInt_lt, Int64.lt_iff_toInt_lt, ne_eq, ← Int32.toInt_inj, ← Int64.toInt_inj, Int32.reduceToInt, Int64.reduceToInt, Nat.reducePow] at u0 u1 u2 u3 u4 u5 u6 u7 u8 u9 u10 u11 u12 u13 u14 u15 u16 u17 u18 u19 u20 u21 u22 u23 u24 u25 u26 u27 u28 u29 u30 u31 u32 u33 ⊢); try omega) : ¬ (((((0 : Int32) + sz1) + (2 : Int32)) + sz2) < (0 : Int32))) ((by have u0:=PC; have u1:=BA1; have u2:=BB1; have u3:=BA2; have u4:=BB2; have u5:=hc104; have u6:=q105_7; have u7:=q105_8; have u8:=q105_9; have u9:=hc112; have u10:=hc120; have u11:=q121_7; have u12:=q121_8; have u13:=q121_9; have u14:=hc128; have u15:=rng32 cs; have u16:=rng32 sz1; have u17:=rng32 sz2; have u18:=rng32 ((0 : Int32) + sz1); have u19:=c_iadd (0 : Int32) sz1; have u20:=rng32 C2_105; have u21:=rng32 ((16 : Int32) + ((16 : Int32) + (2 : Int32))); have u22:=c_iadd (16 : Int32) ((16 : Int32) + (2 : Int32)); have u23:=rng32 ((16 : Int32) + (2 : Int32)); have u24:=c_iadd (16 : Int32) (2 : Int32); have u25:=rng32 (((0 : Int32) + sz1) + (2 : Int32)); have u26:=c_iadd ((0 : Int32) + sz1) (2 : Int32); have u27:=rng32 ((((0 : Int32) + sz1) + (2 : Int32)) + sz2); have u28:=c_iadd (((0 : Int32) + sz1) + (2 : Int32)) sz2; have u29:=rng32 C2_121; have u30:=rng32 (C2_105 + (C2_105 + (2 : Int32))); have u31:=c_iadd C2_105 (C2_105 + (2 : Int32)); have u32:=rng32 (C2_105 + (2 : Int32)); have u33:=c_iadd C2_105 (2 : Int32); (try simp only [Int32.lt_iff_toInt_lt, Int64.lt_iff_toInt_lt, ne_eq, ← Int32.toInt_inj, ← Int64.toInt_inj, Int32.reduceToInt, Int64.reduceToInt, Nat.reducePow] at u0 u1 u2 u3 u4 u5 u6 u7 u8 u9 u10 u11 u12 u13 u14 u15 u16 u17 u18 u19 u20 u21 u22 u23 u24 u25 u26 u27 u28 u29 u30 u31 u32 u33 ⊢); try omega) : ¬ ((70 : Int32) < ((((0 : Int32) + sz1) + (2 : Int32)) + sz2))) ((by have u0:=PC; have u1:=BA1; have u2:=BB1; have u3:=BA2; have u4:=BB2; have u5:=hc104; have u6:=q105_7; have u7:=q105_8; have u8:=q105_9; have u9:=hc112; have u10:=hc120; have u11:=q121_7; have u12:=q121_8; have u13:=q121_9; have u14:=hc128; have u15:=rng32 cs; have u16:=rng32 sz1; have u17:=rng32 sz2; have u18:=rng32 ((0 : Int32) + sz1); have u19:=c_iadd (0 : Int32) sz1; have u20:=rng32 C2_105; have u21:=rng32 ((16 : Int32) + ((16 : Int32) + (2 : Int32))); have u22:=c_iadd (16 : Int32) ((16 : Int32) + (2 : Int32)); have u23:=rng32 ((16 : Int32) + (2 : Int32)); have u24:=c_iadd (16 : Int32) (2 : Int32); have u25:=rng32 (((0 : Int32) + sz1) + (2 : Int32)); have u26:=c_iadd ((0 : Int32) + sz1) (2 : Int32); have u27:=rng32 ((((0 : Int32) + sz1) + (2 : Int32)) + sz2); have u28:=c_iadd (((0 : Int32) + sz1) + (2 : Int32)) sz2; have u29:=rng32 C2_121; have u30:=rng32 (C2_105 + (C2_105 + (2 : Int32))); have u31:=c_iadd C2_105 (C2_105 + (2 : Int32)); have u32:=rng32 (C2_105 + (2 : Int32)); have u33:=c_iadd C2_105 (2 : Int32); (try simp only [Int32.lt_iff_toInt_lt, Int64.lt_iff_toInt_lt, ne_eq, ← Int32.toInt_inj, ← Int64.toInt_inj, Int32.reduceToInt, Int64.reduceToInt, Nat.reducePow] at u0 u1 u2 u3 u4 u5 u6 u7 u8 u9 u10 u11 u12 u13 u14 u15 u16 u17 u18 u19 u20 u21 u22 u23 u24 u25 u26 u27 u28 u29 u30 u31 u32 u33 ⊢); try omega) : ((((0 : Int32) + sz1) + (2 : Int32)) + sz2) < C2_121)) hZ tw135 tw32 (by decide) (by decide)) q135a q135c (g := (mkF m 26 #[.val (.ref a1)] [(.ref b101)])) rfl (by rw [hml]; rfl) (Steps.refl _) (argsL := []) (rest := []) (lenOf pd_Ljava_lang_String rfl) rfl (Nat.le_of_eq rfl) (hb hby dk354) (fun _ _ => ⟨rfl, rfl, (by decide : 6 + 2 ≤ _), (by decide : 172 + 74 ≤ _)⟩)
        dsimp only [Pt.U, Pt.locs, Pt.cells, Pt.slots] at X135 l135 y135 z135 st135 hQ135
        subst y135 z135
        obtain ⟨s1_135, x_135, kx_135, rfl, Nq135, q135_0, q135_1, q135_2, q135_3, q135_4, q135_5, q135_6⟩ := hQ135
        have N135 : Fr n0 L135 := by rw [l135]; exact Fr.app N121 Nq135
        refine Goes.step (S' := T135.setTop (mkF m 29 #[.val (.ref a1)] [(.ref s1_135)])) (fun t k => st135.trans k) ?_
        have CR139 := CR108.trans (CHr.keep q114_0 (sfS (Safe.exa hZ.alike (Exa.ext E108 ((A101.keep q102_0).keep q105_0)) (by decide) (by decide)) (sfS Q108_va2_105 sf0)) CR108.1)
        have Q139_va_102 := Safe.keep q114_0 (sfS (Safe.exa hZ.alike (Exa.ext E108 ((A101.keep q102_0).keep q105_0)) (by decide) (by decide)) (sfS Q108_va2_105 sf0)) CR108.1 Q108_va_102
        have Q139_va2_105 := Safe.keep q114_0 (sfS (Safe.exa hZ.alike (Exa.ext E108 ((A101.keep q102_0).keep q105_0)) (by decide) (by decide)) (sfS Q108_va2_105 sf0)) CR108.1 Q108_va2_105
        have CR140 := CR139.trans (CHr.keep q121_0 (sfS (Safe.exa hZ.alike ((Exa.ext E108 ((A101.keep q102_0).keep q105_0)).keep q114_0) (by decide) (by decide)) sf0) CR139.1)
        have Q140_va_102 := Safe.keep q121_0 (sfS (Safe.exa hZ.alike ((Exa.ext E108 ((A101.keep q102_0).keep q105_0)).keep q114_0) (by decide) (by decide)) sf0) CR139.1 Q139_va_102
        have Q140_va2_105 := Safe.keep q121_0 (sfS (Safe.exa hZ.alike ((Exa.ext E108 ((A101.keep q102_0).keep q105_0)).keep q114_0) (by decide) (by decide)) sf0) CR139.1 Q139_va2_105
        have Q140_va2_121 := Safe.keep q121_0 (sfS (Safe.exa hZ.alike ((Exa.ext E108 ((A101.keep q102_0).keep q105_0)).keep q114_0) (by decide) (by decide)) sf0) CR139.1 (Safe.new q121_1)
        have CR141 := CR140.trans (CHr.keep q135_0 sf0 CR140.1)
        have Q141_va_102 := Safe.keep q135_0 sf0 CR140.1 Q140_va_102
        have Q141_va2_105 := Safe.keep q135_0 sf0 CR140.1 Q140_va2_105
        have Q141_va2_121 := Safe.keep q135_0 sf0 CR140.1 Q140_va2_121
        have Q141_s1_135 := Safe.keep q135_0 sf0 CR140.1 (Safe.new q135_1)
        refine Goes.leaveH (g := (mkF m 29 #[.val (.ref a1)] [(.ref s1_135)])) (own_ew hw) hZ hh CR141 X135 hS108 (Nat.le_trans hk108 (Nat.le_trans (Nat.le_trans q114_0.1 q121_0.1) q135_0.1)) Bd.notSynchronized (v := (some (.ref s1_135))) (fun h => by rw [Bd.returns] at h; cases h) (fun fs hr => by jvm_step X135.here [X135.here.top, hx, (hb hby dk355), X135.method', Bd.returns, Value.isRef, FieldType.isReference]; (first | (intro acts; rw [hr _ acts rfl rfl rfl]) | rw [hr _ _ rfl rfl rfl]); exact Steps.refl _) rfl ?_ (by decide) (by decide)
        exact ⟨s1_135, x_135, kx_135, ((((0 : Int32) + sz1) + (2 : Int32)) + sz2), rfl, N135, ((((((((Keep.refl _ []).ext E101).trans q102_0 (allS (Or.inr (Nat.le_of_eq g101.symm)) all0)).trans q105_0 (allS (Or.inr (Nat.le_of_eq g101.symm)) all0)).ext E108).trans q114_0 (allS (Or.inr (Nat.le_of_eq g101.symm)) (allS (Or.inr (Nat.le_trans (Nat.le_trans E101.1 q102_0.1) q105_1)) all0))).trans q121_0 (allS (Or.inr (Nat.le_of_eq g101.symm)) all0)).trans q135_0 all0), q135_2, q135_3, q135_4, q135_6, (own_idx2 (own_idx2 (own_idx2 rfl HZ1) rfl) HZ2)⟩
    case neg =>
      obtain ⟨cq142, kq142, q142a, q142b, q142c⟩ := isOf hZ e119 ((Exa.ext E108 ((A101.keep q102_0).keep q105_0)).keep q114_0)
      obtain ⟨_, _, ⟨T142, L142, k142, n142⟩, -, X142, ⟨Lc142, hQ142, l142, y142, z142⟩, st142⟩ := X119.virtualBack hx (y := mth12) (z := mth12) hown (mvT hZ tw50) (mvT hZ tw51) (notFace_of_selects (args := #[]) (mvT hZ tw53)) (mvT hZ tw53) (mvT hZ tw52) (by decide) (backOf (W := 0) (sjs l Z a0 hw [] b101 va2_105 kv2_105 C2_105 ((([] : List Value) ++ own_rep lo n1) ++ [(.int (46 : Int32)), (.int (46 : Int32))]) (((0 : Int32) + sz1) + (2 : Int32)) cs hi n2 sz2 d1 d2 kd1 kd2 T114.heap n0 (Nat.le_trans Z0 (Nat.le_trans (Nat.le_trans (Nat.le_trans (Nat.le_trans E101.1 q102_0.1) q105_0.1) E108.1) q114_0.1)) ((Exa.ext E108 ((A101.keep q102_0).keep q105_0)).keep q114_0) (Nat.le_trans Z0 (Nat.le_of_eq g101.symm)) ((Exa.ext E108 q105_2).keep q114_0) (Nat.le_trans Z0 (Nat.le_trans (Nat.le_trans E101.1 q102_0.1) q105_1)) q114_1 q114_2 q114_3 q114_4 (own_stakeep (Sta.ext E108 (own_stakeep (own_stakeep (Sta.ext E101 SC) q102_0 (nsS A101.nostat ns0)) q105_0 (nsS (A101.keep q102_0).nostat ns0))) q114_0 (nsS (Exa.ext E108 ((A101.keep q102_0).keep q105_0)).nostat (nsS (Exa.ext E108 q105_2).nostat ns0))) (PC : ¬ (cs = (0 : Int32))) (own_idx2 (own_idx2 rfl HZ1) rfl) (own_b2 _ _ _ _) ((by have u0:=PC; have u1:=BA1; have u2:=BB1; have u3:=BA2; have u4:=BB2; have u5:=hc104; have u6:=q105_7; have u7:=q105_8; have u8:=q105_9; have u9:=hc112; have u10:=hc120; have u11:=rng32 cs; have u12:=rng32 sz1; have u13:=rng32 sz2; have u14:=rng32 ((0 : Int32) + sz1); have u15:=c_iadd (0 : Int32) sz1; have u16:=rng32 C2_105; have u17:=rng32 ((16 : Int32) + ((16 : Int32) + (2 : Int32))); have u18:=c_iadd (16 : Int32) ((16 : Int32) + (2 : Int32)); have u19:=rng32 ((16 : Int32) + (2 : Int32)); have u20:=c_iadd (16 : Int32) (2 : Int32); have u21:=rng32 (((0 : Int32) + sz1) + (2 : Int32)); have u22:=c_iadd ((0 : Int32) + sz1) (2 : Int32); have u23:=rng32 ((((0 : Int32) + sz1) + (2 : Int32)) + sz2); have u24:=c_iadd (((0 : Int32) + sz1) + (2 : Int32)) sz2; (try simp only [Int32.lt_iff_toInt_lt, Int64.lt_iff_toInt_lt, ne_eq, ← Int32.toInt_inj, ← Int64.toInt_inj, Int32.reduceToInt, Int64.reduceToInt, Nat.reducePow] at u0 u1 u2 u3 u4 u5 u6 u7 u8 u9 u10 u11 u12 u13 u14 u15 u16 u17 u18 u19 u20 u21 u22 u23 u24 ⊢); try omega) : ¬ ((((0 : Int32) + sz1) + (2 : Int32)) < (0 : Int32))) ((by have u0:=PC; have u1:=BA1; have u2:=BB1; have u3:=BA2; have u4:=BB2; have u5:=hc104; have u6:=q105_7; have u7:=q105_8; have u8:=q105_9; have u9:=hc112; have u10:=hc120; have u11:=rng32 cs; have u12:=rng32 sz1; have u13:=rng32 sz2; have u14:=rng32 ((0 : Int32) + sz1); have u15:=c_iadd (0 : Int32) sz1; have u16:=rng32 C2_105; have u17:=rng32 ((16 : Int32) + ((16 : Int32) + (2 : Int32))); have u18:=c_iadd (16 : Int32) ((16 : Int32) + (2 : Int32)); have u19:=rng32 ((16 : Int32) + (2 : Int32)); have u20:=c_iadd (16 : Int32) (2 : Int32); have u21:=rng32 (((0 : Int32) + sz1) + (2 : Int32)); have u22:=c_iadd ((0 : Int32) + sz1) (2 : Int32); have u23:=rng32 ((((0 : Int32) + sz1) + (2 : Int32)) + sz2); have u24:=c_iadd (((0 : Int32) + sz1) + (2 : Int32)) sz2; (try simp only [Int32.lt_iff_toInt_lt, Int64.lt_iff_toInt_lt, ne_eq, ← Int32.toInt_inj, ← Int64.toInt_inj, Int32.reduceToInt, Int64.reduceToInt, Nat.reducePow] at u0 u1 u2 u3 u4 u5 u6 u7 u8 u9 u10 u11 u12 u13 u14 u15 u16 u17 u18 u19 u20 u21 u22 u23 u24 ⊢); try omega) : ¬ ((40 : Int32) < (((0 : Int32) + sz1) + (2 : Int32)))) ((by have u0:=PC; have u1:=BA1; have u2:=BB1; have u3:=BA2; have u4:=BB2; have u5:=hc104; have u6:=q105_7; have u7:=q105_8; have u8:=q105_9; have u9:=hc112; have u10:=hc120; have u11:=rng32 cs; have u12:=rng32 sz1; have u13:=rng32 sz2; have u14:=rng32 ((0 : Int32) + sz1); have u15:=c_iadd (0 : Int32) sz1; have u16:=rng32 C2_105; have u17:=rng32 ((16 : Int32) + ((16 : Int32) + (2 : Int32))); have u18:=c_iadd (16 : Int32) ((16 : Int32) + (2 : Int32)); have u19:=rng32 ((16 : Int32) + (2 : Int32)); have u20:=c_iadd (16 : Int32) (2 : Int32); have u21:=rng32 (((0 : Int32) + sz1) + (2 : Int32)); have u22:=c_iadd ((0 : Int32) + sz1) (2 : Int32); have u23:=rng32 ((((0 : Int32) + sz1) + (2 : Int32)) + sz2); have u24:=c_iadd (((0 : Int32) + sz1) + (2 : Int32)) sz2; (try simp only [Int32.lt_iff_toInt_lt, Int64.lt_iff_toInt_lt, ne_eq, ← Int32.toInt_inj, ← Int64.toInt_inj, Int32.reduceToInt, Int64.reduceToInt, Nat.reducePow] at u0 u1 u2 u3 u4 u5 u6 u7 u8 u9 u10 u11 u12 u13 u14 u15 u16 u17 u18 u19 u20 u21 u22 u23 u24 ⊢); try omega) : ¬ (C2_105 < (0 : Int32))) ((by have u0:=PC; have u1:=BA1; have u2:=BB1; have u3:=BA2; have u4:=BB2; have u5:=hc104; have u6:=q105_7; have u7:=q105_8; have u8:=q105_9; have u9:=hc112; have u10:=hc120; have u11:=rng32 cs; have u12:=rng32 sz1; have u13:=rng32 sz2; have u14:=rng32 ((0 : Int32) + sz1); have u15:=c_iadd (0 : Int32) sz1; have u16:=rng32 C2_105; have u17:=rng32 ((16 : Int32) + ((16 : Int32) + (2 : Int32))); have u18:=c_iadd (16 : Int32) ((16 : Int32) + (2 : Int32)); have u19:=rng32 ((16 : Int32) + (2 : Int32)); have u20:=c_iadd (16 : Int32) (2 : Int32); have u21:=rng32 (((0 : Int32) + sz1) + (2 : Int32)); have u22:=c_iadd ((0 : Int32) + sz1) (2 : Int32); have u23:=rng32 ((((0 : Int32) + sz1) + (2 : Int32)) + sz2); have u24:=c_iadd (((0 : Int32) + sz1) + (2 : Int32)) sz2; (try simp only [Int32.lt_iff_toInt_lt, Int64.lt_iff_toInt_lt, ne_eq, ← Int32.toInt_inj, ← Int64.toInt_inj, Int32.reduceToInt, Int64.reduceToInt, Nat.reducePow] at u0 u1 u2 u3 u4 u5 u6 u7 u8 u9 u10 u11 u12 u13 u14 u15 u16 u17 u18 u19 u20 u21 u22 u23 u24 ⊢); try omega) : ¬ ((70 : Int32) < C2_105)) HA2 HZ2 (BA2 : (0 : Int32) < sz2) (BB2 : ¬ ((21 : Int32) < sz2)) (own_stakeep (Sta.ext E108 (own_stakeep (own_stakeep (Sta.ext E101 S1) q102_0 (nsS A101.nostat ns0)) q105_0 (nsS (A101.keep q102_0).nostat ns0))) q114_0 (nsS (Exa.ext E108 ((A101.keep q102_0).keep q105_0)).nostat (nsS (Exa.ext E108 q105_2).nostat ns0))) (((((W1.ext E101).keep q102_0 (ninS (Nat.ne_of_lt (Nat.lt_of_lt_of_le W1.lt (Nat.le_of_eq g101.symm))) nin0)).keep q105_0 (ninS (Nat.ne_of_lt (Nat.lt_of_lt_of_le W1.lt (Nat.le_of_eq g101.symm))) nin0)).ext E108).keep q114_0 (ninS (Nat.ne_of_lt (Nat.lt_of_lt_of_le W1.lt (Nat.le_of_eq g101.symm))) (ninS (Nat.ne_of_lt (Nat.lt_of_lt_of_le W1.lt (Nat.le_trans (Nat.le_trans E101.1 q102_0.1) q105_1))) nin0))) (own_stakeep (Sta.ext E108 (own_stakeep (own_stakeep (Sta.ext E101 S2) q102_0 (nsS A101.nostat ns0)) q105_0 (nsS (A101.keep q102_0).nostat ns0))) q114_0 (nsS (Exa.ext E108 ((A101.keep q102_0).keep q105_0)).nostat (nsS (Exa.ext E108 q105_2).nostat ns0))) (((((W2.ext E101).keep q102_0 (ninS (Nat.ne_of_lt (Nat.lt_of_lt_of_le W2.lt (Nat.le_of_eq g101.symm))) nin0)).keep q105_0 (ninS (Nat.ne_of_lt (Nat.lt_of_lt_of_le W2.lt (Nat.le_of_eq g101.symm))) nin0)).ext E108).keep q114_0 (ninS (Nat.ne_of_lt (Nat.lt_of_lt_of_le W2.lt (Nat.le_of_eq g101.symm))) (ninS (Nat.ne_of_lt (Nat.lt_of_lt_of_le W2.lt (Nat.le_trans (Nat.le_trans E101.1 q102_0.1) q105_1))) nin0))) HS (Ne.symm (Nat.ne_of_lt (Nat.lt_of_lt_of_le W1.lt (Nat.le_trans (Nat.le_trans E101.1 q102_0.1) q105_1)))) (Ne.symm (Nat.ne_of_lt (Nat.lt_of_lt_of_le W2.lt (Nat.le_trans (Nat.le_trans E101.1 q102_0.1) q105_1)))) (hc120 : ¬ (C2_105 < ((((0 : Int32) + sz1) + (2 : Int32)) + sz2)))) hZ tw54 tw32 (by decide) (by decide)) q142a q142c (g := (mkF m 23 #[.val (.ref a1)] [(.long hi), (.ref b101)])) rfl (by rw [hml]; rfl) (Steps.refl _) (argsL := [(.long hi)]) (rest := []) (lenOf pd_J_Ljava_lang_StringBuilder rfl) rfl (Nat.le_of_eq rfl) (hb hby dk353) (fun _ _ => ⟨rfl, e119, (by decide : 5 + 0 ≤ _), (by decide : 102 + 0 ≤ _)⟩)
      dsimp only [Pt.U, Pt.locs, Pt.cells, Pt.slots] at X142 l142 y142 z142 st142 hQ142
      subst y142 z142
      obtain ⟨rfl, Nq142, q142_0, q142_1, q142_2, q142_3, q142_4⟩ := hQ142
      have N142 : Fr n0 L142 := by rw [l142]; exact Fr.app N114 Nq142
      refine Goes.step (S' := T142.setTop (mkF m 26 #[.val (.ref a1)] [(.ref b101)])) (fun t k => st142.trans k) ?_
      by_cases hc147 : ((((0 : Int32) + sz1) + (2 : Int32)) + sz2) = C2_105
      case pos =>
        obtain ⟨cq148, kq148, q148a, q148b, q148c⟩ := isOf hZ rfl (((Exa.ext E108 ((A101.keep q102_0).keep q105_0)).keep q114_0).keep q142_0)
        obtain ⟨_, _, ⟨T148, L148, k148, n148⟩, -, X148, ⟨Lc148, hQ148, l148, y148, z148⟩, st148⟩ := X142.virtualBack hx (y := mth29) (z := mth29) hown (mvT hZ tw131) (mvT hZ tw132) (notFace_of_selects (args := #[]) (mvT hZ tw134)) (mvT hZ tw134) (mvT hZ tw133) (by decide) (backOf (W := 0) (tosc l Z a0 hw [] b101 va2_105 kv2_105 C2_105 (((([] : List Value) ++ own_rep lo n1) ++ [(.int (46 : Int32)), (.int (46 : Int32))]) ++ own_rep hi n2) ((((0 : Int32) + sz1) + (2 : Int32)) + sz2) cs T142.heap n0 (Nat.le_trans Z0 (Nat.le_trans (Nat.le_trans (Nat.le_trans (Nat.le_trans (Nat.le_trans E101.1 q102_0.1) q105_0.1) E108.1) q114_0.1) q142_0.1)) (((Exa.ext E108 ((A101.keep q102_0).keep q105_0)).keep q114_0).keep q142_0) (((Exa.ext E108 q105_2).keep q114_0).keep q142_0) q142_1 q142_2 q142_3 q142_4 (own_stakeep (own_stakeep (Sta.ext E108 (own_stakeep (own_stakeep (Sta.ext E101 SC) q102_0 (nsS A101.nostat ns0)) q105_0 (nsS (A101.keep q102_0).nostat ns0))) q114_0 (nsS (Exa.ext E108 ((A101.keep q102_0).keep q105_0)).nostat (nsS (Exa.ext E108 q105_2).nostat ns0))) q142_0 (nsS ((Exa.ext E108 ((A101.keep q102_0).keep q105_0)).keep q114_0).nostat (nsS ((Exa.ext E108 q105_2).keep q114_0).nostat ns0))) (PC : ¬ (cs = (0 : Int32))) (own_idx2 (own_idx2 (own_idx2 rfl HZ1) rfl) HZ2) (by exact own_allB (lo := lo) (n1 := n1) (hi := hi) (n2 := n2)) ((by have u0:=PC; have u1:=BA1; have u2:=BB1; have u3:=BA2; have u4:=BB2; have u5:=hc104; have u6:=q105_7; have u7:=q105_8; have u8:=q105_9; have u9:=hc112; have u10:=hc120; have u11:=hc147; have u12:=rng32 cs; have u13:=rng32 sz1; have u14:=rng32 sz2; have u15:=rng32 ((0 : Int32) + sz1); have u16:=c_iadd (0 : Int32) sz1; have u17:=rng32 C2_105; have u18:=rng32 ((16 : Int32) + ((16 : Int32) + (2 : Int32))); have u19:=c_iadd (16 : Int32) ((16 : Int32) + (2 : Int32)); have u20:=rng32 ((16 : Int32) + (2 : Int32)); have u21:=c_iadd (16 : Int32) (2 : Int32); have u22:=rng32 (((0 : Int32) + sz1) + (2 : Int32)); have u23:=c_iadd ((0 : Int32) + sz1) (2 : Int32); have u24:=rng32 ((((0 : Int32) + sz1) + (2 : Int32)) + sz2); have u25:=c_iadd (((0 : Int32) + sz1) + (2 : Int32)) sz2; (try simp only [Int32.lt_iff_toInt_lt, Int64.lt_iff_toInt_lt, ne_eq, ← Int32.toInt_inj, ← Int64.toInt_inj, Int32.reduceToInt, Int64.reduceToInt, Nat.reducePow] at u0 u1 u2 u3 u4 u5 u6 u7 u8 u9 u10 u11 u12 u13 u14 u15 u16 u17 u18 u19 u20 u21 u22 u23 u24 u25 ⊢); try omega) : ¬ (((((0 : Int32) + sz1) + (2 : Int32)) + sz2) < (0 : Int32))) ((by have u0:=PC; have u1:=BA1; have u2:=BB1; have u3:=BA2; have u4:=BB2; have u5:=hc104; have u6:=q105_7; have u7:=q105_8; have u8:=q105_9; have u9:=hc112; have u10:=hc120; have u11:=hc147; have u12:=rng32 cs; have u13:=rng32 sz1; have u14:=rng32 sz2; have u15:=rng32 ((0 : Int32) + sz1); have u16:=c_iadd (0 : Int32) sz1; have u17:=rng32 C2_105; have u18:=rng32 ((16 : Int32) + ((16 : Int32) + (2 : Int32))); have u19:=c_iadd (16 : Int32) ((16 : Int32) + (2 : Int32)); have u20:=rng32 ((16 : Int32) + (2 : Int32)); have u21:=c_iadd (16 : Int32) (2 : Int32); have u22:=rng32 (((0 : Int32) + sz1) + (2 : Int32)); have u23:=c_iadd ((0 : Int32) + sz1) (2 : Int32); have u24:=rng32 ((((0 : Int32) + sz1) + (2 : Int32)) + sz2); have u25:=c_iadd (((0 : Int32) + sz1) + (2 : Int32)) sz2; (try simp only [Int32.lt_iff_toInt_lt, Int64.lt_iff_toInt_lt, ne_eq, ← Int32.toInt_inj, ← Int64.toInt_inj, Int32.reduceToInt, Int64.reduceToInt, Nat.reducePow] at u0 u1 u2 u3 u4 u5 u6 u7 u8 u9 u10 u11 u12 u13 u14 u15 u16 u17 u18 u19 u20 u21 u22 u23 u24 u25 ⊢); try omega) : ¬ ((70 : Int32) < ((((0 : Int32) + sz1) + (2 : Int32)) + sz2))) (hc147 : ((((0 : Int32) + sz1) + (2 : Int32)) + sz2) = C2_105)) hZ tw135 tw32 (by decide) (by decide)) q148a q148c (g := (mkF m 26 #[.val (.ref a1)] [(.ref b101)])) rfl (by rw [hml]; rfl) (Steps.refl _) (argsL := []) (rest := []) (lenOf pd_Ljava_lang_String rfl) rfl (Nat.le_of_eq rfl) (hb hby dk354) (fun _ _ => ⟨rfl, rfl, (by decide : 5 + 2 ≤ _), (by decide : 102 + 74 ≤ _)⟩)
        dsimp only [Pt.U, Pt.locs, Pt.cells, Pt.slots] at X148 l148 y148 z148 st148 hQ148
        subst y148 z148
        obtain ⟨s1_148, x_148, kx_148, rfl, Nq148, q148_0, q148_1, q148_2, q148_3, q148_4, q148_5, q148_6⟩ := hQ148
        have N148 : Fr n0 L148 := by rw [l148]; exact Fr.app N142 Nq148
        refine Goes.step (S' := T148.setTop (mkF m 29 #[.val (.ref a1)] [(.ref s1_148)])) (fun t k => st148.trans k) ?_
        have CR151 := CR108.trans (CHr.keep q114_0 (sfS (Safe.exa hZ.alike (Exa.ext E108 ((A101.keep q102_0).keep q105_0)) (by decide) (by decide)) (sfS Q108_va2_105 sf0)) CR108.1)
        have Q151_va_102 := Safe.keep q114_0 (sfS (Safe.exa hZ.alike (Exa.ext E108 ((A101.keep q102_0).keep q105_0)) (by decide) (by decide)) (sfS Q108_va2_105 sf0)) CR108.1 Q108_va_102
        have Q151_va2_105 := Safe.keep q114_0 (sfS (Safe.exa hZ.alike (Exa.ext E108 ((A101.keep q102_0).keep q105_0)) (by decide) (by decide)) (sfS Q108_va2_105 sf0)) CR108.1 Q108_va2_105
        have CR152 := CR151.trans (CHr.keep q142_0 (sfS (Safe.exa hZ.alike ((Exa.ext E108 ((A101.keep q102_0).keep q105_0)).keep q114_0) (by decide) (by decide)) (sfS Q151_va2_105 sf0)) CR151.1)
        have Q152_va_102 := Safe.keep q142_0 (sfS (Safe.exa hZ.alike ((Exa.ext E108 ((A101.keep q102_0).keep q105_0)).keep q114_0) (by decide) (by decide)) (sfS Q151_va2_105 sf0)) CR151.1 Q151_va_102
        have Q152_va2_105 := Safe.keep q142_0 (sfS (Safe.exa hZ.alike ((Exa.ext E108 ((A101.keep q102_0).keep q105_0)).keep q114_0) (by decide) (by decide)) (sfS Q151_va2_105 sf0)) CR151.1 Q151_va2_105
        have CR153 := CR152.trans (CHr.keep q148_0 sf0 CR152.1)
        have Q153_va_102 := Safe.keep q148_0 sf0 CR152.1 Q152_va_102
        have Q153_va2_105 := Safe.keep q148_0 sf0 CR152.1 Q152_va2_105
        have Q153_s1_148 := Safe.keep q148_0 sf0 CR152.1 (Safe.new q148_1)
        refine Goes.leaveH (g := (mkF m 29 #[.val (.ref a1)] [(.ref s1_148)])) (own_ew hw) hZ hh CR153 X148 hS108 (Nat.le_trans hk108 (Nat.le_trans (Nat.le_trans q114_0.1 q142_0.1) q148_0.1)) Bd.notSynchronized (v := (some (.ref s1_148))) (fun h => by rw [Bd.returns] at h; cases h) (fun fs hr => by jvm_step X148.here [X148.here.top, hx, (hb hby dk355), X148.method', Bd.returns, Value.isRef, FieldType.isReference]; (first | (intro acts; rw [hr _ acts rfl rfl rfl]) | rw [hr _ _ rfl rfl rfl]); exact Steps.refl _) rfl ?_ (by decide) (by decide)
        exact ⟨s1_148, x_148, kx_148, ((((0 : Int32) + sz1) + (2 : Int32)) + sz2), rfl, N148, ((((((((Keep.refl _ []).ext E101).trans q102_0 (allS (Or.inr (Nat.le_of_eq g101.symm)) all0)).trans q105_0 (allS (Or.inr (Nat.le_of_eq g101.symm)) all0)).ext E108).trans q114_0 (allS (Or.inr (Nat.le_of_eq g101.symm)) (allS (Or.inr (Nat.le_trans (Nat.le_trans E101.1 q102_0.1) q105_1)) all0))).trans q142_0 (allS (Or.inr (Nat.le_of_eq g101.symm)) (allS (Or.inr (Nat.le_trans (Nat.le_trans E101.1 q102_0.1) q105_1)) all0))).trans q148_0 all0), q148_2, q148_3, q148_4, q148_6, (own_idx2 (own_idx2 (own_idx2 rfl HZ1) rfl) HZ2)⟩
      case neg =>
        obtain ⟨cq154, kq154, q154a, q154b, q154c⟩ := isOf hZ rfl (((Exa.ext E108 ((A101.keep q102_0).keep q105_0)).keep q114_0).keep q142_0)
        obtain ⟨_, _, ⟨T154, L154, k154, n154⟩, -, X154, ⟨Lc154, hQ154, l154, y154, z154⟩, st154⟩ := X142.virtualBack hx (y := mth29) (z := mth29) hown (mvT hZ tw131) (mvT hZ tw132) (notFace_of_selects (args := #[]) (mvT hZ tw134)) (mvT hZ tw134) (mvT hZ tw133) (by decide) (backOf (W := 0) (tosr l Z a0 hw [] b101 va2_105 kv2_105 C2_105 (((([] : List Value) ++ own_rep lo n1) ++ [(.int (46 : Int32)), (.int (46 : Int32))]) ++ own_rep hi n2) ((((0 : Int32) + sz1) + (2 : Int32)) + sz2) cs T142.heap n0 (Nat.le_trans Z0 (Nat.le_trans (Nat.le_trans (Nat.le_trans (Nat.le_trans (Nat.le_trans E101.1 q102_0.1) q105_0.1) E108.1) q114_0.1) q142_0.1)) (((Exa.ext E108 ((A101.keep q102_0).keep q105_0)).keep q114_0).keep q142_0) (((Exa.ext E108 q105_2).keep q114_0).keep q142_0) q142_1 q142_2 q142_3 q142_4 (own_stakeep (own_stakeep (Sta.ext E108 (own_stakeep (own_stakeep (Sta.ext E101 SC) q102_0 (nsS A101.nostat ns0)) q105_0 (nsS (A101.keep q102_0).nostat ns0))) q114_0 (nsS (Exa.ext E108 ((A101.keep q102_0).keep q105_0)).nostat (nsS (Exa.ext E108 q105_2).nostat ns0))) q142_0 (nsS ((Exa.ext E108 ((A101.keep q102_0).keep q105_0)).keep q114_0).nostat (nsS ((Exa.ext E108 q105_2).keep q114_0).nostat ns0))) (PC : ¬ (cs = (0 : Int32))) (own_idx2 (own_idx2 (own_idx2 rfl HZ1) rfl) HZ2) (by exact own_allB (lo := lo) (n1 := n1) (hi := hi) (n2 := n2)) ((by have u0:=PC; have u1:=BA1; have u2:=BB1; have u3:=BA2; have u4:=BB2; have u5:=hc104; have u6:=q105_7; have u7:=q105_8; have u8:=q105_9; have u9:=hc112; have u10:=hc120; have u11:=hc147; have u12:=rng32 cs; have u13:=rng32 sz1; have u14:=rng32 sz2; have u15:=rng32 ((0 : Int32) + sz1); have u16:=c_iadd (0 : Int32) sz1; have u17:=rng32 C2_105; have u18:=rng32 ((16 : Int32) + ((16 : Int32) + (2 : Int32))); have u19:=c_iadd (16 : Int32) ((16 : Int32) + (2 : Int32)); have u20:=rng32 ((16 : Int32) + (2 : Int32)); have u21:=c_iadd (16 : Int32) (2 : Int32); have u22:=rng32 (((0 : Int32) + sz1) + (2 : Int32)); have u23:=c_iadd ((0 : Int32) + sz1) (2 : Int32); have u24:=rng32 ((((0 : Int32) + sz1) + (2 : Int32)) + sz2); have u25:=c_iadd (((0 : Int32) + sz1) + (2 : Int32)) sz2; (try simp only [Int32.lt_iff_toInt_lt, Int64.lt_iff_toInt_lt, ne_eq, ← Int32.toInt_inj, ← Int64.toInt_inj, Int32.reduceToInt, Int64.reduceToInt, Nat.reducePow] at u0 u1 u2 u3 u4 u5 u6 u7 u8 u9 u10 u11 u12 u13 u14 u15 u16 u17 u18 u19 u20 u21 u22 u23 u24 u25 ⊢); try omega) : ¬ (((((0 : Int32) + sz1) + (2 : Int32)) + sz2) < (0 : Int32))) ((by have u0:=PC; have u1:=BA1; have u2:=BB1; have u3:=BA2; have u4:=BB2; have u5:=hc104; have u6:=q105_7; have u7:=q105_8; have u8:=q105_9; have u9:=hc112; have u10:=hc120; have u11:=hc147; have u12:=rng32 cs; have u13:=rng32 sz1; have u14:=rng32 sz2; have u15:=rng32 ((0 : Int32) + sz1); have u16:=c_iadd (0 : Int32) sz1; have u17:=rng32 C2_105; have u18:=rng32 ((16 : Int32) + ((16 : Int32) + (2 : Int32))); have u19:=c_iadd (16 : Int32) ((16 : Int32) + (2 : Int32)); have u20:=rng32 ((16 : Int32) + (2 : Int32)); have u21:=c_iadd (16 : Int32) (2 : Int32); have u22:=rng32 (((0 : Int32) + sz1) + (2 : Int32)); have u23:=c_iadd ((0 : Int32) + sz1) (2 : Int32); have u24:=rng32 ((((0 : Int32) + sz1) + (2 : Int32)) + sz2); have u25:=c_iadd (((0 : Int32) + sz1) + (2 : Int32)) sz2; (try simp only [Int32.lt_iff_toInt_lt, Int64.lt_iff_toInt_lt, ne_eq, ← Int32.toInt_inj, ← Int64.toInt_inj, Int32.reduceToInt, Int64.reduceToInt, Nat.reducePow] at u0 u1 u2 u3 u4 u5 u6 u7 u8 u9 u10 u11 u12 u13 u14 u15 u16 u17 u18 u19 u20 u21 u22 u23 u24 u25 ⊢); try omega) : ¬ ((70 : Int32) < ((((0 : Int32) + sz1) + (2 : Int32)) + sz2))) ((by have u0:=PC; have u1:=BA1; have u2:=BB1; have u3:=BA2; have u4:=BB2; have u5:=hc104; have u6:=q105_7; have u7:=q105_8; have u8:=q105_9; have u9:=hc112; have u10:=hc120; have u11:=hc147; have u12:=rng32 cs; have u13:=rng32 sz1; have u14:=rng32 sz2; have u15:=rng32 ((0 : Int32) + sz1); have u16:=c_iadd (0 : Int32) sz1; have u17:=rng32 C2_105; have u18:=rng32 ((16 : Int32) + ((16 : Int32) + (2 : Int32))); have u19:=c_iadd (16 : Int32) ((16 : Int32) + (2 : Int32)); have u20:=rng32 ((16 : Int32) + (2 : Int32)); have u21:=c_iadd (16 : Int32) (2 : Int32); have u22:=rng32 (((0 : Int32) + sz1) + (2 : Int32)); have u23:=c_iadd ((0 : Int32) + sz1) (2 : Int32); have u24:=rng32 ((((0 : Int32) + sz1) + (2 : Int32)) + sz2); have u25:=c_iadd (((0 : Int32) + sz1) + (2 : Int32)) sz2; (try simp only [Int32.lt_iff_toInt_lt, Int64.lt_iff_toInt_lt, ne_eq, ← Int32.toInt_inj, ← Int64.toInt_inj, Int32.reduceToInt, Int64.reduceToInt, Nat.reducePow] at u0 u1 u2 u3 u4 u5 u6 u7 u8 u9 u10 u11 u12 u13 u14 u15 u16 u17 u18 u19 u20 u21 u22 u23 u24 u25 ⊢); try omega) : ((((0 : Int32) + sz1) + (2 : Int32)) + sz2) < C2_105)) hZ tw135 tw32 (by decide) (by decide)) q154a q154c (g := (mkF m 26 #[.val (.ref a1)] [(.ref b101)])) rfl (by rw [hml]; rfl) (Steps.refl _) (argsL := []) (rest := []) (lenOf pd_Ljava_lang_String rfl) rfl (Nat.le_of_eq rfl) (hb hby dk354) (fun _ _ => ⟨rfl, rfl, (by decide : 5 + 2 ≤ _), (by decide : 102 + 74 ≤ _)⟩)
        dsimp only [Pt.U, Pt.locs, Pt.cells, Pt.slots] at X154 l154 y154 z154 st154 hQ154
        subst y154 z154
        obtain ⟨s1_154, x_154, kx_154, rfl, Nq154, q154_0, q154_1, q154_2, q154_3, q154_4, q154_5, q154_6⟩ := hQ154
        have N154 : Fr n0 L154 := by rw [l154]; exact Fr.app N142 Nq154
        refine Goes.step (S' := T154.setTop (mkF m 29 #[.val (.ref a1)] [(.ref s1_154)])) (fun t k => st154.trans k) ?_
        have CR158 := CR108.trans (CHr.keep q114_0 (sfS (Safe.exa hZ.alike (Exa.ext E108 ((A101.keep q102_0).keep q105_0)) (by decide) (by decide)) (sfS Q108_va2_105 sf0)) CR108.1)
        have Q158_va_102 := Safe.keep q114_0 (sfS (Safe.exa hZ.alike (Exa.ext E108 ((A101.keep q102_0).keep q105_0)) (by decide) (by decide)) (sfS Q108_va2_105 sf0)) CR108.1 Q108_va_102
        have Q158_va2_105 := Safe.keep q114_0 (sfS (Safe.exa hZ.alike (Exa.ext E108 ((A101.keep q102_0).keep q105_0)) (by decide) (by decide)) (sfS Q108_va2_105 sf0)) CR108.1 Q108_va2_105
        have CR159 := CR158.trans (CHr.keep q142_0 (sfS (Safe.exa hZ.alike ((Exa.ext E108 ((A101.keep q102_0).keep q105_0)).keep q114_0) (by decide) (by decide)) (sfS Q158_va2_105 sf0)) CR158.1)
        have Q159_va_102 := Safe.keep q142_0 (sfS (Safe.exa hZ.alike ((Exa.ext E108 ((A101.keep q102_0).keep q105_0)).keep q114_0) (by decide) (by decide)) (sfS Q158_va2_105 sf0)) CR158.1 Q158_va_102
        have Q159_va2_105 := Safe.keep q142_0 (sfS (Safe.exa hZ.alike ((Exa.ext E108 ((A101.keep q102_0).keep q105_0)).keep q114_0) (by decide) (by decide)) (sfS Q158_va2_105 sf0)) CR158.1 Q158_va2_105
        have CR160 := CR159.trans (CHr.keep q154_0 sf0 CR159.1)
        have Q160_va_102 := Safe.keep q154_0 sf0 CR159.1 Q159_va_102
        have Q160_va2_105 := Safe.keep q154_0 sf0 CR159.1 Q159_va2_105
        have Q160_s1_154 := Safe.keep q154_0 sf0 CR159.1 (Safe.new q154_1)
        refine Goes.leaveH (g := (mkF m 29 #[.val (.ref a1)] [(.ref s1_154)])) (own_ew hw) hZ hh CR160 X154 hS108 (Nat.le_trans hk108 (Nat.le_trans (Nat.le_trans q114_0.1 q142_0.1) q154_0.1)) Bd.notSynchronized (v := (some (.ref s1_154))) (fun h => by rw [Bd.returns] at h; cases h) (fun fs hr => by jvm_step X154.here [X154.here.top, hx, (hb hby dk355), X154.method', Bd.returns, Value.isRef, FieldType.isReference]; (first | (intro acts; rw [hr _ acts rfl rfl rfl]) | rw [hr _ _ rfl rfl rfl]); exact Steps.refl _) rfl ?_ (by decide) (by decide)
        exact ⟨s1_154, x_154, kx_154, ((((0 : Int32) + sz1) + (2 : Int32)) + sz2), rfl, N154, ((((((((Keep.refl _ []).ext E101).trans q102_0 (allS (Or.inr (Nat.le_of_eq g101.symm)) all0)).trans q105_0 (allS (Or.inr (Nat.le_of_eq g101.symm)) all0)).ext E108).trans q114_0 (allS (Or.inr (Nat.le_of_eq g101.symm)) (allS (Or.inr (Nat.le_trans (Nat.le_trans E101.1 q102_0.1) q105_1)) all0))).trans q142_0 (allS (Or.inr (Nat.le_of_eq g101.symm)) (allS (Or.inr (Nat.le_trans (Nat.le_trans E101.1 q102_0.1) q105_1)) all0))).trans q154_0 all0), q154_2, q154_3, q154_4, q154_6, (own_idx2 (own_idx2 (own_idx2 rfl HZ1) rfl) HZ2)⟩
  case neg =>
    obtain ⟨cq161, kq161, q161a, q161b, q161c⟩ := isOf hZ e103 (A101.keep q102_0)
    obtain ⟨_, _, ⟨T161, L161, k161, n161⟩, -, X161, ⟨Lc161, hQ161, l161, y161, z161⟩, st161⟩ := X103.virtualBack hx (y := mth12) (z := mth12) hown (mvT hZ tw50) (mvT hZ tw51) (notFace_of_selects (args := #[]) (mvT hZ tw53)) (mvT hZ tw53) (mvT hZ tw52) (by decide) (backOf (W := 0) (sjs l Z a0 hw [] b101 va_102 kv_102 (16 : Int32) ([] : List Value) (0 : Int32) cs lo n1 sz1 d1 d2 kd1 kd2 T102.heap n0 (Nat.le_trans Z0 (Nat.le_trans E101.1 q102_0.1)) (A101.keep q102_0) (Nat.le_trans Z0 (Nat.le_of_eq g101.symm)) q102_2 (Nat.le_trans Z0 (Nat.le_trans E101.1 q102_1)) q102_3 q102_4 q102_5 q102_6 (own_stakeep (Sta.ext E101 SC) q102_0 (nsS A101.nostat ns0)) (PC : ¬ (cs = (0 : Int32))) rfl (Nat.zero_le _) ((by decide) : ¬ ((0 : Int32) < (0 : Int32))) ((by decide) : ¬ ((40 : Int32) < (0 : Int32))) ((by decide) : ¬ ((16 : Int32) < (0 : Int32))) ((by decide) : ¬ ((70 : Int32) < (16 : Int32))) HA1 HZ1 (BA1 : (0 : Int32) < sz1) (BB1 : ¬ ((21 : Int32) < sz1)) (own_stakeep (Sta.ext E101 S1) q102_0 (nsS A101.nostat ns0)) ((W1.ext E101).keep q102_0 (ninS (Nat.ne_of_lt (Nat.lt_of_lt_of_le W1.lt (Nat.le_of_eq g101.symm))) nin0)) (own_stakeep (Sta.ext E101 S2) q102_0 (nsS A101.nostat ns0)) ((W2.ext E101).keep q102_0 (ninS (Nat.ne_of_lt (Nat.lt_of_lt_of_le W2.lt (Nat.le_of_eq g101.symm))) nin0)) HS (Ne.symm (Nat.ne_of_lt (Nat.lt_of_lt_of_le W1.lt (Nat.le_trans E101.1 q102_1)))) (Ne.symm (Nat.ne_of_lt (Nat.lt_of_lt_of_le W2.lt (Nat.le_trans E101.1 q102_1)))) (hc104 : ¬ ((16 : Int32) < ((0 : Int32) + sz1)))) hZ tw54 tw32 (by decide) (by decide)) q161a q161c (g := (mkF m 11 #[.val (.ref a1)] [(.long lo), (.ref b101)])) rfl (by rw [hml]; rfl) (Steps.refl _) (argsL := [(.long lo)]) (rest := []) (lenOf pd_J_Ljava_lang_StringBuilder rfl) rfl (Nat.le_of_eq rfl) (hb hby dk348) (fun _ _ => ⟨rfl, e103, (by decide : 2 + 0 ≤ _), (by decide : 20 + 0 ≤ _)⟩)
    dsimp only [Pt.U, Pt.locs, Pt.cells, Pt.slots] at X161 l161 y161 z161 st161 hQ161
    subst y161 z161
    obtain ⟨rfl, Nq161, q161_0, q161_1, q161_2, q161_3, q161_4⟩ := hQ161
    have N161 : Fr n0 L161 := by rw [l161]; exact Fr.app N102 Nq161
    refine Goes.step (S' := T161.setTop (mkF m 14 #[.val (.ref a1)] [(.ref b101)])) (fun t k => st161.trans k) ?_
    have CR163 := CR0.trans (CHr.ext E101 CR0.1)
    have CR164 := CR163.trans (CHr.keep q102_0 (sfS (Safe.exa hZ.alike A101 (by decide) (by decide)) sf0) CR163.1)
    have Q164_va_102 := Safe.keep q102_0 (sfS (Safe.exa hZ.alike A101 (by decide) (by decide)) sf0) CR163.1 (Safe.new q102_1)
    have CR165 := CR164.trans (CHr.keep q161_0 (sfS (Safe.exa hZ.alike (A101.keep q102_0) (by decide) (by decide)) (sfS Q164_va_102 sf0)) CR164.1)
    have Q165_va_102 := Safe.keep q161_0 (sfS (Safe.exa hZ.alike (A101.keep q102_0) (by decide) (by decide)) (sfS Q164_va_102 sf0)) CR164.1 Q164_va_102
    obtain ⟨b162, T162, h162, k162, v162, kv162, X162, e162, E162, hS162, hk162, hZ, hown, Ea162, Fc162, Fv162, Va162, lta162, ltb162, CX162, Lt162, Sn162, st162⟩ := ldcCH (s := s) (EL := own_EL) X161 hx hZ hown tw83 (fun d hd => hw d (own_sin d hd)) rfl hS0 (Nat.le_trans (Nat.le_refl _) (Nat.le_trans (Nat.le_trans E101.1 q102_0.1) q161_0.1)) (own_ew hw) (by decide) CR165.1 (vs := [(.int (46 : Int32)), (.int (46 : Int32))]) (z := (2 : Int32)) ⟨by decide +kernel, by decide +kernel⟩ (by decide) (by decide +kernel) (g := (mkF m 14 #[.val (.ref a1)] [(.ref b101)])) rfl (hb hby dk349) (n := 8) (by decide +kernel) (by decide) (by decide) (by decide)
    have CR162 := CR165.trans CX162
    have Q162_va_102 := CX162.safe (q102_2.keep q161_0).lt Q165_va_102
    refine Goes.step (S' := T162.setTop (mkF m 16 #[.val (.ref a1)] [(.ref b162), (.ref b101)])) (fun t k => st162 _ k) ?_
    by_cases hc166 : (16 : Int32) < (((0 : Int32) + sz1) + (2 : Int32))
    case pos =>
      obtain ⟨cq167, kq167, q167a, q167b, q167c⟩ := isOf hZ e162 (Exa.ext E162 ((A101.keep q102_0).keep q161_0))
      obtain ⟨_, _, ⟨T167, L167, k167, n167⟩, -, X167, ⟨Lc167, hQ167, l167, y167, z167⟩, st167⟩ := X162.virtualBack hx (y := mth20) (z := mth20) hown (mvT hZ tw89) (mvT hZ tw90) (notFace_of_selects (args := #[]) (mvT hZ tw92)) (mvT hZ tw92) (mvT hZ tw91) (by decide) (backOf (W := 0) (sag l Z a0 hw [] b101 va_102 kv_102 (16 : Int32) (([] : List Value) ++ own_rep lo n1) ((0 : Int32) + sz1) cs b162 v162 kv162 (34 : Int32) h162 n0 (Nat.le_trans Z0 (Nat.le_trans (Nat.le_trans (Nat.le_trans E101.1 q102_0.1) q161_0.1) E162.1)) (Exa.ext E162 ((A101.keep q102_0).keep q161_0)) (Nat.le_trans Z0 (Nat.le_of_eq g101.symm)) (Exa.ext E162 (q102_2.keep q161_0)) (Nat.le_trans Z0 (Nat.le_trans E101.1 q102_1)) (Fld.ext E162 q161_1) (Fld.ext E162 q161_2) (Fld.ext E162 q161_3) (q161_4.ext E162) (Sta.ext E162 (own_stakeep (own_stakeep (Sta.ext E101 SC) q102_0 (nsS A101.nostat ns0)) q161_0 (nsS (A101.keep q102_0).nostat (nsS q102_2.nostat ns0)))) (PC : ¬ (cs = (0 : Int32))) (own_idx2 rfl HZ1) (own_b1 _ _) ((by have u0:=PC; have u1:=BA1; have u2:=BB1; have u3:=BA2; have u4:=BB2; have u5:=hc104; have u6:=hc166; have u7:=rng32 cs; have u8:=rng32 sz1; have u9:=rng32 sz2; have u10:=rng32 ((0 : Int32) + sz1); have u11:=c_iadd (0 : Int32) sz1; have u12:=rng32 (((0 : Int32) + sz1) + (2 : Int32)); have u13:=c_iadd ((0 : Int32) + sz1) (2 : Int32); (try simp only [Int32.lt_iff_toInt_lt, Int64.lt_iff_toInt_lt, ne_eq, ← Int32.toInt_inj, ← Int64.toInt_inj, Int32.reduceToInt, Int64.reduceToInt, Nat.reducePow] at u0 u1 u2 u3 u4 u5 u6 u7 u8 u9 u10 u11 u12 u13 ⊢); try omega) : ¬ (((0 : Int32) + sz1) < (0 : Int32))) ((by have u0:=PC; have u1:=BA1; have u2:=BB1; have u3:=BA2; have u4:=BB2; have u5:=hc104; have u6:=hc166; have u7:=rng32 cs; have u8:=rng32 sz1; have u9:=rng32 sz2; have u10:=rng32 ((0 : Int32) + sz1); have u11:=c_iadd (0 : Int32) sz1; have u12:=rng32 (((0 : Int32) + sz1) + (2 : Int32)); have u13:=c_iadd ((0 : Int32) + sz1) (2 : Int32); (try simp only [Int32.lt_iff_toInt_lt, Int64.lt_iff_toInt_lt, ne_eq, ← Int32.toInt_inj, ← Int64.toInt_inj, Int32.reduceToInt, Int64.reduceToInt, Nat.reducePow] at u0 u1 u2 u3 u4 u5 u6 u7 u8 u9 u10 u11 u12 u13 ⊢); try omega) : ¬ ((40 : Int32) < ((0 : Int32) + sz1))) ((by decide) : ¬ ((16 : Int32) < (0 : Int32))) ((by decide) : ¬ ((70 : Int32) < (16 : Int32))) Ea162 Fv162 Fc162 Va162 (Ne.symm (Sn162 _ Q162_va_102).2) (hc166 : (16 : Int32) < (((0 : Int32) + sz1) + (2 : Int32))) ((by have u0:=PC; have u1:=BA1; have u2:=BB1; have u3:=BA2; have u4:=BB2; have u5:=hc104; have u6:=hc166; have u7:=rng32 cs; have u8:=rng32 sz1; have u9:=rng32 sz2; have u10:=rng32 ((0 : Int32) + sz1); have u11:=c_iadd (0 : Int32) sz1; have u12:=rng32 (((0 : Int32) + sz1) + (2 : Int32)); have u13:=c_iadd ((0 : Int32) + sz1) (2 : Int32); (try simp only [Int32.lt_iff_toInt_lt, Int64.lt_iff_toInt_lt, ne_eq, ← Int32.toInt_inj, ← Int64.toInt_inj, Int32.reduceToInt, Int64.reduceToInt, Nat.reducePow] at u0 u1 u2 u3 u4 u5 u6 u7 u8 u9 u10 u11 u12 u13 ⊢); try omega) : ¬ ((34 : Int32) < (((0 : Int32) + sz1) + (2 : Int32)))) ((by have u0:=PC; have u1:=BA1; have u2:=BB1; have u3:=BA2; have u4:=BB2; have u5:=hc104; have u6:=hc166; have u7:=rng32 cs; have u8:=rng32 sz1; have u9:=rng32 sz2; have u10:=rng32 ((0 : Int32) + sz1); have u11:=c_iadd (0 : Int32) sz1; have u12:=rng32 (((0 : Int32) + sz1) + (2 : Int32)); have u13:=c_iadd ((0 : Int32) + sz1) (2 : Int32); have u14:=rng32 ((16 : Int32) + ((16 : Int32) + (2 : Int32))); have u15:=c_iadd (16 : Int32) ((16 : Int32) + (2 : Int32)); have u16:=rng32 ((16 : Int32) + (2 : Int32)); have u17:=c_iadd (16 : Int32) (2 : Int32); (try simp only [Int32.lt_iff_toInt_lt, Int64.lt_iff_toInt_lt, ne_eq, ← Int32.toInt_inj, ← Int64.toInt_inj, Int32.reduceToInt, Int64.reduceToInt, Nat.reducePow] at u0 u1 u2 u3 u4 u5 u6 u7 u8 u9 u10 u11 u12 u13 u14 u15 u16 u17 ⊢); try omega) : ¬ ((34 : Int32) < ((16 : Int32) + ((16 : Int32) + (2 : Int32))))) ((by decide) : ¬ ((70 : Int32) < (34 : Int32))) (hc104 : ¬ ((16 : Int32) < ((0 : Int32) + sz1)))) hZ tw93 tw32 (by decide) (by decide)) q167a q167c (g := (mkF m 16 #[.val (.ref a1)] [(.ref b162), (.ref b101)])) rfl (by rw [hml]; rfl) (Steps.refl _) (argsL := [(.ref b162)]) (rest := []) (lenOf pd_Ljava_lang_String__Ljava_lang_StringBuilder rfl) rfl (Nat.le_of_eq rfl) (hb hby dk350) (fun _ _ => ⟨rfl, e162, (by decide : 4 + 1 ≤ _), (by decide : 32 + 70 ≤ _)⟩)
      dsimp only [Pt.U, Pt.locs, Pt.cells, Pt.slots] at X167 l167 y167 z167 st167 hQ167
      subst y167 z167
      obtain ⟨va2_167, kv2_167, C2_167, rfl, Nq167, q167_0, q167_1, q167_2, q167_3, q167_4, q167_5, q167_6, q167_7, q167_8, q167_9⟩ := hQ167
      have N167 : Fr n0 L167 := by rw [l167]; exact Fr.app N161 Nq167
      refine Goes.step (S' := T167.setTop (mkF m 20 #[.val (.ref a1)] [(.ref a1), (.ref b101)])) (fun t k => st167.trans (XS.aloadN X167.here hx rfl (hb hby dk351) rfl rfl k)) ?_
      obtain ⟨T172, X172, e172, st172⟩ := getF X167 hx hZ hown (host := "") (Or.inl tw23) Via.refl rfl ((Fld.ext E162 (((Fld.ext E101 FM).keep q102_0 (ninS (Nat.ne_of_lt (Nat.lt_of_lt_of_le E1.lt (Nat.le_of_eq g101.symm))) nin0)).keep q161_0 (ninS (Nat.ne_of_lt (Nat.lt_of_lt_of_le E1.lt (Nat.le_of_eq g101.symm))) (ninS (Nat.ne_of_lt (Nat.lt_of_lt_of_le E1.lt (Nat.le_trans E101.1 q102_1))) nin0)))).keep q167_0 (ninS (Nat.ne_of_lt (Nat.lt_of_lt_of_le E1.lt (Nat.le_of_eq g101.symm))) nin0)) (g := (mkF m 20 #[.val (.ref a1)] [(.ref a1), (.ref b101)])) rfl rfl (hb hby dk352)
      refine Goes.step (S' := T172.setTop (mkF m 23 #[.val (.ref a1)] [(.long hi), (.ref b101)])) (fun t k => st172 _ k) ?_
      by_cases hc173 : C2_167 < ((((0 : Int32) + sz1) + (2 : Int32)) + sz2)
      case pos =>
        obtain ⟨cq174, kq174, q174a, q174b, q174c⟩ := isOf hZ e172 ((Exa.ext E162 ((A101.keep q102_0).keep q161_0)).keep q167_0)
        obtain ⟨_, _, ⟨T174, L174, k174, n174⟩, -, X174, ⟨Lc174, hQ174, l174, y174, z174⟩, st174⟩ := X172.virtualBack hx (y := mth12) (z := mth12) hown (mvT hZ tw50) (mvT hZ tw51) (notFace_of_selects (args := #[]) (mvT hZ tw53)) (mvT hZ tw53) (mvT hZ tw52) (by decide) (backOf (W := 0) (sjg l Z a0 hw [] b101 va2_167 kv2_167 C2_167 ((([] : List Value) ++ own_rep lo n1) ++ [(.int (46 : Int32)), (.int (46 : Int32))]) (((0 : Int32) + sz1) + (2 : Int32)) cs hi n2 sz2 d1 d2 kd1 kd2 (70 : Int32) T167.heap n0 (Nat.le_trans Z0 (Nat.le_trans (Nat.le_trans (Nat.le_trans (Nat.le_trans E101.1 q102_0.1) q161_0.1) E162.1) q167_0.1)) ((Exa.ext E162 ((A101.keep q102_0).keep q161_0)).keep q167_0) (Nat.le_trans Z0 (Nat.le_of_eq g101.symm)) q167_2 (Nat.le_trans Z0 (Nat.le_trans (Nat.le_trans (Nat.le_trans (Nat.le_trans E101.1 q102_0.1) q161_0.1) E162.1) q167_1)) q167_3 q167_4 q167_5 q167_6 (own_stakeep (Sta.ext E162 (own_stakeep (own_stakeep (Sta.ext E101 SC) q102_0 (nsS A101.nostat ns0)) q161_0 (nsS (A101.keep q102_0).nostat (nsS q102_2.nostat ns0)))) q167_0 (nsS (Exa.ext E162 ((A101.keep q102_0).keep q161_0)).nostat ns0)) (PC : ¬ (cs = (0 : Int32))) (own_idx2 (own_idx2 rfl HZ1) rfl) (own_b2 _ _ _ _) ((by have u0:=PC; have u1:=BA1; have u2:=BB1; have u3:=BA2; have u4:=BB2; have u5:=hc104; have u6:=hc166; have u7:=q167_7; have u8:=q167_8; have u9:=q167_9; have u10:=hc173; have u11:=rng32 cs; have u12:=rng32 sz1; have u13:=rng32 sz2; have u14:=rng32 ((0 : Int32) + sz1); have u15:=c_iadd (0 : Int32) sz1; have u16:=rng32 (((0 : Int32) + sz1) + (2 : Int32)); have u17:=c_iadd ((0 : Int32) + sz1) (2 : Int32); have u18:=rng32 C2_167; have u19:=rng32 ((16 : Int32) + ((16 : Int32) + (2 : Int32))); have u20:=c_iadd (16 : Int32) ((16 : Int32) + (2 : Int32)); have u21:=rng32 ((16 : Int32) + (2 : Int32)); have u22:=c_iadd (16 : Int32) (2 : Int32); have u23:=rng32 ((((0 : Int32) + sz1) + (2 : Int32)) + sz2); have u24:=c_iadd (((0 : Int32) + sz1) + (2 : Int32)) sz2; (try simp only [Int32.lt_iff_toInt_lt, Int64.lt_iff_toInt_lt, ne_eq, ← Int32.toInt_inj, ← Int64.toInt_inj, Int32.reduceToInt, Int64.reduceToInt, Nat.reducePow] at u0 u1 u2 u3 u4 u5 u6 u7 u8 u9 u10 u11 u12 u13 u14 u15 u16 u17 u18 u19 u20 u21 u22 u23 u24 ⊢); try omega) : ¬ ((((0 : Int32) + sz1) + (2 : Int32)) < (0 : Int32))) ((by have u0:=PC; have u1:=BA1; have u2:=BB1; have u3:=BA2; have u4:=BB2; have u5:=hc104; have u6:=hc166; have u7:=q167_7; have u8:=q167_8; have u9:=q167_9; have u10:=hc173; have u11:=rng32 cs; have u12:=rng32 sz1; have u13:=rng32 sz2; have u14:=rng32 ((0 : Int32) + sz1); have u15:=c_iadd (0 : Int32) sz1; have u16:=rng32 (((0 : Int32) + sz1) + (2 : Int32)); have u17:=c_iadd ((0 : Int32) + sz1) (2 : Int32); have u18:=rng32 C2_167; have u19:=rng32 ((16 : Int32) + ((16 : Int32) + (2 : Int32))); have u20:=c_iadd (16 : Int32) ((16 : Int32) + (2 : Int32)); have u21:=rng32 ((16 : Int32) + (2 : Int32)); have u22:=c_iadd (16 : Int32) (2 : Int32); have u23:=rng32 ((((0 : Int32) + sz1) + (2 : Int32)) + sz2); have u24:=c_iadd (((0 : Int32) + sz1) + (2 : Int32)) sz2; (try simp only [Int32.lt_iff_toInt_lt, Int64.lt_iff_toInt_lt, ne_eq, ← Int32.toInt_inj, ← Int64.toInt_inj, Int32.reduceToInt, Int64.reduceToInt, Nat.reducePow] at u0 u1 u2 u3 u4 u5 u6 u7 u8 u9 u10 u11 u12 u13 u14 u15 u16 u17 u18 u19 u20 u21 u22 u23 u24 ⊢); try omega) : ¬ ((40 : Int32) < (((0 : Int32) + sz1) + (2 : Int32)))) ((by have u0:=PC; have u1:=BA1; have u2:=BB1; have u3:=BA2; have u4:=BB2; have u5:=hc104; have u6:=hc166; have u7:=q167_7; have u8:=q167_8; have u9:=q167_9; have u10:=hc173; have u11:=rng32 cs; have u12:=rng32 sz1; have u13:=rng32 sz2; have u14:=rng32 ((0 : Int32) + sz1); have u15:=c_iadd (0 : Int32) sz1; have u16:=rng32 (((0 : Int32) + sz1) + (2 : Int32)); have u17:=c_iadd ((0 : Int32) + sz1) (2 : Int32); have u18:=rng32 C2_167; have u19:=rng32 ((16 : Int32) + ((16 : Int32) + (2 : Int32))); have u20:=c_iadd (16 : Int32) ((16 : Int32) + (2 : Int32)); have u21:=rng32 ((16 : Int32) + (2 : Int32)); have u22:=c_iadd (16 : Int32) (2 : Int32); have u23:=rng32 ((((0 : Int32) + sz1) + (2 : Int32)) + sz2); have u24:=c_iadd (((0 : Int32) + sz1) + (2 : Int32)) sz2; (try simp only [Int32.lt_iff_toInt_lt, Int64.lt_iff_toInt_lt, ne_eq, ← Int32.toInt_inj, ← Int64.toInt_inj, Int32.reduceToInt, Int64.reduceToInt, Nat.reducePow] at u0 u1 u2 u3 u4 u5 u6 u7 u8 u9 u10 u11 u12 u13 u14 u15 u16 u17 u18 u19 u20 u21 u22 u23 u24 ⊢); try omega) : ¬ (C2_167 < (0 : Int32))) ((by have u0:=PC; have u1:=BA1; have u2:=BB1; have u3:=BA2; have u4:=BB2; have u5:=hc104; have u6:=hc166; have u7:=q167_7; have u8:=q167_8; have u9:=q167_9; have u10:=hc173; have u11:=rng32 cs; have u12:=rng32 sz1; have u13:=rng32 sz2; have u14:=rng32 ((0 : Int32) + sz1); have u15:=c_iadd (0 : Int32) sz1; have u16:=rng32 (((0 : Int32) + sz1) + (2 : Int32)); have u17:=c_iadd ((0 : Int32) + sz1) (2 : Int32); have u18:=rng32 C2_167; have u19:=rng32 ((16 : Int32) + ((16 : Int32) + (2 : Int32))); have u20:=c_iadd (16 : Int32) ((16 : Int32) + (2 : Int32)); have u21:=rng32 ((16 : Int32) + (2 : Int32)); have u22:=c_iadd (16 : Int32) (2 : Int32); have u23:=rng32 ((((0 : Int32) + sz1) + (2 : Int32)) + sz2); have u24:=c_iadd (((0 : Int32) + sz1) + (2 : Int32)) sz2; (try simp only [Int32.lt_iff_toInt_lt, Int64.lt_iff_toInt_lt, ne_eq, ← Int32.toInt_inj, ← Int64.toInt_inj, Int32.reduceToInt, Int64.reduceToInt, Nat.reducePow] at u0 u1 u2 u3 u4 u5 u6 u7 u8 u9 u10 u11 u12 u13 u14 u15 u16 u17 u18 u19 u20 u21 u22 u23 u24 ⊢); try omega) : ¬ ((70 : Int32) < C2_167)) HA2 HZ2 (BA2 : (0 : Int32) < sz2) (BB2 : ¬ ((21 : Int32) < sz2)) (own_stakeep (Sta.ext E162 (own_stakeep (own_stakeep (Sta.ext E101 S1) q102_0 (nsS A101.nostat ns0)) q161_0 (nsS (A101.keep q102_0).nostat (nsS q102_2.nostat ns0)))) q167_0 (nsS (Exa.ext E162 ((A101.keep q102_0).keep q161_0)).nostat ns0)) (((((W1.ext E101).keep q102_0 (ninS (Nat.ne_of_lt (Nat.lt_of_lt_of_le W1.lt (Nat.le_of_eq g101.symm))) nin0)).keep q161_0 (ninS (Nat.ne_of_lt (Nat.lt_of_lt_of_le W1.lt (Nat.le_of_eq g101.symm))) (ninS (Nat.ne_of_lt (Nat.lt_of_lt_of_le W1.lt (Nat.le_trans E101.1 q102_1))) nin0))).ext E162).keep q167_0 (ninS (Nat.ne_of_lt (Nat.lt_of_lt_of_le W1.lt (Nat.le_of_eq g101.symm))) nin0)) (own_stakeep (Sta.ext E162 (own_stakeep (own_stakeep (Sta.ext E101 S2) q102_0 (nsS A101.nostat ns0)) q161_0 (nsS (A101.keep q102_0).nostat (nsS q102_2.nostat ns0)))) q167_0 (nsS (Exa.ext E162 ((A101.keep q102_0).keep q161_0)).nostat ns0)) (((((W2.ext E101).keep q102_0 (ninS (Nat.ne_of_lt (Nat.lt_of_lt_of_le W2.lt (Nat.le_of_eq g101.symm))) nin0)).keep q161_0 (ninS (Nat.ne_of_lt (Nat.lt_of_lt_of_le W2.lt (Nat.le_of_eq g101.symm))) (ninS (Nat.ne_of_lt (Nat.lt_of_lt_of_le W2.lt (Nat.le_trans E101.1 q102_1))) nin0))).ext E162).keep q167_0 (ninS (Nat.ne_of_lt (Nat.lt_of_lt_of_le W2.lt (Nat.le_of_eq g101.symm))) nin0)) HS (Ne.symm (Nat.ne_of_lt (Nat.lt_of_lt_of_le W1.lt (Nat.le_trans (Nat.le_trans (Nat.le_trans (Nat.le_trans E101.1 q102_0.1) q161_0.1) E162.1) q167_1)))) (Ne.symm (Nat.ne_of_lt (Nat.lt_of_lt_of_le W2.lt (Nat.le_trans (Nat.le_trans (Nat.le_trans (Nat.le_trans E101.1 q102_0.1) q161_0.1) E162.1) q167_1)))) (hc173 : C2_167 < ((((0 : Int32) + sz1) + (2 : Int32)) + sz2)) ((by have u0:=PC; have u1:=BA1; have u2:=BB1; have u3:=BA2; have u4:=BB2; have u5:=hc104; have u6:=hc166; have u7:=q167_7; have u8:=q167_8; have u9:=q167_9; have u10:=hc173; have u11:=rng32 cs; have u12:=rng32 sz1; have u13:=rng32 sz2; have u14:=rng32 ((0 : Int32) + sz1); have u15:=c_iadd (0 : Int32) sz1; have u16:=rng32 (((0 : Int32) + sz1) + (2 : Int32)); have u17:=c_iadd ((0 : Int32) + sz1) (2 : Int32); have u18:=rng32 C2_167; have u19:=rng32 ((16 : Int32) + ((16 : Int32) + (2 : Int32))); have u20:=c_iadd (16 : Int32) ((16 : Int32) + (2 : Int32)); have u21:=rng32 ((16 : Int32) + (2 : Int32)); have u22:=c_iadd (16 : Int32) (2 : Int32); have u23:=rng32 ((((0 : Int32) + sz1) + (2 : Int32)) + sz2); have u24:=c_iadd (((0 : Int32) + sz1) + (2 : Int32)) sz2; (try simp only [Int32.lt_iff_toInt_lt, Int64.lt_iff_toInt_lt, ne_eq, ← Int32.toInt_inj, ← Int64.toInt_inj, Int32.reduceToInt, Int64.reduceToInt, Nat.reducePow] at u0 u1 u2 u3 u4 u5 u6 u7 u8 u9 u10 u11 u12 u13 u14 u15 u16 u17 u18 u19 u20 u21 u22 u23 u24 ⊢); try omega) : ¬ ((70 : Int32) < ((((0 : Int32) + sz1) + (2 : Int32)) + sz2))) ((by have u0:=PC; have u1:=BA1; have u2:=BB1; have u3:=BA2; have u4:=BB2; have u5:=hc104; have u6:=hc166; have u7:=q167_7; have u8:=q167_8; have u9:=q167_9; have u10:=hc173; have u11:=rng32 cs; have u12:=rng32 sz1; have u13:=rng32 sz2; have u14:=rng32 ((0 : Int32) + sz1); have u15:=c_iadd (0 : Int32) sz1; have u16:=rng32 (((0 : Int32) + sz1) + (2 : Int32)); have u17:=c_iadd ((0 : Int32) + sz1) (2 : Int32); have u18:=rng32 C2_167; have u19:=rng32 ((16 : Int32) + ((16 : Int32) + (2 : Int32))); have u20:=c_iadd (16 : Int32) ((16 : Int32) + (2 : Int32)); have u21:=rng32 ((16 : Int32) + (2 : Int32)); have u22:=c_iadd (16 : Int32) (2 : Int32); have u23:=rng32 ((((0 : Int32) + sz1) + (2 : Int32)) + sz2); have u24:=c_iadd (((0 : Int32) + sz1) + (2 : Int32)) sz2; have u25:=rng32 (C2_167 + (C2_167 + (2 : Int32))); have u26:=c_iadd C2_167 (C2_167 + (2 : Int32)); have u27:=rng32 (C2_167 + (2 : Int32)); have u28:=c_iadd C2_167 (2 : Int32); (try simp only [Int32.lt_iff_toInt_lt, Int64.lt_iff_toInt_lt, ne_eq, ← Int32.toInt_inj, ← Int64.toInt_inj, Int32.reduceToInt, Int64.reduceToInt, Nat.reducePow] at u0 u1 u2 u3 u4 u5 u6 u7 u8 u9 u10 u11 u12 u13 u14 u15 u16 u17 u18 u19 u20 u21 u22 u23 u24 u25 u26 u27 u28 ⊢); try omega) : ¬ ((70 : Int32) < (C2_167 + (C2_167 + (2 : Int32))))) ((by decide) : ¬ ((70 : Int32) < (70 : Int32))) (q167_7 : ¬ (C2_167 < (((0 : Int32) + sz1) + (2 : Int32))))) hZ tw54 tw32 (by decide) (by decide)) q174a q174c (g := (mkF m 23 #[.val (.ref a1)] [(.long hi), (.ref b101)])) rfl (by rw [hml]; rfl) (Steps.refl _) (argsL := [(.long hi)]) (rest := []) (lenOf pd_J_Ljava_lang_StringBuilder rfl) rfl (Nat.le_of_eq rfl) (hb hby dk353) (fun _ _ => ⟨rfl, e172, (by decide : 5 + 1 ≤ _), (by decide : 102 + 70 ≤ _)⟩)
        dsimp only [Pt.U, Pt.locs, Pt.cells, Pt.slots] at X174 l174 y174 z174 st174 hQ174
        subst y174 z174
        obtain ⟨va2_174, kv2_174, C2_174, rfl, Nq174, q174_0, q174_1, q174_2, q174_3, q174_4, q174_5, q174_6, q174_7, q174_8, q174_9⟩ := hQ174
        have N174 : Fr n0 L174 := by rw [l174]; exact Fr.app N167 Nq174
        refine Goes.step (S' := T174.setTop (mkF m 26 #[.val (.ref a1)] [(.ref b101)])) (fun t k => st174.trans k) ?_
        by_cases hc181 : ((((0 : Int32) + sz1) + (2 : Int32)) + sz2) = C2_174
        case pos =>
          obtain ⟨cq182, kq182, q182a, q182b, q182c⟩ := isOf hZ rfl (((Exa.ext E162 ((A101.keep q102_0).keep q161_0)).keep q167_0).keep q174_0)
          obtain ⟨_, _, ⟨T182, L182, k182, n182⟩, -, X182, ⟨Lc182, hQ182, l182, y182, z182⟩, st182⟩ := X174.virtualBack hx (y := mth29) (z := mth29) hown (mvT hZ tw131) (mvT hZ tw132) (notFace_of_selects (args := #[]) (mvT hZ tw134)) (mvT hZ tw134) (mvT hZ tw133) (by decide) (backOf (W := 0) (tosc l Z a0 hw [] b101 va2_174 kv2_174 C2_174 (((([] : List Value) ++ own_rep lo n1) ++ [(.int (46 : Int32)), (.int (46 : Int32))]) ++ own_rep hi n2) ((((0 : Int32) + sz1) + (2 : Int32)) + sz2) cs T174.heap n0 (Nat.le_trans Z0 (Nat.le_trans (Nat.le_trans (Nat.le_trans (Nat.le_trans (Nat.le_trans E101.1 q102_0.1) q161_0.1) E162.1) q167_0.1) q174_0.1)) (((Exa.ext E162 ((A101.keep q102_0).keep q161_0)).keep q167_0).keep q174_0) q174_2 q174_3 q174_4 q174_5 q174_6 (own_stakeep (own_stakeep (Sta.ext E162 (own_stakeep (own_stakeep (Sta.ext E101 SC) q102_0 (nsS A101.nostat ns0)) q161_0 (nsS (A101.keep q102_0).nostat (nsS q102_2.nostat ns0)))) q167_0 (nsS (Exa.ext E162 ((A101.keep q102_0).keep q161_0)).nostat ns0)) q174_0 (nsS ((Exa.ext E162 ((A101.keep q102_0).keep q161_0)).keep q167_0).nostat ns0)) (PC : ¬ (cs = (0 : Int32))) (own_idx2 (own_idx2 (own_idx2 rfl HZ1) rfl) HZ2) (by exact own_allB (lo := lo) (n1 := n1) (hi := hi) (n2 := n2)) ((by have u0:=PC; have u1:=BA1; have u2:=BB1; have u3:=BA2; have u4:=BB2; have u5:=hc104; have u6:=hc166; have u7:=q167_7; have u8:=q167_8; have u9:=q167_9; have u10:=hc173; have u11:=q174_7; have u12:=q174_8; have u13:=q174_9; have u14:=hc181; have u15:=rng32 cs; have u16:=rng32 sz1; have u17:=rng32 sz2; have u18:=rng32 ((0 : Int32) + sz1); have u19:=c_iadd (0 : Int32) sz1; have u20:=rng32 (((0 : Int32) + sz1) + (2 : Int32)); have u21:=c_iadd ((0 : Int32) + sz1) (2 : Int32); have u22:=rng32 C2_167; have u23:=rng32 ((16 : Int32) + ((16 : Int32) + (2 : Int32))); have u24:=c_iadd (16 : Int32) ((16 : Int32) + (2 : Int32)); have u25:=rng32 ((16 : Int32) + (2 : Int32)); have u26:=c_iadd (16 : Int32) (2 : Int32); have u27:=rng32 ((((0 : Int32) + sz1) + (2 : Int32)) + sz2); have u28:=c_iadd (((0 : Int32) + sz1) + (2 : Int32)) sz2; have u29:=rng32 C2_174; have u30:=rng32 (C2_167 + (C2_167 + (2 : Int32))); have u31:=c_iadd C2_167 (C2_167 + (2 : Int32)); have u32:=rng32 (C2_167 + (2 : Int32)); have u33:=c_iadd C2_167 (2 : Int32); (try simp only [Int32.lt_iff_toInt_lt, Int64.lt_iff_toInt_lt, ne_eq, ← Int32.toInt_inj, ← Int64.toInt_inj, Int32.reduceToInt, Int64.reduceToInt, Nat.reducePow] at u0 u1 u2 u3 u4 u5 u6 u7 u8 u9 u10 u11 u12 u13 u14 u15 u16 u17 u18 u19 u20 u21 u22 u23 u24 u25 u26 u27 u28 u29 u30 u31 u32 u33 ⊢); try omega) : ¬ (((((0 : Int32) + sz1) + (2 : Int32)) + sz2) < (0 : Int32))) ((by have u0:=PC; have u1:=BA1; have u2:=BB1; have u3:=BA2; have u4:=BB2; have u5:=hc104; have u6:=hc166; have u7:=q167_7; have u8:=q167_8; have u9:=q167_9; have u10:=hc173; have u11:=q174_7; have u12:=q174_8; have u13:=q174_9; have u14:=hc181; have u15:=rng32 cs; have u16:=rng32 sz1; have u17:=rng32 sz2; have u18:=rng32 ((0 : Int32) + sz1); have u19:=c_iadd (0 : Int32) sz1; have u20:=rng32 (((0 : Int32) + sz1) + (2 : Int32)); have u21:=c_iadd ((0 : Int32) + sz1) (2 : Int32); have u22:=rng32 C2_167; have u23:=rng32 ((16 : Int32) + ((16 : Int32) + (2 : Int32))); have u24:=c_iadd (16 : Int32) ((16 : Int32) + (2 : Int32)); have u25:=rng32 ((16 : Int32) + (2 : Int32)); have u26:=c_iadd (16 : Int32) (2 : Int32); have u27:=rng32 ((((0 : Int32) + sz1) + (2 : Int32)) + sz2); have u28:=c_iadd (((0 : Int32) + sz1) + (2 : Int32)) sz2; have u29:=rng32 C2_174; have u30:=rng32 (C2_167 + (C2_167 + (2 : Int32))); have u31:=c_iadd C2_167 (C2_167 + (2 : Int32)); have u32:=rng32 (C2_167 + (2 : Int32)); have u33:=c_iadd C2_167 (2 : Int32); (try simp only [Int32.lt_iff_toInt_lt, Int64.lt_iff_toInt_lt, ne_eq, ← Int32.toInt_inj, ← Int64.toInt_inj, Int32.reduceToInt, Int64.reduceToInt, Nat.reducePow] at u0 u1 u2 u3 u4 u5 u6 u7 u8 u9 u10 u11 u12 u13 u14 u15 u16 u17 u18 u19 u20 u21 u22 u23 u24 u25 u26 u27 u28 u29 u30 u31 u32 u33 ⊢); try omega) : ¬ ((70 : Int32) < ((((0 : Int32) + sz1) + (2 : Int32)) + sz2))) (hc181 : ((((0 : Int32) + sz1) + (2 : Int32)) + sz2) = C2_174)) hZ tw135 tw32 (by decide) (by decide)) q182a q182c (g := (mkF m 26 #[.val (.ref a1)] [(.ref b101)])) rfl (by rw [hml]; rfl) (Steps.refl _) (argsL := []) (rest := []) (lenOf pd_Ljava_lang_String rfl) rfl (Nat.le_of_eq rfl) (hb hby dk354) (fun _ _ => ⟨rfl, rfl, (by decide : 6 + 2 ≤ _), (by decide : 172 + 74 ≤ _)⟩)
          dsimp only [Pt.U, Pt.locs, Pt.cells, Pt.slots] at X182 l182 y182 z182 st182 hQ182
          subst y182 z182
          obtain ⟨s1_182, x_182, kx_182, rfl, Nq182, q182_0, q182_1, q182_2, q182_3, q182_4, q182_5, q182_6⟩ := hQ182
          have N182 : Fr n0 L182 := by rw [l182]; exact Fr.app N174 Nq182
          refine Goes.step (S' := T182.setTop (mkF m 29 #[.val (.ref a1)] [(.ref s1_182)])) (fun t k => st182.trans k) ?_
          have CR185 := CR162.trans (CHr.keep q167_0 (sfS (Safe.exa hZ.alike (Exa.ext E162 ((A101.keep q102_0).keep q161_0)) (by decide) (by decide)) sf0) CR162.1)
          have Q185_va_102 := Safe.keep q167_0 (sfS (Safe.exa hZ.alike (Exa.ext E162 ((A101.keep q102_0).keep q161_0)) (by decide) (by decide)) sf0) CR162.1 Q162_va_102
          have Q185_va2_167 := Safe.keep q167_0 (sfS (Safe.exa hZ.alike (Exa.ext E162 ((A101.keep q102_0).keep q161_0)) (by decide) (by decide)) sf0) CR162.1 (Safe.new q167_1)
          have CR186 := CR185.trans (CHr.keep q174_0 (sfS (Safe.exa hZ.alike ((Exa.ext E162 ((A101.keep q102_0).keep q161_0)).keep q167_0) (by decide) (by decide)) sf0) CR185.1)
          have Q186_va_102 := Safe.keep q174_0 (sfS (Safe.exa hZ.alike ((Exa.ext E162 ((A101.keep q102_0).keep q161_0)).keep q167_0) (by decide) (by decide)) sf0) CR185.1 Q185_va_102
          have Q186_va2_167 := Safe.keep q174_0 (sfS (Safe.exa hZ.alike ((Exa.ext E162 ((A101.keep q102_0).keep q161_0)).keep q167_0) (by decide) (by decide)) sf0) CR185.1 Q185_va2_167
          have Q186_va2_174 := Safe.keep q174_0 (sfS (Safe.exa hZ.alike ((Exa.ext E162 ((A101.keep q102_0).keep q161_0)).keep q167_0) (by decide) (by decide)) sf0) CR185.1 (Safe.new q174_1)
          have CR187 := CR186.trans (CHr.keep q182_0 sf0 CR186.1)
          have Q187_va_102 := Safe.keep q182_0 sf0 CR186.1 Q186_va_102
          have Q187_va2_167 := Safe.keep q182_0 sf0 CR186.1 Q186_va2_167
          have Q187_va2_174 := Safe.keep q182_0 sf0 CR186.1 Q186_va2_174
          have Q187_s1_182 := Safe.keep q182_0 sf0 CR186.1 (Safe.new q182_1)
          refine Goes.leaveH (g := (mkF m 29 #[.val (.ref a1)] [(.ref s1_182)])) (own_ew hw) hZ hh CR187 X182 hS162 (Nat.le_trans hk162 (Nat.le_trans (Nat.le_trans q167_0.1 q174_0.1) q182_0.1)) Bd.notSynchronized (v := (some (.ref s1_182))) (fun h => by rw [Bd.returns] at h; cases h) (fun fs hr => by jvm_step X182.here [X182.here.top, hx, (hb hby dk355), X182.method', Bd.returns, Value.isRef, FieldType.isReference]; (first | (intro acts; rw [hr _ acts rfl rfl rfl]) | rw [hr _ _ rfl rfl rfl]); exact Steps.refl _) rfl ?_ (by decide) (by decide)
          exact ⟨s1_182, x_182, kx_182, ((((0 : Int32) + sz1) + (2 : Int32)) + sz2), rfl, N182, ((((((((Keep.refl _ []).ext E101).trans q102_0 (allS (Or.inr (Nat.le_of_eq g101.symm)) all0)).trans q161_0 (allS (Or.inr (Nat.le_of_eq g101.symm)) (allS (Or.inr (Nat.le_trans E101.1 q102_1)) all0))).ext E162).trans q167_0 (allS (Or.inr (Nat.le_of_eq g101.symm)) all0)).trans q174_0 (allS (Or.inr (Nat.le_of_eq g101.symm)) all0)).trans q182_0 all0), q182_2, q182_3, q182_4, q182_6, (own_idx2 (own_idx2 (own_idx2 rfl HZ1) rfl) HZ2)⟩
        case neg =>
          obtain ⟨cq188, kq188, q188a, q188b, q188c⟩ := isOf hZ rfl (((Exa.ext E162 ((A101.keep q102_0).keep q161_0)).keep q167_0).keep q174_0)
          obtain ⟨_, _, ⟨T188, L188, k188, n188⟩, -, X188, ⟨Lc188, hQ188, l188, y188, z188⟩, st188⟩ := X174.virtualBack hx (y := mth29) (z := mth29) hown (mvT hZ tw131) (mvT hZ tw132) (notFace_of_selects (args := #[]) (mvT hZ tw134)) (mvT hZ tw134) (mvT hZ tw133) (by decide) (backOf (W := 0) (tosr l Z a0 hw [] b101 va2_174 kv2_174 C2_174 (((([] : List Value) ++ own_rep lo n1) ++ [(.int (46 : Int32)), (.int (46 : Int32))]) ++ own_rep hi n2) ((((0 : Int32) + sz1) + (2 : Int32)) + sz2) cs T174.heap n0 (Nat.le_trans Z0 (Nat.le_trans (Nat.le_trans (Nat.le_trans (Nat.le_trans (Nat.le_trans E101.1 q102_0.1) q161_0.1) E162.1) q167_0.1) q174_0.1)) (((Exa.ext E162 ((A101.keep q102_0).keep q161_0)).keep q167_0).keep q174_0) q174_2 q174_3 q174_4 q174_5 q174_6 (own_stakeep (own_stakeep (Sta.ext E162 (own_stakeep (own_stakeep (Sta.ext E101 SC) q102_0 (nsS A101.nostat ns0)) q161_0 (nsS (A101.keep q102_0).nostat (nsS q102_2.nostat ns0)))) q167_0 (nsS (Exa.ext E162 ((A101.keep q102_0).keep q161_0)).nostat ns0)) q174_0 (nsS ((Exa.ext E162 ((A101.keep q102_0).keep q161_0)).keep q167_0).nostat ns0)) (PC : ¬ (cs = (0 : Int32))) (own_idx2 (own_idx2 (own_idx2 rfl HZ1) rfl) HZ2) (by exact own_allB (lo := lo) (n1 := n1) (hi := hi) (n2 := n2)) ((by have u0:=PC; have u1:=BA1; have u2:=BB1; have u3:=BA2; have u4:=BB2; have u5:=hc104; have u6:=hc166; have u7:=q167_7; have u8:=q167_8; have u9:=q167_9; have u10:=hc173; have u11:=q174_7; have u12:=q174_8; have u13:=q174_9; have u14:=hc181; have u15:=rng32 cs; have u16:=rng32 sz1; have u17:=rng32 sz2; have u18:=rng32 ((0 : Int32) + sz1); have u19:=c_iadd (0 : Int32) sz1; have u20:=rng32 (((0 : Int32) + sz1) + (2 : Int32)); have u21:=c_iadd ((0 : Int32) + sz1) (2 : Int32); have u22:=rng32 C2_167; have u23:=rng32 ((16 : Int32) + ((16 : Int32) + (2 : Int32))); have u24:=c_iadd (16 : Int32) ((16 : Int32) + (2 : Int32)); have u25:=rng32 ((16 : Int32) + (2 : Int32)); have u26:=c_iadd (16 : Int32) (2 : Int32); have u27:=rng32 ((((0 : Int32) + sz1) + (2 : Int32)) + sz2); have u28:=c_iadd (((0 : Int32) + sz1) + (2 : Int32)) sz2; have u29:=rng32 C2_174; have u30:=rng32 (C2_167 + (C2_167 + (2 : Int32))); have u31:=c_iadd C2_167 (C2_167 + (2 : Int32)); have u32:=rng32 (C2_167 + (2 : Int32)); have u33:=c_iadd C2_167 (2 : Int32); (try simp only [Int32.lt_iff_toInt_lt, Int64.lt_iff_toInt_lt, ne_eq, ← Int32.toInt_inj, ← Int64.toInt_inj, Int32.reduceToInt, Int64.reduceToInt, Nat.reducePow] at u0 u1 u2 u3 u4 u5 u6 u7 u8 u9 u10 u11 u12 u13 u14 u15 u16 u17 u18 u19 u20 u21 u22 u23 u24 u25 u26 u27 u28 u29 u30 u31 u32 u33 ⊢); try omega) : ¬ (((((0 : Int32) + sz1) + (2 : Int32)) + sz2) < (0 : Int32))) ((by have u0:=PC; have u1:=BA1; have u2:=BB1; have u3:=BA2; have u4:=BB2; have u5:=hc104; have u6:=hc166; have u7:=q167_7; have u8:=q167_8; have u9:=q167_9; have u10:=hc173; have u11:=q174_7; have u12:=q174_8; have u13:=q174_9; have u14:=hc181; have u15:=rng32 cs; have u16:=rng32 sz1; have u17:=rng32 sz2; have u18:=rng32 ((0 : Int32) + sz1); have u19:=c_iadd (0 : Int32) sz1; have u20:=rng32 (((0 : Int32) + sz1) + (2 : Int32)); have u21:=c_iadd ((0 : Int32) + sz1) (2 : Int32); have u22:=rng32 C2_167; have u23:=rng32 ((16 : Int32) + ((16 : Int32) + (2 : Int32))); have u24:=c_iadd (16 : Int32) ((16 : Int32) + (2 : Int32)); have u25:=rng32 ((16 : Int32) + (2 : Int32)); have u26:=c_iadd (16 : Int32) (2 : Int32); have u27:=rng32 ((((0 : Int32) + sz1) + (2 : Int32)) + sz2); have u28:=c_iadd (((0 : Int32) + sz1) + (2 : Int32)) sz2; have u29:=rng32 C2_174; have u30:=rng32 (C2_167 + (C2_167 + (2 : Int32))); have u31:=c_iadd C2_167 (C2_167 + (2 : Int32)); have u32:=rng32 (C2_167 + (2 : Int32)); have u33:=c_iadd C2_167 (2 : Int32); (try simp only [Int32.lt_iff_toInt_lt, Int64.lt_iff_toInt_lt, ne_eq, ← Int32.toInt_inj, ← Int64.toInt_inj, Int32.reduceToInt, Int64.reduceToInt, Nat.reducePow] at u0 u1 u2 u3 u4 u5 u6 u7 u8 u9 u10 u11 u12 u13 u14 u15 u16 u17 u18 u19 u20 u21 u22 u23 u24 u25 u26 u27 u28 u29 u30 u31 u32 u33 ⊢); try omega) : ¬ ((70 : Int32) < ((((0 : Int32) + sz1) + (2 : Int32)) + sz2))) ((by have u0:=PC; have u1:=BA1; have u2:=BB1; have u3:=BA2; have u4:=BB2; have u5:=hc104; have u6:=hc166; have u7:=q167_7; have u8:=q167_8; have u9:=q167_9; have u10:=hc173; have u11:=q174_7; have u12:=q174_8; have u13:=q174_9; have u14:=hc181; have u15:=rng32 cs; have u16:=rng32 sz1; have u17:=rng32 sz2; have u18:=rng32 ((0 : Int32) + sz1); have u19:=c_iadd (0 : Int32) sz1; have u20:=rng32 (((0 : Int32) + sz1) + (2 : Int32)); have u21:=c_iadd ((0 : Int32) + sz1) (2 : Int32); have u22:=rng32 C2_167; have u23:=rng32 ((16 : Int32) + ((16 : Int32) + (2 : Int32))); have u24:=c_iadd (16 : Int32) ((16 : Int32) + (2 : Int32)); have u25:=rng32 ((16 : Int32) + (2 : Int32)); have u26:=c_iadd (16 : Int32) (2 : Int32); have u27:=rng32 ((((0 : Int32) + sz1) + (2 : Int32)) + sz2); have u28:=c_iadd (((0 : Int32) + sz1) + (2 : Int32)) sz2; have u29:=rng32 C2_174; have u30:=rng32 (C2_167 + (C2_167 + (2 : Int32))); have u31:=c_iadd C2_167 (C2_167 + (2 : Int32)); have u32:=rng32 (C2_167 + (2 : Int32)); have u33:=c_iadd C2_167 (2 : Int32); (try simp only [Int32.lt_iff_toInt_lt, Int64.lt_iff_toInt_lt, ne_eq, ← Int32.toInt_inj, ← Int64.toInt_inj, Int32.reduceToInt, Int64.reduceToInt, Nat.reducePow] at u0 u1 u2 u3 u4 u5 u6 u7 u8 u9 u10 u11 u12 u13 u14 u15 u16 u17 u18 u19 u20 u21 u22 u23 u24 u25 u26 u27 u28 u29 u30 u31 u32 u33 ⊢); try omega) : ((((0 : Int32) + sz1) + (2 : Int32)) + sz2) < C2_174)) hZ tw135 tw32 (by decide) (by decide)) q188a q188c (g := (mkF m 26 #[.val (.ref a1)] [(.ref b101)])) rfl (by rw [hml]; rfl) (Steps.refl _) (argsL := []) (rest := []) (lenOf pd_Ljava_lang_String rfl) rfl (Nat.le_of_eq rfl) (hb hby dk354) (fun _ _ => ⟨rfl, rfl, (by decide : 6 + 2 ≤ _), (by decide : 172 + 74 ≤ _)⟩)
          dsimp only [Pt.U, Pt.locs, Pt.cells, Pt.slots] at X188 l188 y188 z188 st188 hQ188
          subst y188 z188
          obtain ⟨s1_188, x_188, kx_188, rfl, Nq188, q188_0, q188_1, q188_2, q188_3, q188_4, q188_5, q188_6⟩ := hQ188
          have N188 : Fr n0 L188 := by rw [l188]; exact Fr.app N174 Nq188
          refine Goes.step (S' := T188.setTop (mkF m 29 #[.val (.ref a1)] [(.ref s1_188)])) (fun t k => st188.trans k) ?_
          have CR192 := CR162.trans (CHr.keep q167_0 (sfS (Safe.exa hZ.alike (Exa.ext E162 ((A101.keep q102_0).keep q161_0)) (by decide) (by decide)) sf0) CR162.1)
          have Q192_va_102 := Safe.keep q167_0 (sfS (Safe.exa hZ.alike (Exa.ext E162 ((A101.keep q102_0).keep q161_0)) (by decide) (by decide)) sf0) CR162.1 Q162_va_102
          have Q192_va2_167 := Safe.keep q167_0 (sfS (Safe.exa hZ.alike (Exa.ext E162 ((A101.keep q102_0).keep q161_0)) (by decide) (by decide)) sf0) CR162.1 (Safe.new q167_1)
          have CR193 := CR192.trans (CHr.keep q174_0 (sfS (Safe.exa hZ.alike ((Exa.ext E162 ((A101.keep q102_0).keep q161_0)).keep q167_0) (by decide) (by decide)) sf0) CR192.1)
          have Q193_va_102 := Safe.keep q174_0 (sfS (Safe.exa hZ.alike ((Exa.ext E162 ((A101.keep q102_0).keep q161_0)).keep q167_0) (by decide) (by decide)) sf0) CR192.1 Q192_va_102
          have Q193_va2_167 := Safe.keep q174_0 (sfS (Safe.exa hZ.alike ((Exa.ext E162 ((A101.keep q102_0).keep q161_0)).keep q167_0) (by decide) (by decide)) sf0) CR192.1 Q192_va2_167
          have Q193_va2_174 := Safe.keep q174_0 (sfS (Safe.exa hZ.alike ((Exa.ext E162 ((A101.keep q102_0).keep q161_0)).keep q167_0) (by decide) (by decide)) sf0) CR192.1 (Safe.new q174_1)
          have CR194 := CR193.trans (CHr.keep q188_0 sf0 CR193.1)
          have Q194_va_102 := Safe.keep q188_0 sf0 CR193.1 Q193_va_102
          have Q194_va2_167 := Safe.keep q188_0 sf0 CR193.1 Q193_va2_167
          have Q194_va2_174 := Safe.keep q188_0 sf0 CR193.1 Q193_va2_174
          have Q194_s1_188 := Safe.keep q188_0 sf0 CR193.1 (Safe.new q188_1)
          refine Goes.leaveH (g := (mkF m 29 #[.val (.ref a1)] [(.ref s1_188)])) (own_ew hw) hZ hh CR194 X188 hS162 (Nat.le_trans hk162 (Nat.le_trans (Nat.le_trans q167_0.1 q174_0.1) q188_0.1)) Bd.notSynchronized (v := (some (.ref s1_188))) (fun h => by rw [Bd.returns] at h; cases h) (fun fs hr => by jvm_step X188.here [X188.here.top, hx, (hb hby dk355), X188.method', Bd.returns, Value.isRef, FieldType.isReference]; (first | (intro acts; rw [hr _ acts rfl rfl rfl]) | rw [hr _ _ rfl rfl rfl]); exact Steps.refl _) rfl ?_ (by decide) (by decide)
          exact ⟨s1_188, x_188, kx_188, ((((0 : Int32) + sz1) + (2 : Int32)) + sz2), rfl, N188, ((((((((Keep.refl _ []).ext E101).trans q102_0 (allS (Or.inr (Nat.le_of_eq g101.symm)) all0)).trans q161_0 (allS (Or.inr (Nat.le_of_eq g101.symm)) (allS (Or.inr (Nat.le_trans E101.1 q102_1)) all0))).ext E162).trans q167_0 (allS (Or.inr (Nat.le_of_eq g101.symm)) all0)).trans q174_0 (allS (Or.inr (Nat.le_of_eq g101.symm)) all0)).trans q188_0 all0), q188_2, q188_3, q188_4, q188_6, (own_idx2 (own_idx2 (own_idx2 rfl HZ1) rfl) HZ2)⟩
      case neg =>
        obtain ⟨cq195, kq195, q195a, q195b, q195c⟩ := isOf hZ e172 ((Exa.ext E162 ((A101.keep q102_0).keep q161_0)).keep q167_0)
        obtain ⟨_, _, ⟨T195, L195, k195, n195⟩, -, X195, ⟨Lc195, hQ195, l195, y195, z195⟩, st195⟩ := X172.virtualBack hx (y := mth12) (z := mth12) hown (mvT hZ tw50) (mvT hZ tw51) (notFace_of_selects (args := #[]) (mvT hZ tw53)) (mvT hZ tw53) (mvT hZ tw52) (by decide) (backOf (W := 0) (sjs l Z a0 hw [] b101 va2_167 kv2_167 C2_167 ((([] : List Value) ++ own_rep lo n1) ++ [(.int (46 : Int32)), (.int (46 : Int32))]) (((0 : Int32) + sz1) + (2 : Int32)) cs hi n2 sz2 d1 d2 kd1 kd2 T167.heap n0 (Nat.le_trans Z0 (Nat.le_trans (Nat.le_trans (Nat.le_trans (Nat.le_trans E101.1 q102_0.1) q161_0.1) E162.1) q167_0.1)) ((Exa.ext E162 ((A101.keep q102_0).keep q161_0)).keep q167_0) (Nat.le_trans Z0 (Nat.le_of_eq g101.symm)) q167_2 (Nat.le_trans Z0 (Nat.le_trans (Nat.le_trans (Nat.le_trans (Nat.le_trans E101.1 q102_0.1) q161_0.1) E162.1) q167_1)) q167_3 q167_4 q167_5 q167_6 (own_stakeep (Sta.ext E162 (own_stakeep (own_stakeep (Sta.ext E101 SC) q102_0 (nsS A101.nostat ns0)) q161_0 (nsS (A101.keep q102_0).nostat (nsS q102_2.nostat ns0)))) q167_0 (nsS (Exa.ext E162 ((A101.keep q102_0).keep q161_0)).nostat ns0)) (PC : ¬ (cs = (0 : Int32))) (own_idx2 (own_idx2 rfl HZ1) rfl) (own_b2 _ _ _ _) ((by have u0:=PC; have u1:=BA1; have u2:=BB1; have u3:=BA2; have u4:=BB2; have u5:=hc104; have u6:=hc166; have u7:=q167_7; have u8:=q167_8; have u9:=q167_9; have u10:=hc173; have u11:=rng32 cs; have u12:=rng32 sz1; have u13:=rng32 sz2; have u14:=rng32 ((0 : Int32) + sz1); have u15:=c_iadd (0 : Int32) sz1; have u16:=rng32 (((0 : Int32) + sz1) + (2 : Int32)); have u17:=c_iadd ((0 : Int32) + sz1) (2 : Int32); have u18:=rng32 C2_167; have u19:=rng32 ((16 : Int32) + ((16 : Int32) + (2 : Int32))); have u20:=c_iadd (16 : Int32) ((16 : Int32) + (2 : Int32)); have u21:=rng32 ((16 : Int32) + (2 : Int32)); have u22:=c_iadd (16 : Int32) (2 : Int32); have u23:=rng32 ((((0 : Int32) + sz1) + (2 : Int32)) + sz2); have u24:=c_iadd (((0 : Int32) + sz1) + (2 : Int32)) sz2; (try simp only [Int32.lt_iff_toInt_lt, Int64.lt_iff_toInt_lt, ne_eq, ← Int32.toInt_inj, ← Int64.toInt_inj, Int32.reduceToInt, Int64.reduceToInt, Nat.reducePow] at u0 u1 u2 u3 u4 u5 u6 u7 u8 u9 u10 u11 u12 u13 u14 u15 u16 u17 u18 u19 u20 u21 u22 u23 u24 ⊢); try omega) : ¬ ((((0 : Int32) + sz1) + (2 : Int32)) < (0 : Int32))) ((by have u0:=PC; have u1:=BA1; have u2:=BB1; have u3:=BA2; have u4:=BB2; have u5:=hc104; have u6:=hc166; have u7:=q167_7; have u8:=q167_8; have u9:=q167_9; have u10:=hc173; have u11:=rng32 cs; have u12:=rng32 sz1; have u13:=rng32 sz2; have u14:=rng32 ((0 : Int32) + sz1); have u15:=c_iadd (0 : Int32) sz1; have u16:=rng32 (((0 : Int32) + sz1) + (2 : Int32)); have u17:=c_iadd ((0 : Int32) + sz1) (2 : Int32); have u18:=rng32 C2_167; have u19:=rng32 ((16 : Int32) + ((16 : Int32) + (2 : Int32))); have u20:=c_iadd (16 : Int32) ((16 : Int32) + (2 : Int32)); have u21:=rng32 ((16 : Int32) + (2 : Int32)); have u22:=c_iadd (16 : Int32) (2 : Int32); have u23:=rng32 ((((0 : Int32) + sz1) + (2 : Int32)) + sz2); have u24:=c_iadd (((0 : Int32) + sz1) + (2 : Int32)) sz2; (try simp only [Int32.lt_iff_toInt_lt, Int64.lt_iff_toInt_lt, ne_eq, ← Int32.toInt_inj, ← Int64.toInt_inj, Int32.reduceToInt, Int64.reduceToInt, Nat.reducePow] at u0 u1 u2 u3 u4 u5 u6 u7 u8 u9 u10 u11 u12 u13 u14 u15 u16 u17 u18 u19 u20 u21 u22 u23 u24 ⊢); try omega) : ¬ ((40 : Int32) < (((0 : Int32) + sz1) + (2 : Int32)))) ((by have u0:=PC; have u1:=BA1; have u2:=BB1; have u3:=BA2; have u4:=BB2; have u5:=hc104; have u6:=hc166; have u7:=q167_7; have u8:=q167_8; have u9:=q167_9; have u10:=hc173; have u11:=rng32 cs; have u12:=rng32 sz1; have u13:=rng32 sz2; have u14:=rng32 ((0 : Int32) + sz1); have u15:=c_iadd (0 : Int32) sz1; have u16:=rng32 (((0 : Int32) + sz1) + (2 : Int32)); have u17:=c_iadd ((0 : Int32) + sz1) (2 : Int32); have u18:=rng32 C2_167; have u19:=rng32 ((16 : Int32) + ((16 : Int32) + (2 : Int32))); have u20:=c_iadd (16 : Int32) ((16 : Int32) + (2 : Int32)); have u21:=rng32 ((16 : Int32) + (2 : Int32)); have u22:=c_iadd (16 : Int32) (2 : Int32); have u23:=rng32 ((((0 : Int32) + sz1) + (2 : Int32)) + sz2); have u24:=c_iadd (((0 : Int32) + sz1) + (2 : Int32)) sz2; (try simp only [Int32.lt_iff_toInt_lt, Int64.lt_iff_toInt_lt, ne_eq, ← Int32.toInt_inj, ← Int64.toInt_inj, Int32.reduceToInt, Int64.reduceToInt, Nat.reducePow] at u0 u1 u2 u3 u4 u5 u6 u7 u8 u9 u10 u11 u12 u13 u14 u15 u16 u17 u18 u19 u20 u21 u22 u23 u24 ⊢); try omega) : ¬ (C2_167 < (0 : Int32))) ((by have u0:=PC; have u1:=BA1; have u2:=BB1; have u3:=BA2; have u4:=BB2; have u5:=hc104; have u6:=hc166; have u7:=q167_7; have u8:=q167_8; have u9:=q167_9; have u10:=hc173; have u11:=rng32 cs; have u12:=rng32 sz1; have u13:=rng32 sz2; have u14:=rng32 ((0 : Int32) + sz1); have u15:=c_iadd (0 : Int32) sz1; have u16:=rng32 (((0 : Int32) + sz1) + (2 : Int32)); have u17:=c_iadd ((0 : Int32) + sz1) (2 : Int32); have u18:=rng32 C2_167; have u19:=rng32 ((16 : Int32) + ((16 : Int32) + (2 : Int32))); have u20:=c_iadd (16 : Int32) ((16 : Int32) + (2 : Int32)); have u21:=rng32 ((16 : Int32) + (2 : Int32)); have u22:=c_iadd (16 : Int32) (2 : Int32); have u23:=rng32 ((((0 : Int32) + sz1) + (2 : Int32)) + sz2); have u24:=c_iadd (((0 : Int32) + sz1) + (2 : Int32)) sz2; (try simp only [Int32.lt_iff_toInt_lt, Int64.lt_iff_toInt_lt, ne_eq, ← Int32.toInt_inj, ← Int64.toInt_inj, Int32.reduceToInt, Int64.reduceToInt, Nat.reducePow] at u0 u1 u2 u3 u4 u5 u6 u7 u8 u9 u10 u11 u12 u13 u14 u15 u16 u17 u18 u19 u20 u21 u22 u23 u24 ⊢); try omega) : ¬ ((70 : Int32) < C2_167)) HA2 HZ2 (BA2 : (0 : Int32) < sz2) (BB2 : ¬ ((21 : Int32) < sz2)) (own_stakeep (Sta.ext E162 (own_stakeep (own_stakeep (Sta.ext E101 S1) q102_0 (nsS A101.nostat ns0)) q161_0 (nsS (A101.keep q102_0).nostat (nsS q102_2.nostat ns0)))) q167_0 (nsS (Exa.ext E162 ((A101.keep q102_0).keep q161_0)).nostat ns0)) (((((W1.ext E101).keep q102_0 (ninS (Nat.ne_of_lt (Nat.lt_of_lt_of_le W1.lt (Nat.le_of_eq g101.symm))) nin0)).keep q161_0 (ninS (Nat.ne_of_lt (Nat.lt_of_lt_of_le W1.lt (Nat.le_of_eq g101.symm))) (ninS (Nat.ne_of_lt (Nat.lt_of_lt_of_le W1.lt (Nat.le_trans E101.1 q102_1))) nin0))).ext E162).keep q167_0 (ninS (Nat.ne_of_lt (Nat.lt_of_lt_of_le W1.lt (Nat.le_of_eq g101.symm))) nin0)) (own_stakeep (Sta.ext E162 (own_stakeep (own_stakeep (Sta.ext E101 S2) q102_0 (nsS A101.nostat ns0)) q161_0 (nsS (A101.keep q102_0).nostat (nsS q102_2.nostat ns0)))) q167_0 (nsS (Exa.ext E162 ((A101.keep q102_0).keep q161_0)).nostat ns0)) (((((W2.ext E101).keep q102_0 (ninS (Nat.ne_of_lt (Nat.lt_of_lt_of_le W2.lt (Nat.le_of_eq g101.symm))) nin0)).keep q161_0 (ninS (Nat.ne_of_lt (Nat.lt_of_lt_of_le W2.lt (Nat.le_of_eq g101.symm))) (ninS (Nat.ne_of_lt (Nat.lt_of_lt_of_le W2.lt (Nat.le_trans E101.1 q102_1))) nin0))).ext E162).keep q167_0 (ninS (Nat.ne_of_lt (Nat.lt_of_lt_of_le W2.lt (Nat.le_of_eq g101.symm))) nin0)) HS (Ne.symm (Nat.ne_of_lt (Nat.lt_of_lt_of_le W1.lt (Nat.le_trans (Nat.le_trans (Nat.le_trans (Nat.le_trans E101.1 q102_0.1) q161_0.1) E162.1) q167_1)))) (Ne.symm (Nat.ne_of_lt (Nat.lt_of_lt_of_le W2.lt (Nat.le_trans (Nat.le_trans (Nat.le_trans (Nat.le_trans E101.1 q102_0.1) q161_0.1) E162.1) q167_1)))) (hc173 : ¬ (C2_167 < ((((0 : Int32) + sz1) + (2 : Int32)) + sz2)))) hZ tw54 tw32 (by decide) (by decide)) q195a q195c (g := (mkF m 23 #[.val (.ref a1)] [(.long hi), (.ref b101)])) rfl (by rw [hml]; rfl) (Steps.refl _) (argsL := [(.long hi)]) (rest := []) (lenOf pd_J_Ljava_lang_StringBuilder rfl) rfl (Nat.le_of_eq rfl) (hb hby dk353) (fun _ _ => ⟨rfl, e172, (by decide : 5 + 0 ≤ _), (by decide : 102 + 0 ≤ _)⟩)
        dsimp only [Pt.U, Pt.locs, Pt.cells, Pt.slots] at X195 l195 y195 z195 st195 hQ195
        subst y195 z195
        obtain ⟨rfl, Nq195, q195_0, q195_1, q195_2, q195_3, q195_4⟩ := hQ195
        have N195 : Fr n0 L195 := by rw [l195]; exact Fr.app N167 Nq195
        refine Goes.step (S' := T195.setTop (mkF m 26 #[.val (.ref a1)] [(.ref b101)])) (fun t k => st195.trans k) ?_
        by_cases hc200 : ((((0 : Int32) + sz1) + (2 : Int32)) + sz2) = C2_167
        case pos =>
          obtain ⟨cq201, kq201, q201a, q201b, q201c⟩ := isOf hZ rfl (((Exa.ext E162 ((A101.keep q102_0).keep q161_0)).keep q167_0).keep q195_0)
          obtain ⟨_, _, ⟨T201, L201, k201, n201⟩, -, X201, ⟨Lc201, hQ201, l201, y201, z201⟩, st201⟩ := X195.virtualBack hx (y := mth29) (z := mth29) hown (mvT hZ tw131) (mvT hZ tw132) (notFace_of_selects (args := #[]) (mvT hZ tw134)) (mvT hZ tw134) (mvT hZ tw133) (by decide) (backOf (W := 0) (tosc l Z a0 hw [] b101 va2_167 kv2_167 C2_167 (((([] : List Value) ++ own_rep lo n1) ++ [(.int (46 : Int32)), (.int (46 : Int32))]) ++ own_rep hi n2) ((((0 : Int32) + sz1) + (2 : Int32)) + sz2) cs T195.heap n0 (Nat.le_trans Z0 (Nat.le_trans (Nat.le_trans (Nat.le_trans (Nat.le_trans (Nat.le_trans E101.1 q102_0.1) q161_0.1) E162.1) q167_0.1) q195_0.1)) (((Exa.ext E162 ((A101.keep q102_0).keep q161_0)).keep q167_0).keep q195_0) (q167_2.keep q195_0) q195_1 q195_2 q195_3 q195_4 (own_stakeep (own_stakeep (Sta.ext E162 (own_stakeep (own_stakeep (Sta.ext E101 SC) q102_0 (nsS A101.nostat ns0)) q161_0 (nsS (A101.keep q102_0).nostat (nsS q102_2.nostat ns0)))) q167_0 (nsS (Exa.ext E162 ((A101.keep q102_0).keep q161_0)).nostat ns0)) q195_0 (nsS ((Exa.ext E162 ((A101.keep q102_0).keep q161_0)).keep q167_0).nostat (nsS q167_2.nostat ns0))) (PC : ¬ (cs = (0 : Int32))) (own_idx2 (own_idx2 (own_idx2 rfl HZ1) rfl) HZ2) (by exact own_allB (lo := lo) (n1 := n1) (hi := hi) (n2 := n2)) ((by have u0:=PC; have u1:=BA1; have u2:=BB1; have u3:=BA2; have u4:=BB2; have u5:=hc104; have u6:=hc166; have u7:=q167_7; have u8:=q167_8; have u9:=q167_9; have u10:=hc173; have u11:=hc200; have u12:=rng32 cs; have u13:=rng32 sz1; have u14:=rng32 sz2; have u15:=rng32 ((0 : Int32) + sz1); have u16:=c_iadd (0 : Int32) sz1; have u17:=rng32 (((0 : Int32) + sz1) + (2 : Int32)); have u18:=c_iadd ((0 : Int32) + sz1) (2 : Int32); have u19:=rng32 C2_167; have u20:=rng32 ((16 : Int32) + ((16 : Int32) + (2 : Int32))); have u21:=c_iadd (16 : Int32) ((16 : Int32) + (2 : Int32)); have u22:=rng32 ((16 : Int32) + (2 : Int32)); have u23:=c_iadd (16 : Int32) (2 : Int32); have u24:=rng32 ((((0 : Int32) + sz1) + (2 : Int32)) + sz2); have u25:=c_iadd (((0 : Int32) + sz1) + (2 : Int32)) sz2; (try simp only [Int32.lt_iff_toInt_lt, Int64.lt_iff_toInt_lt, ne_eq, ← Int32.toInt_inj, ← Int64.toInt_inj, Int32.reduceToInt, Int64.reduceToInt, Nat.reducePow] at u0 u1 u2 u3 u4 u5 u6 u7 u8 u9 u10 u11 u12 u13 u14 u15 u16 u17 u18 u19 u20 u21 u22 u23 u24 u25 ⊢); try omega) : ¬ (((((0 : Int32) + sz1) + (2 : Int32)) + sz2) < (0 : Int32))) ((by have u0:=PC; have u1:=BA1; have u2:=BB1; have u3:=BA2; have u4:=BB2; have u5:=hc104; have u6:=hc166; have u7:=q167_7; have u8:=q167_8; have u9:=q167_9; have u10:=hc173; have u11:=hc200; have u12:=rng32 cs; have u13:=rng32 sz1; have u14:=rng32 sz2; have u15:=rng32 ((0 : Int32) + sz1); have u16:=c_iadd (0 : Int32) sz1; have u17:=rng32 (((0 : Int32) + sz1) + (2 : Int32)); have u18:=c_iadd ((0 : Int32) + sz1) (2 : Int32); have u19:=rng32 C2_167; have u20:=rng32 ((16 : Int32) + ((16 : Int32) + (2 : Int32))); have u21:=c_iadd (16 : Int32) ((16 : Int32) + (2 : Int32)); have u22:=rng32 ((16 : Int32) + (2 : Int32)); have u23:=c_iadd (16 : Int32) (2 : Int32); have u24:=rng32 ((((0 : Int32) + sz1) + (2 : Int32)) + sz2); have u25:=c_iadd (((0 : Int32) + sz1) + (2 : Int32)) sz2; (try simp only [Int32.lt_iff_toInt_lt, Int64.lt_iff_toInt_lt, ne_eq, ← Int32.toInt_inj, ← Int64.toInt_inj, Int32.reduceToInt, Int64.reduceToInt, Nat.reducePow] at u0 u1 u2 u3 u4 u5 u6 u7 u8 u9 u10 u11 u12 u13 u14 u15 u16 u17 u18 u19 u20 u21 u22 u23 u24 u25 ⊢); try omega) : ¬ ((70 : Int32) < ((((0 : Int32) + sz1) + (2 : Int32)) + sz2))) (hc200 : ((((0 : Int32) + sz1) + (2 : Int32)) + sz2) = C2_167)) hZ tw135 tw32 (by decide) (by decide)) q201a q201c (g := (mkF m 26 #[.val (.ref a1)] [(.ref b101)])) rfl (by rw [hml]; rfl) (Steps.refl _) (argsL := []) (rest := []) (lenOf pd_Ljava_lang_String rfl) rfl (Nat.le_of_eq rfl) (hb hby dk354) (fun _ _ => ⟨rfl, rfl, (by decide : 5 + 2 ≤ _), (by decide : 102 + 74 ≤ _)⟩)
          dsimp only [Pt.U, Pt.locs, Pt.cells, Pt.slots] at X201 l201 y201 z201 st201 hQ201
          subst y201 z201
          obtain ⟨s1_201, x_201, kx_201, rfl, Nq201, q201_0, q201_1, q201_2, q201_3, q201_4, q201_5, q201_6⟩ := hQ201
          have N201 : Fr n0 L201 := by rw [l201]; exact Fr.app N195 Nq201
          refine Goes.step (S' := T201.setTop (mkF m 29 #[.val (.ref a1)] [(.ref s1_201)])) (fun t k => st201.trans k) ?_
          have CR204 := CR162.trans (CHr.keep q167_0 (sfS (Safe.exa hZ.alike (Exa.ext E162 ((A101.keep q102_0).keep q161_0)) (by decide) (by decide)) sf0) CR162.1)
          have Q204_va_102 := Safe.keep q167_0 (sfS (Safe.exa hZ.alike (Exa.ext E162 ((A101.keep q102_0).keep q161_0)) (by decide) (by decide)) sf0) CR162.1 Q162_va_102
          have Q204_va2_167 := Safe.keep q167_0 (sfS (Safe.exa hZ.alike (Exa.ext E162 ((A101.keep q102_0).keep q161_0)) (by decide) (by decide)) sf0) CR162.1 (Safe.new q167_1)
          have CR205 := CR204.trans (CHr.keep q195_0 (sfS (Safe.exa hZ.alike ((Exa.ext E162 ((A101.keep q102_0).keep q161_0)).keep q167_0) (by decide) (by decide)) (sfS Q204_va2_167 sf0)) CR204.1)
          have Q205_va_102 := Safe.keep q195_0 (sfS (Safe.exa hZ.alike ((Exa.ext E162 ((A101.keep q102_0).keep q161_0)).keep q167_0) (by decide) (by decide)) (sfS Q204_va2_167 sf0)) CR204.1 Q204_va_102
          have Q205_va2_167 := Safe.keep q195_0 (sfS (Safe.exa hZ.alike ((Exa.ext E162 ((A101.keep q102_0).keep q161_0)).keep q167_0) (by decide) (by decide)) (sfS Q204_va2_167 sf0)) CR204.1 Q204_va2_167
          have CR206 := CR205.trans (CHr.keep q201_0 sf0 CR205.1)
          have Q206_va_102 := Safe.keep q201_0 sf0 CR205.1 Q205_va_102
          have Q206_va2_167 := Safe.keep q201_0 sf0 CR205.1 Q205_va2_167
          have Q206_s1_201 := Safe.keep q201_0 sf0 CR205.1 (Safe.new q201_1)
          refine Goes.leaveH (g := (mkF m 29 #[.val (.ref a1)] [(.ref s1_201)])) (own_ew hw) hZ hh CR206 X201 hS162 (Nat.le_trans hk162 (Nat.le_trans (Nat.le_trans q167_0.1 q195_0.1) q201_0.1)) Bd.notSynchronized (v := (some (.ref s1_201))) (fun h => by rw [Bd.returns] at h; cases h) (fun fs hr => by jvm_step X201.here [X201.here.top, hx, (hb hby dk355), X201.method', Bd.returns, Value.isRef, FieldType.isReference]; (first | (intro acts; rw [hr _ acts rfl rfl rfl]) | rw [hr _ _ rfl rfl rfl]); exact Steps.refl _) rfl ?_ (by decide) (by decide)
          exact ⟨s1_201, x_201, kx_201, ((((0 : Int32) + sz1) + (2 : Int32)) + sz2), rfl, N201, ((((((((Keep.refl _ []).ext E101).trans q102_0 (allS (Or.inr (Nat.le_of_eq g101.symm)) all0)).trans q161_0 (allS (Or.inr (Nat.le_of_eq g101.symm)) (allS (Or.inr (Nat.le_trans E101.1 q102_1)) all0))).ext E162).trans q167_0 (allS (Or.inr (Nat.le_of_eq g101.symm)) all0)).trans q195_0 (allS (Or.inr (Nat.le_of_eq g101.symm)) (allS (Or.inr (Nat.le_trans (Nat.le_trans (Nat.le_trans (Nat.le_trans E101.1 q102_0.1) q161_0.1) E162.1) q167_1)) all0))).trans q201_0 all0), q201_2, q201_3, q201_4, q201_6, (own_idx2 (own_idx2 (own_idx2 rfl HZ1) rfl) HZ2)⟩
        case neg =>
          obtain ⟨cq207, kq207, q207a, q207b, q207c⟩ := isOf hZ rfl (((Exa.ext E162 ((A101.keep q102_0).keep q161_0)).keep q167_0).keep q195_0)
          obtain ⟨_, _, ⟨T207, L207, k207, n207⟩, -, X207, ⟨Lc207, hQ207, l207, y207, z207⟩, st207⟩ := X195.virtualBack hx (y := mth29) (z := mth29) hown (mvT hZ tw131) (mvT hZ tw132) (notFace_of_selects (args := #[]) (mvT hZ tw134)) (mvT hZ tw134) (mvT hZ tw133) (by decide) (backOf (W := 0) (tosr l Z a0 hw [] b101 va2_167 kv2_167 C2_167 (((([] : List Value) ++ own_rep lo n1) ++ [(.int (46 : Int32)), (.int (46 : Int32))]) ++ own_rep hi n2) ((((0 : Int32) + sz1) + (2 : Int32)) + sz2) cs T195.heap n0 (Nat.le_trans Z0 (Nat.le_trans (Nat.le_trans (Nat.le_trans (Nat.le_trans (Nat.le_trans E101.1 q102_0.1) q161_0.1) E162.1) q167_0.1) q195_0.1)) (((Exa.ext E162 ((A101.keep q102_0).keep q161_0)).keep q167_0).keep q195_0) (q167_2.keep q195_0) q195_1 q195_2 q195_3 q195_4 (own_stakeep (own_stakeep (Sta.ext E162 (own_stakeep (own_stakeep (Sta.ext E101 SC) q102_0 (nsS A101.nostat ns0)) q161_0 (nsS (A101.keep q102_0).nostat (nsS q102_2.nostat ns0)))) q167_0 (nsS (Exa.ext E162 ((A101.keep q102_0).keep q161_0)).nostat ns0)) q195_0 (nsS ((Exa.ext E162 ((A101.keep q102_0).keep q161_0)).keep q167_0).nostat (nsS q167_2.nostat ns0))) (PC : ¬ (cs = (0 : Int32))) (own_idx2 (own_idx2 (own_idx2 rfl HZ1) rfl) HZ2) (by exact own_allB (lo := lo) (n1 := n1) (hi := hi) (n2 := n2)) ((by have u0:=PC; have u1:=BA1; have u2:=BB1; have u3:=BA2; have u4:=BB2; have u5:=hc104; have u6:=hc166; have u7:=q167_7; have u8:=q167_8; have u9:=q167_9; have u10:=hc173; have u11:=hc200; have u12:=rng32 cs; have u13:=rng32 sz1; have u14:=rng32 sz2; have u15:=rng32 ((0 : Int32) + sz1); have u16:=c_iadd (0 : Int32) sz1; have u17:=rng32 (((0 : Int32) + sz1) + (2 : Int32)); have u18:=c_iadd ((0 : Int32) + sz1) (2 : Int32); have u19:=rng32 C2_167; have u20:=rng32 ((16 : Int32) + ((16 : Int32) + (2 : Int32))); have u21:=c_iadd (16 : Int32) ((16 : Int32) + (2 : Int32)); have u22:=rng32 ((16 : Int32) + (2 : Int32)); have u23:=c_iadd (16 : Int32) (2 : Int32); have u24:=rng32 ((((0 : Int32) + sz1) + (2 : Int32)) + sz2); have u25:=c_iadd (((0 : Int32) + sz1) + (2 : Int32)) sz2; (try simp only [Int32.lt_iff_toInt_lt, Int64.lt_iff_toInt_lt, ne_eq, ← Int32.toInt_inj, ← Int64.toInt_inj, Int32.reduceToInt, Int64.reduceToInt, Nat.reducePow] at u0 u1 u2 u3 u4 u5 u6 u7 u8 u9 u10 u11 u12 u13 u14 u15 u16 u17 u18 u19 u20 u21 u22 u23 u24 u25 ⊢); try omega) : ¬ (((((0 : Int32) + sz1) + (2 : Int32)) + sz2) < (0 : Int32))) ((by have u0:=PC; have u1:=BA1; have u2:=BB1; have u3:=BA2; have u4:=BB2; have u5:=hc104; have u6:=hc166; have u7:=q167_7; have u8:=q167_8; have u9:=q167_9; have u10:=hc173; have u11:=hc200; have u12:=rng32 cs; have u13:=rng32 sz1; have u14:=rng32 sz2; have u15:=rng32 ((0 : Int32) + sz1); have u16:=c_iadd (0 : Int32) sz1; have u17:=rng32 (((0 : Int32) + sz1) + (2 : Int32)); have u18:=c_iadd ((0 : Int32) + sz1) (2 : Int32); have u19:=rng32 C2_167; have u20:=rng32 ((16 : Int32) + ((16 : Int32) + (2 : Int32))); have u21:=c_iadd (16 : Int32) ((16 : Int32) + (2 : Int32)); have u22:=rng32 ((16 : Int32) + (2 : Int32)); have u23:=c_iadd (16 : Int32) (2 : Int32); have u24:=rng32 ((((0 : Int32) + sz1) + (2 : Int32)) + sz2); have u25:=c_iadd (((0 : Int32) + sz1) + (2 : Int32)) sz2; (try simp only [Int32.lt_iff_toInt_lt, Int64.lt_iff_toInt_lt, ne_eq, ← Int32.toInt_inj, ← Int64.toInt_inj, Int32.reduceToInt, Int64.reduceToInt, Nat.reducePow] at u0 u1 u2 u3 u4 u5 u6 u7 u8 u9 u10 u11 u12 u13 u14 u15 u16 u17 u18 u19 u20 u21 u22 u23 u24 u25 ⊢); try omega) : ¬ ((70 : Int32) < ((((0 : Int32) + sz1) + (2 : Int32)) + sz2))) ((by have u0:=PC; have u1:=BA1; have u2:=BB1; have u3:=BA2; have u4:=BB2; have u5:=hc104; have u6:=hc166; have u7:=q167_7; have u8:=q167_8; have u9:=q167_9; have u10:=hc173; have u11:=hc200; have u12:=rng32 cs; have u13:=rng32 sz1; have u14:=rng32 sz2; have u15:=rng32 ((0 : Int32) + sz1); have u16:=c_iadd (0 : Int32) sz1; have u17:=rng32 (((0 : Int32) + sz1) + (2 : Int32)); have u18:=c_iadd ((0 : Int32) + sz1) (2 : Int32); have u19:=rng32 C2_167; have u20:=rng32 ((16 : Int32) + ((16 : Int32) + (2 : Int32))); have u21:=c_iadd (16 : Int32) ((16 : Int32) + (2 : Int32)); have u22:=rng32 ((16 : Int32) + (2 : Int32)); have u23:=c_iadd (16 : Int32) (2 : Int32); have u24:=rng32 ((((0 : Int32) + sz1) + (2 : Int32)) + sz2); have u25:=c_iadd (((0 : Int32) + sz1) + (2 : Int32)) sz2; (try simp only [Int32.lt_iff_toInt_lt, Int64.lt_iff_toInt_lt, ne_eq, ← Int32.toInt_inj, ← Int64.toInt_inj, Int32.reduceToInt, Int64.reduceToInt, Nat.reducePow] at u0 u1 u2 u3 u4 u5 u6 u7 u8 u9 u10 u11 u12 u13 u14 u15 u16 u17 u18 u19 u20 u21 u22 u23 u24 u25 ⊢); try omega) : ((((0 : Int32) + sz1) + (2 : Int32)) + sz2) < C2_167)) hZ tw135 tw32 (by decide) (by decide)) q207a q207c (g := (mkF m 26 #[.val (.ref a1)] [(.ref b101)])) rfl (by rw [hml]; rfl) (Steps.refl _) (argsL := []) (rest := []) (lenOf pd_Ljava_lang_String rfl) rfl (Nat.le_of_eq rfl) (hb hby dk354) (fun _ _ => ⟨rfl, rfl, (by decide : 5 + 2 ≤ _), (by decide : 102 + 74 ≤ _)⟩)
          dsimp only [Pt.U, Pt.locs, Pt.cells, Pt.slots] at X207 l207 y207 z207 st207 hQ207
          subst y207 z207
          obtain ⟨s1_207, x_207, kx_207, rfl, Nq207, q207_0, q207_1, q207_2, q207_3, q207_4, q207_5, q207_6⟩ := hQ207
          have N207 : Fr n0 L207 := by rw [l207]; exact Fr.app N195 Nq207
          refine Goes.step (S' := T207.setTop (mkF m 29 #[.val (.ref a1)] [(.ref s1_207)])) (fun t k => st207.trans k) ?_
          have CR211 := CR162.trans (CHr.keep q167_0 (sfS (Safe.exa hZ.alike (Exa.ext E162 ((A101.keep q102_0).keep q161_0)) (by decide) (by decide)) sf0) CR162.1)
          have Q211_va_102 := Safe.keep q167_0 (sfS (Safe.exa hZ.alike (Exa.ext E162 ((A101.keep q102_0).keep q161_0)) (by decide) (by decide)) sf0) CR162.1 Q162_va_102
          have Q211_va2_167 := Safe.keep q167_0 (sfS (Safe.exa hZ.alike (Exa.ext E162 ((A101.keep q102_0).keep q161_0)) (by decide) (by decide)) sf0) CR162.1 (Safe.new q167_1)
          have CR212 := CR211.trans (CHr.keep q195_0 (sfS (Safe.exa hZ.alike ((Exa.ext E162 ((A101.keep q102_0).keep q161_0)).keep q167_0) (by decide) (by decide)) (sfS Q211_va2_167 sf0)) CR211.1)
          have Q212_va_102 := Safe.keep q195_0 (sfS (Safe.exa hZ.alike ((Exa.ext E162 ((A101.keep q102_0).keep q161_0)).keep q167_0) (by decide) (by decide)) (sfS Q211_va2_167 sf0)) CR211.1 Q211_va_102
          have Q212_va2_167 := Safe.keep q195_0 (sfS (Safe.exa hZ.alike ((Exa.ext E162 ((A101.keep q102_0).keep q161_0)).keep q167_0) (by decide) (by decide)) (sfS Q211_va2_167 sf0)) CR211.1 Q211_va2_167
          have CR213 := CR212.trans (CHr.keep q207_0 sf0 CR212.1)
          have Q213_va_102 := Safe.keep q207_0 sf0 CR212.1 Q212_va_102
          have Q213_va2_167 := Safe.keep q207_0 sf0 CR212.1 Q212_va2_167
          have Q213_s1_207 := Safe.keep q207_0 sf0 CR212.1 (Safe.new q207_1)
          refine Goes.leaveH (g := (mkF m 29 #[.val (.ref a1)] [(.ref s1_207)])) (own_ew hw) hZ hh CR213 X207 hS162 (Nat.le_trans hk162 (Nat.le_trans (Nat.le_trans q167_0.1 q195_0.1) q207_0.1)) Bd.notSynchronized (v := (some (.ref s1_207))) (fun h => by rw [Bd.returns] at h; cases h) (fun fs hr => by jvm_step X207.here [X207.here.top, hx, (hb hby dk355), X207.method', Bd.returns, Value.isRef, FieldType.isReference]; (first | (intro acts; rw [hr _ acts rfl rfl rfl]) | rw [hr _ _ rfl rfl rfl]); exact Steps.refl _) rfl ?_ (by decide) (by decide)
          exact ⟨s1_207, x_207, kx_207, ((((0 : Int32) + sz1) + (2 : Int32)) + sz2), rfl, N207, ((((((((Keep.refl _ []).ext E101).trans q102_0 (allS (Or.inr (Nat.le_of_eq g101.symm)) all0)).trans q161_0 (allS (Or.inr (Nat.le_of_eq g101.symm)) (allS (Or.inr (Nat.le_trans E101.1 q102_1)) all0))).ext E162).trans q167_0 (allS (Or.inr (Nat.le_of_eq g101.symm)) all0)).trans q195_0 (allS (Or.inr (Nat.le_of_eq g101.symm)) (allS (Or.inr (Nat.le_trans (Nat.le_trans (Nat.le_trans (Nat.le_trans E101.1 q102_0.1) q161_0.1) E162.1) q167_1)) all0))).trans q207_0 all0), q207_2, q207_3, q207_4, q207_6, (own_idx2 (own_idx2 (own_idx2 rfl HZ1) rfl) HZ2)⟩
    case neg =>
      obtain ⟨cq214, kq214, q214a, q214b, q214c⟩ := isOf hZ e162 (Exa.ext E162 ((A101.keep q102_0).keep q161_0))
      obtain ⟨_, _, ⟨T214, L214, k214, n214⟩, -, X214, ⟨Lc214, hQ214, l214, y214, z214⟩, st214⟩ := X162.virtualBack hx (y := mth20) (z := mth20) hown (mvT hZ tw89) (mvT hZ tw90) (notFace_of_selects (args := #[]) (mvT hZ tw92)) (mvT hZ tw92) (mvT hZ tw91) (by decide) (backOf (W := 0) (sas l Z a0 hw [] b101 va_102 kv_102 (16 : Int32) (([] : List Value) ++ own_rep lo n1) ((0 : Int32) + sz1) cs b162 v162 kv162 h162 n0 (Nat.le_trans Z0 (Nat.le_trans (Nat.le_trans (Nat.le_trans E101.1 q102_0.1) q161_0.1) E162.1)) (Exa.ext E162 ((A101.keep q102_0).keep q161_0)) (Nat.le_trans Z0 (Nat.le_of_eq g101.symm)) (Exa.ext E162 (q102_2.keep q161_0)) (Nat.le_trans Z0 (Nat.le_trans E101.1 q102_1)) (Fld.ext E162 q161_1) (Fld.ext E162 q161_2) (Fld.ext E162 q161_3) (q161_4.ext E162) (Sta.ext E162 (own_stakeep (own_stakeep (Sta.ext E101 SC) q102_0 (nsS A101.nostat ns0)) q161_0 (nsS (A101.keep q102_0).nostat (nsS q102_2.nostat ns0)))) (PC : ¬ (cs = (0 : Int32))) (own_idx2 rfl HZ1) (own_b1 _ _) ((by have u0:=PC; have u1:=BA1; have u2:=BB1; have u3:=BA2; have u4:=BB2; have u5:=hc104; have u6:=hc166; have u7:=rng32 cs; have u8:=rng32 sz1; have u9:=rng32 sz2; have u10:=rng32 ((0 : Int32) + sz1); have u11:=c_iadd (0 : Int32) sz1; have u12:=rng32 (((0 : Int32) + sz1) + (2 : Int32)); have u13:=c_iadd ((0 : Int32) + sz1) (2 : Int32); (try simp only [Int32.lt_iff_toInt_lt, Int64.lt_iff_toInt_lt, ne_eq, ← Int32.toInt_inj, ← Int64.toInt_inj, Int32.reduceToInt, Int64.reduceToInt, Nat.reducePow] at u0 u1 u2 u3 u4 u5 u6 u7 u8 u9 u10 u11 u12 u13 ⊢); try omega) : ¬ (((0 : Int32) + sz1) < (0 : Int32))) ((by have u0:=PC; have u1:=BA1; have u2:=BB1; have u3:=BA2; have u4:=BB2; have u5:=hc104; have u6:=hc166; have u7:=rng32 cs; have u8:=rng32 sz1; have u9:=rng32 sz2; have u10:=rng32 ((0 : Int32) + sz1); have u11:=c_iadd (0 : Int32) sz1; have u12:=rng32 (((0 : Int32) + sz1) + (2 : Int32)); have u13:=c_iadd ((0 : Int32) + sz1) (2 : Int32); (try simp only [Int32.lt_iff_toInt_lt, Int64.lt_iff_toInt_lt, ne_eq, ← Int32.toInt_inj, ← Int64.toInt_inj, Int32.reduceToInt, Int64.reduceToInt, Nat.reducePow] at u0 u1 u2 u3 u4 u5 u6 u7 u8 u9 u10 u11 u12 u13 ⊢); try omega) : ¬ ((40 : Int32) < ((0 : Int32) + sz1))) ((by decide) : ¬ ((16 : Int32) < (0 : Int32))) ((by decide) : ¬ ((70 : Int32) < (16 : Int32))) Ea162 Fv162 Fc162 Va162 (Ne.symm (Sn162 _ Q162_va_102).2) (hc166 : ¬ ((16 : Int32) < (((0 : Int32) + sz1) + (2 : Int32))))) hZ tw93 tw32 (by decide) (by decide)) q214a q214c (g := (mkF m 16 #[.val (.ref a1)] [(.ref b162), (.ref b101)])) rfl (by rw [hml]; rfl) (Steps.refl _) (argsL := [(.ref b162)]) (rest := []) (lenOf pd_Ljava_lang_String__Ljava_lang_StringBuilder rfl) rfl (Nat.le_of_eq rfl) (hb hby dk350) (fun _ _ => ⟨rfl, e162, (by decide : 4 + 0 ≤ _), (by decide : 32 + 0 ≤ _)⟩)
      dsimp only [Pt.U, Pt.locs, Pt.cells, Pt.slots] at X214 l214 y214 z214 st214 hQ214
      subst y214 z214
      obtain ⟨rfl, Nq214, q214_0, q214_1, q214_2, q214_3, q214_4⟩ := hQ214
      have N214 : Fr n0 L214 := by rw [l214]; exact Fr.app N161 Nq214
      refine Goes.step (S' := T214.setTop (mkF m 20 #[.val (.ref a1)] [(.ref a1), (.ref b101)])) (fun t k => st214.trans (XS.aloadN X214.here hx rfl (hb hby dk351) rfl rfl k)) ?_
      obtain ⟨T217, X217, e217, st217⟩ := getF X214 hx hZ hown (host := "") (Or.inl tw23) Via.refl rfl ((Fld.ext E162 (((Fld.ext E101 FM).keep q102_0 (ninS (Nat.ne_of_lt (Nat.lt_of_lt_of_le E1.lt (Nat.le_of_eq g101.symm))) nin0)).keep q161_0 (ninS (Nat.ne_of_lt (Nat.lt_of_lt_of_le E1.lt (Nat.le_of_eq g101.symm))) (ninS (Nat.ne_of_lt (Nat.lt_of_lt_of_le E1.lt (Nat.le_trans E101.1 q102_1))) nin0)))).keep q214_0 (ninS (Nat.ne_of_lt (Nat.lt_of_lt_of_le E1.lt (Nat.le_of_eq g101.symm))) (ninS (Nat.ne_of_lt (Nat.lt_of_lt_of_le E1.lt (Nat.le_trans E101.1 q102_1))) nin0))) (g := (mkF m 20 #[.val (.ref a1)] [(.ref a1), (.ref b101)])) rfl rfl (hb hby dk352)
      refine Goes.step (S' := T217.setTop (mkF m 23 #[.val (.ref a1)] [(.long hi), (.ref b101)])) (fun t k => st217 _ k) ?_
      by_cases hc218 : (16 : Int32) < ((((0 : Int32) + sz1) + (2 : Int32)) + sz2)
      case pos =>
        obtain ⟨cq219, kq219, q219a, q219b, q219c⟩ := isOf hZ e217 ((Exa.ext E162 ((A101.keep q102_0).keep q161_0)).keep q214_0)
        obtain ⟨_, _, ⟨T219, L219, k219, n219⟩, -, X219, ⟨Lc219, hQ219, l219, y219, z219⟩, st219⟩ := X217.virtualBack hx (y := mth12) (z := mth12) hown (mvT hZ tw50) (mvT hZ tw51) (notFace_of_selects (args := #[]) (mvT hZ tw53)) (mvT hZ tw53) (mvT hZ tw52) (by decide) (backOf (W := 0) (sjg l Z a0 hw [] b101 va_102 kv_102 (16 : Int32) ((([] : List Value) ++ own_rep lo n1) ++ [(.int (46 : Int32)), (.int (46 : Int32))]) (((0 : Int32) + sz1) + (2 : Int32)) cs hi n2 sz2 d1 d2 kd1 kd2 (70 : Int32) T214.heap n0 (Nat.le_trans Z0 (Nat.le_trans (Nat.le_trans (Nat.le_trans (Nat.le_trans E101.1 q102_0.1) q161_0.1) E162.1) q214_0.1)) ((Exa.ext E162 ((A101.keep q102_0).keep q161_0)).keep q214_0) (Nat.le_trans Z0 (Nat.le_of_eq g101.symm)) ((Exa.ext E162 (q102_2.keep q161_0)).keep q214_0) (Nat.le_trans Z0 (Nat.le_trans E101.1 q102_1)) q214_1 q214_2 q214_3 q214_4 (own_stakeep (Sta.ext E162 (own_stakeep (own_stakeep (Sta.ext E101 SC) q102_0 (nsS A101.nostat ns0)) q161_0 (nsS (A101.keep q102_0).nostat (nsS q102_2.nostat ns0)))) q214_0 (nsS (Exa.ext E162 ((A101.keep q102_0).keep q161_0)).nostat (nsS (Exa.ext E162 (q102_2.keep q161_0)).nostat ns0))) (PC : ¬ (cs = (0 : Int32))) (own_idx2 (own_idx2 rfl HZ1) rfl) (own_b2 _ _ _ _) ((by have u0:=PC; have u1:=BA1; have u2:=BB1; have u3:=BA2; have u4:=BB2; have u5:=hc104; have u6:=hc166; have u7:=hc218; have u8:=rng32 cs; have u9:=rng32 sz1; have u10:=rng32 sz2; have u11:=rng32 ((0 : Int32) + sz1); have u12:=c_iadd (0 : Int32) sz1; have u13:=rng32 (((0 : Int32) + sz1) + (2 : Int32)); have u14:=c_iadd ((0 : Int32) + sz1) (2 : Int32); have u15:=rng32 ((((0 : Int32) + sz1) + (2 : Int32)) + sz2); have u16:=c_iadd (((0 : Int32) + sz1) + (2 : Int32)) sz2; (try simp only [Int32.lt_iff_toInt_lt, Int64.lt_iff_toInt_lt, ne_eq, ← Int32.toInt_inj, ← Int64.toInt_inj, Int32.reduceToInt, Int64.reduceToInt, Nat.reducePow] at u0 u1 u2 u3 u4 u5 u6 u7 u8 u9 u10 u11 u12 u13 u14 u15 u16 ⊢); try omega) : ¬ ((((0 : Int32) + sz1) + (2 : Int32)) < (0 : Int32))) ((by have u0:=PC; have u1:=BA1; have u2:=BB1; have u3:=BA2; have u4:=BB2; have u5:=hc104; have u6:=hc166; have u7:=hc218; have u8:=rng32 cs; have u9:=rng32 sz1; have u10:=rng32 sz2; have u11:=rng32 ((0 : Int32) + sz1); have u12:=c_iadd (0 : Int32) sz1; have u13:=rng32 (((0 : Int32) + sz1) + (2 : Int32)); have u14:=c_iadd ((0 : Int32) + sz1) (2 : Int32); have u15:=rng32 ((((0 : Int32) + sz1) + (2 : Int32)) + sz2); have u16:=c_iadd (((0 : Int32) + sz1) + (2 : Int32)) sz2; (try simp only [Int32.lt_iff_toInt_lt, Int64.lt_iff_toInt_lt, ne_eq, ← Int32.toInt_inj, ← Int64.toInt_inj, Int32.reduceToInt, Int64.reduceToInt, Nat.reducePow] at u0 u1 u2 u3 u4 u5 u6 u7 u8 u9 u10 u11 u12 u13 u14 u15 u16 ⊢); try omega) : ¬ ((40 : Int32) < (((0 : Int32) + sz1) + (2 : Int32)))) ((by decide) : ¬ ((16 : Int32) < (0 : Int32))) ((by decide) : ¬ ((70 : Int32) < (16 : Int32))) HA2 HZ2 (BA2 : (0 : Int32) < sz2) (BB2 : ¬ ((21 : Int32) < sz2)) (own_stakeep (Sta.ext E162 (own_stakeep (own_stakeep (Sta.ext E101 S1) q102_0 (nsS A101.nostat ns0)) q161_0 (nsS (A101.keep q102_0).nostat (nsS q102_2.nostat ns0)))) q214_0 (nsS (Exa.ext E162 ((A101.keep q102_0).keep q161_0)).nostat (nsS (Exa.ext E162 (q102_2.keep q161_0)).nostat ns0))) (((((W1.ext E101).keep q102_0 (ninS (Nat.ne_of_lt (Nat.lt_of_lt_of_le W1.lt (Nat.le_of_eq g101.symm))) nin0)).keep q161_0 (ninS (Nat.ne_of_lt (Nat.lt_of_lt_of_le W1.lt (Nat.le_of_eq g101.symm))) (ninS (Nat.ne_of_lt (Nat.lt_of_lt_of_le W1.lt (Nat.le_trans E101.1 q102_1))) nin0))).ext E162).keep q214_0 (ninS (Nat.ne_of_lt (Nat.lt_of_lt_of_le W1.lt (Nat.le_of_eq g101.symm))) (ninS (Nat.ne_of_lt (Nat.lt_of_lt_of_le W1.lt (Nat.le_trans E101.1 q102_1))) nin0))) (own_stakeep (Sta.ext E162 (own_stakeep (own_stakeep (Sta.ext E101 S2) q102_0 (nsS A101.nostat ns0)) q161_0 (nsS (A101.keep q102_0).nostat (nsS q102_2.nostat ns0)))) q214_0 (nsS (Exa.ext E162 ((A101.keep q102_0).keep q161_0)).nostat (nsS (Exa.ext E162 (q102_2.keep q161_0)).nostat ns0))) (((((W2.ext E101).keep q102_0 (ninS (Nat.ne_of_lt (Nat.lt_of_lt_of_le W2.lt (Nat.le_of_eq g101.symm))) nin0)).keep q161_0 (ninS (Nat.ne_of_lt (Nat.lt_of_lt_of_le W2.lt (Nat.le_of_eq g101.symm))) (ninS (Nat.ne_of_lt (Nat.lt_of_lt_of_le W2.lt (Nat.le_trans E101.1 q102_1))) nin0))).ext E162).keep q214_0 (ninS (Nat.ne_of_lt (Nat.lt_of_lt_of_le W2.lt (Nat.le_of_eq g101.symm))) (ninS (Nat.ne_of_lt (Nat.lt_of_lt_of_le W2.lt (Nat.le_trans E101.1 q102_1))) nin0))) HS (Ne.symm (Nat.ne_of_lt (Nat.lt_of_lt_of_le W1.lt (Nat.le_trans E101.1 q102_1)))) (Ne.symm (Nat.ne_of_lt (Nat.lt_of_lt_of_le W2.lt (Nat.le_trans E101.1 q102_1)))) (hc218 : (16 : Int32) < ((((0 : Int32) + sz1) + (2 : Int32)) + sz2)) ((by have u0:=PC; have u1:=BA1; have u2:=BB1; have u3:=BA2; have u4:=BB2; have u5:=hc104; have u6:=hc166; have u7:=hc218; have u8:=rng32 cs; have u9:=rng32 sz1; have u10:=rng32 sz2; have u11:=rng32 ((0 : Int32) + sz1); have u12:=c_iadd (0 : Int32) sz1; have u13:=rng32 (((0 : Int32) + sz1) + (2 : Int32)); have u14:=c_iadd ((0 : Int32) + sz1) (2 : Int32); have u15:=rng32 ((((0 : Int32) + sz1) + (2 : Int32)) + sz2); have u16:=c_iadd (((0 : Int32) + sz1) + (2 : Int32)) sz2; (try simp only [Int32.lt_iff_toInt_lt, Int64.lt_iff_toInt_lt, ne_eq, ← Int32.toInt_inj, ← Int64.toInt_inj, Int32.reduceToInt, Int64.reduceToInt, Nat.reducePow] at u0 u1 u2 u3 u4 u5 u6 u7 u8 u9 u10 u11 u12 u13 u14 u15 u16 ⊢); try omega) : ¬ ((70 : Int32) < ((((0 : Int32) + sz1) + (2 : Int32)) + sz2))) ((by have u0:=PC; have u1:=BA1; have u2:=BB1; have u3:=BA2; have u4:=BB2; have u5:=hc104; have u6:=hc166; have u7:=hc218; have u8:=rng32 cs; have u9:=rng32 sz1; have u10:=rng32 sz2; have u11:=rng32 ((0 : Int32) + sz1); have u12:=c_iadd (0 : Int32) sz1; have u13:=rng32 (((0 : Int32) + sz1) + (2 : Int32)); have u14:=c_iadd ((0 : Int32) + sz1) (2 : Int32); have u15:=rng32 ((((0 : Int32) + sz1) + (2 : Int32)) + sz2); have u16:=c_iadd (((0 : Int32) + sz1) + (2 : Int32)) sz2; have u17:=rng32 ((16 : Int32) + ((16 : Int32) + (2 : Int32))); have u18:=c_iadd (16 : Int32) ((16 : Int32) + (2 : Int32)); have u19:=rng32 ((16 : Int32) + (2 : Int32)); have u20:=c_iadd (16 : Int32) (2 : Int32); (try simp only [Int32.lt_iff_toInt_lt, Int64.lt_iff_toInt_lt, ne_eq, ← Int32.toInt_inj, ← Int64.toInt_inj, Int32.reduceToInt, Int64.reduceToInt, Nat.reducePow] at u0 u1 u2 u3 u4 u5 u6 u7 u8 u9 u10 u11 u12 u13 u14 u15 u16 u17 u18 u19 u20 ⊢); try omega) : ¬ ((70 : Int32) < ((16 : Int32) + ((16 : Int32) + (2 : Int32))))) ((by decide) : ¬ ((70 : Int32) < (70 : Int32))) (hc166 : ¬ ((16 : Int32) < (((0 : Int32) + sz1) + (2 : Int32))))) hZ tw54 tw32 (by decide) (by decide)) q219a q219c (g := (mkF m 23 #[.val (.ref a1)] [(.long hi), (.ref b101)])) rfl (by rw [hml]; rfl) (Steps.refl _) (argsL := [(.long hi)]) (rest := []) (lenOf pd_J_Ljava_lang_StringBuilder rfl) rfl (Nat.le_of_eq rfl) (hb hby dk353) (fun _ _ => ⟨rfl, e217, (by decide : 4 + 1 ≤ _), (by decide : 32 + 70 ≤ _)⟩)
        dsimp only [Pt.U, Pt.locs, Pt.cells, Pt.slots] at X219 l219 y219 z219 st219 hQ219
        subst y219 z219
        obtain ⟨va2_219, kv2_219, C2_219, rfl, Nq219, q219_0, q219_1, q219_2, q219_3, q219_4, q219_5, q219_6, q219_7, q219_8, q219_9⟩ := hQ219
        have N219 : Fr n0 L219 := by rw [l219]; exact Fr.app N214 Nq219
        refine Goes.step (S' := T219.setTop (mkF m 26 #[.val (.ref a1)] [(.ref b101)])) (fun t k => st219.trans k) ?_
        by_cases hc224 : ((((0 : Int32) + sz1) + (2 : Int32)) + sz2) = C2_219
        case pos =>
          obtain ⟨cq225, kq225, q225a, q225b, q225c⟩ := isOf hZ rfl (((Exa.ext E162 ((A101.keep q102_0).keep q161_0)).keep q214_0).keep q219_0)
          obtain ⟨_, _, ⟨T225, L225, k225, n225⟩, -, X225, ⟨Lc225, hQ225, l225, y225, z225⟩, st225⟩ := X219.virtualBack hx (y := mth29) (z := mth29) hown (mvT hZ tw131) (mvT hZ tw132) (notFace_of_selects (args := #[]) (mvT hZ tw134)) (mvT hZ tw134) (mvT hZ tw133) (by decide) (backOf (W := 0) (tosc l Z a0 hw [] b101 va2_219 kv2_219 C2_219 (((([] : List Value) ++ own_rep lo n1) ++ [(.int (46 : Int32)), (.int (46 : Int32))]) ++ own_rep hi n2) ((((0 : Int32) + sz1) + (2 : Int32)) + sz2) cs T219.heap n0 (Nat.le_trans Z0 (Nat.le_trans (Nat.le_trans (Nat.le_trans (Nat.le_trans (Nat.le_trans E101.1 q102_0.1) q161_0.1) E162.1) q214_0.1) q219_0.1)) (((Exa.ext E162 ((A101.keep q102_0).keep q161_0)).keep q214_0).keep q219_0) q219_2 q219_3 q219_4 q219_5 q219_6 (own_stakeep (own_stakeep (Sta.ext E162 (own_stakeep (own_stakeep (Sta.ext E101 SC) q102_0 (nsS A101.nostat ns0)) q161_0 (nsS (A101.keep q102_0).nostat (nsS q102_2.nostat ns0)))) q214_0 (nsS (Exa.ext E162 ((A101.keep q102_0).keep q161_0)).nostat (nsS (Exa.ext E162 (q102_2.keep q161_0)).nostat ns0))) q219_0 (nsS ((Exa.ext E162 ((A101.keep q102_0).keep q161_0)).keep q214_0).nostat ns0)) (PC : ¬ (cs = (0 : Int32))) (own_idx2 (own_idx2 (own_idx2 rfl HZ1) rfl) HZ2) (by exact own_allB (lo := lo) (n1 := n1) (hi := hi) (n2 := n2)) ((by have u0:=PC; have u1:=BA1; have u2:=BB1; have u3:=BA2; have u4:=BB2; have u5:=hc104; have u6:=hc166; have u7:=hc218; have u8:=q219_7; have u9:=q219_8; have u10:=q219_9; have u11:=hc224; have u12:=rng32 cs; have u13:=rng32 sz1; have u14:=rng32 sz2; have u15:=rng32 ((0 : Int32) + sz1); have u16:=c_iadd (0 : Int32) sz1; have u17:=rng32 (((0 : Int32) + sz1) + (2 : Int32)); have u18:=c_iadd ((0 : Int32) + sz1) (2 : Int32); have u19:=rng32 ((((0 : Int32) + sz1) + (2 : Int32)) + sz2); have u20:=c_iadd (((0 : Int32) + sz1) + (2 : Int32)) sz2; have u21:=rng32 C2_219; have u22:=rng32 ((16 : Int32) + ((16 : Int32) + (2 : Int32))); have u23:=c_iadd (16 : Int32) ((16 : Int32) + (2 : Int32)); have u24:=rng32 ((16 : Int32) + (2 : Int32)); have u25:=c_iadd (16 : Int32) (2 : Int32); (try simp only [Int32.lt_iff_toInt_lt, Int64.lt_iff_toInt_lt, ne_eq, ← Int32.toInt_inj, ← Int64.toInt_inj, Int32.reduceToInt, Int64.reduceToInt, Nat.reducePow] at u0 u1 u2 u3 u4 u5 u6 u7 u8 u9 u10 u11 u12 u13 u14 u15 u16 u17 u18 u19 u20 u21 u22 u23 u24 u25 ⊢); try omega) : ¬ (((((0 : Int32) + sz1) + (2 : Int32)) + sz2) < (0 : Int32))) ((by have u0:=PC; have u1:=BA1; have u2:=BB1; have u3:=BA2; have u4:=BB2; have u5:=hc104; have u6:=hc166; have u7:=hc218; have u8:=q219_7; have u9:=q219_8; have u10:=q219_9; have u11:=hc224; have u12:=rng32 cs; have u13:=rng32 sz1; have u14:=rng32 sz2; have u15:=rng32 ((0 : Int32) + sz1); have u16:=c_iadd (0 : Int32) sz1; have u17:=rng32 (((0 : Int32) + sz1) + (2 : Int32)); have u18:=c_iadd ((0 : Int32) + sz1) (2 : Int32); have u19:=rng32 ((((0 : Int32) + sz1) + (2 : Int32)) + sz2); have u20:=c_iadd (((0 : Int32) + sz1) + (2 : Int32)) sz2; have u21:=rng32 C2_219; have u22:=rng32 ((16 : Int32) + ((16 : Int32) + (2 : Int32))); have u23:=c_iadd (16 : Int32) ((16 : Int32) + (2 : Int32)); have u24:=rng32 ((16 : Int32) + (2 : Int32)); have u25:=c_iadd (16 : Int32) (2 : Int32); (try simp only [Int32.lt_iff_toInt_lt, Int64.lt_iff_toInt_lt, ne_eq, ← Int32.toInt_inj, ← Int64.toInt_inj, Int32.reduceToInt, Int64.reduceToInt, Nat.reducePow] at u0 u1 u2 u3 u4 u5 u6 u7 u8 u9 u10 u11 u12 u13 u14 u15 u16 u17 u18 u19 u20 u21 u22 u23 u24 u25 ⊢); try omega) : ¬ ((70 : Int32) < ((((0 : Int32) + sz1) + (2 : Int32)) + sz2))) (hc224 : ((((0 : Int32) + sz1) + (2 : Int32)) + sz2) = C2_219)) hZ tw135 tw32 (by decide) (by decide)) q225a q225c (g := (mkF m 26 #[.val (.ref a1)] [(.ref b101)])) rfl (by rw [hml]; rfl) (Steps.refl _) (argsL := []) (rest := []) (lenOf pd_Ljava_lang_String rfl) rfl (Nat.le_of_eq rfl) (hb hby dk354) (fun _ _ => ⟨rfl, rfl, (by decide : 5 + 2 ≤ _), (by decide : 102 + 74 ≤ _)⟩)
          dsimp only [Pt.U, Pt.locs, Pt.cells, Pt.slots] at X225 l225 y225 z225 st225 hQ225
          subst y225 z225
          obtain ⟨s1_225, x_225, kx_225, rfl, Nq225, q225_0, q225_1, q225_2, q225_3, q225_4, q225_5, q225_6⟩ := hQ225
          have N225 : Fr n0 L225 := by rw [l225]; exact Fr.app N219 Nq225
          refine Goes.step (S' := T225.setTop (mkF m 29 #[.val (.ref a1)] [(.ref s1_225)])) (fun t k => st225.trans k) ?_
          have CR228 := CR162.trans (CHr.keep q214_0 (sfS (Safe.exa hZ.alike (Exa.ext E162 ((A101.keep q102_0).keep q161_0)) (by decide) (by decide)) (sfS Q162_va_102 sf0)) CR162.1)
          have Q228_va_102 := Safe.keep q214_0 (sfS (Safe.exa hZ.alike (Exa.ext E162 ((A101.keep q102_0).keep q161_0)) (by decide) (by decide)) (sfS Q162_va_102 sf0)) CR162.1 Q162_va_102
          have CR229 := CR228.trans (CHr.keep q219_0 (sfS (Safe.exa hZ.alike ((Exa.ext E162 ((A101.keep q102_0).keep q161_0)).keep q214_0) (by decide) (by decide)) sf0) CR228.1)
          have Q229_va_102 := Safe.keep q219_0 (sfS (Safe.exa hZ.alike ((Exa.ext E162 ((A101.keep q102_0).keep q161_0)).keep q214_0) (by decide) (by decide)) sf0) CR228.1 Q228_va_102
          have Q229_va2_219 := Safe.keep q219_0 (sfS (Safe.exa hZ.alike ((Exa.ext E162 ((A101.keep q102_0).keep q161_0)).keep q214_0) (by decide) (by decide)) sf0) CR228.1 (Safe.new q219_1)
          have CR230 := CR229.trans (CHr.keep q225_0 sf0 CR229.1)
          have Q230_va_102 := Safe.keep q225_0 sf0 CR229.1 Q229_va_102
          have Q230_va2_219 := Safe.keep q225_0 sf0 CR229.1 Q229_va2_219
          have Q230_s1_225 := Safe.keep q225_0 sf0 CR229.1 (Safe.new q225_1)
          refine Goes.leaveH (g := (mkF m 29 #[.val (.ref a1)] [(.ref s1_225)])) (own_ew hw) hZ hh CR230 X225 hS162 (Nat.le_trans hk162 (Nat.le_trans (Nat.le_trans q214_0.1 q219_0.1) q225_0.1)) Bd.notSynchronized (v := (some (.ref s1_225))) (fun h => by rw [Bd.returns] at h; cases h) (fun fs hr => by jvm_step X225.here [X225.here.top, hx, (hb hby dk355), X225.method', Bd.returns, Value.isRef, FieldType.isReference]; (first | (intro acts; rw [hr _ acts rfl rfl rfl]) | rw [hr _ _ rfl rfl rfl]); exact Steps.refl _) rfl ?_ (by decide) (by decide)
          exact ⟨s1_225, x_225, kx_225, ((((0 : Int32) + sz1) + (2 : Int32)) + sz2), rfl, N225, ((((((((Keep.refl _ []).ext E101).trans q102_0 (allS (Or.inr (Nat.le_of_eq g101.symm)) all0)).trans q161_0 (allS (Or.inr (Nat.le_of_eq g101.symm)) (allS (Or.inr (Nat.le_trans E101.1 q102_1)) all0))).ext E162).trans q214_0 (allS (Or.inr (Nat.le_of_eq g101.symm)) (allS (Or.inr (Nat.le_trans E101.1 q102_1)) all0))).trans q219_0 (allS (Or.inr (Nat.le_of_eq g101.symm)) all0)).trans q225_0 all0), q225_2, q225_3, q225_4, q225_6, (own_idx2 (own_idx2 (own_idx2 rfl HZ1) rfl) HZ2)⟩
        case neg =>
          obtain ⟨cq231, kq231, q231a, q231b, q231c⟩ := isOf hZ rfl (((Exa.ext E162 ((A101.keep q102_0).keep q161_0)).keep q214_0).keep q219_0)
          obtain ⟨_, _, ⟨T231, L231, k231, n231⟩, -, X231, ⟨Lc231, hQ231, l231, y231, z231⟩, st231⟩ := X219.virtualBack hx (y := mth29) (z := mth29) hown (mvT hZ tw131) (mvT hZ tw132) (notFace_of_selects (args := #[]) (mvT hZ tw134)) (mvT hZ tw134) (mvT hZ tw133) (by decide) (backOf (W := 0) (tosr l Z a0 hw [] b101 va2_219 kv2_219 C2_219 (((([] : List Value) ++ own_rep lo n1) ++ [(.int (46 : Int32)), (.int (46 : Int32))]) ++ own_rep hi n2) ((((0 : Int32) + sz1) + (2 : Int32)) + sz2) cs T219.heap n0 (Nat.le_trans Z0 (Nat.le_trans (Nat.le_trans (Nat.le_trans (Nat.le_trans (Nat.le_trans E101.1 q102_0.1) q161_0.1) E162.1) q214_0.1) q219_0.1)) (((Exa.ext E162 ((A101.keep q102_0).keep q161_0)).keep q214_0).keep q219_0) q219_2 q219_3 q219_4 q219_5 q219_6 (own_stakeep (own_stakeep (Sta.ext E162 (own_stakeep (own_stakeep (Sta.ext E101 SC) q102_0 (nsS A101.nostat ns0)) q161_0 (nsS (A101.keep q102_0).nostat (nsS q102_2.nostat ns0)))) q214_0 (nsS (Exa.ext E162 ((A101.keep q102_0).keep q161_0)).nostat (nsS (Exa.ext E162 (q102_2.keep q161_0)).nostat ns0))) q219_0 (nsS ((Exa.ext E162 ((A101.keep q102_0).keep q161_0)).keep q214_0).nostat ns0)) (PC : ¬ (cs = (0 : Int32))) (own_idx2 (own_idx2 (own_idx2 rfl HZ1) rfl) HZ2) (by exact own_allB (lo := lo) (n1 := n1) (hi := hi) (n2 := n2)) ((by have u0:=PC; have u1:=BA1; have u2:=BB1; have u3:=BA2; have u4:=BB2; have u5:=hc104; have u6:=hc166; have u7:=hc218; have u8:=q219_7; have u9:=q219_8; have u10:=q219_9; have u11:=hc224; have u12:=rng32 cs; have u13:=rng32 sz1; have u14:=rng32 sz2; have u15:=rng32 ((0 : Int32) + sz1); have u16:=c_iadd (0 : Int32) sz1; have u17:=rng32 (((0 : Int32) + sz1) + (2 : Int32)); have u18:=c_iadd ((0 : Int32) + sz1) (2 : Int32); have u19:=rng32 ((((0 : Int32) + sz1) + (2 : Int32)) + sz2); have u20:=c_iadd (((0 : Int32) + sz1) + (2 : Int32)) sz2; have u21:=rng32 C2_219; have u22:=rng32 ((16 : Int32) + ((16 : Int32) + (2 : Int32))); have u23:=c_iadd (16 : Int32) ((16 : Int32) + (2 : Int32)); have u24:=rng32 ((16 : Int32) + (2 : Int32)); have u25:=c_iadd (16 : Int32) (2 : Int32); (try simp only [Int32.lt_iff_toInt_lt, Int64.lt_iff_toInt_lt, ne_eq, ← Int32.toInt_inj, ← Int64.toInt_inj, Int32.reduceToInt, Int64.reduceToInt, Nat.reducePow] at u0 u1 u2 u3 u4 u5 u6 u7 u8 u9 u10 u11 u12 u13 u14 u15 u16 u17 u18 u19 u20 u21 u22 u23 u24 u25 ⊢); try omega) : ¬ (((((0 : Int32) + sz1) + (2 : Int32)) + sz2) < (0 : Int32))) ((by have u0:=PC; have u1:=BA1; have u2:=BB1; have u3:=BA2; have u4:=BB2; have u5:=hc104; have u6:=hc166; have u7:=hc218; have u8:=q219_7; have u9:=q219_8; have u10:=q219_9; have u11:=hc224; have u12:=rng32 cs; have u13:=rng32 sz1; have u14:=rng32 sz2; have u15:=rng32 ((0 : Int32) + sz1); have u16:=c_iadd (0 : Int32) sz1; have u17:=rng32 (((0 : Int32) + sz1) + (2 : Int32)); have u18:=c_iadd ((0 : Int32) + sz1) (2 : Int32); have u19:=rng32 ((((0 : Int32) + sz1) + (2 : Int32)) + sz2); have u20:=c_iadd (((0 : Int32) + sz1) + (2 : Int32)) sz2; have u21:=rng32 C2_219; have u22:=rng32 ((16 : Int32) + ((16 : Int32) + (2 : Int32))); have u23:=c_iadd (16 : Int32) ((16 : Int32) + (2 : Int32)); have u24:=rng32 ((16 : Int32) + (2 : Int32)); have u25:=c_iadd (16 : Int32) (2 : Int32); (try simp only [Int32.lt_iff_toInt_lt, Int64.lt_iff_toInt_lt, ne_eq, ← Int32.toInt_inj, ← Int64.toInt_inj, Int32.reduceToInt, Int64.reduceToInt, Nat.reducePow] at u0 u1 u2 u3 u4 u5 u6 u7 u8 u9 u10 u11 u12 u13 u14 u15 u16 u17 u18 u19 u20 u21 u22 u23 u24 u25 ⊢); try omega) : ¬ ((70 : Int32) < ((((0 : Int32) + sz1) + (2 : Int32)) + sz2))) ((by have u0:=PC; have u1:=BA1; have u2:=BB1; have u3:=BA2; have u4:=BB2; have u5:=hc104; have u6:=hc166; have u7:=hc218; have u8:=q219_7; have u9:=q219_8; have u10:=q219_9; have u11:=hc224; have u12:=rng32 cs; have u13:=rng32 sz1; have u14:=rng32 sz2; have u15:=rng32 ((0 : Int32) + sz1); have u16:=c_iadd (0 : Int32) sz1; have u17:=rng32 (((0 : Int32) + sz1) + (2 : Int32)); have u18:=c_iadd ((0 : Int32) + sz1) (2 : Int32); have u19:=rng32 ((((0 : Int32) + sz1) + (2 : Int32)) + sz2); have u20:=c_iadd (((0 : Int32) + sz1) + (2 : Int32)) sz2; have u21:=rng32 C2_219; have u22:=rng32 ((16 : Int32) + ((16 : Int32) + (2 : Int32))); have u23:=c_iadd (16 : Int32) ((16 : Int32) + (2 : Int32)); have u24:=rng32 ((16 : Int32) + (2 : Int32)); have u25:=c_iadd (16 : Int32) (2 : Int32); (try simp only [Int32.lt_iff_toInt_lt, Int64.lt_iff_toInt_lt, ne_eq, ← Int32.toInt_inj, ← Int64.toInt_inj, Int32.reduceToInt, Int64.reduceToInt, Nat.reducePow] at u0 u1 u2 u3 u4 u5 u6 u7 u8 u9 u10 u11 u12 u13 u14 u15 u16 u17 u18 u19 u20 u21 u22 u23 u24 u25 ⊢); try omega) : ((((0 : Int32) + sz1) + (2 : Int32)) + sz2) < C2_219)) hZ tw135 tw32 (by decide) (by decide)) q231a q231c (g := (mkF m 26 #[.val (.ref a1)] [(.ref b101)])) rfl (by rw [hml]; rfl) (Steps.refl _) (argsL := []) (rest := []) (lenOf pd_Ljava_lang_String rfl) rfl (Nat.le_of_eq rfl) (hb hby dk354) (fun _ _ => ⟨rfl, rfl, (by decide : 5 + 2 ≤ _), (by decide : 102 + 74 ≤ _)⟩)
          dsimp only [Pt.U, Pt.locs, Pt.cells, Pt.slots] at X231 l231 y231 z231 st231 hQ231
          subst y231 z231
          obtain ⟨s1_231, x_231, kx_231, rfl, Nq231, q231_0, q231_1, q231_2, q231_3, q231_4, q231_5, q231_6⟩ := hQ231
          have N231 : Fr n0 L231 := by rw [l231]; exact Fr.app N219 Nq231
          refine Goes.step (S' := T231.setTop (mkF m 29 #[.val (.ref a1)] [(.ref s1_231)])) (fun t k => st231.trans k) ?_
          have CR235 := CR162.trans (CHr.keep q214_0 (sfS (Safe.exa hZ.alike (Exa.ext E162 ((A101.keep q102_0).keep q161_0)) (by decide) (by decide)) (sfS Q162_va_102 sf0)) CR162.1)
          have Q235_va_102 := Safe.keep q214_0 (sfS (Safe.exa hZ.alike (Exa.ext E162 ((A101.keep q102_0).keep q161_0)) (by decide) (by decide)) (sfS Q162_va_102 sf0)) CR162.1 Q162_va_102
          have CR236 := CR235.trans (CHr.keep q219_0 (sfS (Safe.exa hZ.alike ((Exa.ext E162 ((A101.keep q102_0).keep q161_0)).keep q214_0) (by decide) (by decide)) sf0) CR235.1)
          have Q236_va_102 := Safe.keep q219_0 (sfS (Safe.exa hZ.alike ((Exa.ext E162 ((A101.keep q102_0).keep q161_0)).keep q214_0) (by decide) (by decide)) sf0) CR235.1 Q235_va_102
          have Q236_va2_219 := Safe.keep q219_0 (sfS (Safe.exa hZ.alike ((Exa.ext E162 ((A101.keep q102_0).keep q161_0)).keep q214_0) (by decide) (by decide)) sf0) CR235.1 (Safe.new q219_1)
          have CR237 := CR236.trans (CHr.keep q231_0 sf0 CR236.1)
          have Q237_va_102 := Safe.keep q231_0 sf0 CR236.1 Q236_va_102
          have Q237_va2_219 := Safe.keep q231_0 sf0 CR236.1 Q236_va2_219
          have Q237_s1_231 := Safe.keep q231_0 sf0 CR236.1 (Safe.new q231_1)
          refine Goes.leaveH (g := (mkF m 29 #[.val (.ref a1)] [(.ref s1_231)])) (own_ew hw) hZ hh CR237 X231 hS162 (Nat.le_trans hk162 (Nat.le_trans (Nat.le_trans q214_0.1 q219_0.1) q231_0.1)) Bd.notSynchronized (v := (some (.ref s1_231))) (fun h => by rw [Bd.returns] at h; cases h) (fun fs hr => by jvm_step X231.here [X231.here.top, hx, (hb hby dk355), X231.method', Bd.returns, Value.isRef, FieldType.isReference]; (first | (intro acts; rw [hr _ acts rfl rfl rfl]) | rw [hr _ _ rfl rfl rfl]); exact Steps.refl _) rfl ?_ (by decide) (by decide)
          exact ⟨s1_231, x_231, kx_231, ((((0 : Int32) + sz1) + (2 : Int32)) + sz2), rfl, N231, ((((((((Keep.refl _ []).ext E101).trans q102_0 (allS (Or.inr (Nat.le_of_eq g101.symm)) all0)).trans q161_0 (allS (Or.inr (Nat.le_of_eq g101.symm)) (allS (Or.inr (Nat.le_trans E101.1 q102_1)) all0))).ext E162).trans q214_0 (allS (Or.inr (Nat.le_of_eq g101.symm)) (allS (Or.inr (Nat.le_trans E101.1 q102_1)) all0))).trans q219_0 (allS (Or.inr (Nat.le_of_eq g101.symm)) all0)).trans q231_0 all0), q231_2, q231_3, q231_4, q231_6, (own_idx2 (own_idx2 (own_idx2 rfl HZ1) rfl) HZ2)⟩
      case neg =>
        obtain ⟨cq238, kq238, q238a, q238b, q238c⟩ := isOf hZ e217 ((Exa.ext E162 ((A101.keep q102_0).keep q161_0)).keep q214_0)
        obtain ⟨_, _, ⟨T238, L238, k238, n238⟩, -, X238, ⟨Lc238, hQ238, l238, y238, z238⟩, st238⟩ := X217.virtualBack hx (y := mth12) (z := mth12) hown (mvT hZ tw50) (mvT hZ tw51) (notFace_of_selects (args := #[]) (mvT hZ tw53)) (mvT hZ tw53) (mvT hZ tw52) (by decide) (backOf (W := 0) (sjs l Z a0 hw [] b101 va_102 kv_102 (16 : Int32) ((([] : List Value) ++ own_rep lo n1) ++ [(.int (46 : Int32)), (.int (46 : Int32))]) (((0 : Int32) + sz1) + (2 : Int32)) cs hi n2 sz2 d1 d2 kd1 kd2 T214.heap n0 (Nat.le_trans Z0 (Nat.le_trans (Nat.le_trans (Nat.le_trans (Nat.le_trans E101.1 q102_0.1) q161_0.1) E162.1) q214_0.1)) ((Exa.ext E162 ((A101.keep q102_0).keep q161_0)).keep q214_0) (Nat.le_trans Z0 (Nat.le_of_eq g101.symm)) ((Exa.ext E162 (q102_2.keep q161_0)).keep q214_0) (Nat.le_trans Z0 (Nat.le_trans E101.1 q102_1)) q214_1 q214_2 q214_3 q214_4 (own_stakeep (Sta.ext E162 (own_stakeep (own_stakeep (Sta.ext E101 SC) q102_0 (nsS A101.nostat ns0)) q161_0 (nsS (A101.keep q102_0).nostat (nsS q102_2.nostat ns0)))) q214_0 (nsS (Exa.ext E162 ((A101.keep q102_0).keep q161_0)).nostat (nsS (Exa.ext E162 (q102_2.keep q161_0)).nostat ns0))) (PC : ¬ (cs = (0 : Int32))) (own_idx2 (own_idx2 rfl HZ1) rfl) (own_b2 _ _ _ _) ((by have u0:=PC; have u1:=BA1; have u2:=BB1; have u3:=BA2; have u4:=BB2; have u5:=hc104; have u6:=hc166; have u7:=hc218; have u8:=rng32 cs; have u9:=rng32 sz1; have u10:=rng32 sz2; have u11:=rng32 ((0 : Int32) + sz1); have u12:=c_iadd (0 : Int32) sz1; have u13:=rng32 (((0 : Int32) + sz1) + (2 : Int32)); have u14:=c_iadd ((0 : Int32) + sz1) (2 : Int32); have u15:=rng32 ((((0 : Int32) + sz1) + (2 : Int32)) + sz2); have u16:=c_iadd (((0 : Int32) + sz1) + (2 : Int32)) sz2; (try simp only [Int32.lt_iff_toInt_lt, Int64.lt_iff_toInt_lt, ne_eq, ← Int32.toInt_inj, ← Int64.toInt_inj, Int32.reduceToInt, Int64.reduceToInt, Nat.reducePow] at u0 u1 u2 u3 u4 u5 u6 u7 u8 u9 u10 u11 u12 u13 u14 u15 u16 ⊢); try omega) : ¬ ((((0 : Int32) + sz1) + (2 : Int32)) < (0 : Int32))) ((by have u0:=PC; have u1:=BA1; have u2:=BB1; have u3:=BA2; have u4:=BB2; have u5:=hc104; have u6:=hc166; have u7:=hc218; have u8:=rng32 cs; have u9:=rng32 sz1; have u10:=rng32 sz2; have u11:=rng32 ((0 : Int32) + sz1); have u12:=c_iadd (0 : Int32) sz1; have u13:=rng32 (((0 : Int32) + sz1) + (2 : Int32)); have u14:=c_iadd ((0 : Int32) + sz1) (2 : Int32); have u15:=rng32 ((((0 : Int32) + sz1) + (2 : Int32)) + sz2); have u16:=c_iadd (((0 : Int32) + sz1) + (2 : Int32)) sz2; (try simp only [Int32.lt_iff_toInt_lt, Int64.lt_iff_toInt_lt, ne_eq, ← Int32.toInt_inj, ← Int64.toInt_inj, Int32.reduceToInt, Int64.reduceToInt, Nat.reducePow] at u0 u1 u2 u3 u4 u5 u6 u7 u8 u9 u10 u11 u12 u13 u14 u15 u16 ⊢); try omega) : ¬ ((40 : Int32) < (((0 : Int32) + sz1) + (2 : Int32)))) ((by decide) : ¬ ((16 : Int32) < (0 : Int32))) ((by decide) : ¬ ((70 : Int32) < (16 : Int32))) HA2 HZ2 (BA2 : (0 : Int32) < sz2) (BB2 : ¬ ((21 : Int32) < sz2)) (own_stakeep (Sta.ext E162 (own_stakeep (own_stakeep (Sta.ext E101 S1) q102_0 (nsS A101.nostat ns0)) q161_0 (nsS (A101.keep q102_0).nostat (nsS q102_2.nostat ns0)))) q214_0 (nsS (Exa.ext E162 ((A101.keep q102_0).keep q161_0)).nostat (nsS (Exa.ext E162 (q102_2.keep q161_0)).nostat ns0))) (((((W1.ext E101).keep q102_0 (ninS (Nat.ne_of_lt (Nat.lt_of_lt_of_le W1.lt (Nat.le_of_eq g101.symm))) nin0)).keep q161_0 (ninS (Nat.ne_of_lt (Nat.lt_of_lt_of_le W1.lt (Nat.le_of_eq g101.symm))) (ninS (Nat.ne_of_lt (Nat.lt_of_lt_of_le W1.lt (Nat.le_trans E101.1 q102_1))) nin0))).ext E162).keep q214_0 (ninS (Nat.ne_of_lt (Nat.lt_of_lt_of_le W1.lt (Nat.le_of_eq g101.symm))) (ninS (Nat.ne_of_lt (Nat.lt_of_lt_of_le W1.lt (Nat.le_trans E101.1 q102_1))) nin0))) (own_stakeep (Sta.ext E162 (own_stakeep (own_stakeep (Sta.ext E101 S2) q102_0 (nsS A101.nostat ns0)) q161_0 (nsS (A101.keep q102_0).nostat (nsS q102_2.nostat ns0)))) q214_0 (nsS (Exa.ext E162 ((A101.keep q102_0).keep q161_0)).nostat (nsS (Exa.ext E162 (q102_2.keep q161_0)).nostat ns0))) (((((W2.ext E101).keep q102_0 (ninS (Nat.ne_of_lt (Nat.lt_of_lt_of_le W2.lt (Nat.le_of_eq g101.symm))) nin0)).keep q161_0 (ninS (Nat.ne_of_lt (Nat.lt_of_lt_of_le W2.lt (Nat.le_of_eq g101.symm))) (ninS (Nat.ne_of_lt (Nat.lt_of_lt_of_le W2.lt (Nat.le_trans E101.1 q102_1))) nin0))).ext E162).keep q214_0 (ninS (Nat.ne_of_lt (Nat.lt_of_lt_of_le W2.lt (Nat.le_of_eq g101.symm))) (ninS (Nat.ne_of_lt (Nat.lt_of_lt_of_le W2.lt (Nat.le_trans E101.1 q102_1))) nin0))) HS (Ne.symm (Nat.ne_of_lt (Nat.lt_of_lt_of_le W1.lt (Nat.le_trans E101.1 q102_1)))) (Ne.symm (Nat.ne_of_lt (Nat.lt_of_lt_of_le W2.lt (Nat.le_trans E101.1 q102_1)))) (hc218 : ¬ ((16 : Int32) < ((((0 : Int32) + sz1) + (2 : Int32)) + sz2)))) hZ tw54 tw32 (by decide) (by decide)) q238a q238c (g := (mkF m 23 #[.val (.ref a1)] [(.long hi), (.ref b101)])) rfl (by rw [hml]; rfl) (Steps.refl _) (argsL := [(.long hi)]) (rest := []) (lenOf pd_J_Ljava_lang_StringBuilder rfl) rfl (Nat.le_of_eq rfl) (hb hby dk353) (fun _ _ => ⟨rfl, e217, (by decide : 4 + 0 ≤ _), (by decide : 32 + 0 ≤ _)⟩)
        dsimp only [Pt.U, Pt.locs, Pt.cells, Pt.slots] at X238 l238 y238 z238 st238 hQ238
        subst y238 z238
        obtain ⟨rfl, Nq238, q238_0, q238_1, q238_2, q238_3, q238_4⟩ := hQ238
        have N238 : Fr n0 L238 := by rw [l238]; exact Fr.app N214 Nq238
        refine Goes.step (S' := T238.setTop (mkF m 26 #[.val (.ref a1)] [(.ref b101)])) (fun t k => st238.trans k) ?_
        by_cases hc241 : ((((0 : Int32) + sz1) + (2 : Int32)) + sz2) = (16 : Int32)
        case pos =>
          obtain ⟨cq242, kq242, q242a, q242b, q242c⟩ := isOf hZ rfl (((Exa.ext E162 ((A101.keep q102_0).keep q161_0)).keep q214_0).keep q238_0)
          obtain ⟨_, _, ⟨T242, L242, k242, n242⟩, -, X242, ⟨Lc242, hQ242, l242, y242, z242⟩, st242⟩ := X238.virtualBack hx (y := mth29) (z := mth29) hown (mvT hZ tw131) (mvT hZ tw132) (notFace_of_selects (args := #[]) (mvT hZ tw134)) (mvT hZ tw134) (mvT hZ tw133) (by decide) (backOf (W := 0) (tosc l Z a0 hw [] b101 va_102 kv_102 (16 : Int32) (((([] : List Value) ++ own_rep lo n1) ++ [(.int (46 : Int32)), (.int (46 : Int32))]) ++ own_rep hi n2) ((((0 : Int32) + sz1) + (2 : Int32)) + sz2) cs T238.heap n0 (Nat.le_trans Z0 (Nat.le_trans (Nat.le_trans (Nat.le_trans (Nat.le_trans (Nat.le_trans E101.1 q102_0.1) q161_0.1) E162.1) q214_0.1) q238_0.1)) (((Exa.ext E162 ((A101.keep q102_0).keep q161_0)).keep q214_0).keep q238_0) (((Exa.ext E162 (q102_2.keep q161_0)).keep q214_0).keep q238_0) q238_1 q238_2 q238_3 q238_4 (own_stakeep (own_stakeep (Sta.ext E162 (own_stakeep (own_stakeep (Sta.ext E101 SC) q102_0 (nsS A101.nostat ns0)) q161_0 (nsS (A101.keep q102_0).nostat (nsS q102_2.nostat ns0)))) q214_0 (nsS (Exa.ext E162 ((A101.keep q102_0).keep q161_0)).nostat (nsS (Exa.ext E162 (q102_2.keep q161_0)).nostat ns0))) q238_0 (nsS ((Exa.ext E162 ((A101.keep q102_0).keep q161_0)).keep q214_0).nostat (nsS ((Exa.ext E162 (q102_2.keep q161_0)).keep q214_0).nostat ns0))) (PC : ¬ (cs = (0 : Int32))) (own_idx2 (own_idx2 (own_idx2 rfl HZ1) rfl) HZ2) (by exact own_allB (lo := lo) (n1 := n1) (hi := hi) (n2 := n2)) ((by rw [hc241]; decide) : ¬ (((((0 : Int32) + sz1) + (2 : Int32)) + sz2) < (0 : Int32))) ((by rw [hc241]; decide) : ¬ ((70 : Int32) < ((((0 : Int32) + sz1) + (2 : Int32)) + sz2))) (hc241 : ((((0 : Int32) + sz1) + (2 : Int32)) + sz2) = (16 : Int32))) hZ tw135 tw32 (by decide) (by decide)) q242a q242c (g := (mkF m 26 #[.val (.ref a1)] [(.ref b101)])) rfl (by rw [hml]; rfl) (Steps.refl _) (argsL := []) (rest := []) (lenOf pd_Ljava_lang_String rfl) rfl (Nat.le_of_eq rfl) (hb hby dk354) (fun _ _ => ⟨rfl, rfl, (by decide : 4 + 2 ≤ _), (by decide : 32 + 74 ≤ _)⟩)
          dsimp only [Pt.U, Pt.locs, Pt.cells, Pt.slots] at X242 l242 y242 z242 st242 hQ242
          subst y242 z242
          obtain ⟨s1_242, x_242, kx_242, rfl, Nq242, q242_0, q242_1, q242_2, q242_3, q242_4, q242_5, q242_6⟩ := hQ242
          have N242 : Fr n0 L242 := by rw [l242]; exact Fr.app N238 Nq242
          refine Goes.step (S' := T242.setTop (mkF m 29 #[.val (.ref a1)] [(.ref s1_242)])) (fun t k => st242.trans k) ?_
          have CR243 := CR162.trans (CHr.keep q214_0 (sfS (Safe.exa hZ.alike (Exa.ext E162 ((A101.keep q102_0).keep q161_0)) (by decide) (by decide)) (sfS Q162_va_102 sf0)) CR162.1)
          have Q243_va_102 := Safe.keep q214_0 (sfS (Safe.exa hZ.alike (Exa.ext E162 ((A101.keep q102_0).keep q161_0)) (by decide) (by decide)) (sfS Q162_va_102 sf0)) CR162.1 Q162_va_102
          have CR244 := CR243.trans (CHr.keep q238_0 (sfS (Safe.exa hZ.alike ((Exa.ext E162 ((A101.keep q102_0).keep q161_0)).keep q214_0) (by decide) (by decide)) (sfS Q243_va_102 sf0)) CR243.1)
          have Q244_va_102 := Safe.keep q238_0 (sfS (Safe.exa hZ.alike ((Exa.ext E162 ((A101.keep q102_0).keep q161_0)).keep q214_0) (by decide) (by decide)) (sfS Q243_va_102 sf0)) CR243.1 Q243_va_102
          have CR245 := CR244.trans (CHr.keep q242_0 sf0 CR244.1)
          have Q245_va_102 := Safe.keep q242_0 sf0 CR244.1 Q244_va_102
          have Q245_s1_242 := Safe.keep q242_0 sf0 CR244.1 (Safe.new q242_1)
          refine Goes.leaveH (g := (mkF m 29 #[.val (.ref a1)] [(.ref s1_242)])) (own_ew hw) hZ hh CR245 X242 hS162 (Nat.le_trans hk162 (Nat.le_trans (Nat.le_trans q214_0.1 q238_0.1) q242_0.1)) Bd.notSynchronized (v := (some (.ref s1_242))) (fun h => by rw [Bd.returns] at h; cases h) (fun fs hr => by jvm_step X242.here [X242.here.top, hx, (hb hby dk355), X242.method', Bd.returns, Value.isRef, FieldType.isReference]; (first | (intro acts; rw [hr _ acts rfl rfl rfl]) | rw [hr _ _ rfl rfl rfl]); exact Steps.refl _) rfl ?_ (by decide) (by decide)
          exact ⟨s1_242, x_242, kx_242, ((((0 : Int32) + sz1) + (2 : Int32)) + sz2), rfl, N242, ((((((((Keep.refl _ []).ext E101).trans q102_0 (allS (Or.inr (Nat.le_of_eq g101.symm)) all0)).trans q161_0 (allS (Or.inr (Nat.le_of_eq g101.symm)) (allS (Or.inr (Nat.le_trans E101.1 q102_1)) all0))).ext E162).trans q214_0 (allS (Or.inr (Nat.le_of_eq g101.symm)) (allS (Or.inr (Nat.le_trans E101.1 q102_1)) all0))).trans q238_0 (allS (Or.inr (Nat.le_of_eq g101.symm)) (allS (Or.inr (Nat.le_trans E101.1 q102_1)) all0))).trans q242_0 all0), q242_2, q242_3, q242_4, q242_6, (own_idx2 (own_idx2 (own_idx2 rfl HZ1) rfl) HZ2)⟩
        case neg =>
          obtain ⟨cq246, kq246, q246a, q246b, q246c⟩ := isOf hZ rfl (((Exa.ext E162 ((A101.keep q102_0).keep q161_0)).keep q214_0).keep q238_0)
          obtain ⟨_, _, ⟨T246, L246, k246, n246⟩, -, X246, ⟨Lc246, hQ246, l246, y246, z246⟩, st246⟩ := X238.virtualBack hx (y := mth29) (z := mth29) hown (mvT hZ tw131) (mvT hZ tw132) (notFace_of_selects (args := #[]) (mvT hZ tw134)) (mvT hZ tw134) (mvT hZ tw133) (by decide) (backOf (W := 0) (tosr l Z a0 hw [] b101 va_102 kv_102 (16 : Int32) (((([] : List Value) ++ own_rep lo n1) ++ [(.int (46 : Int32)), (.int (46 : Int32))]) ++ own_rep hi n2) ((((0 : Int32) + sz1) + (2 : Int32)) + sz2) cs T238.heap n0 (Nat.le_trans Z0 (Nat.le_trans (Nat.le_trans (Nat.le_trans (Nat.le_trans (Nat.le_trans E101.1 q102_0.1) q161_0.1) E162.1) q214_0.1) q238_0.1)) (((Exa.ext E162 ((A101.keep q102_0).keep q161_0)).keep q214_0).keep q238_0) (((Exa.ext E162 (q102_2.keep q161_0)).keep q214_0).keep q238_0) q238_1 q238_2 q238_3 q238_4 (own_stakeep (own_stakeep (Sta.ext E162 (own_stakeep (own_stakeep (Sta.ext E101 SC) q102_0 (nsS A101.nostat ns0)) q161_0 (nsS (A101.keep q102_0).nostat (nsS q102_2.nostat ns0)))) q214_0 (nsS (Exa.ext E162 ((A101.keep q102_0).keep q161_0)).nostat (nsS (Exa.ext E162 (q102_2.keep q161_0)).nostat ns0))) q238_0 (nsS ((Exa.ext E162 ((A101.keep q102_0).keep q161_0)).keep q214_0).nostat (nsS ((Exa.ext E162 (q102_2.keep q161_0)).keep q214_0).nostat ns0))) (PC : ¬ (cs = (0 : Int32))) (own_idx2 (own_idx2 (own_idx2 rfl HZ1) rfl) HZ2) (by exact own_allB (lo := lo) (n1 := n1) (hi := hi) (n2 := n2)) ((by have u0:=PC; have u1:=BA1; have u2:=BB1; have u3:=BA2; have u4:=BB2; have u5:=hc104; have u6:=hc166; have u7:=hc218; have u8:=hc241; have u9:=rng32 cs; have u10:=rng32 sz1; have u11:=rng32 sz2; have u12:=rng32 ((0 : Int32) + sz1); have u13:=c_iadd (0 : Int32) sz1; have u14:=rng32 (((0 : Int32) + sz1) + (2 : Int32)); have u15:=c_iadd ((0 : Int32) + sz1) (2 : Int32); have u16:=rng32 ((((0 : Int32) + sz1) + (2 : Int32)) + sz2); have u17:=c_iadd (((0 : Int32) + sz1) + (2 : Int32)) sz2; (try simp only [Int32.lt_iff_toInt_lt, Int64.lt_iff_toInt_lt, ne_eq, ← Int32.toInt_inj, ← Int64.toInt_inj, Int32.reduceToInt, Int64.reduceToInt, Nat.reducePow] at u0 u1 u2 u3 u4 u5 u6 u7 u8 u9 u10 u11 u12 u13 u14 u15 u16 u17 ⊢); try omega) : ¬ (((((0 : Int32) + sz1) + (2 : Int32)) + sz2) < (0 : Int32))) ((by have u0:=PC; have u1:=BA1; have u2:=BB1; have u3:=BA2; have u4:=BB2; have u5:=hc104; have u6:=hc166; have u7:=hc218; have u8:=hc241; have u9:=rng32 cs; have u10:=rng32 sz1; have u11:=rng32 sz2; have u12:=rng32 ((0 : Int32) + sz1); have u13:=c_iadd (0 : Int32) sz1; have u14:=rng32 (((0 : Int32) + sz1) + (2 : Int32)); have u15:=c_iadd ((0 : Int32) + sz1) (2 : Int32); have u16:=rng32 ((((0 : Int32) + sz1) + (2 : Int32)) + sz2); have u17:=c_iadd (((0 : Int32) + sz1) + (2 : Int32)) sz2; (try simp only [Int32.lt_iff_toInt_lt, Int64.lt_iff_toInt_lt, ne_eq, ← Int32.toInt_inj, ← Int64.toInt_inj, Int32.reduceToInt, Int64.reduceToInt, Nat.reducePow] at u0 u1 u2 u3 u4 u5 u6 u7 u8 u9 u10 u11 u12 u13 u14 u15 u16 u17 ⊢); try omega) : ¬ ((70 : Int32) < ((((0 : Int32) + sz1) + (2 : Int32)) + sz2))) ((by have u0:=PC; have u1:=BA1; have u2:=BB1; have u3:=BA2; have u4:=BB2; have u5:=hc104; have u6:=hc166; have u7:=hc218; have u8:=hc241; have u9:=rng32 cs; have u10:=rng32 sz1; have u11:=rng32 sz2; have u12:=rng32 ((0 : Int32) + sz1); have u13:=c_iadd (0 : Int32) sz1; have u14:=rng32 (((0 : Int32) + sz1) + (2 : Int32)); have u15:=c_iadd ((0 : Int32) + sz1) (2 : Int32); have u16:=rng32 ((((0 : Int32) + sz1) + (2 : Int32)) + sz2); have u17:=c_iadd (((0 : Int32) + sz1) + (2 : Int32)) sz2; (try simp only [Int32.lt_iff_toInt_lt, Int64.lt_iff_toInt_lt, ne_eq, ← Int32.toInt_inj, ← Int64.toInt_inj, Int32.reduceToInt, Int64.reduceToInt, Nat.reducePow] at u0 u1 u2 u3 u4 u5 u6 u7 u8 u9 u10 u11 u12 u13 u14 u15 u16 u17 ⊢); try omega) : ((((0 : Int32) + sz1) + (2 : Int32)) + sz2) < (16 : Int32))) hZ tw135 tw32 (by decide) (by decide)) q246a q246c (g := (mkF m 26 #[.val (.ref a1)] [(.ref b101)])) rfl (by rw [hml]; rfl) (Steps.refl _) (argsL := []) (rest := []) (lenOf pd_Ljava_lang_String rfl) rfl (Nat.le_of_eq rfl) (hb hby dk354) (fun _ _ => ⟨rfl, rfl, (by decide : 4 + 2 ≤ _), (by decide : 32 + 74 ≤ _)⟩)
          dsimp only [Pt.U, Pt.locs, Pt.cells, Pt.slots] at X246 l246 y246 z246 st246 hQ246
          subst y246 z246
          obtain ⟨s1_246, x_246, kx_246, rfl, Nq246, q246_0, q246_1, q246_2, q246_3, q246_4, q246_5, q246_6⟩ := hQ246
          have N246 : Fr n0 L246 := by rw [l246]; exact Fr.app N238 Nq246
          refine Goes.step (S' := T246.setTop (mkF m 29 #[.val (.ref a1)] [(.ref s1_246)])) (fun t k => st246.trans k) ?_
          have CR250 := CR162.trans (CHr.keep q214_0 (sfS (Safe.exa hZ.alike (Exa.ext E162 ((A101.keep q102_0).keep q161_0)) (by decide) (by decide)) (sfS Q162_va_102 sf0)) CR162.1)
          have Q250_va_102 := Safe.keep q214_0 (sfS (Safe.exa hZ.alike (Exa.ext E162 ((A101.keep q102_0).keep q161_0)) (by decide) (by decide)) (sfS Q162_va_102 sf0)) CR162.1 Q162_va_102
          have CR251 := CR250.trans (CHr.keep q238_0 (sfS (Safe.exa hZ.alike ((Exa.ext E162 ((A101.keep q102_0).keep q161_0)).keep q214_0) (by decide) (by decide)) (sfS Q250_va_102 sf0)) CR250.1)
          have Q251_va_102 := Safe.keep q238_0 (sfS (Safe.exa hZ.alike ((Exa.ext E162 ((A101.keep q102_0).keep q161_0)).keep q214_0) (by decide) (by decide)) (sfS Q250_va_102 sf0)) CR250.1 Q250_va_102
          have CR252 := CR251.trans (CHr.keep q246_0 sf0 CR251.1)
          have Q252_va_102 := Safe.keep q246_0 sf0 CR251.1 Q251_va_102
          have Q252_s1_246 := Safe.keep q246_0 sf0 CR251.1 (Safe.new q246_1)
          refine Goes.leaveH (g := (mkF m 29 #[.val (.ref a1)] [(.ref s1_246)])) (own_ew hw) hZ hh CR252 X246 hS162 (Nat.le_trans hk162 (Nat.le_trans (Nat.le_trans q214_0.1 q238_0.1) q246_0.1)) Bd.notSynchronized (v := (some (.ref s1_246))) (fun h => by rw [Bd.returns] at h; cases h) (fun fs hr => by jvm_step X246.here [X246.here.top, hx, (hb hby dk355), X246.method', Bd.returns, Value.isRef, FieldType.isReference]; (first | (intro acts; rw [hr _ acts rfl rfl rfl]) | rw [hr _ _ rfl rfl rfl]); exact Steps.refl _) rfl ?_ (by decide) (by decide)
          exact ⟨s1_246, x_246, kx_246, ((((0 : Int32) + sz1) + (2 : Int32)) + sz2), rfl, N246, ((((((((Keep.refl _ []).ext E101).trans q102_0 (allS (Or.inr (Nat.le_of_eq g101.symm)) all0)).trans q161_0 (allS (Or.inr (Nat.le_of_eq g101.symm)) (allS (Or.inr (Nat.le_trans E101.1 q102_1)) all0))).ext E162).trans q214_0 (allS (Or.inr (Nat.le_of_eq g101.symm)) (allS (Or.inr (Nat.le_trans E101.1 q102_1)) all0))).trans q238_0 (allS (Or.inr (Nat.le_of_eq g101.symm)) (allS (Or.inr (Nat.le_trans E101.1 q102_1)) all0))).trans q246_0 all0), q246_2, q246_3, q246_4, q246_6, (own_idx2 (own_idx2 (own_idx2 rfl HZ1) rfl) HZ2)⟩

theorem ef_pcin (m : MethodId) (x0 : Int32) (x1 : Int32) : entryFrame m #[(.int x0), (.int x1), .null] 3 = mkF m 0 #[.val (.int x0), .val (.int x1), .val .null] [] := by first | (simp [entryFrame, mkF, argsToLocals, Value.category]; done) | rfl
def Q_pcin (Z : State) (ix : Int32) (N : Int32) (h0 : Heap) (n0 : Nat) (v : Option Value) (h : Heap) (L : List Loc) : Prop := v = some (.int ix) ∧ Fr n0 L ∧ h = h0
set_option maxRecDepth 65536 in
set_option maxHeartbeats 40000000 in
theorem pcin (l : Launch) (Z : State) (a0 : Array Value) (hw : ∀ d ∈ tables_1, d.before a0 Z = true) (ws : List Jvm.Cond) (ix : Int32) (N : Int32) (h0 : Heap) (n0 : Nat) (Z0 : n0 ≤ h0.size) (J0 : ¬ (ix < (0 : Int32))) (J1 : ix < N) :
    MetFree l mth33 (head1 (Jvm.Cond.code mth33 jdk_41_method_11_code 3 (some .int) :: ws) rom2) (fun a U => a = #[(.int ix), (.int N), .null] ∧ Z.Warmed39 U.vm ∧ U.heap = h0) (fun _ _ _ _ _ => True) (fun _ U o U' => ∃ v L, o = .returned v ∧ Q_pcin Z ix N h0 n0 v U'.heap L ∧ FrameEnd U o U' L rom2.cells rom2.slots) := by
  refine MetFree.of_bodySF (plainFor_of_name pnm7) hisR ?_
  intro p e s m args below meth c s₁ Bd hml0 hP hK
  obtain ⟨rfl, hZ, hh⟩ := hP
  have hx := Bd.exec
  have hby := Bd.bytes
  have hml : c.maxLocals = 3 := hml0
  have hown : s.vm.findClass "jdk/internal/util/Preconditions" = some m.cls := findClass_of_methodNamed Bd.named
  have hnm := (name_of_methodNamed Bd.named Bd.method).1
  have X0 : Stand p l e rom2 s m #[(.int ix), (.int N), .null] below meth c s₁ [] 0 0 := Stand.of_body Bd
  have eh0 : s₁.heap = h0 := by rw [← hh, Bd.state]; rfl
  have N0 := Fr.nil n0
  show Goes p e below (Pq (Q_pcin Z ix N h0 n0) s rom2.cells rom2.slots) (s₁.setTop (entryFrame m #[(.int ix), (.int N), .null] 3))
  refine Goes.step (S' := s₁.setTop (mkF m 0 #[.val (.int ix), .val (.int N), .val .null] [])) (fun t k => castTop (ef_pcin m ix N) k) ?_
  refine Goes.step (S' := s₁.setTop (mkF m 17 #[.val (.int ix), .val (.int N), .val .null] [(.int ix)])) (fun t k => XS.iloadN X0.here hx rfl (hb hby dk356) rfl (XS.ifNo X0.here hx rfl (hb hby dk357) rfl ((if0 _ _).trans (flt (J0 : ¬ (ix < (0 : Int32)))).1) (XS.iloadN X0.here hx rfl (hb hby dk358) rfl (XS.iloadN X0.here hx rfl (hb hby dk359) rfl (XS.icmpYes X0.here hx rfl (pc0 := 6) (pc' := 16) rfl (hb hby dk360) rfl (tlt (J1 : ix < N)).1 (by decide) (by decide) (XS.iloadN X0.here hx rfl (hb hby dk361) rfl k)))))) ?_
  refine Goes.leave (g := (mkF m 17 #[.val (.int ix), .val (.int N), .val .null] [(.int ix)])) X0 Bd.notSynchronized (v := (some (.int ix))) (fun h => by rw [Bd.returns] at h; cases h) (fun fs hr => retI X0 hx Bd.returns (hb hby dk362) hr) eh0 ?_ (by decide) (by decide)
  exact ⟨rfl, N0, rfl⟩

theorem ef_pcir (m : MethodId) (x0 : Int32) (x1 : Int32) (x2 : Addr) : entryFrame m #[(.int x0), (.int x1), (.ref x2)] 3 = mkF m 0 #[.val (.int x0), .val (.int x1), .val (.ref x2)] [] := by first | (simp [entryFrame, mkF, argsToLocals, Value.category]; done) | rfl
def Q_pcir (Z : State) (ix : Int32) (N : Int32) (fa : Addr) (h0 : Heap) (n0 : Nat) (v : Option Value) (h : Heap) (L : List Loc) : Prop := v = some (.int ix) ∧ Fr n0 L ∧ h = h0
set_option maxRecDepth 65536 in
set_option maxHeartbeats 40000000 in
theorem pcir (l : Launch) (Z : State) (a0 : Array Value) (hw : ∀ d ∈ tables_1, d.before a0 Z = true) (ws : List Jvm.Cond) (ix : Int32) (N : Int32) (fa : Addr) (h0 : Heap) (n0 : Nat) (Z0 : n0 ≤ h0.size) (J0 : ¬ (ix < (0 : Int32))) (J1 : ix < N) :
    MetFree l mth33 (head1 (Jvm.Cond.code mth33 jdk_41_method_11_code 3 (some .int) :: ws) rom2) (fun a U => a = #[(.int ix), (.int N), (.ref fa)] ∧ Z.Warmed39 U.vm ∧ U.heap = h0) (fun _ _ _ _ _ => True) (fun _ U o U' => ∃ v L, o = .returned v ∧ Q_pcir Z ix N fa h0 n0 v U'.heap L ∧ FrameEnd U o U' L rom2.cells rom2.slots) := by
  refine MetFree.of_bodySF (plainFor_of_name pnm7) hisR ?_
  intro p e s m args below meth c s₁ Bd hml0 hP hK
  obtain ⟨rfl, hZ, hh⟩ := hP
  have hx := Bd.exec
  have hby := Bd.bytes
  have hml : c.maxLocals = 3 := hml0
  have hown : s.vm.findClass "jdk/internal/util/Preconditions" = some m.cls := findClass_of_methodNamed Bd.named
  have hnm := (name_of_methodNamed Bd.named Bd.method).1
  have X0 : Stand p l e rom2 s m #[(.int ix), (.int N), (.ref fa)] below meth c s₁ [] 0 0 := Stand.of_body Bd
  have eh0 : s₁.heap = h0 := by rw [← hh, Bd.state]; rfl
  have N0 := Fr.nil n0
  show Goes p e below (Pq (Q_pcir Z ix N fa h0 n0) s rom2.cells rom2.slots) (s₁.setTop (entryFrame m #[(.int ix), (.int N), (.ref fa)] 3))
  refine Goes.step (S' := s₁.setTop (mkF m 0 #[.val (.int ix), .val (.int N), .val (.ref fa)] [])) (fun t k => castTop (ef_pcir m ix N fa) k) ?_
  refine Goes.step (S' := s₁.setTop (mkF m 17 #[.val (.int ix), .val (.int N), .val (.ref fa)] [(.int ix)])) (fun t k => XS.iloadN X0.here hx rfl (hb hby dk356) rfl (XS.ifNo X0.here hx rfl (hb hby dk357) rfl ((if0 _ _).trans (flt (J0 : ¬ (ix < (0 : Int32)))).1) (XS.iloadN X0.here hx rfl (hb hby dk358) rfl (XS.iloadN X0.here hx rfl (hb hby dk359) rfl (XS.icmpYes X0.here hx rfl (pc0 := 6) (pc' := 16) rfl (hb hby dk360) rfl (tlt (J1 : ix < N)).1 (by decide) (by decide) (XS.iloadN X0.here hx rfl (hb hby dk361) rfl k)))))) ?_
  refine Goes.leave (g := (mkF m 17 #[.val (.int ix), .val (.int N), .val (.ref fa)] [(.int ix)])) X0 Bd.notSynchronized (v := (some (.int ix))) (fun h => by rw [Bd.returns] at h; cases h) (fun fs hr => retI X0 hx Bd.returns (hb hby dk362) hr) eh0 ?_ (by decide) (by decide)
  exact ⟨rfl, N0, rfl⟩

theorem ef_sci (m : MethodId) (x0 : Int32) (x1 : Int32) : entryFrame m #[(.int x0), (.int x1)] 2 = mkF m 0 #[.val (.int x0), .val (.int x1)] [] := by first | (simp [entryFrame, mkF, argsToLocals, Value.category]; done) | rfl
def Q_sci (Z : State) (ix : Int32) (N : Int32) (fm : Value) (h0 : Heap) (n0 : Nat) (v : Option Value) (h : Heap) (L : List Loc) : Prop := v = none ∧ Fr n0 L ∧ h = h0
set_option maxRecDepth 65536 in
set_option maxHeartbeats 40000000 in
theorem sci (l : Launch) (Z : State) (a0 : Array Value) (hw : ∀ d ∈ tables_1, d.before a0 Z = true) (ws : List Jvm.Cond) (ix : Int32) (N : Int32) (fm : Value) (h0 : Heap) (n0 : Nat) (Z0 : n0 ≤ h0.size) (SF : Sta Z h0 "jdk/internal/util/Preconditions" "SIOOBE_FORMATTER" "Ljava/util/function/BiFunction;" fm) (HF : fm.isRef = true) (J0 : ¬ (ix < (0 : Int32))) (J1 : ix < N) :
    MetFree l mth34 (head1 (Jvm.Cond.code mth34 jdk_42_method_155_code 2 none :: ws) rom3) (fun a U => a = #[(.int ix), (.int N)] ∧ Z.Warmed39 U.vm ∧ U.heap = h0) (fun _ _ _ _ _ => True) (fun _ U o U' => ∃ v L, o = .returned v ∧ Q_sci Z ix N fm h0 n0 v U'.heap L ∧ FrameEnd U o U' L rom3.cells rom3.slots) := by
  refine MetFree.of_bodySF (plainFor_of_name pnm4) hisR ?_
  intro p e s m args below meth c s₁ Bd hml0 hP hK
  obtain ⟨rfl, hZ, hh⟩ := hP
  have hx := Bd.exec
  have hby := Bd.bytes
  have hml : c.maxLocals = 2 := hml0
  have hown : s.vm.findClass "java/lang/String" = some m.cls := findClass_of_methodNamed Bd.named
  have hnm := (name_of_methodNamed Bd.named Bd.method).1
  have X0 : Stand p l e rom3 s m #[(.int ix), (.int N)] below meth c s₁ [] 0 0 := Stand.of_body Bd
  have eh0 : s₁.heap = h0 := by rw [← hh, Bd.state]; rfl
  have N0 := Fr.nil n0
  have tw217 := own_hw hw 217 rfl
  have tw218 := own_hw hw 218 rfl
  have tw219 := own_hw hw 219 rfl
  have tw220 := own_hw hw 220 rfl
  have tw221 := own_hw hw 221 rfl
  show Goes p e below (Pq (Q_sci Z ix N fm h0 n0) s rom3.cells rom3.slots) (s₁.setTop (entryFrame m #[(.int ix), (.int N)] 2))
  refine Goes.step (S' := s₁.setTop (mkF m 0 #[.val (.int ix), .val (.int N)] [])) (fun t k => castTop (ef_sci m ix N) k) ?_
  cases ref_cases HF with
  | inl hf0 =>
    subst hf0
    refine Goes.step (S' := s₁.setTop (mkF m 2 #[.val (.int ix), .val (.int N)] [(.int N), (.int ix)])) (fun t k => XS.iloadN X0.here hx rfl (hb hby dk363) rfl (XS.iloadN X0.here hx rfl (hb hby dk364) rfl k)) ?_
    obtain ⟨T101, X101, e101, st101⟩ := getS2 X0 hx hZ hown (host := "") (Or.inl tw217) Via.refl eh0 SF (g := (mkF m 2 #[.val (.int ix), .val (.int N)] [(.int N), (.int ix)])) rfl (hb hby dk365)
    refine Goes.step (S' := T101.setTop (mkF m 5 #[.val (.int ix), .val (.int N)] [.null, (.int N), (.int ix)])) (fun t k => st101 _ k) ?_
    obtain ⟨_, _, ⟨T102, L102, k102, n102⟩, -, X102, ⟨Lc102, hQ102, l102, y102, z102⟩, st102⟩ := Jvm.LawKit.callS X101 hx (y := mth33) hown (mvT hZ tw219) (mvT hZ tw220) (mvT hZ tw218) (mvT hZ tw221) (by decide) (backOf (W := 0) (pcin l Z a0 hw [] ix N h0 n0 Z0 (J0 : ¬ (ix < (0 : Int32))) (J1 : ix < N)) hZ tw221 tw218 (by decide) (by decide)) (g := (mkF m 5 #[.val (.int ix), .val (.int N)] [.null, (.int N), (.int ix)])) rfl (by rw [hml]; rfl) (argsL := [(.int ix), (.int N), .null]) (rest := []) (lenOf pd_IILjava_util_function_BiFunction__I rfl) rfl (Nat.le_of_eq rfl) (hb hby dk366) (fun _ _ => ⟨rfl, e101, (by decide : 0 + 0 ≤ _), (by decide : 0 + 0 ≤ _)⟩)
    dsimp only [Pt.U, Pt.locs, Pt.cells, Pt.slots] at X102 l102 y102 z102 st102 hQ102
    subst y102 z102
    obtain ⟨rfl, Nq102, q102_0⟩ := hQ102
    have N102 : Fr n0 L102 := by rw [l102]; exact Fr.app N0 Nq102
    refine Goes.step (S' := T102.setTop (mkF m 9 #[.val (.int ix), .val (.int N)] [])) (fun t k => st102 _ (XS.pop X102.here hx rfl (hb hby dk367) rfl rfl k)) ?_
    refine Goes.leave (g := (mkF m 9 #[.val (.int ix), .val (.int N)] [])) X102 Bd.notSynchronized (v := none) (fun _ => rfl) (fun fs hr => X102.returnOut hx Bd.returns (hb hby dk368) hr) q102_0 ?_ (by decide) (by decide)
    exact ⟨rfl, N102, rfl⟩
  | inr hf1 =>
    obtain ⟨fa, hf0⟩ := hf1
    subst hf0
    refine Goes.step (S' := s₁.setTop (mkF m 2 #[.val (.int ix), .val (.int N)] [(.int N), (.int ix)])) (fun t k => XS.iloadN X0.here hx rfl (hb hby dk363) rfl (XS.iloadN X0.here hx rfl (hb hby dk364) rfl k)) ?_
    obtain ⟨T103, X103, e103, st103⟩ := getS2 X0 hx hZ hown (host := "") (Or.inl tw217) Via.refl eh0 SF (g := (mkF m 2 #[.val (.int ix), .val (.int N)] [(.int N), (.int ix)])) rfl (hb hby dk365)
    refine Goes.step (S' := T103.setTop (mkF m 5 #[.val (.int ix), .val (.int N)] [(.ref fa), (.int N), (.int ix)])) (fun t k => st103 _ k) ?_
    obtain ⟨_, _, ⟨T104, L104, k104, n104⟩, -, X104, ⟨Lc104, hQ104, l104, y104, z104⟩, st104⟩ := Jvm.LawKit.callS X103 hx (y := mth33) hown (mvT hZ tw219) (mvT hZ tw220) (mvT hZ tw218) (mvT hZ tw221) (by decide) (backOf (W := 0) (pcir l Z a0 hw [] ix N fa h0 n0 Z0 (J0 : ¬ (ix < (0 : Int32))) (J1 : ix < N)) hZ tw221 tw218 (by decide) (by decide)) (g := (mkF m 5 #[.val (.int ix), .val (.int N)] [(.ref fa), (.int N), (.int ix)])) rfl (by rw [hml]; rfl) (argsL := [(.int ix), (.int N), (.ref fa)]) (rest := []) (lenOf pd_IILjava_util_function_BiFunction__I rfl) rfl (Nat.le_of_eq rfl) (hb hby dk366) (fun _ _ => ⟨rfl, e103, (by decide : 0 + 0 ≤ _), (by decide : 0 + 0 ≤ _)⟩)
    dsimp only [Pt.U, Pt.locs, Pt.cells, Pt.slots] at X104 l104 y104 z104 st104 hQ104
    subst y104 z104
    obtain ⟨rfl, Nq104, q104_0⟩ := hQ104
    have N104 : Fr n0 L104 := by rw [l104]; exact Fr.app N0 Nq104
    refine Goes.step (S' := T104.setTop (mkF m 9 #[.val (.int ix), .val (.int N)] [])) (fun t k => st104 _ (XS.pop X104.here hx rfl (hb hby dk367) rfl rfl k)) ?_
    refine Goes.leave (g := (mkF m 9 #[.val (.int ix), .val (.int N)] [])) X104 Bd.notSynchronized (v := none) (fun _ => rfl) (fun fs hr => X104.returnOut hx Bd.returns (hb hby dk368) hr) q104_0 ?_ (by decide) (by decide)
    exact ⟨rfl, N104, rfl⟩

theorem ef_lca (m : MethodId) (x0 : Addr) (x1 : Int32) : entryFrame m #[(.ref x0), (.int x1)] 2 = mkF m 0 #[.val (.ref x0), .val (.int x1)] [] := by first | (simp [entryFrame, mkF, argsToLocals, Value.category]; done) | rfl
def Q_lca (Z : State) (w : Addr) (kw : ClassId) (N : Int32) (bs : List Value) (ix : Int32) (y : Int32) (fm : Value) (h0 : Heap) (n0 : Nat) (v : Option Value) (h : Heap) (L : List Loc) : Prop := v = some (.int y) ∧ Fr n0 L ∧ h = h0
set_option maxRecDepth 65536 in
set_option maxHeartbeats 40000000 in
theorem lca (l : Launch) (Z : State) (a0 : Array Value) (hw : ∀ d ∈ tables_1, d.before a0 Z = true) (ws : List Jvm.Cond) (w : Addr) (kw : ClassId) (N : Int32) (bs : List Value) (ix : Int32) (y : Int32) (fm : Value) (h0 : Heap) (n0 : Nat) (Z0 : n0 ≤ h0.size) (Vw : Arv Z h0 w kw .byte N bs (.int (0 : Int32))) (SF : Sta Z h0 "jdk/internal/util/Preconditions" "SIOOBE_FORMATTER" "Ljava/util/function/BiFunction;" fm) (HF : fm.isRef = true) (J0 : ¬ (ix < (0 : Int32))) (J1 : ix < N) (HG : bs.getD ix.toNatClampNeg dz = .int y) (Y0 : ¬ (y < (0 : Int32))) (Y1 : ¬ ((127 : Int32) < y)) :
    MetFree l mth35 (head1 (Jvm.Cond.code mth35 jdk_43_method_2_code 2 (some .char) :: ws) rom29) (fun a U => a = #[(.ref w), (.int ix)] ∧ Z.Warmed39 U.vm ∧ U.heap = h0) (fun _ _ _ _ _ => True) (fun _ U o U' => ∃ v L, o = .returned v ∧ Q_lca Z w kw N bs ix y fm h0 n0 v U'.heap L ∧ FrameEnd U o U' L rom29.cells rom29.slots) := by
  refine MetFree.of_bodySF (plainFor_of_name pnm8) hisR ?_
  intro p e s m args below meth c s₁ Bd hml0 hP hK
  obtain ⟨rfl, hZ, hh⟩ := hP
  have hx := Bd.exec
  have hby := Bd.bytes
  have hml : c.maxLocals = 2 := hml0
  have hown : s.vm.findClass "java/lang/StringLatin1" = some m.cls := findClass_of_methodNamed Bd.named
  have hnm := (name_of_methodNamed Bd.named Bd.method).1
  have X0 : Stand p l e rom29 s m #[(.ref w), (.int ix)] below meth c s₁ [] 0 0 := Stand.of_body Bd
  have eh0 : s₁.heap = h0 := by rw [← hh, Bd.state]; rfl
  have N0 := Fr.nil n0
  have tw44 := own_hw hw 44 rfl
  have tw214 := own_hw hw 214 rfl
  have tw215 := own_hw hw 215 rfl
  have tw216 := own_hw hw 216 rfl
  show Goes p e below (Pq (Q_lca Z w kw N bs ix y fm h0 n0) s rom29.cells rom29.slots) (s₁.setTop (entryFrame m #[(.ref w), (.int ix)] 2))
  refine Goes.step (S' := s₁.setTop (mkF m 0 #[.val (.ref w), .val (.int ix)] [])) (fun t k => castTop (ef_lca m w ix) k) ?_
  refine Goes.step (S' := s₁.setTop (mkF m 2 #[.val (.ref w), .val (.int ix)] [(.ref w), (.int ix)])) (fun t k => XS.iloadN X0.here hx rfl (hb hby dk369) rfl (XS.aloadN X0.here hx rfl (hb hby dk370) rfl rfl k)) ?_
  obtain ⟨cl101, Ar101, qk101, Sz101, Nn101, Hs101, Gs101⟩ := id Vw
  refine Goes.step (S' := s₁.setTop (mkF m 3 #[.val (.ref w), .val (.int ix)] [(.int N), (.int ix)])) (fun t k => X0.arraylength hx (by rw [eh0]; exact Ar101.1) (State.isArrayOf_alike hZ.alike Ar101.2.1) (g := (mkF m 2 #[.val (.ref w), .val (.int ix)] [(.ref w), (.int ix)])) rfl rfl (hb hby dk371) _ (by rw [len_of Sz101 Nn101]; exact k)) ?_
  obtain ⟨_, _, ⟨T102, L102, k102, n102⟩, -, X102, ⟨Lc102, hQ102, l102, y102, z102⟩, st102⟩ := Jvm.LawKit.callS X0 hx (y := mth34) hown (mvT hZ tw214) (mvT hZ tw215) (mvT hZ tw44) (mvT hZ tw216) (by decide) (backOf (W := 0) (sci l Z a0 hw [] ix N fm h0 n0 Z0 SF (HF : fm.isRef = true) (J0 : ¬ (ix < (0 : Int32))) (J1 : ix < N)) hZ tw216 tw44 (by decide) (by decide)) (g := (mkF m 3 #[.val (.ref w), .val (.int ix)] [(.int N), (.int ix)])) rfl (by rw [hml]; rfl) (argsL := [(.int ix), (.int N)]) (rest := []) (lenOf pd_II_V rfl) rfl (Nat.le_of_eq rfl) (hb hby dk372) (fun _ _ => ⟨rfl, eh0, (by decide : 0 + 0 ≤ _), (by decide : 0 + 0 ≤ _)⟩)
  dsimp only [Pt.U, Pt.locs, Pt.cells, Pt.slots] at X102 l102 y102 z102 st102 hQ102
  subst y102 z102
  obtain ⟨rfl, Nq102, q102_0⟩ := hQ102
  have N102 : Fr n0 L102 := by rw [l102]; exact Fr.app N0 Nq102
  refine Goes.step (S' := T102.setTop (mkF m 8 #[.val (.ref w), .val (.int ix)] [(.int ix), (.ref w)])) (fun t k => st102 _ (XS.aloadN X102.here hx rfl (hb hby dk373) rfl rfl (XS.iloadN X102.here hx rfl (hb hby dk374) rfl k))) ?_
  obtain ⟨cl103, Ar103, qk103, Sz103, Nn103, Hs103, Gs103⟩ := id Vw
  have hin103 := (inb_of (j := ix) Sz103 ⟨J0, J1⟩)
  refine Goes.step (S' := T102.setTop (mkF m 14 #[.val (.ref w), .val (.int ix)] [(.int ((y &&& (255 : Int32)).toUInt32.toUInt16.toUInt32.toInt32))])) (fun t k => X102.baloadBytes hx (j := ix) (v := (.int y)) (by rw [q102_0]; exact Ar103.1) (State.isArrayOf_alike hZ.alike Ar103.2.1) Ar103.2.2 hin103 (Has.at Hs103 hin103 HG) (g := (mkF m 8 #[.val (.ref w), .val (.int ix)] [(.int ix), (.ref w)])) rfl rfl (hb hby dk375) _ (XS.sipush X102.here hx rfl (hb hby dk376) (XS.iand X102.here hx rfl (hb hby dk377) rfl (XS.i2c X102.here hx rfl (hb hby dk378) rfl k)))) ?_
  refine Goes.leave (g := (mkF m 14 #[.val (.ref w), .val (.int ix)] [(.int ((y &&& (255 : Int32)).toUInt32.toUInt16.toUInt32.toInt32))])) X102 Bd.notSynchronized (v := (some (.int (nar .char ((y &&& (255 : Int32)).toUInt32.toUInt16.toUInt32.toInt32))))) (fun h => by rw [Bd.returns] at h; cases h) (fun fs hr => retN X102 hx (t := .char) Bd.returns (by simp) (hb hby dk379) hr) q102_0 ?_ (by decide) (by decide)
  exact ⟨(congrArg (fun z => some (Value.int z)) (own_ch Y0 Y1)), N102, rfl⟩

theorem ef_sca (m : MethodId) (x0 : Addr) (x1 : Int32) : entryFrame m #[(.ref x0), (.int x1)] 2 = mkF m 0 #[.val (.ref x0), .val (.int x1)] [] := by first | (simp [entryFrame, mkF, argsToLocals, Value.category]; done) | rfl
def Q_sca (Z : State) (a1 : Addr) (w : Addr) (kw : ClassId) (N : Int32) (bs : List Value) (ix : Int32) (y : Int32) (cs : Int32) (fm : Value) (h0 : Heap) (n0 : Nat) (v : Option Value) (h : Heap) (L : List Loc) : Prop := v = some (.int y) ∧ Fr n0 L ∧ h = h0
set_option maxRecDepth 65536 in
set_option maxHeartbeats 40000000 in
theorem sca (l : Launch) (Z : State) (a0 : Array Value) (hw : ∀ d ∈ tables_1, d.before a0 Z = true) (ws : List Jvm.Cond) (a1 : Addr) (w : Addr) (kw : ClassId) (N : Int32) (bs : List Value) (ix : Int32) (y : Int32) (cs : Int32) (fm : Value) (h0 : Heap) (n0 : Nat) (Z0 : n0 ≤ h0.size) (Es : Exa Z h0 a1 "java/lang/String") (Fw : Fld Z h0 a1 "java/lang/String" "value" "[B" (.ref w)) (Fx : Fld Z h0 a1 "java/lang/String" "coder" "B" (.int (0 : Int32))) (Vw : Arv Z h0 w kw .byte N bs (.int (0 : Int32))) (SC : Sta Z h0 "java/lang/String" "COMPACT_STRINGS" "Z" (.int cs)) (PC : ¬ (cs = (0 : Int32))) (SF : Sta Z h0 "jdk/internal/util/Preconditions" "SIOOBE_FORMATTER" "Ljava/util/function/BiFunction;" fm) (HF : fm.isRef = true) (J0 : ¬ (ix < (0 : Int32))) (J1 : ix < N) (HG : bs.getD ix.toNatClampNeg dz = .int y) (Y0 : ¬ (y < (0 : Int32))) (Y1 : ¬ ((127 : Int32) < y)) :
    MetFree l mth36 (head1 (Jvm.Cond.code mth36 jdk_42_method_56_code 2 (some .char) :: ws) rom30) (fun a U => a = #[(.ref a1), (.int ix)] ∧ Z.Warmed39 U.vm ∧ U.heap = h0) (fun _ _ _ _ _ => True) (fun _ U o U' => ∃ v L, o = .returned v ∧ Q_sca Z a1 w kw N bs ix y cs fm h0 n0 v U'.heap L ∧ FrameEnd U o U' L rom30.cells rom30.slots) := by
  refine MetFree.of_bodySF (plainFor_of_name pnm4) hisR ?_
  intro p e s m args below meth c s₁ Bd hml0 hP hK
  obtain ⟨rfl, hZ, hh⟩ := hP
  have hx := Bd.exec
  have hby := Bd.bytes
  have hml : c.maxLocals = 2 := hml0
  have hown : s.vm.findClass "java/lang/String" = some m.cls := findClass_of_methodNamed Bd.named
  have hnm := (name_of_methodNamed Bd.named Bd.method).1
  have X0 : Stand p l e rom30 s m #[(.ref a1), (.int ix)] below meth c s₁ [] 0 0 := Stand.of_body Bd
  have eh0 : s₁.heap = h0 := by rw [← hh, Bd.state]; rfl
  have N0 := Fr.nil n0
  have tw44 := own_hw hw 44 rfl
  have tw103 := own_hw hw 103 rfl
  have tw205 := own_hw hw 205 rfl
  have tw206 := own_hw hw 206 rfl
  have tw207 := own_hw hw 207 rfl
  have tw208 := own_hw hw 208 rfl
  have tw209 := own_hw hw 209 rfl
  have tw210 := own_hw hw 210 rfl
  have tw211 := own_hw hw 211 rfl
  have tw212 := own_hw hw 212 rfl
  have tw213 := own_hw hw 213 rfl
  show Goes p e below (Pq (Q_sca Z a1 w kw N bs ix y cs fm h0 n0) s rom30.cells rom30.slots) (s₁.setTop (entryFrame m #[(.ref a1), (.int ix)] 2))
  refine Goes.step (S' := s₁.setTop (mkF m 0 #[.val (.ref a1), .val (.int ix)] [])) (fun t k => castTop (ef_sca m a1 ix) k) ?_
  refine Goes.step (S' := s₁.setTop (mkF m 1 #[.val (.ref a1), .val (.int ix)] [(.ref a1)])) (fun t k => XS.aloadN X0.here hx rfl (hb hby dk380) rfl rfl k) ?_
  obtain ⟨cq101, kq101, q101a, q101b, q101c⟩ := isOf hZ eh0 Es
  obtain ⟨_, _, ⟨T101, L101, k101, n101⟩, -, X101, ⟨Lc101, hQ101, l101, y101, z101⟩, st101⟩ := X0.virtualBack hx (y := mth15) (z := mth15) hown (mvT hZ tw205) (mvT hZ tw206) (notFace_of_selects (args := #[]) (mvT hZ tw208)) (mvT hZ tw208) (mvT hZ tw207) (by decide) (backOf (W := 0) (sil l Z a0 hw [] a1 cs h0 n0 Z0 Fx SC (PC : ¬ (cs = (0 : Int32)))) hZ tw209 tw44 (by decide) (by decide)) q101a q101c (g := (mkF m 1 #[.val (.ref a1), .val (.int ix)] [(.ref a1)])) rfl (by rw [hml]; rfl) (Steps.refl _) (argsL := []) (rest := []) (lenOf pd_Z rfl) rfl (Nat.le_of_eq rfl) (hb hby dk381) (fun _ _ => ⟨rfl, eh0, (by decide : 0 + 0 ≤ _), (by decide : 0 + 0 ≤ _)⟩)
  dsimp only [Pt.U, Pt.locs, Pt.cells, Pt.slots] at X101 l101 y101 z101 st101 hQ101
  subst y101 z101
  obtain ⟨rfl, Nq101, q101_0⟩ := hQ101
  have N101 : Fr n0 L101 := by rw [l101]; exact Fr.app N0 Nq101
  refine Goes.step (S' := T101.setTop (mkF m 8 #[.val (.ref a1), .val (.int ix)] [(.ref a1)])) (fun t k => st101.trans (XS.ifNo X101.here hx rfl (hb hby dk382) rfl ((if0 _ _).trans (feq ((by decide) : ¬ ((1 : Int32) = (0 : Int32)))).1) (XS.aloadN X101.here hx rfl (hb hby dk383) rfl rfl k))) ?_
  obtain ⟨T102, X102, e102, st102⟩ := getF X101 hx hZ hown (host := "") (Or.inl tw103) Via.refl q101_0 Fw (g := (mkF m 8 #[.val (.ref a1), .val (.int ix)] [(.ref a1)])) rfl rfl (hb hby dk384)
  refine Goes.step (S' := T102.setTop (mkF m 12 #[.val (.ref a1), .val (.int ix)] [(.int ix), (.ref w)])) (fun t k => st102 _ (XS.iloadN X102.here hx rfl (hb hby dk385) rfl k)) ?_
  obtain ⟨_, _, ⟨T103, L103, k103, n103⟩, -, X103, ⟨Lc103, hQ103, l103, y103, z103⟩, st103⟩ := Jvm.LawKit.callS X102 hx (y := mth35) hown (mvT hZ tw210) (mvT hZ tw211) (mvT hZ tw212) (mvT hZ tw213) (by decide) (backOf (W := 0) (lca l Z a0 hw [] w kw N bs ix y fm h0 n0 Z0 Vw SF (HF : fm.isRef = true) (J0 : ¬ (ix < (0 : Int32))) (J1 : ix < N) HG (Y0 : ¬ (y < (0 : Int32))) (Y1 : ¬ ((127 : Int32) < y))) hZ tw213 tw212 (by decide) (by decide)) (g := (mkF m 12 #[.val (.ref a1), .val (.int ix)] [(.int ix), (.ref w)])) rfl (by rw [hml]; rfl) (argsL := [(.ref w), (.int ix)]) (rest := []) (lenOf pd_BI_C rfl) rfl (Nat.le_of_eq rfl) (hb hby dk386) (fun _ _ => ⟨rfl, e102, (by decide : 0 + 0 ≤ _), (by decide : 0 + 0 ≤ _)⟩)
  dsimp only [Pt.U, Pt.locs, Pt.cells, Pt.slots] at X103 l103 y103 z103 st103 hQ103
  subst y103 z103
  obtain ⟨rfl, Nq103, q103_0⟩ := hQ103
  have N103 : Fr n0 L103 := by rw [l103]; exact Fr.app N101 Nq103
  refine Goes.step (S' := T103.setTop (mkF m 15 #[.val (.ref a1), .val (.int ix)] [(.int y)])) (fun t k => st103 _ k) ?_
  refine Goes.leave (g := (mkF m 15 #[.val (.ref a1), .val (.int ix)] [(.int y)])) X103 Bd.notSynchronized (v := (some (.int (nar .char y)))) (fun h => by rw [Bd.returns] at h; cases h) (fun fs hr => retN X103 hx (t := .char) Bd.returns (by simp) (hb hby dk387) hr) q103_0 ?_ (by decide) (by decide)
  exact ⟨(congrArg (fun z => some (Value.int z)) (own_narc Y0 Y1)), N103, rfl⟩

theorem ef_dig (m : MethodId) (x0 : Addr) (x1 : Int32) (x2 : Int64) (x3 : Int64) : entryFrame m #[(.ref x0), (.int x1), (.long x2), (.long x3)] 8 = mkF m 0 #[.val (.ref x0), .val (.int x1), .val (.long x2), .second, .val (.long x3), .second, .unset, .unset] [] := by first | (simp [entryFrame, mkF, argsToLocals, Value.category]; done) | rfl
def Q_dig (Z : State) (a1 : Addr) (w : Addr) (kw : ClassId) (N : Int32) (bs : List Value) (ix : Int32) (y : Int32) (z : Int64) (pw : Int64) (cs : Int32) (fm : Value) (h0 : Heap) (n0 : Nat) (v : Option Value) (h : Heap) (L : List Loc) : Prop := v = some (.int (1 : Int32)) ∧ Fr n0 L ∧ h = h0
set_option maxRecDepth 65536 in
set_option maxHeartbeats 40000000 in
theorem dig (l : Launch) (Z : State) (a0 : Array Value) (hw : ∀ d ∈ tables_1, d.before a0 Z = true) (ws : List Jvm.Cond) (a1 : Addr) (w : Addr) (kw : ClassId) (N : Int32) (bs : List Value) (ix : Int32) (y : Int32) (z : Int64) (pw : Int64) (cs : Int32) (fm : Value) (h0 : Heap) (n0 : Nat) (Z0 : n0 ≤ h0.size) (Es : Exa Z h0 a1 "java/lang/String") (Fw : Fld Z h0 a1 "java/lang/String" "value" "[B" (.ref w)) (Fx : Fld Z h0 a1 "java/lang/String" "coder" "B" (.int (0 : Int32))) (Vw : Arv Z h0 w kw .byte N bs (.int (0 : Int32))) (SC : Sta Z h0 "java/lang/String" "COMPACT_STRINGS" "Z" (.int cs)) (PC : ¬ (cs = (0 : Int32))) (SF : Sta Z h0 "jdk/internal/util/Preconditions" "SIOOBE_FORMATTER" "Ljava/util/function/BiFunction;" fm) (HF : fm.isRef = true) (J0 : ¬ (ix < (0 : Int32))) (J1 : ix < N) (HG : bs.getD ix.toNatClampNeg dz = .int y) (Y0 : ¬ (y < (0 : Int32))) (Y1 : ¬ ((127 : Int32) < y)) (HR : y = ((((48 : Int64) + (-((z / pw) - ((z / pw) / (10 : Int64)) * (10 : Int64)))).toInt32).toUInt32.toUInt16.toUInt32.toInt32)) (PW : ¬ (pw = (0 : Int64))) :
    MetFree l mth37 (head1 (Jvm.Cond.code mth37 method_3_code 8 (some .boolean) :: ws) rom31) (fun a U => a = #[(.ref a1), (.int ix), (.long z), (.long pw)] ∧ Z.Warmed39 U.vm ∧ U.heap = h0) (fun _ _ _ _ _ => True) (fun _ U o U' => ∃ v L, o = .returned v ∧ Q_dig Z a1 w kw N bs ix y z pw cs fm h0 n0 v U'.heap L ∧ FrameEnd U o U' L rom31.cells rom31.slots) := by
  refine MetFree.of_bodySF (plainFor_of_name pnm9) hisR ?_
  intro p e s m args below meth c s₁ Bd hml0 hP hK
  obtain ⟨rfl, hZ, hh⟩ := hP
  have hx := Bd.exec
  have hby := Bd.bytes
  have hml : c.maxLocals = 8 := hml0
  have hown : s.vm.findClass "com/example/uraniborg/uraniborg/model/PriorityRangeToStringPinLaw" = some m.cls := findClass_of_methodNamed Bd.named
  have hnm := (name_of_methodNamed Bd.named Bd.method).1
  have X0 : Stand p l e rom31 s m #[(.ref a1), (.int ix), (.long z), (.long pw)] below meth c s₁ [] 0 0 := Stand.of_body Bd
  have eh0 : s₁.heap = h0 := by rw [← hh, Bd.state]; rfl
  have N0 := Fr.nil n0
  have tw44 := own_hw hw 44 rfl
  have tw99 := own_hw hw 99 rfl
  have tw100 := own_hw hw 100 rfl
  have tw101 := own_hw hw 101 rfl
  have tw102 := own_hw hw 102 rfl
  have tw198 := own_hw hw 198 rfl
  have tw199 := own_hw hw 199 rfl
  have tw200 := own_hw hw 200 rfl
  have tw201 := own_hw hw 201 rfl
  have tw202 := own_hw hw 202 rfl
  have tw203 := own_hw hw 203 rfl
  have tw204 := own_hw hw 204 rfl
  have tw222 := own_hw hw 222 rfl
  show Goes p e below (Pq (Q_dig Z a1 w kw N bs ix y z pw cs fm h0 n0) s rom31.cells rom31.slots) (s₁.setTop (entryFrame m #[(.ref a1), (.int ix), (.long z), (.long pw)] 8))
  refine Goes.step (S' := s₁.setTop (mkF m 0 #[.val (.ref a1), .val (.int ix), .val (.long z), .second, .val (.long pw), .second, .unset, .unset] [])) (fun t k => castTop (ef_dig m a1 ix z pw) k) ?_
  refine Goes.step (S' := s₁.setTop (mkF m 6 #[.val (.ref a1), .val (.int ix), .val (.long z), .second, .val (.long pw), .second, .unset, .unset] [(.ref a1), (.int ix)])) (fun t k => XS.iloadN X0.here hx rfl (hb hby dk388) rfl (XS.ifNo X0.here hx rfl (hb hby dk389) rfl ((if0 _ _).trans (flt (J0 : ¬ (ix < (0 : Int32)))).1) (XS.iloadN X0.here hx rfl (hb hby dk390) rfl (XS.aloadN X0.here hx rfl (hb hby dk391) rfl rfl k)))) ?_
  obtain ⟨cq101, kq101, q101a, q101b, q101c⟩ := isOf hZ eh0 Es
  obtain ⟨_, _, ⟨T101, L101, k101, n101⟩, -, X101, ⟨Lc101, hQ101, l101, y101, z101⟩, st101⟩ := X0.virtualBack hx (y := mth14) (z := mth14) hown (mvT hZ tw198) (mvT hZ tw99) (notFace_of_selects (args := #[]) (mvT hZ tw101)) (mvT hZ tw101) (mvT hZ tw100) (by decide) (backOf (W := 1) (slen l Z a0 hw [] a1 w kw N bs cs h0 n0 Z0 Es Fw Fx Vw SC (PC : ¬ (cs = (0 : Int32)))) hZ tw102 tw44 (by decide) (by decide)) q101a q101c (g := (mkF m 6 #[.val (.ref a1), .val (.int ix), .val (.long z), .second, .val (.long pw), .second, .unset, .unset] [(.ref a1), (.int ix)])) rfl (by rw [hml]; rfl) (Steps.refl _) (argsL := []) (rest := [(.int ix)]) (lenOf pd_I rfl) rfl (Nat.le_of_eq rfl) (hb hby dk392) (fun _ _ => ⟨rfl, eh0, (by decide : 0 + 0 ≤ _), (by decide : 0 + 0 ≤ _)⟩)
  dsimp only [Pt.U, Pt.locs, Pt.cells, Pt.slots] at X101 l101 y101 z101 st101 hQ101
  subst y101 z101
  obtain ⟨rfl, Nq101, q101_0⟩ := hQ101
  have N101 : Fr n0 L101 := by rw [l101]; exact Fr.app N0 Nq101
  refine Goes.step (S' := T101.setTop (mkF m 23 #[.val (.ref a1), .val (.int ix), .val (.long z), .second, .val (.long pw), .second, .unset, .unset] [(.long (-((z / pw) - ((z / pw) / (10 : Int64)) * (10 : Int64))))])) (fun t k => st101.trans (XS.icmpYes X101.here hx rfl (pc0 := 9) (pc' := 14) rfl (hb hby dk393) rfl (tlt (J1 : ix < N)).1 (by decide) (by decide) (XS.lloadN X101.here hx rfl (hb hby dk394) rfl (XS.lload X101.here hx rfl (hb hby dk395) rfl (XS.ldiv X101.here hx rfl (hb hby dk396) rfl PW (X101.ldc2Long hx hown (mvT hZ tw199) (g := (mkF m 18 #[.val (.ref a1), .val (.int ix), .val (.long z), .second, .val (.long pw), .second, .unset, .unset] [(.long (z / pw))])) rfl (hb hby dk397) _ (XS.lrem X101.here hx rfl (hb hby dk398) rfl (by decide) (XS.lneg X101.here hx rfl (hb hby dk399) rfl k)))))))) ?_
  refine Goes.step (S' := T101.setTop (mkF m 27 #[.val (.ref a1), .val (.int ix), .val (.long z), .second, .val (.long pw), .second, .val (.long (-((z / pw) - ((z / pw) / (10 : Int64)) * (10 : Int64)))), .second] [(.int ix), (.ref a1)])) (fun t k => XS.lstore X101.here hx rfl (hb hby dk400) rfl (l' := #[.val (.ref a1), .val (.int ix), .val (.long z), .second, .val (.long pw), .second, .val (.long (-((z / pw) - ((z / pw) / (10 : Int64)) * (10 : Int64)))), .second]) rfl (XS.aloadN X101.here hx rfl (hb hby dk401) rfl rfl (XS.iloadN X101.here hx rfl (hb hby dk402) rfl k))) ?_
  obtain ⟨cq102, kq102, q102a, q102b, q102c⟩ := isOf hZ q101_0 Es
  obtain ⟨_, _, ⟨T102, L102, k102, n102⟩, -, X102, ⟨Lc102, hQ102, l102, y102, z102⟩, st102⟩ := X101.virtualBack hx (y := mth36) (z := mth36) hown (mvT hZ tw200) (mvT hZ tw201) (notFace_of_selects (args := #[]) (mvT hZ tw203)) (mvT hZ tw203) (mvT hZ tw202) (by decide) (backOf (W := 0) (sca l Z a0 hw [] a1 w kw N bs ix y cs fm h0 n0 Z0 Es Fw Fx Vw SC (PC : ¬ (cs = (0 : Int32))) SF (HF : fm.isRef = true) (J0 : ¬ (ix < (0 : Int32))) (J1 : ix < N) HG (Y0 : ¬ (y < (0 : Int32))) (Y1 : ¬ ((127 : Int32) < y))) hZ tw204 tw44 (by decide) (by decide)) q102a q102c (g := (mkF m 27 #[.val (.ref a1), .val (.int ix), .val (.long z), .second, .val (.long pw), .second, .val (.long (-((z / pw) - ((z / pw) / (10 : Int64)) * (10 : Int64)))), .second] [(.int ix), (.ref a1)])) rfl (by rw [hml]; rfl) (Steps.refl _) (argsL := [(.int ix)]) (rest := []) (lenOf pd_I_C rfl) rfl (Nat.le_of_eq rfl) (hb hby dk403) (fun _ _ => ⟨rfl, q101_0, (by decide : 0 + 0 ≤ _), (by decide : 0 + 0 ≤ _)⟩)
  dsimp only [Pt.U, Pt.locs, Pt.cells, Pt.slots] at X102 l102 y102 z102 st102 hQ102
  subst y102 z102
  obtain ⟨rfl, Nq102, q102_0⟩ := hQ102
  have N102 : Fr n0 L102 := by rw [l102]; exact Fr.app N101 Nq102
  refine Goes.step (S' := T102.setTop (mkF m 42 #[.val (.ref a1), .val (.int ix), .val (.long z), .second, .val (.long pw), .second, .val (.long (-((z / pw) - ((z / pw) / (10 : Int64)) * (10 : Int64)))), .second] [(.int (1 : Int32))])) (fun t k => st102.trans (X102.ldc2Long hx hown (mvT hZ tw222) (g := (mkF m 30 #[.val (.ref a1), .val (.int ix), .val (.long z), .second, .val (.long pw), .second, .val (.long (-((z / pw) - ((z / pw) / (10 : Int64)) * (10 : Int64)))), .second] [(.int y)])) rfl (hb hby dk404) _ (XS.lload X102.here hx rfl (hb hby dk405) rfl (XS.ladd X102.here hx rfl (hb hby dk406) rfl (XS.l2i X102.here hx rfl (hb hby dk407) rfl (XS.i2c X102.here hx rfl (hb hby dk408) rfl (XS.icmpNo X102.here hx rfl (hb hby dk409) rfl (teq (HR : y = ((((48 : Int64) + (-((z / pw) - ((z / pw) / (10 : Int64)) * (10 : Int64)))).toInt32).toUInt32.toUInt16.toUInt32.toInt32))).2 (XS.iconst X102.here hx rfl (hb hby dk410) k)))))))) ?_
  refine Goes.step (S' := T102.setTop (mkF m 46 #[.val (.ref a1), .val (.int ix), .val (.long z), .second, .val (.long pw), .second, .val (.long (-((z / pw) - ((z / pw) / (10 : Int64)) * (10 : Int64)))), .second] [(.int (1 : Int32))])) (fun t k => XS.goto X102.here hx rfl (pc0 := 42) (pc' := 46) rfl (hb hby dk411) (by decide) (by decide) k) ?_
  refine Goes.leave (g := (mkF m 46 #[.val (.ref a1), .val (.int ix), .val (.long z), .second, .val (.long pw), .second, .val (.long (-((z / pw) - ((z / pw) / (10 : Int64)) * (10 : Int64)))), .second] [(.int (1 : Int32))])) X102 Bd.notSynchronized (v := (some (.int (1 : Int32)))) (fun h => by rw [Bd.returns] at h; cases h) (fun fs hr => retN X102 hx (t := .boolean) Bd.returns (by simp) (hb hby dk412) hr) q102_0 ?_ (by decide) (by decide)
  exact ⟨rfl, N102, rfl⟩

theorem own_dn {j k dd : Int32} (h : ¬ (k < j)) (q : ¬ (j < dd)) : ¬ (k < dd) := by
  rw [Int32.lt_iff_toInt_lt] at *
  omega

theorem ef_num (m : MethodId) (x0 : Addr) (x1 : Int32) (x2 : Int64) : entryFrame m #[(.ref x0), (.int x1), (.long x2)] 8 = mkF m 0 #[.val (.ref x0), .val (.int x1), .val (.long x2), .second, .unset, .unset, .unset, .unset] [] := by first | (simp [entryFrame, mkF, argsToLocals, Value.category]; done) | rfl
def Q_num (Z : State) (a1 : Addr) (w : Addr) (kw : ClassId) (N : Int32) (bs : List Value) (p1 : Int32) (nv : Int64) (nn : Nat) (ps : Nat) (cs : Int32) (fm : Value) (h0 : Heap) (n0 : Nat) (v : Option Value) (h : Heap) (L : List Loc) : Prop := ∃ (r : Int32), v = some (.int r) ∧ Fr n0 L ∧ h = h0 ∧ r = Int32.ofNat (ps + (own_rep nv nn).length) ∧ ¬ (r < (0 : Int32)) ∧ ¬ (N < r)
set_option maxRecDepth 65536 in
set_option maxHeartbeats 40000000 in
theorem num (l : Launch) (Z : State) (a0 : Array Value) (hw : ∀ d ∈ tables_1, d.before a0 Z = true) (ws : List Jvm.Cond) (a1 : Addr) (w : Addr) (kw : ClassId) (N : Int32) (bs : List Value) (p1 : Int32) (nv : Int64) (nn : Nat) (ps : Nat) (cs : Int32) (fm : Value) (h0 : Heap) (n0 : Nat) (Z0 : n0 ≤ h0.size) (Es : Exa Z h0 a1 "java/lang/String") (Fw : Fld Z h0 a1 "java/lang/String" "value" "[B" (.ref w)) (Fx : Fld Z h0 a1 "java/lang/String" "coder" "B" (.int (0 : Int32))) (Vw : Arv Z h0 w kw .byte N bs (.int (0 : Int32))) (SC : Sta Z h0 "java/lang/String" "COMPACT_STRINGS" "Z" (.int cs)) (PC : ¬ (cs = (0 : Int32))) (SF : Sta Z h0 "jdk/internal/util/Preconditions" "SIOOBE_FORMATTER" "Ljava/util/function/BiFunction;" fm) (HF : fm.isRef = true) (HA : own_abs nv nn) (HI : own_in bs ps (own_rep nv nn)) (HL : ps + (own_rep nv nn).length ≤ bs.length) (HW : bs.length ≤ 100) (HNW : N = Int32.ofNat bs.length) (HP : p1 = Int32.ofNat ps) (U0 : ¬ (p1 < (0 : Int32))) (U1 : p1 < N) :
    MetFree l mth38 (head1 (Jvm.Cond.code mth38 method_4_code 8 (some .int) :: ws) rom32) (fun a U => a = #[(.ref a1), (.int p1), (.long nv)] ∧ Z.Warmed39 U.vm ∧ U.heap = h0) (fun _ _ _ _ _ => True) (fun _ U o U' => ∃ v L, o = .returned v ∧ Q_num Z a1 w kw N bs p1 nv nn ps cs fm h0 n0 v U'.heap L ∧ FrameEnd U o U' L rom32.cells rom32.slots) := by
  refine MetFree.of_bodySF (plainFor_of_name pnm9) hisR ?_
  intro p e s m args below meth c s₁ Bd hml0 hP hK
  obtain ⟨rfl, hZ, hh⟩ := hP
  have hx := Bd.exec
  have hby := Bd.bytes
  have hml : c.maxLocals = 8 := hml0
  have hown : s.vm.findClass "com/example/uraniborg/uraniborg/model/PriorityRangeToStringPinLaw" = some m.cls := findClass_of_methodNamed Bd.named
  have hnm := (name_of_methodNamed Bd.named Bd.method).1
  have X0 : Stand p l e rom32 s m #[(.ref a1), (.int p1), (.long nv)] below meth c s₁ [] 0 0 := Stand.of_body Bd
  have eh0 : s₁.heap = h0 := by rw [← hh, Bd.state]; rfl
  have N0 := Fr.nil n0
  have tw44 := own_hw hw 44 rfl
  have tw99 := own_hw hw 99 rfl
  have tw100 := own_hw hw 100 rfl
  have tw101 := own_hw hw 101 rfl
  have tw102 := own_hw hw 102 rfl
  have tw175 := own_hw hw 175 rfl
  have tw177 := own_hw hw 177 rfl
  have tw178 := own_hw hw 178 rfl
  have tw179 := own_hw hw 179 rfl
  have tw180 := own_hw hw 180 rfl
  have tw181 := own_hw hw 181 rfl
  have tw182 := own_hw hw 182 rfl
  have tw183 := own_hw hw 183 rfl
  have tw184 := own_hw hw 184 rfl
  have tw185 := own_hw hw 185 rfl
  have tw186 := own_hw hw 186 rfl
  have tw187 := own_hw hw 187 rfl
  have tw188 := own_hw hw 188 rfl
  have tw189 := own_hw hw 189 rfl
  have tw190 := own_hw hw 190 rfl
  have tw191 := own_hw hw 191 rfl
  have tw192 := own_hw hw 192 rfl
  have tw193 := own_hw hw 193 rfl
  have tw194 := own_hw hw 194 rfl
  have tw195 := own_hw hw 195 rfl
  have tw196 := own_hw hw 196 rfl
  have tw197 := own_hw hw 197 rfl
  have tw198 := own_hw hw 198 rfl
  have tw199 := own_hw hw 199 rfl
  have tw200 := own_hw hw 200 rfl
  have tw201 := own_hw hw 201 rfl
  have tw202 := own_hw hw 202 rfl
  have tw203 := own_hw hw 203 rfl
  have tw204 := own_hw hw 204 rfl
  have tw243 := own_hw hw 243 rfl
  have tw244 := own_hw hw 244 rfl
  have tw245 := own_hw hw 245 rfl
  have tw246 := own_hw hw 246 rfl
  have tw247 := own_hw hw 247 rfl
  have tw248 := own_hw hw 248 rfl
  have tw249 := own_hw hw 249 rfl
  have tw250 := own_hw hw 250 rfl
  have tw251 := own_hw hw 251 rfl
  have tw252 := own_hw hw 252 rfl
  have tw253 := own_hw hw 253 rfl
  have tw254 := own_hw hw 254 rfl
  have tw255 := own_hw hw 255 rfl
  have tw256 := own_hw hw 256 rfl
  have tw257 := own_hw hw 257 rfl
  have tw258 := own_hw hw 258 rfl
  have tw259 := own_hw hw 259 rfl
  show Goes p e below (Pq (Q_num Z a1 w kw N bs p1 nv nn ps cs fm h0 n0) s rom32.cells rom32.slots) (s₁.setTop (entryFrame m #[(.ref a1), (.int p1), (.long nv)] 8))
  refine Goes.step (S' := s₁.setTop (mkF m 0 #[.val (.ref a1), .val (.int p1), .val (.long nv), .second, .unset, .unset, .unset, .unset] [])) (fun t k => castTop (ef_num m a1 p1 nv) k) ?_
  have c19 : ∀ (z : Int64) (i : Int32) (dd : Int32) (Tc19 : State) (locsc19 : List Loc)  (Xc19 : Stand p l e rom32 s m #[(.ref a1), (.int p1), (.long nv)] below meth c Tc19 locsc19 0 0) (ec19 : Tc19.heap = h0) (Nc19 : Fr n0 locsc19) (hz : z = negL nn) (hi : i = Int32.ofNat (ps + GetCharsL.sgnL nv)) (hd : dd = Int32.ofNat (digitsL nn)), Goes p e below (Pq (Q_num Z a1 w kw N bs p1 nv nn ps cs fm h0 n0) s rom32.cells rom32.slots) (Tc19.setTop (mkF m 832 #[.val (.ref a1), .val (.int p1), .val (.long nv), .second, .val (.long z), .second, .val (.int i), .val (.int dd)] [])) := by
    intro z i dd Tc19 locsc19 Xc19 ec19 Nc19 hz hi hd
    refine Goes.step (S' := Tc19.setTop (mkF m 836 #[.val (.ref a1), .val (.int p1), .val (.long nv), .second, .val (.long z), .second, .val (.int i), .val (.int dd)] [(.int (18 : Int32)), (.int dd)])) (fun t k => XS.iload Xc19.here hx rfl (hb hby dk820) rfl (XS.bipush Xc19.here hx rfl (hb hby dk821) k)) ?_
    by_cases hc101 : (18 : Int32) < dd
    case pos =>
      refine Goes.step (S' := Tc19.setTop (mkF m 850 #[.val (.ref a1), .val (.int p1), .val (.long nv), .second, .val (.long z), .second, .val (.int i), .val (.int dd)] [(.long z), (.int ((i + dd) - (19 : Int32))), (.ref a1)])) (fun t k => XS.icmpNo Xc19.here hx rfl (hb hby dk822) rfl (tlt hc101).2.2.2 (XS.aloadN Xc19.here hx rfl (hb hby dk823) rfl rfl (XS.iload Xc19.here hx rfl (hb hby dk824) rfl (XS.iload Xc19.here hx rfl (hb hby dk825) rfl (XS.iadd Xc19.here hx rfl (hb hby dk826) rfl (XS.bipush Xc19.here hx rfl (hb hby dk827) (XS.isub Xc19.here hx rfl (hb hby dk828) rfl (XS.lload Xc19.here hx rfl (hb hby dk829) rfl k)))))))) ?_
      refine Goes.step (S' := Tc19.setTop (mkF m 853 #[.val (.ref a1), .val (.int p1), .val (.long nv), .second, .val (.long z), .second, .val (.int i), .val (.int dd)] [(.long (1000000000000000000 : Int64)), (.long z), (.int ((i + dd) - (19 : Int32))), (.ref a1)])) (fun t k => Xc19.ldc2Long hx hown (mvT hZ tw259) (g := (mkF m 850 #[.val (.ref a1), .val (.int p1), .val (.long nv), .second, .val (.long z), .second, .val (.int i), .val (.int dd)] [(.long z), (.int ((i + dd) - (19 : Int32))), (.ref a1)])) rfl (hb hby dk830) _ k) ?_
      have ck := own_chk (k := 19) (P := 1000000000000000000) (kk := 19) (pp := 1000000000000000000) HA HI hi hd HNW HW HL (by decide) (own_kD (k := 18) hd (by decide) hc101) (by decide) hz (by decide) (by decide)
      obtain ⟨_, _, ⟨T102, L102, k102, n102⟩, -, X102, ⟨Lc102, hQ102, l102, y102, z102⟩, st102⟩ := Jvm.LawKit.callS Xc19 hx (y := mth37) hown (mvT hZ tw195) (mvT hZ tw196) (mvT hZ tw175) (mvT hZ tw197) (by decide) (backOf (W := 0) (dig l Z a0 hw [] a1 w kw N bs ((i + dd) - (19 : Int32)) (Int32.ofNat (48 + nn / 1000000000000000000 % 10)) z (1000000000000000000 : Int64) cs fm h0 n0 Z0 Es Fw Fx Vw SC (PC : ¬ (cs = (0 : Int32))) SF (HF : fm.isRef = true) ck.1 ck.2.1 ck.2.2.1 (own_yB nn 1000000000000000000).1 (own_yB nn 1000000000000000000).2 ck.2.2.2 (by decide)) hZ tw197 tw175 (by decide) (by decide)) (g := (mkF m 853 #[.val (.ref a1), .val (.int p1), .val (.long nv), .second, .val (.long z), .second, .val (.int i), .val (.int dd)] [(.long (1000000000000000000 : Int64)), (.long z), (.int ((i + dd) - (19 : Int32))), (.ref a1)])) rfl (by rw [hml]; rfl) (argsL := [(.ref a1), (.int ((i + dd) - (19 : Int32))), (.long z), (.long (1000000000000000000 : Int64))]) (rest := []) (lenOf pd_Ljava_lang_String_IJJ_Z rfl) rfl (Nat.le_of_eq rfl) (hb hby dk831) (fun _ _ => ⟨rfl, ec19, (by decide : 0 + 0 ≤ _), (by decide : 0 + 0 ≤ _)⟩)
      dsimp only [Pt.U, Pt.locs, Pt.cells, Pt.slots] at X102 l102 y102 z102 st102 hQ102
      subst y102 z102
      obtain ⟨rfl, Nq102, q102_0⟩ := hQ102
      have N102 : Fr n0 L102 := by rw [l102]; exact Fr.app Nc19 Nq102
      refine Goes.step (S' := T102.setTop (mkF m 866 #[.val (.ref a1), .val (.int p1), .val (.long nv), .second, .val (.long z), .second, .val (.int i), .val (.int dd)] [(.int (i + dd))])) (fun t k => st102 _ (XS.ifYes X102.here hx rfl (pc0 := 856) (pc' := 861) rfl (hb hby dk832) rfl ((if0 _ _).trans (feq ((by decide) : ¬ ((1 : Int32) = (0 : Int32)))).2) (by decide) (by decide) (XS.iload X102.here hx rfl (hb hby dk833) rfl (XS.iload X102.here hx rfl (hb hby dk834) rfl (XS.iadd X102.here hx rfl (hb hby dk835) rfl k))))) ?_
      refine Goes.leave (g := (mkF m 866 #[.val (.ref a1), .val (.int p1), .val (.long nv), .second, .val (.long z), .second, .val (.int i), .val (.int dd)] [(.int (i + dd))])) X102 Bd.notSynchronized (v := (some (.int (i + dd)))) (fun h => by rw [Bd.returns] at h; cases h) (fun fs hr => retI X102 hx Bd.returns (hb hby dk836) hr) q102_0 ?_ (by decide) (by decide)
      exact ⟨(i + dd), rfl, N102, rfl, (own_res hi hd), (own_resB (own_res hi hd) HNW HW HL).1, (own_resB (own_res hi hd) HNW HW HL).2⟩
    case neg =>
      refine Goes.step (S' := Tc19.setTop (mkF m 866 #[.val (.ref a1), .val (.int p1), .val (.long nv), .second, .val (.long z), .second, .val (.int i), .val (.int dd)] [(.int (i + dd))])) (fun t k => XS.icmpYes Xc19.here hx rfl (pc0 := 836) (pc' := 861) rfl (hb hby dk822) rfl (flt hc101).2.2.2 (by decide) (by decide) (XS.iload Xc19.here hx rfl (hb hby dk833) rfl (XS.iload Xc19.here hx rfl (hb hby dk834) rfl (XS.iadd Xc19.here hx rfl (hb hby dk835) rfl k)))) ?_
      refine Goes.leave (g := (mkF m 866 #[.val (.ref a1), .val (.int p1), .val (.long nv), .second, .val (.long z), .second, .val (.int i), .val (.int dd)] [(.int (i + dd))])) Xc19 Bd.notSynchronized (v := (some (.int (i + dd)))) (fun h => by rw [Bd.returns] at h; cases h) (fun fs hr => retI Xc19 hx Bd.returns (hb hby dk836) hr) ec19 ?_ (by decide) (by decide)
      exact ⟨(i + dd), rfl, Nc19, rfl, (own_res hi hd), (own_resB (own_res hi hd) HNW HW HL).1, (own_resB (own_res hi hd) HNW HW HL).2⟩
  have c18 : ∀ (z : Int64) (i : Int32) (dd : Int32) (Tc18 : State) (locsc18 : List Loc)  (Xc18 : Stand p l e rom32 s m #[(.ref a1), (.int p1), (.long nv)] below meth c Tc18 locsc18 0 0) (ec18 : Tc18.heap = h0) (Nc18 : Fr n0 locsc18) (hz : z = negL nn) (hi : i = Int32.ofNat (ps + GetCharsL.sgnL nv)) (hd : dd = Int32.ofNat (digitsL nn)), Goes p e below (Pq (Q_num Z a1 w kw N bs p1 nv nn ps cs fm h0 n0) s rom32.cells rom32.slots) (Tc18.setTop (mkF m 803 #[.val (.ref a1), .val (.int p1), .val (.long nv), .second, .val (.long z), .second, .val (.int i), .val (.int dd)] [])) := by
    intro z i dd Tc18 locsc18 Xc18 ec18 Nc18 hz hi hd
    refine Goes.step (S' := Tc18.setTop (mkF m 807 #[.val (.ref a1), .val (.int p1), .val (.long nv), .second, .val (.long z), .second, .val (.int i), .val (.int dd)] [(.int (17 : Int32)), (.int dd)])) (fun t k => XS.iload Xc18.here hx rfl (hb hby dk807) rfl (XS.bipush Xc18.here hx rfl (hb hby dk808) k)) ?_
    by_cases hc103 : (17 : Int32) < dd
    case pos =>
      refine Goes.step (S' := Tc18.setTop (mkF m 821 #[.val (.ref a1), .val (.int p1), .val (.long nv), .second, .val (.long z), .second, .val (.int i), .val (.int dd)] [(.long z), (.int ((i + dd) - (18 : Int32))), (.ref a1)])) (fun t k => XS.icmpNo Xc18.here hx rfl (hb hby dk809) rfl (tlt hc103).2.2.2 (XS.aloadN Xc18.here hx rfl (hb hby dk810) rfl rfl (XS.iload Xc18.here hx rfl (hb hby dk811) rfl (XS.iload Xc18.here hx rfl (hb hby dk812) rfl (XS.iadd Xc18.here hx rfl (hb hby dk813) rfl (XS.bipush Xc18.here hx rfl (hb hby dk814) (XS.isub Xc18.here hx rfl (hb hby dk815) rfl (XS.lload Xc18.here hx rfl (hb hby dk816) rfl k)))))))) ?_
      refine Goes.step (S' := Tc18.setTop (mkF m 824 #[.val (.ref a1), .val (.int p1), .val (.long nv), .second, .val (.long z), .second, .val (.int i), .val (.int dd)] [(.long (100000000000000000 : Int64)), (.long z), (.int ((i + dd) - (18 : Int32))), (.ref a1)])) (fun t k => Xc18.ldc2Long hx hown (mvT hZ tw258) (g := (mkF m 821 #[.val (.ref a1), .val (.int p1), .val (.long nv), .second, .val (.long z), .second, .val (.int i), .val (.int dd)] [(.long z), (.int ((i + dd) - (18 : Int32))), (.ref a1)])) rfl (hb hby dk817) _ k) ?_
      have ck := own_chk (k := 18) (P := 100000000000000000) (kk := 18) (pp := 100000000000000000) HA HI hi hd HNW HW HL (by decide) (own_kD (k := 17) hd (by decide) hc103) (by decide) hz (by decide) (by decide)
      obtain ⟨_, _, ⟨T104, L104, k104, n104⟩, -, X104, ⟨Lc104, hQ104, l104, y104, z104⟩, st104⟩ := Jvm.LawKit.callS Xc18 hx (y := mth37) hown (mvT hZ tw195) (mvT hZ tw196) (mvT hZ tw175) (mvT hZ tw197) (by decide) (backOf (W := 0) (dig l Z a0 hw [] a1 w kw N bs ((i + dd) - (18 : Int32)) (Int32.ofNat (48 + nn / 100000000000000000 % 10)) z (100000000000000000 : Int64) cs fm h0 n0 Z0 Es Fw Fx Vw SC (PC : ¬ (cs = (0 : Int32))) SF (HF : fm.isRef = true) ck.1 ck.2.1 ck.2.2.1 (own_yB nn 100000000000000000).1 (own_yB nn 100000000000000000).2 ck.2.2.2 (by decide)) hZ tw197 tw175 (by decide) (by decide)) (g := (mkF m 824 #[.val (.ref a1), .val (.int p1), .val (.long nv), .second, .val (.long z), .second, .val (.int i), .val (.int dd)] [(.long (100000000000000000 : Int64)), (.long z), (.int ((i + dd) - (18 : Int32))), (.ref a1)])) rfl (by rw [hml]; rfl) (argsL := [(.ref a1), (.int ((i + dd) - (18 : Int32))), (.long z), (.long (100000000000000000 : Int64))]) (rest := []) (lenOf pd_Ljava_lang_String_IJJ_Z rfl) rfl (Nat.le_of_eq rfl) (hb hby dk818) (fun _ _ => ⟨rfl, ec18, (by decide : 0 + 0 ≤ _), (by decide : 0 + 0 ≤ _)⟩)
      dsimp only [Pt.U, Pt.locs, Pt.cells, Pt.slots] at X104 l104 y104 z104 st104 hQ104
      subst y104 z104
      obtain ⟨rfl, Nq104, q104_0⟩ := hQ104
      have N104 : Fr n0 L104 := by rw [l104]; exact Fr.app Nc18 Nq104
      refine Goes.step (S' := T104.setTop (mkF m 832 #[.val (.ref a1), .val (.int p1), .val (.long nv), .second, .val (.long z), .second, .val (.int i), .val (.int dd)] [])) (fun t k => st104 _ (XS.ifYes X104.here hx rfl (pc0 := 827) (pc' := 832) rfl (hb hby dk819) rfl ((if0 _ _).trans (feq ((by decide) : ¬ ((1 : Int32) = (0 : Int32)))).2) (by decide) (by decide) k)) ?_
      exact c19 z i dd T104 _ X104 q104_0 N104 hz hi hd
    case neg =>
      refine Goes.step (S' := Tc18.setTop (mkF m 832 #[.val (.ref a1), .val (.int p1), .val (.long nv), .second, .val (.long z), .second, .val (.int i), .val (.int dd)] [])) (fun t k => XS.icmpYes Xc18.here hx rfl (pc0 := 807) (pc' := 832) rfl (hb hby dk809) rfl (flt hc103).2.2.2 (by decide) (by decide) k) ?_
      exact c19 z i dd Tc18 _ Xc18 ec18 Nc18 hz hi hd
  have c17 : ∀ (z : Int64) (i : Int32) (dd : Int32) (Tc17 : State) (locsc17 : List Loc)  (Xc17 : Stand p l e rom32 s m #[(.ref a1), (.int p1), (.long nv)] below meth c Tc17 locsc17 0 0) (ec17 : Tc17.heap = h0) (Nc17 : Fr n0 locsc17) (hz : z = negL nn) (hi : i = Int32.ofNat (ps + GetCharsL.sgnL nv)) (hd : dd = Int32.ofNat (digitsL nn)), Goes p e below (Pq (Q_num Z a1 w kw N bs p1 nv nn ps cs fm h0 n0) s rom32.cells rom32.slots) (Tc17.setTop (mkF m 774 #[.val (.ref a1), .val (.int p1), .val (.long nv), .second, .val (.long z), .second, .val (.int i), .val (.int dd)] [])) := by
    intro z i dd Tc17 locsc17 Xc17 ec17 Nc17 hz hi hd
    refine Goes.step (S' := Tc17.setTop (mkF m 778 #[.val (.ref a1), .val (.int p1), .val (.long nv), .second, .val (.long z), .second, .val (.int i), .val (.int dd)] [(.int (16 : Int32)), (.int dd)])) (fun t k => XS.iload Xc17.here hx rfl (hb hby dk794) rfl (XS.bipush Xc17.here hx rfl (hb hby dk795) k)) ?_
    by_cases hc105 : (16 : Int32) < dd
    case pos =>
      refine Goes.step (S' := Tc17.setTop (mkF m 792 #[.val (.ref a1), .val (.int p1), .val (.long nv), .second, .val (.long z), .second, .val (.int i), .val (.int dd)] [(.long z), (.int ((i + dd) - (17 : Int32))), (.ref a1)])) (fun t k => XS.icmpNo Xc17.here hx rfl (hb hby dk796) rfl (tlt hc105).2.2.2 (XS.aloadN Xc17.here hx rfl (hb hby dk797) rfl rfl (XS.iload Xc17.here hx rfl (hb hby dk798) rfl (XS.iload Xc17.here hx rfl (hb hby dk799) rfl (XS.iadd Xc17.here hx rfl (hb hby dk800) rfl (XS.bipush Xc17.here hx rfl (hb hby dk801) (XS.isub Xc17.here hx rfl (hb hby dk802) rfl (XS.lload Xc17.here hx rfl (hb hby dk803) rfl k)))))))) ?_
      refine Goes.step (S' := Tc17.setTop (mkF m 795 #[.val (.ref a1), .val (.int p1), .val (.long nv), .second, .val (.long z), .second, .val (.int i), .val (.int dd)] [(.long (10000000000000000 : Int64)), (.long z), (.int ((i + dd) - (17 : Int32))), (.ref a1)])) (fun t k => Xc17.ldc2Long hx hown (mvT hZ tw257) (g := (mkF m 792 #[.val (.ref a1), .val (.int p1), .val (.long nv), .second, .val (.long z), .second, .val (.int i), .val (.int dd)] [(.long z), (.int ((i + dd) - (17 : Int32))), (.ref a1)])) rfl (hb hby dk804) _ k) ?_
      have ck := own_chk (k := 17) (P := 10000000000000000) (kk := 17) (pp := 10000000000000000) HA HI hi hd HNW HW HL (by decide) (own_kD (k := 16) hd (by decide) hc105) (by decide) hz (by decide) (by decide)
      obtain ⟨_, _, ⟨T106, L106, k106, n106⟩, -, X106, ⟨Lc106, hQ106, l106, y106, z106⟩, st106⟩ := Jvm.LawKit.callS Xc17 hx (y := mth37) hown (mvT hZ tw195) (mvT hZ tw196) (mvT hZ tw175) (mvT hZ tw197) (by decide) (backOf (W := 0) (dig l Z a0 hw [] a1 w kw N bs ((i + dd) - (17 : Int32)) (Int32.ofNat (48 + nn / 10000000000000000 % 10)) z (10000000000000000 : Int64) cs fm h0 n0 Z0 Es Fw Fx Vw SC (PC : ¬ (cs = (0 : Int32))) SF (HF : fm.isRef = true) ck.1 ck.2.1 ck.2.2.1 (own_yB nn 10000000000000000).1 (own_yB nn 10000000000000000).2 ck.2.2.2 (by decide)) hZ tw197 tw175 (by decide) (by decide)) (g := (mkF m 795 #[.val (.ref a1), .val (.int p1), .val (.long nv), .second, .val (.long z), .second, .val (.int i), .val (.int dd)] [(.long (10000000000000000 : Int64)), (.long z), (.int ((i + dd) - (17 : Int32))), (.ref a1)])) rfl (by rw [hml]; rfl) (argsL := [(.ref a1), (.int ((i + dd) - (17 : Int32))), (.long z), (.long (10000000000000000 : Int64))]) (rest := []) (lenOf pd_Ljava_lang_String_IJJ_Z rfl) rfl (Nat.le_of_eq rfl) (hb hby dk805) (fun _ _ => ⟨rfl, ec17, (by decide : 0 + 0 ≤ _), (by decide : 0 + 0 ≤ _)⟩)
      dsimp only [Pt.U, Pt.locs, Pt.cells, Pt.slots] at X106 l106 y106 z106 st106 hQ106
      subst y106 z106
      obtain ⟨rfl, Nq106, q106_0⟩ := hQ106
      have N106 : Fr n0 L106 := by rw [l106]; exact Fr.app Nc17 Nq106
      refine Goes.step (S' := T106.setTop (mkF m 803 #[.val (.ref a1), .val (.int p1), .val (.long nv), .second, .val (.long z), .second, .val (.int i), .val (.int dd)] [])) (fun t k => st106 _ (XS.ifYes X106.here hx rfl (pc0 := 798) (pc' := 803) rfl (hb hby dk806) rfl ((if0 _ _).trans (feq ((by decide) : ¬ ((1 : Int32) = (0 : Int32)))).2) (by decide) (by decide) k)) ?_
      exact c18 z i dd T106 _ X106 q106_0 N106 hz hi hd
    case neg =>
      refine Goes.step (S' := Tc17.setTop (mkF m 803 #[.val (.ref a1), .val (.int p1), .val (.long nv), .second, .val (.long z), .second, .val (.int i), .val (.int dd)] [])) (fun t k => XS.icmpYes Xc17.here hx rfl (pc0 := 778) (pc' := 803) rfl (hb hby dk796) rfl (flt hc105).2.2.2 (by decide) (by decide) k) ?_
      exact c18 z i dd Tc17 _ Xc17 ec17 Nc17 hz hi hd
  have c16 : ∀ (z : Int64) (i : Int32) (dd : Int32) (Tc16 : State) (locsc16 : List Loc)  (Xc16 : Stand p l e rom32 s m #[(.ref a1), (.int p1), (.long nv)] below meth c Tc16 locsc16 0 0) (ec16 : Tc16.heap = h0) (Nc16 : Fr n0 locsc16) (hz : z = negL nn) (hi : i = Int32.ofNat (ps + GetCharsL.sgnL nv)) (hd : dd = Int32.ofNat (digitsL nn)), Goes p e below (Pq (Q_num Z a1 w kw N bs p1 nv nn ps cs fm h0 n0) s rom32.cells rom32.slots) (Tc16.setTop (mkF m 745 #[.val (.ref a1), .val (.int p1), .val (.long nv), .second, .val (.long z), .second, .val (.int i), .val (.int dd)] [])) := by
    intro z i dd Tc16 locsc16 Xc16 ec16 Nc16 hz hi hd
    refine Goes.step (S' := Tc16.setTop (mkF m 749 #[.val (.ref a1), .val (.int p1), .val (.long nv), .second, .val (.long z), .second, .val (.int i), .val (.int dd)] [(.int (15 : Int32)), (.int dd)])) (fun t k => XS.iload Xc16.here hx rfl (hb hby dk781) rfl (XS.bipush Xc16.here hx rfl (hb hby dk782) k)) ?_
    by_cases hc107 : (15 : Int32) < dd
    case pos =>
      refine Goes.step (S' := Tc16.setTop (mkF m 763 #[.val (.ref a1), .val (.int p1), .val (.long nv), .second, .val (.long z), .second, .val (.int i), .val (.int dd)] [(.long z), (.int ((i + dd) - (16 : Int32))), (.ref a1)])) (fun t k => XS.icmpNo Xc16.here hx rfl (hb hby dk783) rfl (tlt hc107).2.2.2 (XS.aloadN Xc16.here hx rfl (hb hby dk784) rfl rfl (XS.iload Xc16.here hx rfl (hb hby dk785) rfl (XS.iload Xc16.here hx rfl (hb hby dk786) rfl (XS.iadd Xc16.here hx rfl (hb hby dk787) rfl (XS.bipush Xc16.here hx rfl (hb hby dk788) (XS.isub Xc16.here hx rfl (hb hby dk789) rfl (XS.lload Xc16.here hx rfl (hb hby dk790) rfl k)))))))) ?_
      refine Goes.step (S' := Tc16.setTop (mkF m 766 #[.val (.ref a1), .val (.int p1), .val (.long nv), .second, .val (.long z), .second, .val (.int i), .val (.int dd)] [(.long (1000000000000000 : Int64)), (.long z), (.int ((i + dd) - (16 : Int32))), (.ref a1)])) (fun t k => Xc16.ldc2Long hx hown (mvT hZ tw256) (g := (mkF m 763 #[.val (.ref a1), .val (.int p1), .val (.long nv), .second, .val (.long z), .second, .val (.int i), .val (.int dd)] [(.long z), (.int ((i + dd) - (16 : Int32))), (.ref a1)])) rfl (hb hby dk791) _ k) ?_
      have ck := own_chk (k := 16) (P := 1000000000000000) (kk := 16) (pp := 1000000000000000) HA HI hi hd HNW HW HL (by decide) (own_kD (k := 15) hd (by decide) hc107) (by decide) hz (by decide) (by decide)
      obtain ⟨_, _, ⟨T108, L108, k108, n108⟩, -, X108, ⟨Lc108, hQ108, l108, y108, z108⟩, st108⟩ := Jvm.LawKit.callS Xc16 hx (y := mth37) hown (mvT hZ tw195) (mvT hZ tw196) (mvT hZ tw175) (mvT hZ tw197) (by decide) (backOf (W := 0) (dig l Z a0 hw [] a1 w kw N bs ((i + dd) - (16 : Int32)) (Int32.ofNat (48 + nn / 1000000000000000 % 10)) z (1000000000000000 : Int64) cs fm h0 n0 Z0 Es Fw Fx Vw SC (PC : ¬ (cs = (0 : Int32))) SF (HF : fm.isRef = true) ck.1 ck.2.1 ck.2.2.1 (own_yB nn 1000000000000000).1 (own_yB nn 1000000000000000).2 ck.2.2.2 (by decide)) hZ tw197 tw175 (by decide) (by decide)) (g := (mkF m 766 #[.val (.ref a1), .val (.int p1), .val (.long nv), .second, .val (.long z), .second, .val (.int i), .val (.int dd)] [(.long (1000000000000000 : Int64)), (.long z), (.int ((i + dd) - (16 : Int32))), (.ref a1)])) rfl (by rw [hml]; rfl) (argsL := [(.ref a1), (.int ((i + dd) - (16 : Int32))), (.long z), (.long (1000000000000000 : Int64))]) (rest := []) (lenOf pd_Ljava_lang_String_IJJ_Z rfl) rfl (Nat.le_of_eq rfl) (hb hby dk792) (fun _ _ => ⟨rfl, ec16, (by decide : 0 + 0 ≤ _), (by decide : 0 + 0 ≤ _)⟩)
      dsimp only [Pt.U, Pt.locs, Pt.cells, Pt.slots] at X108 l108 y108 z108 st108 hQ108
      subst y108 z108
      obtain ⟨rfl, Nq108, q108_0⟩ := hQ108
      have N108 : Fr n0 L108 := by rw [l108]; exact Fr.app Nc16 Nq108
      refine Goes.step (S' := T108.setTop (mkF m 774 #[.val (.ref a1), .val (.int p1), .val (.long nv), .second, .val (.long z), .second, .val (.int i), .val (.int dd)] [])) (fun t k => st108 _ (XS.ifYes X108.here hx rfl (pc0 := 769) (pc' := 774) rfl (hb hby dk793) rfl ((if0 _ _).trans (feq ((by decide) : ¬ ((1 : Int32) = (0 : Int32)))).2) (by decide) (by decide) k)) ?_
      exact c17 z i dd T108 _ X108 q108_0 N108 hz hi hd
    case neg =>
      refine Goes.step (S' := Tc16.setTop (mkF m 774 #[.val (.ref a1), .val (.int p1), .val (.long nv), .second, .val (.long z), .second, .val (.int i), .val (.int dd)] [])) (fun t k => XS.icmpYes Xc16.here hx rfl (pc0 := 749) (pc' := 774) rfl (hb hby dk783) rfl (flt hc107).2.2.2 (by decide) (by decide) k) ?_
      exact c17 z i dd Tc16 _ Xc16 ec16 Nc16 hz hi hd
  have c15 : ∀ (z : Int64) (i : Int32) (dd : Int32) (Tc15 : State) (locsc15 : List Loc)  (Xc15 : Stand p l e rom32 s m #[(.ref a1), (.int p1), (.long nv)] below meth c Tc15 locsc15 0 0) (ec15 : Tc15.heap = h0) (Nc15 : Fr n0 locsc15) (hz : z = negL nn) (hi : i = Int32.ofNat (ps + GetCharsL.sgnL nv)) (hd : dd = Int32.ofNat (digitsL nn)), Goes p e below (Pq (Q_num Z a1 w kw N bs p1 nv nn ps cs fm h0 n0) s rom32.cells rom32.slots) (Tc15.setTop (mkF m 716 #[.val (.ref a1), .val (.int p1), .val (.long nv), .second, .val (.long z), .second, .val (.int i), .val (.int dd)] [])) := by
    intro z i dd Tc15 locsc15 Xc15 ec15 Nc15 hz hi hd
    refine Goes.step (S' := Tc15.setTop (mkF m 720 #[.val (.ref a1), .val (.int p1), .val (.long nv), .second, .val (.long z), .second, .val (.int i), .val (.int dd)] [(.int (14 : Int32)), (.int dd)])) (fun t k => XS.iload Xc15.here hx rfl (hb hby dk768) rfl (XS.bipush Xc15.here hx rfl (hb hby dk769) k)) ?_
    by_cases hc109 : (14 : Int32) < dd
    case pos =>
      refine Goes.step (S' := Tc15.setTop (mkF m 734 #[.val (.ref a1), .val (.int p1), .val (.long nv), .second, .val (.long z), .second, .val (.int i), .val (.int dd)] [(.long z), (.int ((i + dd) - (15 : Int32))), (.ref a1)])) (fun t k => XS.icmpNo Xc15.here hx rfl (hb hby dk770) rfl (tlt hc109).2.2.2 (XS.aloadN Xc15.here hx rfl (hb hby dk771) rfl rfl (XS.iload Xc15.here hx rfl (hb hby dk772) rfl (XS.iload Xc15.here hx rfl (hb hby dk773) rfl (XS.iadd Xc15.here hx rfl (hb hby dk774) rfl (XS.bipush Xc15.here hx rfl (hb hby dk775) (XS.isub Xc15.here hx rfl (hb hby dk776) rfl (XS.lload Xc15.here hx rfl (hb hby dk777) rfl k)))))))) ?_
      refine Goes.step (S' := Tc15.setTop (mkF m 737 #[.val (.ref a1), .val (.int p1), .val (.long nv), .second, .val (.long z), .second, .val (.int i), .val (.int dd)] [(.long (100000000000000 : Int64)), (.long z), (.int ((i + dd) - (15 : Int32))), (.ref a1)])) (fun t k => Xc15.ldc2Long hx hown (mvT hZ tw255) (g := (mkF m 734 #[.val (.ref a1), .val (.int p1), .val (.long nv), .second, .val (.long z), .second, .val (.int i), .val (.int dd)] [(.long z), (.int ((i + dd) - (15 : Int32))), (.ref a1)])) rfl (hb hby dk778) _ k) ?_
      have ck := own_chk (k := 15) (P := 100000000000000) (kk := 15) (pp := 100000000000000) HA HI hi hd HNW HW HL (by decide) (own_kD (k := 14) hd (by decide) hc109) (by decide) hz (by decide) (by decide)
      obtain ⟨_, _, ⟨T110, L110, k110, n110⟩, -, X110, ⟨Lc110, hQ110, l110, y110, z110⟩, st110⟩ := Jvm.LawKit.callS Xc15 hx (y := mth37) hown (mvT hZ tw195) (mvT hZ tw196) (mvT hZ tw175) (mvT hZ tw197) (by decide) (backOf (W := 0) (dig l Z a0 hw [] a1 w kw N bs ((i + dd) - (15 : Int32)) (Int32.ofNat (48 + nn / 100000000000000 % 10)) z (100000000000000 : Int64) cs fm h0 n0 Z0 Es Fw Fx Vw SC (PC : ¬ (cs = (0 : Int32))) SF (HF : fm.isRef = true) ck.1 ck.2.1 ck.2.2.1 (own_yB nn 100000000000000).1 (own_yB nn 100000000000000).2 ck.2.2.2 (by decide)) hZ tw197 tw175 (by decide) (by decide)) (g := (mkF m 737 #[.val (.ref a1), .val (.int p1), .val (.long nv), .second, .val (.long z), .second, .val (.int i), .val (.int dd)] [(.long (100000000000000 : Int64)), (.long z), (.int ((i + dd) - (15 : Int32))), (.ref a1)])) rfl (by rw [hml]; rfl) (argsL := [(.ref a1), (.int ((i + dd) - (15 : Int32))), (.long z), (.long (100000000000000 : Int64))]) (rest := []) (lenOf pd_Ljava_lang_String_IJJ_Z rfl) rfl (Nat.le_of_eq rfl) (hb hby dk779) (fun _ _ => ⟨rfl, ec15, (by decide : 0 + 0 ≤ _), (by decide : 0 + 0 ≤ _)⟩)
      dsimp only [Pt.U, Pt.locs, Pt.cells, Pt.slots] at X110 l110 y110 z110 st110 hQ110
      subst y110 z110
      obtain ⟨rfl, Nq110, q110_0⟩ := hQ110
      have N110 : Fr n0 L110 := by rw [l110]; exact Fr.app Nc15 Nq110
      refine Goes.step (S' := T110.setTop (mkF m 745 #[.val (.ref a1), .val (.int p1), .val (.long nv), .second, .val (.long z), .second, .val (.int i), .val (.int dd)] [])) (fun t k => st110 _ (XS.ifYes X110.here hx rfl (pc0 := 740) (pc' := 745) rfl (hb hby dk780) rfl ((if0 _ _).trans (feq ((by decide) : ¬ ((1 : Int32) = (0 : Int32)))).2) (by decide) (by decide) k)) ?_
      exact c16 z i dd T110 _ X110 q110_0 N110 hz hi hd
    case neg =>
      refine Goes.step (S' := Tc15.setTop (mkF m 745 #[.val (.ref a1), .val (.int p1), .val (.long nv), .second, .val (.long z), .second, .val (.int i), .val (.int dd)] [])) (fun t k => XS.icmpYes Xc15.here hx rfl (pc0 := 720) (pc' := 745) rfl (hb hby dk770) rfl (flt hc109).2.2.2 (by decide) (by decide) k) ?_
      exact c16 z i dd Tc15 _ Xc15 ec15 Nc15 hz hi hd
  have c14 : ∀ (z : Int64) (i : Int32) (dd : Int32) (Tc14 : State) (locsc14 : List Loc)  (Xc14 : Stand p l e rom32 s m #[(.ref a1), (.int p1), (.long nv)] below meth c Tc14 locsc14 0 0) (ec14 : Tc14.heap = h0) (Nc14 : Fr n0 locsc14) (hz : z = negL nn) (hi : i = Int32.ofNat (ps + GetCharsL.sgnL nv)) (hd : dd = Int32.ofNat (digitsL nn)), Goes p e below (Pq (Q_num Z a1 w kw N bs p1 nv nn ps cs fm h0 n0) s rom32.cells rom32.slots) (Tc14.setTop (mkF m 687 #[.val (.ref a1), .val (.int p1), .val (.long nv), .second, .val (.long z), .second, .val (.int i), .val (.int dd)] [])) := by
    intro z i dd Tc14 locsc14 Xc14 ec14 Nc14 hz hi hd
    refine Goes.step (S' := Tc14.setTop (mkF m 691 #[.val (.ref a1), .val (.int p1), .val (.long nv), .second, .val (.long z), .second, .val (.int i), .val (.int dd)] [(.int (13 : Int32)), (.int dd)])) (fun t k => XS.iload Xc14.here hx rfl (hb hby dk755) rfl (XS.bipush Xc14.here hx rfl (hb hby dk756) k)) ?_
    by_cases hc111 : (13 : Int32) < dd
    case pos =>
      refine Goes.step (S' := Tc14.setTop (mkF m 705 #[.val (.ref a1), .val (.int p1), .val (.long nv), .second, .val (.long z), .second, .val (.int i), .val (.int dd)] [(.long z), (.int ((i + dd) - (14 : Int32))), (.ref a1)])) (fun t k => XS.icmpNo Xc14.here hx rfl (hb hby dk757) rfl (tlt hc111).2.2.2 (XS.aloadN Xc14.here hx rfl (hb hby dk758) rfl rfl (XS.iload Xc14.here hx rfl (hb hby dk759) rfl (XS.iload Xc14.here hx rfl (hb hby dk760) rfl (XS.iadd Xc14.here hx rfl (hb hby dk761) rfl (XS.bipush Xc14.here hx rfl (hb hby dk762) (XS.isub Xc14.here hx rfl (hb hby dk763) rfl (XS.lload Xc14.here hx rfl (hb hby dk764) rfl k)))))))) ?_
      refine Goes.step (S' := Tc14.setTop (mkF m 708 #[.val (.ref a1), .val (.int p1), .val (.long nv), .second, .val (.long z), .second, .val (.int i), .val (.int dd)] [(.long (10000000000000 : Int64)), (.long z), (.int ((i + dd) - (14 : Int32))), (.ref a1)])) (fun t k => Xc14.ldc2Long hx hown (mvT hZ tw254) (g := (mkF m 705 #[.val (.ref a1), .val (.int p1), .val (.long nv), .second, .val (.long z), .second, .val (.int i), .val (.int dd)] [(.long z), (.int ((i + dd) - (14 : Int32))), (.ref a1)])) rfl (hb hby dk765) _ k) ?_
      have ck := own_chk (k := 14) (P := 10000000000000) (kk := 14) (pp := 10000000000000) HA HI hi hd HNW HW HL (by decide) (own_kD (k := 13) hd (by decide) hc111) (by decide) hz (by decide) (by decide)
      obtain ⟨_, _, ⟨T112, L112, k112, n112⟩, -, X112, ⟨Lc112, hQ112, l112, y112, z112⟩, st112⟩ := Jvm.LawKit.callS Xc14 hx (y := mth37) hown (mvT hZ tw195) (mvT hZ tw196) (mvT hZ tw175) (mvT hZ tw197) (by decide) (backOf (W := 0) (dig l Z a0 hw [] a1 w kw N bs ((i + dd) - (14 : Int32)) (Int32.ofNat (48 + nn / 10000000000000 % 10)) z (10000000000000 : Int64) cs fm h0 n0 Z0 Es Fw Fx Vw SC (PC : ¬ (cs = (0 : Int32))) SF (HF : fm.isRef = true) ck.1 ck.2.1 ck.2.2.1 (own_yB nn 10000000000000).1 (own_yB nn 10000000000000).2 ck.2.2.2 (by decide)) hZ tw197 tw175 (by decide) (by decide)) (g := (mkF m 708 #[.val (.ref a1), .val (.int p1), .val (.long nv), .second, .val (.long z), .second, .val (.int i), .val (.int dd)] [(.long (10000000000000 : Int64)), (.long z), (.int ((i + dd) - (14 : Int32))), (.ref a1)])) rfl (by rw [hml]; rfl) (argsL := [(.ref a1), (.int ((i + dd) - (14 : Int32))), (.long z), (.long (10000000000000 : Int64))]) (rest := []) (lenOf pd_Ljava_lang_String_IJJ_Z rfl) rfl (Nat.le_of_eq rfl) (hb hby dk766) (fun _ _ => ⟨rfl, ec14, (by decide : 0 + 0 ≤ _), (by decide : 0 + 0 ≤ _)⟩)
      dsimp only [Pt.U, Pt.locs, Pt.cells, Pt.slots] at X112 l112 y112 z112 st112 hQ112
      subst y112 z112
      obtain ⟨rfl, Nq112, q112_0⟩ := hQ112
      have N112 : Fr n0 L112 := by rw [l112]; exact Fr.app Nc14 Nq112
      refine Goes.step (S' := T112.setTop (mkF m 716 #[.val (.ref a1), .val (.int p1), .val (.long nv), .second, .val (.long z), .second, .val (.int i), .val (.int dd)] [])) (fun t k => st112 _ (XS.ifYes X112.here hx rfl (pc0 := 711) (pc' := 716) rfl (hb hby dk767) rfl ((if0 _ _).trans (feq ((by decide) : ¬ ((1 : Int32) = (0 : Int32)))).2) (by decide) (by decide) k)) ?_
      exact c15 z i dd T112 _ X112 q112_0 N112 hz hi hd
    case neg =>
      refine Goes.step (S' := Tc14.setTop (mkF m 716 #[.val (.ref a1), .val (.int p1), .val (.long nv), .second, .val (.long z), .second, .val (.int i), .val (.int dd)] [])) (fun t k => XS.icmpYes Xc14.here hx rfl (pc0 := 691) (pc' := 716) rfl (hb hby dk757) rfl (flt hc111).2.2.2 (by decide) (by decide) k) ?_
      exact c15 z i dd Tc14 _ Xc14 ec14 Nc14 hz hi hd
  have c13 : ∀ (z : Int64) (i : Int32) (dd : Int32) (Tc13 : State) (locsc13 : List Loc)  (Xc13 : Stand p l e rom32 s m #[(.ref a1), (.int p1), (.long nv)] below meth c Tc13 locsc13 0 0) (ec13 : Tc13.heap = h0) (Nc13 : Fr n0 locsc13) (hz : z = negL nn) (hi : i = Int32.ofNat (ps + GetCharsL.sgnL nv)) (hd : dd = Int32.ofNat (digitsL nn)), Goes p e below (Pq (Q_num Z a1 w kw N bs p1 nv nn ps cs fm h0 n0) s rom32.cells rom32.slots) (Tc13.setTop (mkF m 658 #[.val (.ref a1), .val (.int p1), .val (.long nv), .second, .val (.long z), .second, .val (.int i), .val (.int dd)] [])) := by
    intro z i dd Tc13 locsc13 Xc13 ec13 Nc13 hz hi hd
    refine Goes.step (S' := Tc13.setTop (mkF m 662 #[.val (.ref a1), .val (.int p1), .val (.long nv), .second, .val (.long z), .second, .val (.int i), .val (.int dd)] [(.int (12 : Int32)), (.int dd)])) (fun t k => XS.iload Xc13.here hx rfl (hb hby dk742) rfl (XS.bipush Xc13.here hx rfl (hb hby dk743) k)) ?_
    by_cases hc113 : (12 : Int32) < dd
    case pos =>
      refine Goes.step (S' := Tc13.setTop (mkF m 676 #[.val (.ref a1), .val (.int p1), .val (.long nv), .second, .val (.long z), .second, .val (.int i), .val (.int dd)] [(.long z), (.int ((i + dd) - (13 : Int32))), (.ref a1)])) (fun t k => XS.icmpNo Xc13.here hx rfl (hb hby dk744) rfl (tlt hc113).2.2.2 (XS.aloadN Xc13.here hx rfl (hb hby dk745) rfl rfl (XS.iload Xc13.here hx rfl (hb hby dk746) rfl (XS.iload Xc13.here hx rfl (hb hby dk747) rfl (XS.iadd Xc13.here hx rfl (hb hby dk748) rfl (XS.bipush Xc13.here hx rfl (hb hby dk749) (XS.isub Xc13.here hx rfl (hb hby dk750) rfl (XS.lload Xc13.here hx rfl (hb hby dk751) rfl k)))))))) ?_
      refine Goes.step (S' := Tc13.setTop (mkF m 679 #[.val (.ref a1), .val (.int p1), .val (.long nv), .second, .val (.long z), .second, .val (.int i), .val (.int dd)] [(.long (1000000000000 : Int64)), (.long z), (.int ((i + dd) - (13 : Int32))), (.ref a1)])) (fun t k => Xc13.ldc2Long hx hown (mvT hZ tw253) (g := (mkF m 676 #[.val (.ref a1), .val (.int p1), .val (.long nv), .second, .val (.long z), .second, .val (.int i), .val (.int dd)] [(.long z), (.int ((i + dd) - (13 : Int32))), (.ref a1)])) rfl (hb hby dk752) _ k) ?_
      have ck := own_chk (k := 13) (P := 1000000000000) (kk := 13) (pp := 1000000000000) HA HI hi hd HNW HW HL (by decide) (own_kD (k := 12) hd (by decide) hc113) (by decide) hz (by decide) (by decide)
      obtain ⟨_, _, ⟨T114, L114, k114, n114⟩, -, X114, ⟨Lc114, hQ114, l114, y114, z114⟩, st114⟩ := Jvm.LawKit.callS Xc13 hx (y := mth37) hown (mvT hZ tw195) (mvT hZ tw196) (mvT hZ tw175) (mvT hZ tw197) (by decide) (backOf (W := 0) (dig l Z a0 hw [] a1 w kw N bs ((i + dd) - (13 : Int32)) (Int32.ofNat (48 + nn / 1000000000000 % 10)) z (1000000000000 : Int64) cs fm h0 n0 Z0 Es Fw Fx Vw SC (PC : ¬ (cs = (0 : Int32))) SF (HF : fm.isRef = true) ck.1 ck.2.1 ck.2.2.1 (own_yB nn 1000000000000).1 (own_yB nn 1000000000000).2 ck.2.2.2 (by decide)) hZ tw197 tw175 (by decide) (by decide)) (g := (mkF m 679 #[.val (.ref a1), .val (.int p1), .val (.long nv), .second, .val (.long z), .second, .val (.int i), .val (.int dd)] [(.long (1000000000000 : Int64)), (.long z), (.int ((i + dd) - (13 : Int32))), (.ref a1)])) rfl (by rw [hml]; rfl) (argsL := [(.ref a1), (.int ((i + dd) - (13 : Int32))), (.long z), (.long (1000000000000 : Int64))]) (rest := []) (lenOf pd_Ljava_lang_String_IJJ_Z rfl) rfl (Nat.le_of_eq rfl) (hb hby dk753) (fun _ _ => ⟨rfl, ec13, (by decide : 0 + 0 ≤ _), (by decide : 0 + 0 ≤ _)⟩)
      dsimp only [Pt.U, Pt.locs, Pt.cells, Pt.slots] at X114 l114 y114 z114 st114 hQ114
      subst y114 z114
      obtain ⟨rfl, Nq114, q114_0⟩ := hQ114
      have N114 : Fr n0 L114 := by rw [l114]; exact Fr.app Nc13 Nq114
      refine Goes.step (S' := T114.setTop (mkF m 687 #[.val (.ref a1), .val (.int p1), .val (.long nv), .second, .val (.long z), .second, .val (.int i), .val (.int dd)] [])) (fun t k => st114 _ (XS.ifYes X114.here hx rfl (pc0 := 682) (pc' := 687) rfl (hb hby dk754) rfl ((if0 _ _).trans (feq ((by decide) : ¬ ((1 : Int32) = (0 : Int32)))).2) (by decide) (by decide) k)) ?_
      exact c14 z i dd T114 _ X114 q114_0 N114 hz hi hd
    case neg =>
      refine Goes.step (S' := Tc13.setTop (mkF m 687 #[.val (.ref a1), .val (.int p1), .val (.long nv), .second, .val (.long z), .second, .val (.int i), .val (.int dd)] [])) (fun t k => XS.icmpYes Xc13.here hx rfl (pc0 := 662) (pc' := 687) rfl (hb hby dk744) rfl (flt hc113).2.2.2 (by decide) (by decide) k) ?_
      exact c14 z i dd Tc13 _ Xc13 ec13 Nc13 hz hi hd
  have c12 : ∀ (z : Int64) (i : Int32) (dd : Int32) (Tc12 : State) (locsc12 : List Loc)  (Xc12 : Stand p l e rom32 s m #[(.ref a1), (.int p1), (.long nv)] below meth c Tc12 locsc12 0 0) (ec12 : Tc12.heap = h0) (Nc12 : Fr n0 locsc12) (hz : z = negL nn) (hi : i = Int32.ofNat (ps + GetCharsL.sgnL nv)) (hd : dd = Int32.ofNat (digitsL nn)), Goes p e below (Pq (Q_num Z a1 w kw N bs p1 nv nn ps cs fm h0 n0) s rom32.cells rom32.slots) (Tc12.setTop (mkF m 629 #[.val (.ref a1), .val (.int p1), .val (.long nv), .second, .val (.long z), .second, .val (.int i), .val (.int dd)] [])) := by
    intro z i dd Tc12 locsc12 Xc12 ec12 Nc12 hz hi hd
    refine Goes.step (S' := Tc12.setTop (mkF m 633 #[.val (.ref a1), .val (.int p1), .val (.long nv), .second, .val (.long z), .second, .val (.int i), .val (.int dd)] [(.int (11 : Int32)), (.int dd)])) (fun t k => XS.iload Xc12.here hx rfl (hb hby dk729) rfl (XS.bipush Xc12.here hx rfl (hb hby dk730) k)) ?_
    by_cases hc115 : (11 : Int32) < dd
    case pos =>
      refine Goes.step (S' := Tc12.setTop (mkF m 647 #[.val (.ref a1), .val (.int p1), .val (.long nv), .second, .val (.long z), .second, .val (.int i), .val (.int dd)] [(.long z), (.int ((i + dd) - (12 : Int32))), (.ref a1)])) (fun t k => XS.icmpNo Xc12.here hx rfl (hb hby dk731) rfl (tlt hc115).2.2.2 (XS.aloadN Xc12.here hx rfl (hb hby dk732) rfl rfl (XS.iload Xc12.here hx rfl (hb hby dk733) rfl (XS.iload Xc12.here hx rfl (hb hby dk734) rfl (XS.iadd Xc12.here hx rfl (hb hby dk735) rfl (XS.bipush Xc12.here hx rfl (hb hby dk736) (XS.isub Xc12.here hx rfl (hb hby dk737) rfl (XS.lload Xc12.here hx rfl (hb hby dk738) rfl k)))))))) ?_
      refine Goes.step (S' := Tc12.setTop (mkF m 650 #[.val (.ref a1), .val (.int p1), .val (.long nv), .second, .val (.long z), .second, .val (.int i), .val (.int dd)] [(.long (100000000000 : Int64)), (.long z), (.int ((i + dd) - (12 : Int32))), (.ref a1)])) (fun t k => Xc12.ldc2Long hx hown (mvT hZ tw252) (g := (mkF m 647 #[.val (.ref a1), .val (.int p1), .val (.long nv), .second, .val (.long z), .second, .val (.int i), .val (.int dd)] [(.long z), (.int ((i + dd) - (12 : Int32))), (.ref a1)])) rfl (hb hby dk739) _ k) ?_
      have ck := own_chk (k := 12) (P := 100000000000) (kk := 12) (pp := 100000000000) HA HI hi hd HNW HW HL (by decide) (own_kD (k := 11) hd (by decide) hc115) (by decide) hz (by decide) (by decide)
      obtain ⟨_, _, ⟨T116, L116, k116, n116⟩, -, X116, ⟨Lc116, hQ116, l116, y116, z116⟩, st116⟩ := Jvm.LawKit.callS Xc12 hx (y := mth37) hown (mvT hZ tw195) (mvT hZ tw196) (mvT hZ tw175) (mvT hZ tw197) (by decide) (backOf (W := 0) (dig l Z a0 hw [] a1 w kw N bs ((i + dd) - (12 : Int32)) (Int32.ofNat (48 + nn / 100000000000 % 10)) z (100000000000 : Int64) cs fm h0 n0 Z0 Es Fw Fx Vw SC (PC : ¬ (cs = (0 : Int32))) SF (HF : fm.isRef = true) ck.1 ck.2.1 ck.2.2.1 (own_yB nn 100000000000).1 (own_yB nn 100000000000).2 ck.2.2.2 (by decide)) hZ tw197 tw175 (by decide) (by decide)) (g := (mkF m 650 #[.val (.ref a1), .val (.int p1), .val (.long nv), .second, .val (.long z), .second, .val (.int i), .val (.int dd)] [(.long (100000000000 : Int64)), (.long z), (.int ((i + dd) - (12 : Int32))), (.ref a1)])) rfl (by rw [hml]; rfl) (argsL := [(.ref a1), (.int ((i + dd) - (12 : Int32))), (.long z), (.long (100000000000 : Int64))]) (rest := []) (lenOf pd_Ljava_lang_String_IJJ_Z rfl) rfl (Nat.le_of_eq rfl) (hb hby dk740) (fun _ _ => ⟨rfl, ec12, (by decide : 0 + 0 ≤ _), (by decide : 0 + 0 ≤ _)⟩)
      dsimp only [Pt.U, Pt.locs, Pt.cells, Pt.slots] at X116 l116 y116 z116 st116 hQ116
      subst y116 z116
      obtain ⟨rfl, Nq116, q116_0⟩ := hQ116
      have N116 : Fr n0 L116 := by rw [l116]; exact Fr.app Nc12 Nq116
      refine Goes.step (S' := T116.setTop (mkF m 658 #[.val (.ref a1), .val (.int p1), .val (.long nv), .second, .val (.long z), .second, .val (.int i), .val (.int dd)] [])) (fun t k => st116 _ (XS.ifYes X116.here hx rfl (pc0 := 653) (pc' := 658) rfl (hb hby dk741) rfl ((if0 _ _).trans (feq ((by decide) : ¬ ((1 : Int32) = (0 : Int32)))).2) (by decide) (by decide) k)) ?_
      exact c13 z i dd T116 _ X116 q116_0 N116 hz hi hd
    case neg =>
      refine Goes.step (S' := Tc12.setTop (mkF m 658 #[.val (.ref a1), .val (.int p1), .val (.long nv), .second, .val (.long z), .second, .val (.int i), .val (.int dd)] [])) (fun t k => XS.icmpYes Xc12.here hx rfl (pc0 := 633) (pc' := 658) rfl (hb hby dk731) rfl (flt hc115).2.2.2 (by decide) (by decide) k) ?_
      exact c13 z i dd Tc12 _ Xc12 ec12 Nc12 hz hi hd
  have c11 : ∀ (z : Int64) (i : Int32) (dd : Int32) (Tc11 : State) (locsc11 : List Loc)  (Xc11 : Stand p l e rom32 s m #[(.ref a1), (.int p1), (.long nv)] below meth c Tc11 locsc11 0 0) (ec11 : Tc11.heap = h0) (Nc11 : Fr n0 locsc11) (hz : z = negL nn) (hi : i = Int32.ofNat (ps + GetCharsL.sgnL nv)) (hd : dd = Int32.ofNat (digitsL nn)), Goes p e below (Pq (Q_num Z a1 w kw N bs p1 nv nn ps cs fm h0 n0) s rom32.cells rom32.slots) (Tc11.setTop (mkF m 600 #[.val (.ref a1), .val (.int p1), .val (.long nv), .second, .val (.long z), .second, .val (.int i), .val (.int dd)] [])) := by
    intro z i dd Tc11 locsc11 Xc11 ec11 Nc11 hz hi hd
    refine Goes.step (S' := Tc11.setTop (mkF m 604 #[.val (.ref a1), .val (.int p1), .val (.long nv), .second, .val (.long z), .second, .val (.int i), .val (.int dd)] [(.int (10 : Int32)), (.int dd)])) (fun t k => XS.iload Xc11.here hx rfl (hb hby dk716) rfl (XS.bipush Xc11.here hx rfl (hb hby dk717) k)) ?_
    by_cases hc117 : (10 : Int32) < dd
    case pos =>
      refine Goes.step (S' := Tc11.setTop (mkF m 618 #[.val (.ref a1), .val (.int p1), .val (.long nv), .second, .val (.long z), .second, .val (.int i), .val (.int dd)] [(.long z), (.int ((i + dd) - (11 : Int32))), (.ref a1)])) (fun t k => XS.icmpNo Xc11.here hx rfl (hb hby dk718) rfl (tlt hc117).2.2.2 (XS.aloadN Xc11.here hx rfl (hb hby dk719) rfl rfl (XS.iload Xc11.here hx rfl (hb hby dk720) rfl (XS.iload Xc11.here hx rfl (hb hby dk721) rfl (XS.iadd Xc11.here hx rfl (hb hby dk722) rfl (XS.bipush Xc11.here hx rfl (hb hby dk723) (XS.isub Xc11.here hx rfl (hb hby dk724) rfl (XS.lload Xc11.here hx rfl (hb hby dk725) rfl k)))))))) ?_
      refine Goes.step (S' := Tc11.setTop (mkF m 621 #[.val (.ref a1), .val (.int p1), .val (.long nv), .second, .val (.long z), .second, .val (.int i), .val (.int dd)] [(.long (10000000000 : Int64)), (.long z), (.int ((i + dd) - (11 : Int32))), (.ref a1)])) (fun t k => Xc11.ldc2Long hx hown (mvT hZ tw251) (g := (mkF m 618 #[.val (.ref a1), .val (.int p1), .val (.long nv), .second, .val (.long z), .second, .val (.int i), .val (.int dd)] [(.long z), (.int ((i + dd) - (11 : Int32))), (.ref a1)])) rfl (hb hby dk726) _ k) ?_
      have ck := own_chk (k := 11) (P := 10000000000) (kk := 11) (pp := 10000000000) HA HI hi hd HNW HW HL (by decide) (own_kD (k := 10) hd (by decide) hc117) (by decide) hz (by decide) (by decide)
      obtain ⟨_, _, ⟨T118, L118, k118, n118⟩, -, X118, ⟨Lc118, hQ118, l118, y118, z118⟩, st118⟩ := Jvm.LawKit.callS Xc11 hx (y := mth37) hown (mvT hZ tw195) (mvT hZ tw196) (mvT hZ tw175) (mvT hZ tw197) (by decide) (backOf (W := 0) (dig l Z a0 hw [] a1 w kw N bs ((i + dd) - (11 : Int32)) (Int32.ofNat (48 + nn / 10000000000 % 10)) z (10000000000 : Int64) cs fm h0 n0 Z0 Es Fw Fx Vw SC (PC : ¬ (cs = (0 : Int32))) SF (HF : fm.isRef = true) ck.1 ck.2.1 ck.2.2.1 (own_yB nn 10000000000).1 (own_yB nn 10000000000).2 ck.2.2.2 (by decide)) hZ tw197 tw175 (by decide) (by decide)) (g := (mkF m 621 #[.val (.ref a1), .val (.int p1), .val (.long nv), .second, .val (.long z), .second, .val (.int i), .val (.int dd)] [(.long (10000000000 : Int64)), (.long z), (.int ((i + dd) - (11 : Int32))), (.ref a1)])) rfl (by rw [hml]; rfl) (argsL := [(.ref a1), (.int ((i + dd) - (11 : Int32))), (.long z), (.long (10000000000 : Int64))]) (rest := []) (lenOf pd_Ljava_lang_String_IJJ_Z rfl) rfl (Nat.le_of_eq rfl) (hb hby dk727) (fun _ _ => ⟨rfl, ec11, (by decide : 0 + 0 ≤ _), (by decide : 0 + 0 ≤ _)⟩)
      dsimp only [Pt.U, Pt.locs, Pt.cells, Pt.slots] at X118 l118 y118 z118 st118 hQ118
      subst y118 z118
      obtain ⟨rfl, Nq118, q118_0⟩ := hQ118
      have N118 : Fr n0 L118 := by rw [l118]; exact Fr.app Nc11 Nq118
      refine Goes.step (S' := T118.setTop (mkF m 629 #[.val (.ref a1), .val (.int p1), .val (.long nv), .second, .val (.long z), .second, .val (.int i), .val (.int dd)] [])) (fun t k => st118 _ (XS.ifYes X118.here hx rfl (pc0 := 624) (pc' := 629) rfl (hb hby dk728) rfl ((if0 _ _).trans (feq ((by decide) : ¬ ((1 : Int32) = (0 : Int32)))).2) (by decide) (by decide) k)) ?_
      exact c12 z i dd T118 _ X118 q118_0 N118 hz hi hd
    case neg =>
      refine Goes.step (S' := Tc11.setTop (mkF m 629 #[.val (.ref a1), .val (.int p1), .val (.long nv), .second, .val (.long z), .second, .val (.int i), .val (.int dd)] [])) (fun t k => XS.icmpYes Xc11.here hx rfl (pc0 := 604) (pc' := 629) rfl (hb hby dk718) rfl (flt hc117).2.2.2 (by decide) (by decide) k) ?_
      exact c12 z i dd Tc11 _ Xc11 ec11 Nc11 hz hi hd
  have c10 : ∀ (z : Int64) (i : Int32) (dd : Int32) (Tc10 : State) (locsc10 : List Loc)  (Xc10 : Stand p l e rom32 s m #[(.ref a1), (.int p1), (.long nv)] below meth c Tc10 locsc10 0 0) (ec10 : Tc10.heap = h0) (Nc10 : Fr n0 locsc10) (hz : z = negL nn) (hi : i = Int32.ofNat (ps + GetCharsL.sgnL nv)) (hd : dd = Int32.ofNat (digitsL nn)), Goes p e below (Pq (Q_num Z a1 w kw N bs p1 nv nn ps cs fm h0 n0) s rom32.cells rom32.slots) (Tc10.setTop (mkF m 571 #[.val (.ref a1), .val (.int p1), .val (.long nv), .second, .val (.long z), .second, .val (.int i), .val (.int dd)] [])) := by
    intro z i dd Tc10 locsc10 Xc10 ec10 Nc10 hz hi hd
    refine Goes.step (S' := Tc10.setTop (mkF m 575 #[.val (.ref a1), .val (.int p1), .val (.long nv), .second, .val (.long z), .second, .val (.int i), .val (.int dd)] [(.int (9 : Int32)), (.int dd)])) (fun t k => XS.iload Xc10.here hx rfl (hb hby dk703) rfl (XS.bipush Xc10.here hx rfl (hb hby dk704) k)) ?_
    by_cases hc119 : (9 : Int32) < dd
    case pos =>
      refine Goes.step (S' := Tc10.setTop (mkF m 589 #[.val (.ref a1), .val (.int p1), .val (.long nv), .second, .val (.long z), .second, .val (.int i), .val (.int dd)] [(.long z), (.int ((i + dd) - (10 : Int32))), (.ref a1)])) (fun t k => XS.icmpNo Xc10.here hx rfl (hb hby dk705) rfl (tlt hc119).2.2.2 (XS.aloadN Xc10.here hx rfl (hb hby dk706) rfl rfl (XS.iload Xc10.here hx rfl (hb hby dk707) rfl (XS.iload Xc10.here hx rfl (hb hby dk708) rfl (XS.iadd Xc10.here hx rfl (hb hby dk709) rfl (XS.bipush Xc10.here hx rfl (hb hby dk710) (XS.isub Xc10.here hx rfl (hb hby dk711) rfl (XS.lload Xc10.here hx rfl (hb hby dk712) rfl k)))))))) ?_
      refine Goes.step (S' := Tc10.setTop (mkF m 592 #[.val (.ref a1), .val (.int p1), .val (.long nv), .second, .val (.long z), .second, .val (.int i), .val (.int dd)] [(.long (1000000000 : Int64)), (.long z), (.int ((i + dd) - (10 : Int32))), (.ref a1)])) (fun t k => Xc10.ldc2Long hx hown (mvT hZ tw250) (g := (mkF m 589 #[.val (.ref a1), .val (.int p1), .val (.long nv), .second, .val (.long z), .second, .val (.int i), .val (.int dd)] [(.long z), (.int ((i + dd) - (10 : Int32))), (.ref a1)])) rfl (hb hby dk713) _ k) ?_
      have ck := own_chk (k := 10) (P := 1000000000) (kk := 10) (pp := 1000000000) HA HI hi hd HNW HW HL (by decide) (own_kD (k := 9) hd (by decide) hc119) (by decide) hz (by decide) (by decide)
      obtain ⟨_, _, ⟨T120, L120, k120, n120⟩, -, X120, ⟨Lc120, hQ120, l120, y120, z120⟩, st120⟩ := Jvm.LawKit.callS Xc10 hx (y := mth37) hown (mvT hZ tw195) (mvT hZ tw196) (mvT hZ tw175) (mvT hZ tw197) (by decide) (backOf (W := 0) (dig l Z a0 hw [] a1 w kw N bs ((i + dd) - (10 : Int32)) (Int32.ofNat (48 + nn / 1000000000 % 10)) z (1000000000 : Int64) cs fm h0 n0 Z0 Es Fw Fx Vw SC (PC : ¬ (cs = (0 : Int32))) SF (HF : fm.isRef = true) ck.1 ck.2.1 ck.2.2.1 (own_yB nn 1000000000).1 (own_yB nn 1000000000).2 ck.2.2.2 (by decide)) hZ tw197 tw175 (by decide) (by decide)) (g := (mkF m 592 #[.val (.ref a1), .val (.int p1), .val (.long nv), .second, .val (.long z), .second, .val (.int i), .val (.int dd)] [(.long (1000000000 : Int64)), (.long z), (.int ((i + dd) - (10 : Int32))), (.ref a1)])) rfl (by rw [hml]; rfl) (argsL := [(.ref a1), (.int ((i + dd) - (10 : Int32))), (.long z), (.long (1000000000 : Int64))]) (rest := []) (lenOf pd_Ljava_lang_String_IJJ_Z rfl) rfl (Nat.le_of_eq rfl) (hb hby dk714) (fun _ _ => ⟨rfl, ec10, (by decide : 0 + 0 ≤ _), (by decide : 0 + 0 ≤ _)⟩)
      dsimp only [Pt.U, Pt.locs, Pt.cells, Pt.slots] at X120 l120 y120 z120 st120 hQ120
      subst y120 z120
      obtain ⟨rfl, Nq120, q120_0⟩ := hQ120
      have N120 : Fr n0 L120 := by rw [l120]; exact Fr.app Nc10 Nq120
      refine Goes.step (S' := T120.setTop (mkF m 600 #[.val (.ref a1), .val (.int p1), .val (.long nv), .second, .val (.long z), .second, .val (.int i), .val (.int dd)] [])) (fun t k => st120 _ (XS.ifYes X120.here hx rfl (pc0 := 595) (pc' := 600) rfl (hb hby dk715) rfl ((if0 _ _).trans (feq ((by decide) : ¬ ((1 : Int32) = (0 : Int32)))).2) (by decide) (by decide) k)) ?_
      exact c11 z i dd T120 _ X120 q120_0 N120 hz hi hd
    case neg =>
      refine Goes.step (S' := Tc10.setTop (mkF m 600 #[.val (.ref a1), .val (.int p1), .val (.long nv), .second, .val (.long z), .second, .val (.int i), .val (.int dd)] [])) (fun t k => XS.icmpYes Xc10.here hx rfl (pc0 := 575) (pc' := 600) rfl (hb hby dk705) rfl (flt hc119).2.2.2 (by decide) (by decide) k) ?_
      exact c11 z i dd Tc10 _ Xc10 ec10 Nc10 hz hi hd
  have c9 : ∀ (z : Int64) (i : Int32) (dd : Int32) (Tc9 : State) (locsc9 : List Loc)  (Xc9 : Stand p l e rom32 s m #[(.ref a1), (.int p1), (.long nv)] below meth c Tc9 locsc9 0 0) (ec9 : Tc9.heap = h0) (Nc9 : Fr n0 locsc9) (hz : z = negL nn) (hi : i = Int32.ofNat (ps + GetCharsL.sgnL nv)) (hd : dd = Int32.ofNat (digitsL nn)), Goes p e below (Pq (Q_num Z a1 w kw N bs p1 nv nn ps cs fm h0 n0) s rom32.cells rom32.slots) (Tc9.setTop (mkF m 542 #[.val (.ref a1), .val (.int p1), .val (.long nv), .second, .val (.long z), .second, .val (.int i), .val (.int dd)] [])) := by
    intro z i dd Tc9 locsc9 Xc9 ec9 Nc9 hz hi hd
    refine Goes.step (S' := Tc9.setTop (mkF m 546 #[.val (.ref a1), .val (.int p1), .val (.long nv), .second, .val (.long z), .second, .val (.int i), .val (.int dd)] [(.int (8 : Int32)), (.int dd)])) (fun t k => XS.iload Xc9.here hx rfl (hb hby dk690) rfl (XS.bipush Xc9.here hx rfl (hb hby dk691) k)) ?_
    by_cases hc121 : (8 : Int32) < dd
    case pos =>
      refine Goes.step (S' := Tc9.setTop (mkF m 560 #[.val (.ref a1), .val (.int p1), .val (.long nv), .second, .val (.long z), .second, .val (.int i), .val (.int dd)] [(.long z), (.int ((i + dd) - (9 : Int32))), (.ref a1)])) (fun t k => XS.icmpNo Xc9.here hx rfl (hb hby dk692) rfl (tlt hc121).2.2.2 (XS.aloadN Xc9.here hx rfl (hb hby dk693) rfl rfl (XS.iload Xc9.here hx rfl (hb hby dk694) rfl (XS.iload Xc9.here hx rfl (hb hby dk695) rfl (XS.iadd Xc9.here hx rfl (hb hby dk696) rfl (XS.bipush Xc9.here hx rfl (hb hby dk697) (XS.isub Xc9.here hx rfl (hb hby dk698) rfl (XS.lload Xc9.here hx rfl (hb hby dk699) rfl k)))))))) ?_
      refine Goes.step (S' := Tc9.setTop (mkF m 563 #[.val (.ref a1), .val (.int p1), .val (.long nv), .second, .val (.long z), .second, .val (.int i), .val (.int dd)] [(.long (100000000 : Int64)), (.long z), (.int ((i + dd) - (9 : Int32))), (.ref a1)])) (fun t k => Xc9.ldc2Long hx hown (mvT hZ tw249) (g := (mkF m 560 #[.val (.ref a1), .val (.int p1), .val (.long nv), .second, .val (.long z), .second, .val (.int i), .val (.int dd)] [(.long z), (.int ((i + dd) - (9 : Int32))), (.ref a1)])) rfl (hb hby dk700) _ k) ?_
      have ck := own_chk (k := 9) (P := 100000000) (kk := 9) (pp := 100000000) HA HI hi hd HNW HW HL (by decide) (own_kD (k := 8) hd (by decide) hc121) (by decide) hz (by decide) (by decide)
      obtain ⟨_, _, ⟨T122, L122, k122, n122⟩, -, X122, ⟨Lc122, hQ122, l122, y122, z122⟩, st122⟩ := Jvm.LawKit.callS Xc9 hx (y := mth37) hown (mvT hZ tw195) (mvT hZ tw196) (mvT hZ tw175) (mvT hZ tw197) (by decide) (backOf (W := 0) (dig l Z a0 hw [] a1 w kw N bs ((i + dd) - (9 : Int32)) (Int32.ofNat (48 + nn / 100000000 % 10)) z (100000000 : Int64) cs fm h0 n0 Z0 Es Fw Fx Vw SC (PC : ¬ (cs = (0 : Int32))) SF (HF : fm.isRef = true) ck.1 ck.2.1 ck.2.2.1 (own_yB nn 100000000).1 (own_yB nn 100000000).2 ck.2.2.2 (by decide)) hZ tw197 tw175 (by decide) (by decide)) (g := (mkF m 563 #[.val (.ref a1), .val (.int p1), .val (.long nv), .second, .val (.long z), .second, .val (.int i), .val (.int dd)] [(.long (100000000 : Int64)), (.long z), (.int ((i + dd) - (9 : Int32))), (.ref a1)])) rfl (by rw [hml]; rfl) (argsL := [(.ref a1), (.int ((i + dd) - (9 : Int32))), (.long z), (.long (100000000 : Int64))]) (rest := []) (lenOf pd_Ljava_lang_String_IJJ_Z rfl) rfl (Nat.le_of_eq rfl) (hb hby dk701) (fun _ _ => ⟨rfl, ec9, (by decide : 0 + 0 ≤ _), (by decide : 0 + 0 ≤ _)⟩)
      dsimp only [Pt.U, Pt.locs, Pt.cells, Pt.slots] at X122 l122 y122 z122 st122 hQ122
      subst y122 z122
      obtain ⟨rfl, Nq122, q122_0⟩ := hQ122
      have N122 : Fr n0 L122 := by rw [l122]; exact Fr.app Nc9 Nq122
      refine Goes.step (S' := T122.setTop (mkF m 571 #[.val (.ref a1), .val (.int p1), .val (.long nv), .second, .val (.long z), .second, .val (.int i), .val (.int dd)] [])) (fun t k => st122 _ (XS.ifYes X122.here hx rfl (pc0 := 566) (pc' := 571) rfl (hb hby dk702) rfl ((if0 _ _).trans (feq ((by decide) : ¬ ((1 : Int32) = (0 : Int32)))).2) (by decide) (by decide) k)) ?_
      exact c10 z i dd T122 _ X122 q122_0 N122 hz hi hd
    case neg =>
      refine Goes.step (S' := Tc9.setTop (mkF m 571 #[.val (.ref a1), .val (.int p1), .val (.long nv), .second, .val (.long z), .second, .val (.int i), .val (.int dd)] [])) (fun t k => XS.icmpYes Xc9.here hx rfl (pc0 := 546) (pc' := 571) rfl (hb hby dk692) rfl (flt hc121).2.2.2 (by decide) (by decide) k) ?_
      exact c10 z i dd Tc9 _ Xc9 ec9 Nc9 hz hi hd
  have c8 : ∀ (z : Int64) (i : Int32) (dd : Int32) (Tc8 : State) (locsc8 : List Loc)  (Xc8 : Stand p l e rom32 s m #[(.ref a1), (.int p1), (.long nv)] below meth c Tc8 locsc8 0 0) (ec8 : Tc8.heap = h0) (Nc8 : Fr n0 locsc8) (hz : z = negL nn) (hi : i = Int32.ofNat (ps + GetCharsL.sgnL nv)) (hd : dd = Int32.ofNat (digitsL nn)), Goes p e below (Pq (Q_num Z a1 w kw N bs p1 nv nn ps cs fm h0 n0) s rom32.cells rom32.slots) (Tc8.setTop (mkF m 513 #[.val (.ref a1), .val (.int p1), .val (.long nv), .second, .val (.long z), .second, .val (.int i), .val (.int dd)] [])) := by
    intro z i dd Tc8 locsc8 Xc8 ec8 Nc8 hz hi hd
    refine Goes.step (S' := Tc8.setTop (mkF m 517 #[.val (.ref a1), .val (.int p1), .val (.long nv), .second, .val (.long z), .second, .val (.int i), .val (.int dd)] [(.int (7 : Int32)), (.int dd)])) (fun t k => XS.iload Xc8.here hx rfl (hb hby dk677) rfl (XS.bipush Xc8.here hx rfl (hb hby dk678) k)) ?_
    by_cases hc123 : (7 : Int32) < dd
    case pos =>
      refine Goes.step (S' := Tc8.setTop (mkF m 531 #[.val (.ref a1), .val (.int p1), .val (.long nv), .second, .val (.long z), .second, .val (.int i), .val (.int dd)] [(.long z), (.int ((i + dd) - (8 : Int32))), (.ref a1)])) (fun t k => XS.icmpNo Xc8.here hx rfl (hb hby dk679) rfl (tlt hc123).2.2.2 (XS.aloadN Xc8.here hx rfl (hb hby dk680) rfl rfl (XS.iload Xc8.here hx rfl (hb hby dk681) rfl (XS.iload Xc8.here hx rfl (hb hby dk682) rfl (XS.iadd Xc8.here hx rfl (hb hby dk683) rfl (XS.bipush Xc8.here hx rfl (hb hby dk684) (XS.isub Xc8.here hx rfl (hb hby dk685) rfl (XS.lload Xc8.here hx rfl (hb hby dk686) rfl k)))))))) ?_
      refine Goes.step (S' := Tc8.setTop (mkF m 534 #[.val (.ref a1), .val (.int p1), .val (.long nv), .second, .val (.long z), .second, .val (.int i), .val (.int dd)] [(.long (10000000 : Int64)), (.long z), (.int ((i + dd) - (8 : Int32))), (.ref a1)])) (fun t k => Xc8.ldc2Long hx hown (mvT hZ tw248) (g := (mkF m 531 #[.val (.ref a1), .val (.int p1), .val (.long nv), .second, .val (.long z), .second, .val (.int i), .val (.int dd)] [(.long z), (.int ((i + dd) - (8 : Int32))), (.ref a1)])) rfl (hb hby dk687) _ k) ?_
      have ck := own_chk (k := 8) (P := 10000000) (kk := 8) (pp := 10000000) HA HI hi hd HNW HW HL (by decide) (own_kD (k := 7) hd (by decide) hc123) (by decide) hz (by decide) (by decide)
      obtain ⟨_, _, ⟨T124, L124, k124, n124⟩, -, X124, ⟨Lc124, hQ124, l124, y124, z124⟩, st124⟩ := Jvm.LawKit.callS Xc8 hx (y := mth37) hown (mvT hZ tw195) (mvT hZ tw196) (mvT hZ tw175) (mvT hZ tw197) (by decide) (backOf (W := 0) (dig l Z a0 hw [] a1 w kw N bs ((i + dd) - (8 : Int32)) (Int32.ofNat (48 + nn / 10000000 % 10)) z (10000000 : Int64) cs fm h0 n0 Z0 Es Fw Fx Vw SC (PC : ¬ (cs = (0 : Int32))) SF (HF : fm.isRef = true) ck.1 ck.2.1 ck.2.2.1 (own_yB nn 10000000).1 (own_yB nn 10000000).2 ck.2.2.2 (by decide)) hZ tw197 tw175 (by decide) (by decide)) (g := (mkF m 534 #[.val (.ref a1), .val (.int p1), .val (.long nv), .second, .val (.long z), .second, .val (.int i), .val (.int dd)] [(.long (10000000 : Int64)), (.long z), (.int ((i + dd) - (8 : Int32))), (.ref a1)])) rfl (by rw [hml]; rfl) (argsL := [(.ref a1), (.int ((i + dd) - (8 : Int32))), (.long z), (.long (10000000 : Int64))]) (rest := []) (lenOf pd_Ljava_lang_String_IJJ_Z rfl) rfl (Nat.le_of_eq rfl) (hb hby dk688) (fun _ _ => ⟨rfl, ec8, (by decide : 0 + 0 ≤ _), (by decide : 0 + 0 ≤ _)⟩)
      dsimp only [Pt.U, Pt.locs, Pt.cells, Pt.slots] at X124 l124 y124 z124 st124 hQ124
      subst y124 z124
      obtain ⟨rfl, Nq124, q124_0⟩ := hQ124
      have N124 : Fr n0 L124 := by rw [l124]; exact Fr.app Nc8 Nq124
      refine Goes.step (S' := T124.setTop (mkF m 542 #[.val (.ref a1), .val (.int p1), .val (.long nv), .second, .val (.long z), .second, .val (.int i), .val (.int dd)] [])) (fun t k => st124 _ (XS.ifYes X124.here hx rfl (pc0 := 537) (pc' := 542) rfl (hb hby dk689) rfl ((if0 _ _).trans (feq ((by decide) : ¬ ((1 : Int32) = (0 : Int32)))).2) (by decide) (by decide) k)) ?_
      exact c9 z i dd T124 _ X124 q124_0 N124 hz hi hd
    case neg =>
      refine Goes.step (S' := Tc8.setTop (mkF m 542 #[.val (.ref a1), .val (.int p1), .val (.long nv), .second, .val (.long z), .second, .val (.int i), .val (.int dd)] [])) (fun t k => XS.icmpYes Xc8.here hx rfl (pc0 := 517) (pc' := 542) rfl (hb hby dk679) rfl (flt hc123).2.2.2 (by decide) (by decide) k) ?_
      exact c9 z i dd Tc8 _ Xc8 ec8 Nc8 hz hi hd
  have c7 : ∀ (z : Int64) (i : Int32) (dd : Int32) (Tc7 : State) (locsc7 : List Loc)  (Xc7 : Stand p l e rom32 s m #[(.ref a1), (.int p1), (.long nv)] below meth c Tc7 locsc7 0 0) (ec7 : Tc7.heap = h0) (Nc7 : Fr n0 locsc7) (hz : z = negL nn) (hi : i = Int32.ofNat (ps + GetCharsL.sgnL nv)) (hd : dd = Int32.ofNat (digitsL nn)), Goes p e below (Pq (Q_num Z a1 w kw N bs p1 nv nn ps cs fm h0 n0) s rom32.cells rom32.slots) (Tc7.setTop (mkF m 484 #[.val (.ref a1), .val (.int p1), .val (.long nv), .second, .val (.long z), .second, .val (.int i), .val (.int dd)] [])) := by
    intro z i dd Tc7 locsc7 Xc7 ec7 Nc7 hz hi hd
    refine Goes.step (S' := Tc7.setTop (mkF m 488 #[.val (.ref a1), .val (.int p1), .val (.long nv), .second, .val (.long z), .second, .val (.int i), .val (.int dd)] [(.int (6 : Int32)), (.int dd)])) (fun t k => XS.iload Xc7.here hx rfl (hb hby dk664) rfl (XS.bipush Xc7.here hx rfl (hb hby dk665) k)) ?_
    by_cases hc125 : (6 : Int32) < dd
    case pos =>
      refine Goes.step (S' := Tc7.setTop (mkF m 502 #[.val (.ref a1), .val (.int p1), .val (.long nv), .second, .val (.long z), .second, .val (.int i), .val (.int dd)] [(.long z), (.int ((i + dd) - (7 : Int32))), (.ref a1)])) (fun t k => XS.icmpNo Xc7.here hx rfl (hb hby dk666) rfl (tlt hc125).2.2.2 (XS.aloadN Xc7.here hx rfl (hb hby dk667) rfl rfl (XS.iload Xc7.here hx rfl (hb hby dk668) rfl (XS.iload Xc7.here hx rfl (hb hby dk669) rfl (XS.iadd Xc7.here hx rfl (hb hby dk670) rfl (XS.bipush Xc7.here hx rfl (hb hby dk671) (XS.isub Xc7.here hx rfl (hb hby dk672) rfl (XS.lload Xc7.here hx rfl (hb hby dk673) rfl k)))))))) ?_
      refine Goes.step (S' := Tc7.setTop (mkF m 505 #[.val (.ref a1), .val (.int p1), .val (.long nv), .second, .val (.long z), .second, .val (.int i), .val (.int dd)] [(.long (1000000 : Int64)), (.long z), (.int ((i + dd) - (7 : Int32))), (.ref a1)])) (fun t k => Xc7.ldc2Long hx hown (mvT hZ tw247) (g := (mkF m 502 #[.val (.ref a1), .val (.int p1), .val (.long nv), .second, .val (.long z), .second, .val (.int i), .val (.int dd)] [(.long z), (.int ((i + dd) - (7 : Int32))), (.ref a1)])) rfl (hb hby dk674) _ k) ?_
      have ck := own_chk (k := 7) (P := 1000000) (kk := 7) (pp := 1000000) HA HI hi hd HNW HW HL (by decide) (own_kD (k := 6) hd (by decide) hc125) (by decide) hz (by decide) (by decide)
      obtain ⟨_, _, ⟨T126, L126, k126, n126⟩, -, X126, ⟨Lc126, hQ126, l126, y126, z126⟩, st126⟩ := Jvm.LawKit.callS Xc7 hx (y := mth37) hown (mvT hZ tw195) (mvT hZ tw196) (mvT hZ tw175) (mvT hZ tw197) (by decide) (backOf (W := 0) (dig l Z a0 hw [] a1 w kw N bs ((i + dd) - (7 : Int32)) (Int32.ofNat (48 + nn / 1000000 % 10)) z (1000000 : Int64) cs fm h0 n0 Z0 Es Fw Fx Vw SC (PC : ¬ (cs = (0 : Int32))) SF (HF : fm.isRef = true) ck.1 ck.2.1 ck.2.2.1 (own_yB nn 1000000).1 (own_yB nn 1000000).2 ck.2.2.2 (by decide)) hZ tw197 tw175 (by decide) (by decide)) (g := (mkF m 505 #[.val (.ref a1), .val (.int p1), .val (.long nv), .second, .val (.long z), .second, .val (.int i), .val (.int dd)] [(.long (1000000 : Int64)), (.long z), (.int ((i + dd) - (7 : Int32))), (.ref a1)])) rfl (by rw [hml]; rfl) (argsL := [(.ref a1), (.int ((i + dd) - (7 : Int32))), (.long z), (.long (1000000 : Int64))]) (rest := []) (lenOf pd_Ljava_lang_String_IJJ_Z rfl) rfl (Nat.le_of_eq rfl) (hb hby dk675) (fun _ _ => ⟨rfl, ec7, (by decide : 0 + 0 ≤ _), (by decide : 0 + 0 ≤ _)⟩)
      dsimp only [Pt.U, Pt.locs, Pt.cells, Pt.slots] at X126 l126 y126 z126 st126 hQ126
      subst y126 z126
      obtain ⟨rfl, Nq126, q126_0⟩ := hQ126
      have N126 : Fr n0 L126 := by rw [l126]; exact Fr.app Nc7 Nq126
      refine Goes.step (S' := T126.setTop (mkF m 513 #[.val (.ref a1), .val (.int p1), .val (.long nv), .second, .val (.long z), .second, .val (.int i), .val (.int dd)] [])) (fun t k => st126 _ (XS.ifYes X126.here hx rfl (pc0 := 508) (pc' := 513) rfl (hb hby dk676) rfl ((if0 _ _).trans (feq ((by decide) : ¬ ((1 : Int32) = (0 : Int32)))).2) (by decide) (by decide) k)) ?_
      exact c8 z i dd T126 _ X126 q126_0 N126 hz hi hd
    case neg =>
      refine Goes.step (S' := Tc7.setTop (mkF m 513 #[.val (.ref a1), .val (.int p1), .val (.long nv), .second, .val (.long z), .second, .val (.int i), .val (.int dd)] [])) (fun t k => XS.icmpYes Xc7.here hx rfl (pc0 := 488) (pc' := 513) rfl (hb hby dk666) rfl (flt hc125).2.2.2 (by decide) (by decide) k) ?_
      exact c8 z i dd Tc7 _ Xc7 ec7 Nc7 hz hi hd
  have c6 : ∀ (z : Int64) (i : Int32) (dd : Int32) (Tc6 : State) (locsc6 : List Loc)  (Xc6 : Stand p l e rom32 s m #[(.ref a1), (.int p1), (.long nv)] below meth c Tc6 locsc6 0 0) (ec6 : Tc6.heap = h0) (Nc6 : Fr n0 locsc6) (hz : z = negL nn) (hi : i = Int32.ofNat (ps + GetCharsL.sgnL nv)) (hd : dd = Int32.ofNat (digitsL nn)), Goes p e below (Pq (Q_num Z a1 w kw N bs p1 nv nn ps cs fm h0 n0) s rom32.cells rom32.slots) (Tc6.setTop (mkF m 456 #[.val (.ref a1), .val (.int p1), .val (.long nv), .second, .val (.long z), .second, .val (.int i), .val (.int dd)] [])) := by
    intro z i dd Tc6 locsc6 Xc6 ec6 Nc6 hz hi hd
    refine Goes.step (S' := Tc6.setTop (mkF m 459 #[.val (.ref a1), .val (.int p1), .val (.long nv), .second, .val (.long z), .second, .val (.int i), .val (.int dd)] [(.int (5 : Int32)), (.int dd)])) (fun t k => XS.iload Xc6.here hx rfl (hb hby dk651) rfl (XS.iconst Xc6.here hx rfl (hb hby dk652) k)) ?_
    by_cases hc127 : (5 : Int32) < dd
    case pos =>
      refine Goes.step (S' := Tc6.setTop (mkF m 473 #[.val (.ref a1), .val (.int p1), .val (.long nv), .second, .val (.long z), .second, .val (.int i), .val (.int dd)] [(.long z), (.int ((i + dd) - (6 : Int32))), (.ref a1)])) (fun t k => XS.icmpNo Xc6.here hx rfl (hb hby dk653) rfl (tlt hc127).2.2.2 (XS.aloadN Xc6.here hx rfl (hb hby dk654) rfl rfl (XS.iload Xc6.here hx rfl (hb hby dk655) rfl (XS.iload Xc6.here hx rfl (hb hby dk656) rfl (XS.iadd Xc6.here hx rfl (hb hby dk657) rfl (XS.bipush Xc6.here hx rfl (hb hby dk658) (XS.isub Xc6.here hx rfl (hb hby dk659) rfl (XS.lload Xc6.here hx rfl (hb hby dk660) rfl k)))))))) ?_
      refine Goes.step (S' := Tc6.setTop (mkF m 476 #[.val (.ref a1), .val (.int p1), .val (.long nv), .second, .val (.long z), .second, .val (.int i), .val (.int dd)] [(.long (100000 : Int64)), (.long z), (.int ((i + dd) - (6 : Int32))), (.ref a1)])) (fun t k => Xc6.ldc2Long hx hown (mvT hZ tw246) (g := (mkF m 473 #[.val (.ref a1), .val (.int p1), .val (.long nv), .second, .val (.long z), .second, .val (.int i), .val (.int dd)] [(.long z), (.int ((i + dd) - (6 : Int32))), (.ref a1)])) rfl (hb hby dk661) _ k) ?_
      have ck := own_chk (k := 6) (P := 100000) (kk := 6) (pp := 100000) HA HI hi hd HNW HW HL (by decide) (own_kD (k := 5) hd (by decide) hc127) (by decide) hz (by decide) (by decide)
      obtain ⟨_, _, ⟨T128, L128, k128, n128⟩, -, X128, ⟨Lc128, hQ128, l128, y128, z128⟩, st128⟩ := Jvm.LawKit.callS Xc6 hx (y := mth37) hown (mvT hZ tw195) (mvT hZ tw196) (mvT hZ tw175) (mvT hZ tw197) (by decide) (backOf (W := 0) (dig l Z a0 hw [] a1 w kw N bs ((i + dd) - (6 : Int32)) (Int32.ofNat (48 + nn / 100000 % 10)) z (100000 : Int64) cs fm h0 n0 Z0 Es Fw Fx Vw SC (PC : ¬ (cs = (0 : Int32))) SF (HF : fm.isRef = true) ck.1 ck.2.1 ck.2.2.1 (own_yB nn 100000).1 (own_yB nn 100000).2 ck.2.2.2 (by decide)) hZ tw197 tw175 (by decide) (by decide)) (g := (mkF m 476 #[.val (.ref a1), .val (.int p1), .val (.long nv), .second, .val (.long z), .second, .val (.int i), .val (.int dd)] [(.long (100000 : Int64)), (.long z), (.int ((i + dd) - (6 : Int32))), (.ref a1)])) rfl (by rw [hml]; rfl) (argsL := [(.ref a1), (.int ((i + dd) - (6 : Int32))), (.long z), (.long (100000 : Int64))]) (rest := []) (lenOf pd_Ljava_lang_String_IJJ_Z rfl) rfl (Nat.le_of_eq rfl) (hb hby dk662) (fun _ _ => ⟨rfl, ec6, (by decide : 0 + 0 ≤ _), (by decide : 0 + 0 ≤ _)⟩)
      dsimp only [Pt.U, Pt.locs, Pt.cells, Pt.slots] at X128 l128 y128 z128 st128 hQ128
      subst y128 z128
      obtain ⟨rfl, Nq128, q128_0⟩ := hQ128
      have N128 : Fr n0 L128 := by rw [l128]; exact Fr.app Nc6 Nq128
      refine Goes.step (S' := T128.setTop (mkF m 484 #[.val (.ref a1), .val (.int p1), .val (.long nv), .second, .val (.long z), .second, .val (.int i), .val (.int dd)] [])) (fun t k => st128 _ (XS.ifYes X128.here hx rfl (pc0 := 479) (pc' := 484) rfl (hb hby dk663) rfl ((if0 _ _).trans (feq ((by decide) : ¬ ((1 : Int32) = (0 : Int32)))).2) (by decide) (by decide) k)) ?_
      exact c7 z i dd T128 _ X128 q128_0 N128 hz hi hd
    case neg =>
      refine Goes.step (S' := Tc6.setTop (mkF m 484 #[.val (.ref a1), .val (.int p1), .val (.long nv), .second, .val (.long z), .second, .val (.int i), .val (.int dd)] [])) (fun t k => XS.icmpYes Xc6.here hx rfl (pc0 := 459) (pc' := 484) rfl (hb hby dk653) rfl (flt hc127).2.2.2 (by decide) (by decide) k) ?_
      exact c7 z i dd Tc6 _ Xc6 ec6 Nc6 hz hi hd
  have c5 : ∀ (z : Int64) (i : Int32) (dd : Int32) (Tc5 : State) (locsc5 : List Loc)  (Xc5 : Stand p l e rom32 s m #[(.ref a1), (.int p1), (.long nv)] below meth c Tc5 locsc5 0 0) (ec5 : Tc5.heap = h0) (Nc5 : Fr n0 locsc5) (hz : z = negL nn) (hi : i = Int32.ofNat (ps + GetCharsL.sgnL nv)) (hd : dd = Int32.ofNat (digitsL nn)), Goes p e below (Pq (Q_num Z a1 w kw N bs p1 nv nn ps cs fm h0 n0) s rom32.cells rom32.slots) (Tc5.setTop (mkF m 429 #[.val (.ref a1), .val (.int p1), .val (.long nv), .second, .val (.long z), .second, .val (.int i), .val (.int dd)] [])) := by
    intro z i dd Tc5 locsc5 Xc5 ec5 Nc5 hz hi hd
    refine Goes.step (S' := Tc5.setTop (mkF m 432 #[.val (.ref a1), .val (.int p1), .val (.long nv), .second, .val (.long z), .second, .val (.int i), .val (.int dd)] [(.int (4 : Int32)), (.int dd)])) (fun t k => XS.iload Xc5.here hx rfl (hb hby dk638) rfl (XS.iconst Xc5.here hx rfl (hb hby dk639) k)) ?_
    by_cases hc129 : (4 : Int32) < dd
    case pos =>
      refine Goes.step (S' := Tc5.setTop (mkF m 445 #[.val (.ref a1), .val (.int p1), .val (.long nv), .second, .val (.long z), .second, .val (.int i), .val (.int dd)] [(.long z), (.int ((i + dd) - (5 : Int32))), (.ref a1)])) (fun t k => XS.icmpNo Xc5.here hx rfl (hb hby dk640) rfl (tlt hc129).2.2.2 (XS.aloadN Xc5.here hx rfl (hb hby dk641) rfl rfl (XS.iload Xc5.here hx rfl (hb hby dk642) rfl (XS.iload Xc5.here hx rfl (hb hby dk643) rfl (XS.iadd Xc5.here hx rfl (hb hby dk644) rfl (XS.iconst Xc5.here hx rfl (hb hby dk645) (XS.isub Xc5.here hx rfl (hb hby dk646) rfl (XS.lload Xc5.here hx rfl (hb hby dk647) rfl k)))))))) ?_
      refine Goes.step (S' := Tc5.setTop (mkF m 448 #[.val (.ref a1), .val (.int p1), .val (.long nv), .second, .val (.long z), .second, .val (.int i), .val (.int dd)] [(.long (10000 : Int64)), (.long z), (.int ((i + dd) - (5 : Int32))), (.ref a1)])) (fun t k => Xc5.ldc2Long hx hown (mvT hZ tw245) (g := (mkF m 445 #[.val (.ref a1), .val (.int p1), .val (.long nv), .second, .val (.long z), .second, .val (.int i), .val (.int dd)] [(.long z), (.int ((i + dd) - (5 : Int32))), (.ref a1)])) rfl (hb hby dk648) _ k) ?_
      have ck := own_chk (k := 5) (P := 10000) (kk := 5) (pp := 10000) HA HI hi hd HNW HW HL (by decide) (own_kD (k := 4) hd (by decide) hc129) (by decide) hz (by decide) (by decide)
      obtain ⟨_, _, ⟨T130, L130, k130, n130⟩, -, X130, ⟨Lc130, hQ130, l130, y130, z130⟩, st130⟩ := Jvm.LawKit.callS Xc5 hx (y := mth37) hown (mvT hZ tw195) (mvT hZ tw196) (mvT hZ tw175) (mvT hZ tw197) (by decide) (backOf (W := 0) (dig l Z a0 hw [] a1 w kw N bs ((i + dd) - (5 : Int32)) (Int32.ofNat (48 + nn / 10000 % 10)) z (10000 : Int64) cs fm h0 n0 Z0 Es Fw Fx Vw SC (PC : ¬ (cs = (0 : Int32))) SF (HF : fm.isRef = true) ck.1 ck.2.1 ck.2.2.1 (own_yB nn 10000).1 (own_yB nn 10000).2 ck.2.2.2 (by decide)) hZ tw197 tw175 (by decide) (by decide)) (g := (mkF m 448 #[.val (.ref a1), .val (.int p1), .val (.long nv), .second, .val (.long z), .second, .val (.int i), .val (.int dd)] [(.long (10000 : Int64)), (.long z), (.int ((i + dd) - (5 : Int32))), (.ref a1)])) rfl (by rw [hml]; rfl) (argsL := [(.ref a1), (.int ((i + dd) - (5 : Int32))), (.long z), (.long (10000 : Int64))]) (rest := []) (lenOf pd_Ljava_lang_String_IJJ_Z rfl) rfl (Nat.le_of_eq rfl) (hb hby dk649) (fun _ _ => ⟨rfl, ec5, (by decide : 0 + 0 ≤ _), (by decide : 0 + 0 ≤ _)⟩)
      dsimp only [Pt.U, Pt.locs, Pt.cells, Pt.slots] at X130 l130 y130 z130 st130 hQ130
      subst y130 z130
      obtain ⟨rfl, Nq130, q130_0⟩ := hQ130
      have N130 : Fr n0 L130 := by rw [l130]; exact Fr.app Nc5 Nq130
      refine Goes.step (S' := T130.setTop (mkF m 456 #[.val (.ref a1), .val (.int p1), .val (.long nv), .second, .val (.long z), .second, .val (.int i), .val (.int dd)] [])) (fun t k => st130 _ (XS.ifYes X130.here hx rfl (pc0 := 451) (pc' := 456) rfl (hb hby dk650) rfl ((if0 _ _).trans (feq ((by decide) : ¬ ((1 : Int32) = (0 : Int32)))).2) (by decide) (by decide) k)) ?_
      exact c6 z i dd T130 _ X130 q130_0 N130 hz hi hd
    case neg =>
      refine Goes.step (S' := Tc5.setTop (mkF m 456 #[.val (.ref a1), .val (.int p1), .val (.long nv), .second, .val (.long z), .second, .val (.int i), .val (.int dd)] [])) (fun t k => XS.icmpYes Xc5.here hx rfl (pc0 := 432) (pc' := 456) rfl (hb hby dk640) rfl (flt hc129).2.2.2 (by decide) (by decide) k) ?_
      exact c6 z i dd Tc5 _ Xc5 ec5 Nc5 hz hi hd
  have c4 : ∀ (z : Int64) (i : Int32) (dd : Int32) (Tc4 : State) (locsc4 : List Loc)  (Xc4 : Stand p l e rom32 s m #[(.ref a1), (.int p1), (.long nv)] below meth c Tc4 locsc4 0 0) (ec4 : Tc4.heap = h0) (Nc4 : Fr n0 locsc4) (hz : z = negL nn) (hi : i = Int32.ofNat (ps + GetCharsL.sgnL nv)) (hd : dd = Int32.ofNat (digitsL nn)), Goes p e below (Pq (Q_num Z a1 w kw N bs p1 nv nn ps cs fm h0 n0) s rom32.cells rom32.slots) (Tc4.setTop (mkF m 402 #[.val (.ref a1), .val (.int p1), .val (.long nv), .second, .val (.long z), .second, .val (.int i), .val (.int dd)] [])) := by
    intro z i dd Tc4 locsc4 Xc4 ec4 Nc4 hz hi hd
    refine Goes.step (S' := Tc4.setTop (mkF m 405 #[.val (.ref a1), .val (.int p1), .val (.long nv), .second, .val (.long z), .second, .val (.int i), .val (.int dd)] [(.int (3 : Int32)), (.int dd)])) (fun t k => XS.iload Xc4.here hx rfl (hb hby dk625) rfl (XS.iconst Xc4.here hx rfl (hb hby dk626) k)) ?_
    by_cases hc131 : (3 : Int32) < dd
    case pos =>
      refine Goes.step (S' := Tc4.setTop (mkF m 418 #[.val (.ref a1), .val (.int p1), .val (.long nv), .second, .val (.long z), .second, .val (.int i), .val (.int dd)] [(.long z), (.int ((i + dd) - (4 : Int32))), (.ref a1)])) (fun t k => XS.icmpNo Xc4.here hx rfl (hb hby dk627) rfl (tlt hc131).2.2.2 (XS.aloadN Xc4.here hx rfl (hb hby dk628) rfl rfl (XS.iload Xc4.here hx rfl (hb hby dk629) rfl (XS.iload Xc4.here hx rfl (hb hby dk630) rfl (XS.iadd Xc4.here hx rfl (hb hby dk631) rfl (XS.iconst Xc4.here hx rfl (hb hby dk632) (XS.isub Xc4.here hx rfl (hb hby dk633) rfl (XS.lload Xc4.here hx rfl (hb hby dk634) rfl k)))))))) ?_
      refine Goes.step (S' := Tc4.setTop (mkF m 421 #[.val (.ref a1), .val (.int p1), .val (.long nv), .second, .val (.long z), .second, .val (.int i), .val (.int dd)] [(.long (1000 : Int64)), (.long z), (.int ((i + dd) - (4 : Int32))), (.ref a1)])) (fun t k => Xc4.ldc2Long hx hown (mvT hZ tw244) (g := (mkF m 418 #[.val (.ref a1), .val (.int p1), .val (.long nv), .second, .val (.long z), .second, .val (.int i), .val (.int dd)] [(.long z), (.int ((i + dd) - (4 : Int32))), (.ref a1)])) rfl (hb hby dk635) _ k) ?_
      have ck := own_chk (k := 4) (P := 1000) (kk := 4) (pp := 1000) HA HI hi hd HNW HW HL (by decide) (own_kD (k := 3) hd (by decide) hc131) (by decide) hz (by decide) (by decide)
      obtain ⟨_, _, ⟨T132, L132, k132, n132⟩, -, X132, ⟨Lc132, hQ132, l132, y132, z132⟩, st132⟩ := Jvm.LawKit.callS Xc4 hx (y := mth37) hown (mvT hZ tw195) (mvT hZ tw196) (mvT hZ tw175) (mvT hZ tw197) (by decide) (backOf (W := 0) (dig l Z a0 hw [] a1 w kw N bs ((i + dd) - (4 : Int32)) (Int32.ofNat (48 + nn / 1000 % 10)) z (1000 : Int64) cs fm h0 n0 Z0 Es Fw Fx Vw SC (PC : ¬ (cs = (0 : Int32))) SF (HF : fm.isRef = true) ck.1 ck.2.1 ck.2.2.1 (own_yB nn 1000).1 (own_yB nn 1000).2 ck.2.2.2 (by decide)) hZ tw197 tw175 (by decide) (by decide)) (g := (mkF m 421 #[.val (.ref a1), .val (.int p1), .val (.long nv), .second, .val (.long z), .second, .val (.int i), .val (.int dd)] [(.long (1000 : Int64)), (.long z), (.int ((i + dd) - (4 : Int32))), (.ref a1)])) rfl (by rw [hml]; rfl) (argsL := [(.ref a1), (.int ((i + dd) - (4 : Int32))), (.long z), (.long (1000 : Int64))]) (rest := []) (lenOf pd_Ljava_lang_String_IJJ_Z rfl) rfl (Nat.le_of_eq rfl) (hb hby dk636) (fun _ _ => ⟨rfl, ec4, (by decide : 0 + 0 ≤ _), (by decide : 0 + 0 ≤ _)⟩)
      dsimp only [Pt.U, Pt.locs, Pt.cells, Pt.slots] at X132 l132 y132 z132 st132 hQ132
      subst y132 z132
      obtain ⟨rfl, Nq132, q132_0⟩ := hQ132
      have N132 : Fr n0 L132 := by rw [l132]; exact Fr.app Nc4 Nq132
      refine Goes.step (S' := T132.setTop (mkF m 429 #[.val (.ref a1), .val (.int p1), .val (.long nv), .second, .val (.long z), .second, .val (.int i), .val (.int dd)] [])) (fun t k => st132 _ (XS.ifYes X132.here hx rfl (pc0 := 424) (pc' := 429) rfl (hb hby dk637) rfl ((if0 _ _).trans (feq ((by decide) : ¬ ((1 : Int32) = (0 : Int32)))).2) (by decide) (by decide) k)) ?_
      exact c5 z i dd T132 _ X132 q132_0 N132 hz hi hd
    case neg =>
      refine Goes.step (S' := Tc4.setTop (mkF m 429 #[.val (.ref a1), .val (.int p1), .val (.long nv), .second, .val (.long z), .second, .val (.int i), .val (.int dd)] [])) (fun t k => XS.icmpYes Xc4.here hx rfl (pc0 := 405) (pc' := 429) rfl (hb hby dk627) rfl (flt hc131).2.2.2 (by decide) (by decide) k) ?_
      exact c5 z i dd Tc4 _ Xc4 ec4 Nc4 hz hi hd
  have c3 : ∀ (z : Int64) (i : Int32) (dd : Int32) (Tc3 : State) (locsc3 : List Loc)  (Xc3 : Stand p l e rom32 s m #[(.ref a1), (.int p1), (.long nv)] below meth c Tc3 locsc3 0 0) (ec3 : Tc3.heap = h0) (Nc3 : Fr n0 locsc3) (hz : z = negL nn) (hi : i = Int32.ofNat (ps + GetCharsL.sgnL nv)) (hd : dd = Int32.ofNat (digitsL nn)), Goes p e below (Pq (Q_num Z a1 w kw N bs p1 nv nn ps cs fm h0 n0) s rom32.cells rom32.slots) (Tc3.setTop (mkF m 375 #[.val (.ref a1), .val (.int p1), .val (.long nv), .second, .val (.long z), .second, .val (.int i), .val (.int dd)] [])) := by
    intro z i dd Tc3 locsc3 Xc3 ec3 Nc3 hz hi hd
    refine Goes.step (S' := Tc3.setTop (mkF m 378 #[.val (.ref a1), .val (.int p1), .val (.long nv), .second, .val (.long z), .second, .val (.int i), .val (.int dd)] [(.int (2 : Int32)), (.int dd)])) (fun t k => XS.iload Xc3.here hx rfl (hb hby dk612) rfl (XS.iconst Xc3.here hx rfl (hb hby dk613) k)) ?_
    by_cases hc133 : (2 : Int32) < dd
    case pos =>
      refine Goes.step (S' := Tc3.setTop (mkF m 391 #[.val (.ref a1), .val (.int p1), .val (.long nv), .second, .val (.long z), .second, .val (.int i), .val (.int dd)] [(.long z), (.int ((i + dd) - (3 : Int32))), (.ref a1)])) (fun t k => XS.icmpNo Xc3.here hx rfl (hb hby dk614) rfl (tlt hc133).2.2.2 (XS.aloadN Xc3.here hx rfl (hb hby dk615) rfl rfl (XS.iload Xc3.here hx rfl (hb hby dk616) rfl (XS.iload Xc3.here hx rfl (hb hby dk617) rfl (XS.iadd Xc3.here hx rfl (hb hby dk618) rfl (XS.iconst Xc3.here hx rfl (hb hby dk619) (XS.isub Xc3.here hx rfl (hb hby dk620) rfl (XS.lload Xc3.here hx rfl (hb hby dk621) rfl k)))))))) ?_
      refine Goes.step (S' := Tc3.setTop (mkF m 394 #[.val (.ref a1), .val (.int p1), .val (.long nv), .second, .val (.long z), .second, .val (.int i), .val (.int dd)] [(.long (100 : Int64)), (.long z), (.int ((i + dd) - (3 : Int32))), (.ref a1)])) (fun t k => Xc3.ldc2Long hx hown (mvT hZ tw243) (g := (mkF m 391 #[.val (.ref a1), .val (.int p1), .val (.long nv), .second, .val (.long z), .second, .val (.int i), .val (.int dd)] [(.long z), (.int ((i + dd) - (3 : Int32))), (.ref a1)])) rfl (hb hby dk622) _ k) ?_
      have ck := own_chk (k := 3) (P := 100) (kk := 3) (pp := 100) HA HI hi hd HNW HW HL (by decide) (own_kD (k := 2) hd (by decide) hc133) (by decide) hz (by decide) (by decide)
      obtain ⟨_, _, ⟨T134, L134, k134, n134⟩, -, X134, ⟨Lc134, hQ134, l134, y134, z134⟩, st134⟩ := Jvm.LawKit.callS Xc3 hx (y := mth37) hown (mvT hZ tw195) (mvT hZ tw196) (mvT hZ tw175) (mvT hZ tw197) (by decide) (backOf (W := 0) (dig l Z a0 hw [] a1 w kw N bs ((i + dd) - (3 : Int32)) (Int32.ofNat (48 + nn / 100 % 10)) z (100 : Int64) cs fm h0 n0 Z0 Es Fw Fx Vw SC (PC : ¬ (cs = (0 : Int32))) SF (HF : fm.isRef = true) ck.1 ck.2.1 ck.2.2.1 (own_yB nn 100).1 (own_yB nn 100).2 ck.2.2.2 (by decide)) hZ tw197 tw175 (by decide) (by decide)) (g := (mkF m 394 #[.val (.ref a1), .val (.int p1), .val (.long nv), .second, .val (.long z), .second, .val (.int i), .val (.int dd)] [(.long (100 : Int64)), (.long z), (.int ((i + dd) - (3 : Int32))), (.ref a1)])) rfl (by rw [hml]; rfl) (argsL := [(.ref a1), (.int ((i + dd) - (3 : Int32))), (.long z), (.long (100 : Int64))]) (rest := []) (lenOf pd_Ljava_lang_String_IJJ_Z rfl) rfl (Nat.le_of_eq rfl) (hb hby dk623) (fun _ _ => ⟨rfl, ec3, (by decide : 0 + 0 ≤ _), (by decide : 0 + 0 ≤ _)⟩)
      dsimp only [Pt.U, Pt.locs, Pt.cells, Pt.slots] at X134 l134 y134 z134 st134 hQ134
      subst y134 z134
      obtain ⟨rfl, Nq134, q134_0⟩ := hQ134
      have N134 : Fr n0 L134 := by rw [l134]; exact Fr.app Nc3 Nq134
      refine Goes.step (S' := T134.setTop (mkF m 402 #[.val (.ref a1), .val (.int p1), .val (.long nv), .second, .val (.long z), .second, .val (.int i), .val (.int dd)] [])) (fun t k => st134 _ (XS.ifYes X134.here hx rfl (pc0 := 397) (pc' := 402) rfl (hb hby dk624) rfl ((if0 _ _).trans (feq ((by decide) : ¬ ((1 : Int32) = (0 : Int32)))).2) (by decide) (by decide) k)) ?_
      exact c4 z i dd T134 _ X134 q134_0 N134 hz hi hd
    case neg =>
      refine Goes.step (S' := Tc3.setTop (mkF m 402 #[.val (.ref a1), .val (.int p1), .val (.long nv), .second, .val (.long z), .second, .val (.int i), .val (.int dd)] [])) (fun t k => XS.icmpYes Xc3.here hx rfl (pc0 := 378) (pc' := 402) rfl (hb hby dk614) rfl (flt hc133).2.2.2 (by decide) (by decide) k) ?_
      exact c4 z i dd Tc3 _ Xc3 ec3 Nc3 hz hi hd
  have c2 : ∀ (z : Int64) (i : Int32) (dd : Int32) (Tc2 : State) (locsc2 : List Loc)  (Xc2 : Stand p l e rom32 s m #[(.ref a1), (.int p1), (.long nv)] below meth c Tc2 locsc2 0 0) (ec2 : Tc2.heap = h0) (Nc2 : Fr n0 locsc2) (hz : z = negL nn) (hi : i = Int32.ofNat (ps + GetCharsL.sgnL nv)) (hd : dd = Int32.ofNat (digitsL nn)), Goes p e below (Pq (Q_num Z a1 w kw N bs p1 nv nn ps cs fm h0 n0) s rom32.cells rom32.slots) (Tc2.setTop (mkF m 348 #[.val (.ref a1), .val (.int p1), .val (.long nv), .second, .val (.long z), .second, .val (.int i), .val (.int dd)] [])) := by
    intro z i dd Tc2 locsc2 Xc2 ec2 Nc2 hz hi hd
    refine Goes.step (S' := Tc2.setTop (mkF m 351 #[.val (.ref a1), .val (.int p1), .val (.long nv), .second, .val (.long z), .second, .val (.int i), .val (.int dd)] [(.int (1 : Int32)), (.int dd)])) (fun t k => XS.iload Xc2.here hx rfl (hb hby dk599) rfl (XS.iconst Xc2.here hx rfl (hb hby dk600) k)) ?_
    by_cases hc135 : (1 : Int32) < dd
    case pos =>
      refine Goes.step (S' := Tc2.setTop (mkF m 364 #[.val (.ref a1), .val (.int p1), .val (.long nv), .second, .val (.long z), .second, .val (.int i), .val (.int dd)] [(.long z), (.int ((i + dd) - (2 : Int32))), (.ref a1)])) (fun t k => XS.icmpNo Xc2.here hx rfl (hb hby dk601) rfl (tlt hc135).2.2.2 (XS.aloadN Xc2.here hx rfl (hb hby dk602) rfl rfl (XS.iload Xc2.here hx rfl (hb hby dk603) rfl (XS.iload Xc2.here hx rfl (hb hby dk604) rfl (XS.iadd Xc2.here hx rfl (hb hby dk605) rfl (XS.iconst Xc2.here hx rfl (hb hby dk606) (XS.isub Xc2.here hx rfl (hb hby dk607) rfl (XS.lload Xc2.here hx rfl (hb hby dk608) rfl k)))))))) ?_
      refine Goes.step (S' := Tc2.setTop (mkF m 367 #[.val (.ref a1), .val (.int p1), .val (.long nv), .second, .val (.long z), .second, .val (.int i), .val (.int dd)] [(.long (10 : Int64)), (.long z), (.int ((i + dd) - (2 : Int32))), (.ref a1)])) (fun t k => Xc2.ldc2Long hx hown (mvT hZ tw199) (g := (mkF m 364 #[.val (.ref a1), .val (.int p1), .val (.long nv), .second, .val (.long z), .second, .val (.int i), .val (.int dd)] [(.long z), (.int ((i + dd) - (2 : Int32))), (.ref a1)])) rfl (hb hby dk609) _ k) ?_
      have ck := own_chk (k := 2) (P := 10) (kk := 2) (pp := 10) HA HI hi hd HNW HW HL (by decide) (own_kD (k := 1) hd (by decide) hc135) (by decide) hz (by decide) (by decide)
      obtain ⟨_, _, ⟨T136, L136, k136, n136⟩, -, X136, ⟨Lc136, hQ136, l136, y136, z136⟩, st136⟩ := Jvm.LawKit.callS Xc2 hx (y := mth37) hown (mvT hZ tw195) (mvT hZ tw196) (mvT hZ tw175) (mvT hZ tw197) (by decide) (backOf (W := 0) (dig l Z a0 hw [] a1 w kw N bs ((i + dd) - (2 : Int32)) (Int32.ofNat (48 + nn / 10 % 10)) z (10 : Int64) cs fm h0 n0 Z0 Es Fw Fx Vw SC (PC : ¬ (cs = (0 : Int32))) SF (HF : fm.isRef = true) ck.1 ck.2.1 ck.2.2.1 (own_yB nn 10).1 (own_yB nn 10).2 ck.2.2.2 (by decide)) hZ tw197 tw175 (by decide) (by decide)) (g := (mkF m 367 #[.val (.ref a1), .val (.int p1), .val (.long nv), .second, .val (.long z), .second, .val (.int i), .val (.int dd)] [(.long (10 : Int64)), (.long z), (.int ((i + dd) - (2 : Int32))), (.ref a1)])) rfl (by rw [hml]; rfl) (argsL := [(.ref a1), (.int ((i + dd) - (2 : Int32))), (.long z), (.long (10 : Int64))]) (rest := []) (lenOf pd_Ljava_lang_String_IJJ_Z rfl) rfl (Nat.le_of_eq rfl) (hb hby dk610) (fun _ _ => ⟨rfl, ec2, (by decide : 0 + 0 ≤ _), (by decide : 0 + 0 ≤ _)⟩)
      dsimp only [Pt.U, Pt.locs, Pt.cells, Pt.slots] at X136 l136 y136 z136 st136 hQ136
      subst y136 z136
      obtain ⟨rfl, Nq136, q136_0⟩ := hQ136
      have N136 : Fr n0 L136 := by rw [l136]; exact Fr.app Nc2 Nq136
      refine Goes.step (S' := T136.setTop (mkF m 375 #[.val (.ref a1), .val (.int p1), .val (.long nv), .second, .val (.long z), .second, .val (.int i), .val (.int dd)] [])) (fun t k => st136 _ (XS.ifYes X136.here hx rfl (pc0 := 370) (pc' := 375) rfl (hb hby dk611) rfl ((if0 _ _).trans (feq ((by decide) : ¬ ((1 : Int32) = (0 : Int32)))).2) (by decide) (by decide) k)) ?_
      exact c3 z i dd T136 _ X136 q136_0 N136 hz hi hd
    case neg =>
      refine Goes.step (S' := Tc2.setTop (mkF m 375 #[.val (.ref a1), .val (.int p1), .val (.long nv), .second, .val (.long z), .second, .val (.int i), .val (.int dd)] [])) (fun t k => XS.icmpYes Xc2.here hx rfl (pc0 := 351) (pc' := 375) rfl (hb hby dk601) rfl (flt hc135).2.2.2 (by decide) (by decide) k) ?_
      exact c3 z i dd Tc2 _ Xc2 ec2 Nc2 hz hi hd
  have chk : ∀ (z : Int64) (i : Int32) (dd : Int32) (Tchk : State) (locschk : List Loc)  (Xchk : Stand p l e rom32 s m #[(.ref a1), (.int p1), (.long nv)] below meth c Tchk locschk 0 0) (echk : Tchk.heap = h0) (Nchk : Fr n0 locschk) (hz : z = negL nn) (hi : i = Int32.ofNat (ps + GetCharsL.sgnL nv)) (hd : dd = Int32.ofNat (digitsL nn)) (d0 : (0 : Int32) < dd) (d1 : ¬ ((20 : Int32) < dd)), Goes p e below (Pq (Q_num Z a1 w kw N bs p1 nv nn ps cs fm h0 n0) s rom32.cells rom32.slots) (Tchk.setTop (mkF m 327 #[.val (.ref a1), .val (.int p1), .val (.long nv), .second, .val (.long z), .second, .val (.int i), .unset] [(.int dd)])) := by
    intro z i dd Tchk locschk Xchk echk Nchk hz hi hd d0 d1
    refine Goes.step (S' := Tchk.setTop (mkF m 339 #[.val (.ref a1), .val (.int p1), .val (.long nv), .second, .val (.long z), .second, .val (.int i), .val (.int dd)] [(.long z), (.int ((i + dd) - (1 : Int32))), (.ref a1)])) (fun t k => XS.istore Xchk.here hx rfl (hb hby dk588) rfl (l' := #[.val (.ref a1), .val (.int p1), .val (.long nv), .second, .val (.long z), .second, .val (.int i), .val (.int dd)]) rfl (XS.aloadN Xchk.here hx rfl (hb hby dk589) rfl rfl (XS.iload Xchk.here hx rfl (hb hby dk590) rfl (XS.iload Xchk.here hx rfl (hb hby dk591) rfl (XS.iadd Xchk.here hx rfl (hb hby dk592) rfl (XS.iconst Xchk.here hx rfl (hb hby dk593) (XS.isub Xchk.here hx rfl (hb hby dk594) rfl (XS.lload Xchk.here hx rfl (hb hby dk595) rfl k)))))))) ?_
    refine Goes.step (S' := Tchk.setTop (mkF m 340 #[.val (.ref a1), .val (.int p1), .val (.long nv), .second, .val (.long z), .second, .val (.int i), .val (.int dd)] [(.long (1 : Int64)), (.long z), (.int ((i + dd) - (1 : Int32))), (.ref a1)])) (fun t k => XS.lconst Xchk.here hx rfl (hb hby dk596) k) ?_
    have ck := own_chk (k := 1) (P := 1) (kk := 1) (pp := 1) HA HI hi hd HNW HW HL (by decide) (digitsL_pos nn).1 (by decide) hz (by decide) (by decide)
    obtain ⟨_, _, ⟨T137, L137, k137, n137⟩, -, X137, ⟨Lc137, hQ137, l137, y137, z137⟩, st137⟩ := Jvm.LawKit.callS Xchk hx (y := mth37) hown (mvT hZ tw195) (mvT hZ tw196) (mvT hZ tw175) (mvT hZ tw197) (by decide) (backOf (W := 0) (dig l Z a0 hw [] a1 w kw N bs ((i + dd) - (1 : Int32)) (Int32.ofNat (48 + nn / 1 % 10)) z (1 : Int64) cs fm h0 n0 Z0 Es Fw Fx Vw SC (PC : ¬ (cs = (0 : Int32))) SF (HF : fm.isRef = true) ck.1 ck.2.1 ck.2.2.1 (own_yB nn 1).1 (own_yB nn 1).2 ck.2.2.2 (by decide)) hZ tw197 tw175 (by decide) (by decide)) (g := (mkF m 340 #[.val (.ref a1), .val (.int p1), .val (.long nv), .second, .val (.long z), .second, .val (.int i), .val (.int dd)] [(.long (1 : Int64)), (.long z), (.int ((i + dd) - (1 : Int32))), (.ref a1)])) rfl (by rw [hml]; rfl) (argsL := [(.ref a1), (.int ((i + dd) - (1 : Int32))), (.long z), (.long (1 : Int64))]) (rest := []) (lenOf pd_Ljava_lang_String_IJJ_Z rfl) rfl (Nat.le_of_eq rfl) (hb hby dk597) (fun _ _ => ⟨rfl, echk, (by decide : 0 + 0 ≤ _), (by decide : 0 + 0 ≤ _)⟩)
    dsimp only [Pt.U, Pt.locs, Pt.cells, Pt.slots] at X137 l137 y137 z137 st137 hQ137
    subst y137 z137
    obtain ⟨rfl, Nq137, q137_0⟩ := hQ137
    have N137 : Fr n0 L137 := by rw [l137]; exact Fr.app Nchk Nq137
    refine Goes.step (S' := T137.setTop (mkF m 348 #[.val (.ref a1), .val (.int p1), .val (.long nv), .second, .val (.long z), .second, .val (.int i), .val (.int dd)] [])) (fun t k => st137 _ (XS.ifYes X137.here hx rfl (pc0 := 343) (pc' := 348) rfl (hb hby dk598) rfl ((if0 _ _).trans (feq ((by decide) : ¬ ((1 : Int32) = (0 : Int32)))).2) (by decide) (by decide) k)) ?_
    exact c2 z i dd T137 _ X137 q137_0 N137 hz hi hd
  have g17 : ∀ (z : Int64) (i : Int32) (q : Int32) (Tg17 : State) (locsg17 : List Loc)  (Xg17 : Stand p l e rom32 s m #[(.ref a1), (.int p1), (.long nv)] below meth c Tg17 locsg17 0 0) (eg17 : Tg17.heap = h0) (Ng17 : Fr n0 locsg17) (hz : z = negL nn) (hi : i = Int32.ofNat (ps + GetCharsL.sgnL nv)) (hq : q = own_cnt [(-100000000000000000 : Int64), (-10000000000000000 : Int64), (-1000000000000000 : Int64), (-100000000000000 : Int64), (-10000000000000 : Int64), (-1000000000000 : Int64), (-100000000000 : Int64), (-10000000000 : Int64), (-1000000000 : Int64), (-100000000 : Int64), (-10000000 : Int64), (-1000000 : Int64), (-100000 : Int64), (-10000 : Int64), (-1000 : Int64), (-100 : Int64), (-10 : Int64)] z), Goes p e below (Pq (Q_num Z a1 w kw N bs p1 nv nn ps cs fm h0 n0) s rom32.cells rom32.slots) (Tg17.setTop (mkF m 312 #[.val (.ref a1), .val (.int p1), .val (.long nv), .second, .val (.long z), .second, .val (.int i), .unset] [(.int q)])) := by
    intro z i q Tg17 locsg17 Xg17 eg17 Ng17 hz hi hq
    refine Goes.step (S' := Tg17.setTop (mkF m 318 #[.val (.ref a1), .val (.int p1), .val (.long nv), .second, .val (.long z), .second, .val (.int i), .unset] [(.int (lcmpW z (-1000000000000000000 : Int64))), (.int q)])) (fun t k => XS.lload Xg17.here hx rfl (hb hby dk580) rfl (Xg17.ldc2Long hx hown (mvT hZ tw194) (g := (mkF m 314 #[.val (.ref a1), .val (.int p1), .val (.long nv), .second, .val (.long z), .second, .val (.int i), .unset] [(.long z), (.int q)])) rfl (hb hby dk581) _ (XS.lcmp Xg17.here hx rfl (hb hby dk582) rfl k))) ?_
    by_cases hc138 : (0 : Int32) < (lcmpW z (-1000000000000000000 : Int64))
    case pos =>
      refine Goes.step (S' := Tg17.setTop (mkF m 327 #[.val (.ref a1), .val (.int p1), .val (.long nv), .second, .val (.long z), .second, .val (.int i), .unset] [(.int (q + (0 : Int32)))])) (fun t k => XS.ifYes Xg17.here hx rfl (pc0 := 318) (pc' := 325) rfl (hb hby dk583) rfl ((if0 _ _).trans (tlt hc138).2.2.1) (by decide) (by decide) (XS.iconst Xg17.here hx rfl (hb hby dk586) (XS.iadd Xg17.here hx rfl (hb hby dk587) rfl k))) ?_
      exact chk z i (q + (0 : Int32)) Tg17 _ Xg17 eg17 Ng17 hz hi (own_cntL HA.1 hz (own_cntT (own_gtT hc138) hq)) (own_ddB (own_cntL HA.1 hz (own_cntT (own_gtT hc138) hq))).1 (own_ddB (own_cntL HA.1 hz (own_cntT (own_gtT hc138) hq))).2
    case neg =>
      refine Goes.step (S' := Tg17.setTop (mkF m 327 #[.val (.ref a1), .val (.int p1), .val (.long nv), .second, .val (.long z), .second, .val (.int i), .unset] [(.int (q + (1 : Int32)))])) (fun t k => XS.ifNo Xg17.here hx rfl (hb hby dk583) rfl ((if0 _ _).trans (flt hc138).2.2.1) (XS.iconst Xg17.here hx rfl (hb hby dk584) (XS.goto Xg17.here hx rfl (pc0 := 322) (pc' := 326) rfl (hb hby dk585) (by decide) (by decide) (XS.iadd Xg17.here hx rfl (hb hby dk587) rfl k)))) ?_
      exact chk z i (q + (1 : Int32)) Tg17 _ Xg17 eg17 Ng17 hz hi (own_cntL HA.1 hz (own_cntF (own_gtF hc138) hq)) (own_ddB (own_cntL HA.1 hz (own_cntF (own_gtF hc138) hq))).1 (own_ddB (own_cntL HA.1 hz (own_cntF (own_gtF hc138) hq))).2
  have g16 : ∀ (z : Int64) (i : Int32) (q : Int32) (Tg16 : State) (locsg16 : List Loc)  (Xg16 : Stand p l e rom32 s m #[(.ref a1), (.int p1), (.long nv)] below meth c Tg16 locsg16 0 0) (eg16 : Tg16.heap = h0) (Ng16 : Fr n0 locsg16) (hz : z = negL nn) (hi : i = Int32.ofNat (ps + GetCharsL.sgnL nv)) (hq : q = own_cnt [(-10000000000000000 : Int64), (-1000000000000000 : Int64), (-100000000000000 : Int64), (-10000000000000 : Int64), (-1000000000000 : Int64), (-100000000000 : Int64), (-10000000000 : Int64), (-1000000000 : Int64), (-100000000 : Int64), (-10000000 : Int64), (-1000000 : Int64), (-100000 : Int64), (-10000 : Int64), (-1000 : Int64), (-100 : Int64), (-10 : Int64)] z), Goes p e below (Pq (Q_num Z a1 w kw N bs p1 nv nn ps cs fm h0 n0) s rom32.cells rom32.slots) (Tg16.setTop (mkF m 297 #[.val (.ref a1), .val (.int p1), .val (.long nv), .second, .val (.long z), .second, .val (.int i), .unset] [(.int q)])) := by
    intro z i q Tg16 locsg16 Xg16 eg16 Ng16 hz hi hq
    refine Goes.step (S' := Tg16.setTop (mkF m 303 #[.val (.ref a1), .val (.int p1), .val (.long nv), .second, .val (.long z), .second, .val (.int i), .unset] [(.int (lcmpW z (-100000000000000000 : Int64))), (.int q)])) (fun t k => XS.lload Xg16.here hx rfl (hb hby dk572) rfl (Xg16.ldc2Long hx hown (mvT hZ tw193) (g := (mkF m 299 #[.val (.ref a1), .val (.int p1), .val (.long nv), .second, .val (.long z), .second, .val (.int i), .unset] [(.long z), (.int q)])) rfl (hb hby dk573) _ (XS.lcmp Xg16.here hx rfl (hb hby dk574) rfl k))) ?_
    by_cases hc139 : (0 : Int32) < (lcmpW z (-100000000000000000 : Int64))
    case pos =>
      refine Goes.step (S' := Tg16.setTop (mkF m 312 #[.val (.ref a1), .val (.int p1), .val (.long nv), .second, .val (.long z), .second, .val (.int i), .unset] [(.int (q + (0 : Int32)))])) (fun t k => XS.ifYes Xg16.here hx rfl (pc0 := 303) (pc' := 310) rfl (hb hby dk575) rfl ((if0 _ _).trans (tlt hc139).2.2.1) (by decide) (by decide) (XS.iconst Xg16.here hx rfl (hb hby dk578) (XS.iadd Xg16.here hx rfl (hb hby dk579) rfl k))) ?_
      exact g17 z i (q + (0 : Int32)) Tg16 _ Xg16 eg16 Ng16 hz hi (own_cntT (own_gtT hc139) hq)
    case neg =>
      refine Goes.step (S' := Tg16.setTop (mkF m 312 #[.val (.ref a1), .val (.int p1), .val (.long nv), .second, .val (.long z), .second, .val (.int i), .unset] [(.int (q + (1 : Int32)))])) (fun t k => XS.ifNo Xg16.here hx rfl (hb hby dk575) rfl ((if0 _ _).trans (flt hc139).2.2.1) (XS.iconst Xg16.here hx rfl (hb hby dk576) (XS.goto Xg16.here hx rfl (pc0 := 307) (pc' := 311) rfl (hb hby dk577) (by decide) (by decide) (XS.iadd Xg16.here hx rfl (hb hby dk579) rfl k)))) ?_
      exact g17 z i (q + (1 : Int32)) Tg16 _ Xg16 eg16 Ng16 hz hi (own_cntF (own_gtF hc139) hq)
  have g15 : ∀ (z : Int64) (i : Int32) (q : Int32) (Tg15 : State) (locsg15 : List Loc)  (Xg15 : Stand p l e rom32 s m #[(.ref a1), (.int p1), (.long nv)] below meth c Tg15 locsg15 0 0) (eg15 : Tg15.heap = h0) (Ng15 : Fr n0 locsg15) (hz : z = negL nn) (hi : i = Int32.ofNat (ps + GetCharsL.sgnL nv)) (hq : q = own_cnt [(-1000000000000000 : Int64), (-100000000000000 : Int64), (-10000000000000 : Int64), (-1000000000000 : Int64), (-100000000000 : Int64), (-10000000000 : Int64), (-1000000000 : Int64), (-100000000 : Int64), (-10000000 : Int64), (-1000000 : Int64), (-100000 : Int64), (-10000 : Int64), (-1000 : Int64), (-100 : Int64), (-10 : Int64)] z), Goes p e below (Pq (Q_num Z a1 w kw N bs p1 nv nn ps cs fm h0 n0) s rom32.cells rom32.slots) (Tg15.setTop (mkF m 282 #[.val (.ref a1), .val (.int p1), .val (.long nv), .second, .val (.long z), .second, .val (.int i), .unset] [(.int q)])) := by
    intro z i q Tg15 locsg15 Xg15 eg15 Ng15 hz hi hq
    refine Goes.step (S' := Tg15.setTop (mkF m 288 #[.val (.ref a1), .val (.int p1), .val (.long nv), .second, .val (.long z), .second, .val (.int i), .unset] [(.int (lcmpW z (-10000000000000000 : Int64))), (.int q)])) (fun t k => XS.lload Xg15.here hx rfl (hb hby dk564) rfl (Xg15.ldc2Long hx hown (mvT hZ tw192) (g := (mkF m 284 #[.val (.ref a1), .val (.int p1), .val (.long nv), .second, .val (.long z), .second, .val (.int i), .unset] [(.long z), (.int q)])) rfl (hb hby dk565) _ (XS.lcmp Xg15.here hx rfl (hb hby dk566) rfl k))) ?_
    by_cases hc140 : (0 : Int32) < (lcmpW z (-10000000000000000 : Int64))
    case pos =>
      refine Goes.step (S' := Tg15.setTop (mkF m 297 #[.val (.ref a1), .val (.int p1), .val (.long nv), .second, .val (.long z), .second, .val (.int i), .unset] [(.int (q + (0 : Int32)))])) (fun t k => XS.ifYes Xg15.here hx rfl (pc0 := 288) (pc' := 295) rfl (hb hby dk567) rfl ((if0 _ _).trans (tlt hc140).2.2.1) (by decide) (by decide) (XS.iconst Xg15.here hx rfl (hb hby dk570) (XS.iadd Xg15.here hx rfl (hb hby dk571) rfl k))) ?_
      exact g16 z i (q + (0 : Int32)) Tg15 _ Xg15 eg15 Ng15 hz hi (own_cntT (own_gtT hc140) hq)
    case neg =>
      refine Goes.step (S' := Tg15.setTop (mkF m 297 #[.val (.ref a1), .val (.int p1), .val (.long nv), .second, .val (.long z), .second, .val (.int i), .unset] [(.int (q + (1 : Int32)))])) (fun t k => XS.ifNo Xg15.here hx rfl (hb hby dk567) rfl ((if0 _ _).trans (flt hc140).2.2.1) (XS.iconst Xg15.here hx rfl (hb hby dk568) (XS.goto Xg15.here hx rfl (pc0 := 292) (pc' := 296) rfl (hb hby dk569) (by decide) (by decide) (XS.iadd Xg15.here hx rfl (hb hby dk571) rfl k)))) ?_
      exact g16 z i (q + (1 : Int32)) Tg15 _ Xg15 eg15 Ng15 hz hi (own_cntF (own_gtF hc140) hq)
  have g14 : ∀ (z : Int64) (i : Int32) (q : Int32) (Tg14 : State) (locsg14 : List Loc)  (Xg14 : Stand p l e rom32 s m #[(.ref a1), (.int p1), (.long nv)] below meth c Tg14 locsg14 0 0) (eg14 : Tg14.heap = h0) (Ng14 : Fr n0 locsg14) (hz : z = negL nn) (hi : i = Int32.ofNat (ps + GetCharsL.sgnL nv)) (hq : q = own_cnt [(-100000000000000 : Int64), (-10000000000000 : Int64), (-1000000000000 : Int64), (-100000000000 : Int64), (-10000000000 : Int64), (-1000000000 : Int64), (-100000000 : Int64), (-10000000 : Int64), (-1000000 : Int64), (-100000 : Int64), (-10000 : Int64), (-1000 : Int64), (-100 : Int64), (-10 : Int64)] z), Goes p e below (Pq (Q_num Z a1 w kw N bs p1 nv nn ps cs fm h0 n0) s rom32.cells rom32.slots) (Tg14.setTop (mkF m 267 #[.val (.ref a1), .val (.int p1), .val (.long nv), .second, .val (.long z), .second, .val (.int i), .unset] [(.int q)])) := by
    intro z i q Tg14 locsg14 Xg14 eg14 Ng14 hz hi hq
    refine Goes.step (S' := Tg14.setTop (mkF m 273 #[.val (.ref a1), .val (.int p1), .val (.long nv), .second, .val (.long z), .second, .val (.int i), .unset] [(.int (lcmpW z (-1000000000000000 : Int64))), (.int q)])) (fun t k => XS.lload Xg14.here hx rfl (hb hby dk556) rfl (Xg14.ldc2Long hx hown (mvT hZ tw191) (g := (mkF m 269 #[.val (.ref a1), .val (.int p1), .val (.long nv), .second, .val (.long z), .second, .val (.int i), .unset] [(.long z), (.int q)])) rfl (hb hby dk557) _ (XS.lcmp Xg14.here hx rfl (hb hby dk558) rfl k))) ?_
    by_cases hc141 : (0 : Int32) < (lcmpW z (-1000000000000000 : Int64))
    case pos =>
      refine Goes.step (S' := Tg14.setTop (mkF m 282 #[.val (.ref a1), .val (.int p1), .val (.long nv), .second, .val (.long z), .second, .val (.int i), .unset] [(.int (q + (0 : Int32)))])) (fun t k => XS.ifYes Xg14.here hx rfl (pc0 := 273) (pc' := 280) rfl (hb hby dk559) rfl ((if0 _ _).trans (tlt hc141).2.2.1) (by decide) (by decide) (XS.iconst Xg14.here hx rfl (hb hby dk562) (XS.iadd Xg14.here hx rfl (hb hby dk563) rfl k))) ?_
      exact g15 z i (q + (0 : Int32)) Tg14 _ Xg14 eg14 Ng14 hz hi (own_cntT (own_gtT hc141) hq)
    case neg =>
      refine Goes.step (S' := Tg14.setTop (mkF m 282 #[.val (.ref a1), .val (.int p1), .val (.long nv), .second, .val (.long z), .second, .val (.int i), .unset] [(.int (q + (1 : Int32)))])) (fun t k => XS.ifNo Xg14.here hx rfl (hb hby dk559) rfl ((if0 _ _).trans (flt hc141).2.2.1) (XS.iconst Xg14.here hx rfl (hb hby dk560) (XS.goto Xg14.here hx rfl (pc0 := 277) (pc' := 281) rfl (hb hby dk561) (by decide) (by decide) (XS.iadd Xg14.here hx rfl (hb hby dk563) rfl k)))) ?_
      exact g15 z i (q + (1 : Int32)) Tg14 _ Xg14 eg14 Ng14 hz hi (own_cntF (own_gtF hc141) hq)
  have g13 : ∀ (z : Int64) (i : Int32) (q : Int32) (Tg13 : State) (locsg13 : List Loc)  (Xg13 : Stand p l e rom32 s m #[(.ref a1), (.int p1), (.long nv)] below meth c Tg13 locsg13 0 0) (eg13 : Tg13.heap = h0) (Ng13 : Fr n0 locsg13) (hz : z = negL nn) (hi : i = Int32.ofNat (ps + GetCharsL.sgnL nv)) (hq : q = own_cnt [(-10000000000000 : Int64), (-1000000000000 : Int64), (-100000000000 : Int64), (-10000000000 : Int64), (-1000000000 : Int64), (-100000000 : Int64), (-10000000 : Int64), (-1000000 : Int64), (-100000 : Int64), (-10000 : Int64), (-1000 : Int64), (-100 : Int64), (-10 : Int64)] z), Goes p e below (Pq (Q_num Z a1 w kw N bs p1 nv nn ps cs fm h0 n0) s rom32.cells rom32.slots) (Tg13.setTop (mkF m 252 #[.val (.ref a1), .val (.int p1), .val (.long nv), .second, .val (.long z), .second, .val (.int i), .unset] [(.int q)])) := by
    intro z i q Tg13 locsg13 Xg13 eg13 Ng13 hz hi hq
    refine Goes.step (S' := Tg13.setTop (mkF m 258 #[.val (.ref a1), .val (.int p1), .val (.long nv), .second, .val (.long z), .second, .val (.int i), .unset] [(.int (lcmpW z (-100000000000000 : Int64))), (.int q)])) (fun t k => XS.lload Xg13.here hx rfl (hb hby dk548) rfl (Xg13.ldc2Long hx hown (mvT hZ tw190) (g := (mkF m 254 #[.val (.ref a1), .val (.int p1), .val (.long nv), .second, .val (.long z), .second, .val (.int i), .unset] [(.long z), (.int q)])) rfl (hb hby dk549) _ (XS.lcmp Xg13.here hx rfl (hb hby dk550) rfl k))) ?_
    by_cases hc142 : (0 : Int32) < (lcmpW z (-100000000000000 : Int64))
    case pos =>
      refine Goes.step (S' := Tg13.setTop (mkF m 267 #[.val (.ref a1), .val (.int p1), .val (.long nv), .second, .val (.long z), .second, .val (.int i), .unset] [(.int (q + (0 : Int32)))])) (fun t k => XS.ifYes Xg13.here hx rfl (pc0 := 258) (pc' := 265) rfl (hb hby dk551) rfl ((if0 _ _).trans (tlt hc142).2.2.1) (by decide) (by decide) (XS.iconst Xg13.here hx rfl (hb hby dk554) (XS.iadd Xg13.here hx rfl (hb hby dk555) rfl k))) ?_
      exact g14 z i (q + (0 : Int32)) Tg13 _ Xg13 eg13 Ng13 hz hi (own_cntT (own_gtT hc142) hq)
    case neg =>
      refine Goes.step (S' := Tg13.setTop (mkF m 267 #[.val (.ref a1), .val (.int p1), .val (.long nv), .second, .val (.long z), .second, .val (.int i), .unset] [(.int (q + (1 : Int32)))])) (fun t k => XS.ifNo Xg13.here hx rfl (hb hby dk551) rfl ((if0 _ _).trans (flt hc142).2.2.1) (XS.iconst Xg13.here hx rfl (hb hby dk552) (XS.goto Xg13.here hx rfl (pc0 := 262) (pc' := 266) rfl (hb hby dk553) (by decide) (by decide) (XS.iadd Xg13.here hx rfl (hb hby dk555) rfl k)))) ?_
      exact g14 z i (q + (1 : Int32)) Tg13 _ Xg13 eg13 Ng13 hz hi (own_cntF (own_gtF hc142) hq)
  have g12 : ∀ (z : Int64) (i : Int32) (q : Int32) (Tg12 : State) (locsg12 : List Loc)  (Xg12 : Stand p l e rom32 s m #[(.ref a1), (.int p1), (.long nv)] below meth c Tg12 locsg12 0 0) (eg12 : Tg12.heap = h0) (Ng12 : Fr n0 locsg12) (hz : z = negL nn) (hi : i = Int32.ofNat (ps + GetCharsL.sgnL nv)) (hq : q = own_cnt [(-1000000000000 : Int64), (-100000000000 : Int64), (-10000000000 : Int64), (-1000000000 : Int64), (-100000000 : Int64), (-10000000 : Int64), (-1000000 : Int64), (-100000 : Int64), (-10000 : Int64), (-1000 : Int64), (-100 : Int64), (-10 : Int64)] z), Goes p e below (Pq (Q_num Z a1 w kw N bs p1 nv nn ps cs fm h0 n0) s rom32.cells rom32.slots) (Tg12.setTop (mkF m 237 #[.val (.ref a1), .val (.int p1), .val (.long nv), .second, .val (.long z), .second, .val (.int i), .unset] [(.int q)])) := by
    intro z i q Tg12 locsg12 Xg12 eg12 Ng12 hz hi hq
    refine Goes.step (S' := Tg12.setTop (mkF m 243 #[.val (.ref a1), .val (.int p1), .val (.long nv), .second, .val (.long z), .second, .val (.int i), .unset] [(.int (lcmpW z (-10000000000000 : Int64))), (.int q)])) (fun t k => XS.lload Xg12.here hx rfl (hb hby dk540) rfl (Xg12.ldc2Long hx hown (mvT hZ tw189) (g := (mkF m 239 #[.val (.ref a1), .val (.int p1), .val (.long nv), .second, .val (.long z), .second, .val (.int i), .unset] [(.long z), (.int q)])) rfl (hb hby dk541) _ (XS.lcmp Xg12.here hx rfl (hb hby dk542) rfl k))) ?_
    by_cases hc143 : (0 : Int32) < (lcmpW z (-10000000000000 : Int64))
    case pos =>
      refine Goes.step (S' := Tg12.setTop (mkF m 252 #[.val (.ref a1), .val (.int p1), .val (.long nv), .second, .val (.long z), .second, .val (.int i), .unset] [(.int (q + (0 : Int32)))])) (fun t k => XS.ifYes Xg12.here hx rfl (pc0 := 243) (pc' := 250) rfl (hb hby dk543) rfl ((if0 _ _).trans (tlt hc143).2.2.1) (by decide) (by decide) (XS.iconst Xg12.here hx rfl (hb hby dk546) (XS.iadd Xg12.here hx rfl (hb hby dk547) rfl k))) ?_
      exact g13 z i (q + (0 : Int32)) Tg12 _ Xg12 eg12 Ng12 hz hi (own_cntT (own_gtT hc143) hq)
    case neg =>
      refine Goes.step (S' := Tg12.setTop (mkF m 252 #[.val (.ref a1), .val (.int p1), .val (.long nv), .second, .val (.long z), .second, .val (.int i), .unset] [(.int (q + (1 : Int32)))])) (fun t k => XS.ifNo Xg12.here hx rfl (hb hby dk543) rfl ((if0 _ _).trans (flt hc143).2.2.1) (XS.iconst Xg12.here hx rfl (hb hby dk544) (XS.goto Xg12.here hx rfl (pc0 := 247) (pc' := 251) rfl (hb hby dk545) (by decide) (by decide) (XS.iadd Xg12.here hx rfl (hb hby dk547) rfl k)))) ?_
      exact g13 z i (q + (1 : Int32)) Tg12 _ Xg12 eg12 Ng12 hz hi (own_cntF (own_gtF hc143) hq)
  have g11 : ∀ (z : Int64) (i : Int32) (q : Int32) (Tg11 : State) (locsg11 : List Loc)  (Xg11 : Stand p l e rom32 s m #[(.ref a1), (.int p1), (.long nv)] below meth c Tg11 locsg11 0 0) (eg11 : Tg11.heap = h0) (Ng11 : Fr n0 locsg11) (hz : z = negL nn) (hi : i = Int32.ofNat (ps + GetCharsL.sgnL nv)) (hq : q = own_cnt [(-100000000000 : Int64), (-10000000000 : Int64), (-1000000000 : Int64), (-100000000 : Int64), (-10000000 : Int64), (-1000000 : Int64), (-100000 : Int64), (-10000 : Int64), (-1000 : Int64), (-100 : Int64), (-10 : Int64)] z), Goes p e below (Pq (Q_num Z a1 w kw N bs p1 nv nn ps cs fm h0 n0) s rom32.cells rom32.slots) (Tg11.setTop (mkF m 222 #[.val (.ref a1), .val (.int p1), .val (.long nv), .second, .val (.long z), .second, .val (.int i), .unset] [(.int q)])) := by
    intro z i q Tg11 locsg11 Xg11 eg11 Ng11 hz hi hq
    refine Goes.step (S' := Tg11.setTop (mkF m 228 #[.val (.ref a1), .val (.int p1), .val (.long nv), .second, .val (.long z), .second, .val (.int i), .unset] [(.int (lcmpW z (-1000000000000 : Int64))), (.int q)])) (fun t k => XS.lload Xg11.here hx rfl (hb hby dk532) rfl (Xg11.ldc2Long hx hown (mvT hZ tw188) (g := (mkF m 224 #[.val (.ref a1), .val (.int p1), .val (.long nv), .second, .val (.long z), .second, .val (.int i), .unset] [(.long z), (.int q)])) rfl (hb hby dk533) _ (XS.lcmp Xg11.here hx rfl (hb hby dk534) rfl k))) ?_
    by_cases hc144 : (0 : Int32) < (lcmpW z (-1000000000000 : Int64))
    case pos =>
      refine Goes.step (S' := Tg11.setTop (mkF m 237 #[.val (.ref a1), .val (.int p1), .val (.long nv), .second, .val (.long z), .second, .val (.int i), .unset] [(.int (q + (0 : Int32)))])) (fun t k => XS.ifYes Xg11.here hx rfl (pc0 := 228) (pc' := 235) rfl (hb hby dk535) rfl ((if0 _ _).trans (tlt hc144).2.2.1) (by decide) (by decide) (XS.iconst Xg11.here hx rfl (hb hby dk538) (XS.iadd Xg11.here hx rfl (hb hby dk539) rfl k))) ?_
      exact g12 z i (q + (0 : Int32)) Tg11 _ Xg11 eg11 Ng11 hz hi (own_cntT (own_gtT hc144) hq)
    case neg =>
      refine Goes.step (S' := Tg11.setTop (mkF m 237 #[.val (.ref a1), .val (.int p1), .val (.long nv), .second, .val (.long z), .second, .val (.int i), .unset] [(.int (q + (1 : Int32)))])) (fun t k => XS.ifNo Xg11.here hx rfl (hb hby dk535) rfl ((if0 _ _).trans (flt hc144).2.2.1) (XS.iconst Xg11.here hx rfl (hb hby dk536) (XS.goto Xg11.here hx rfl (pc0 := 232) (pc' := 236) rfl (hb hby dk537) (by decide) (by decide) (XS.iadd Xg11.here hx rfl (hb hby dk539) rfl k)))) ?_
      exact g12 z i (q + (1 : Int32)) Tg11 _ Xg11 eg11 Ng11 hz hi (own_cntF (own_gtF hc144) hq)
  have g10 : ∀ (z : Int64) (i : Int32) (q : Int32) (Tg10 : State) (locsg10 : List Loc)  (Xg10 : Stand p l e rom32 s m #[(.ref a1), (.int p1), (.long nv)] below meth c Tg10 locsg10 0 0) (eg10 : Tg10.heap = h0) (Ng10 : Fr n0 locsg10) (hz : z = negL nn) (hi : i = Int32.ofNat (ps + GetCharsL.sgnL nv)) (hq : q = own_cnt [(-10000000000 : Int64), (-1000000000 : Int64), (-100000000 : Int64), (-10000000 : Int64), (-1000000 : Int64), (-100000 : Int64), (-10000 : Int64), (-1000 : Int64), (-100 : Int64), (-10 : Int64)] z), Goes p e below (Pq (Q_num Z a1 w kw N bs p1 nv nn ps cs fm h0 n0) s rom32.cells rom32.slots) (Tg10.setTop (mkF m 207 #[.val (.ref a1), .val (.int p1), .val (.long nv), .second, .val (.long z), .second, .val (.int i), .unset] [(.int q)])) := by
    intro z i q Tg10 locsg10 Xg10 eg10 Ng10 hz hi hq
    refine Goes.step (S' := Tg10.setTop (mkF m 213 #[.val (.ref a1), .val (.int p1), .val (.long nv), .second, .val (.long z), .second, .val (.int i), .unset] [(.int (lcmpW z (-100000000000 : Int64))), (.int q)])) (fun t k => XS.lload Xg10.here hx rfl (hb hby dk524) rfl (Xg10.ldc2Long hx hown (mvT hZ tw187) (g := (mkF m 209 #[.val (.ref a1), .val (.int p1), .val (.long nv), .second, .val (.long z), .second, .val (.int i), .unset] [(.long z), (.int q)])) rfl (hb hby dk525) _ (XS.lcmp Xg10.here hx rfl (hb hby dk526) rfl k))) ?_
    by_cases hc145 : (0 : Int32) < (lcmpW z (-100000000000 : Int64))
    case pos =>
      refine Goes.step (S' := Tg10.setTop (mkF m 222 #[.val (.ref a1), .val (.int p1), .val (.long nv), .second, .val (.long z), .second, .val (.int i), .unset] [(.int (q + (0 : Int32)))])) (fun t k => XS.ifYes Xg10.here hx rfl (pc0 := 213) (pc' := 220) rfl (hb hby dk527) rfl ((if0 _ _).trans (tlt hc145).2.2.1) (by decide) (by decide) (XS.iconst Xg10.here hx rfl (hb hby dk530) (XS.iadd Xg10.here hx rfl (hb hby dk531) rfl k))) ?_
      exact g11 z i (q + (0 : Int32)) Tg10 _ Xg10 eg10 Ng10 hz hi (own_cntT (own_gtT hc145) hq)
    case neg =>
      refine Goes.step (S' := Tg10.setTop (mkF m 222 #[.val (.ref a1), .val (.int p1), .val (.long nv), .second, .val (.long z), .second, .val (.int i), .unset] [(.int (q + (1 : Int32)))])) (fun t k => XS.ifNo Xg10.here hx rfl (hb hby dk527) rfl ((if0 _ _).trans (flt hc145).2.2.1) (XS.iconst Xg10.here hx rfl (hb hby dk528) (XS.goto Xg10.here hx rfl (pc0 := 217) (pc' := 221) rfl (hb hby dk529) (by decide) (by decide) (XS.iadd Xg10.here hx rfl (hb hby dk531) rfl k)))) ?_
      exact g11 z i (q + (1 : Int32)) Tg10 _ Xg10 eg10 Ng10 hz hi (own_cntF (own_gtF hc145) hq)
  have g9 : ∀ (z : Int64) (i : Int32) (q : Int32) (Tg9 : State) (locsg9 : List Loc)  (Xg9 : Stand p l e rom32 s m #[(.ref a1), (.int p1), (.long nv)] below meth c Tg9 locsg9 0 0) (eg9 : Tg9.heap = h0) (Ng9 : Fr n0 locsg9) (hz : z = negL nn) (hi : i = Int32.ofNat (ps + GetCharsL.sgnL nv)) (hq : q = own_cnt [(-1000000000 : Int64), (-100000000 : Int64), (-10000000 : Int64), (-1000000 : Int64), (-100000 : Int64), (-10000 : Int64), (-1000 : Int64), (-100 : Int64), (-10 : Int64)] z), Goes p e below (Pq (Q_num Z a1 w kw N bs p1 nv nn ps cs fm h0 n0) s rom32.cells rom32.slots) (Tg9.setTop (mkF m 192 #[.val (.ref a1), .val (.int p1), .val (.long nv), .second, .val (.long z), .second, .val (.int i), .unset] [(.int q)])) := by
    intro z i q Tg9 locsg9 Xg9 eg9 Ng9 hz hi hq
    refine Goes.step (S' := Tg9.setTop (mkF m 198 #[.val (.ref a1), .val (.int p1), .val (.long nv), .second, .val (.long z), .second, .val (.int i), .unset] [(.int (lcmpW z (-10000000000 : Int64))), (.int q)])) (fun t k => XS.lload Xg9.here hx rfl (hb hby dk516) rfl (Xg9.ldc2Long hx hown (mvT hZ tw186) (g := (mkF m 194 #[.val (.ref a1), .val (.int p1), .val (.long nv), .second, .val (.long z), .second, .val (.int i), .unset] [(.long z), (.int q)])) rfl (hb hby dk517) _ (XS.lcmp Xg9.here hx rfl (hb hby dk518) rfl k))) ?_
    by_cases hc146 : (0 : Int32) < (lcmpW z (-10000000000 : Int64))
    case pos =>
      refine Goes.step (S' := Tg9.setTop (mkF m 207 #[.val (.ref a1), .val (.int p1), .val (.long nv), .second, .val (.long z), .second, .val (.int i), .unset] [(.int (q + (0 : Int32)))])) (fun t k => XS.ifYes Xg9.here hx rfl (pc0 := 198) (pc' := 205) rfl (hb hby dk519) rfl ((if0 _ _).trans (tlt hc146).2.2.1) (by decide) (by decide) (XS.iconst Xg9.here hx rfl (hb hby dk522) (XS.iadd Xg9.here hx rfl (hb hby dk523) rfl k))) ?_
      exact g10 z i (q + (0 : Int32)) Tg9 _ Xg9 eg9 Ng9 hz hi (own_cntT (own_gtT hc146) hq)
    case neg =>
      refine Goes.step (S' := Tg9.setTop (mkF m 207 #[.val (.ref a1), .val (.int p1), .val (.long nv), .second, .val (.long z), .second, .val (.int i), .unset] [(.int (q + (1 : Int32)))])) (fun t k => XS.ifNo Xg9.here hx rfl (hb hby dk519) rfl ((if0 _ _).trans (flt hc146).2.2.1) (XS.iconst Xg9.here hx rfl (hb hby dk520) (XS.goto Xg9.here hx rfl (pc0 := 202) (pc' := 206) rfl (hb hby dk521) (by decide) (by decide) (XS.iadd Xg9.here hx rfl (hb hby dk523) rfl k)))) ?_
      exact g10 z i (q + (1 : Int32)) Tg9 _ Xg9 eg9 Ng9 hz hi (own_cntF (own_gtF hc146) hq)
  have g8 : ∀ (z : Int64) (i : Int32) (q : Int32) (Tg8 : State) (locsg8 : List Loc)  (Xg8 : Stand p l e rom32 s m #[(.ref a1), (.int p1), (.long nv)] below meth c Tg8 locsg8 0 0) (eg8 : Tg8.heap = h0) (Ng8 : Fr n0 locsg8) (hz : z = negL nn) (hi : i = Int32.ofNat (ps + GetCharsL.sgnL nv)) (hq : q = own_cnt [(-100000000 : Int64), (-10000000 : Int64), (-1000000 : Int64), (-100000 : Int64), (-10000 : Int64), (-1000 : Int64), (-100 : Int64), (-10 : Int64)] z), Goes p e below (Pq (Q_num Z a1 w kw N bs p1 nv nn ps cs fm h0 n0) s rom32.cells rom32.slots) (Tg8.setTop (mkF m 177 #[.val (.ref a1), .val (.int p1), .val (.long nv), .second, .val (.long z), .second, .val (.int i), .unset] [(.int q)])) := by
    intro z i q Tg8 locsg8 Xg8 eg8 Ng8 hz hi hq
    refine Goes.step (S' := Tg8.setTop (mkF m 183 #[.val (.ref a1), .val (.int p1), .val (.long nv), .second, .val (.long z), .second, .val (.int i), .unset] [(.int (lcmpW z (-1000000000 : Int64))), (.int q)])) (fun t k => XS.lload Xg8.here hx rfl (hb hby dk508) rfl (Xg8.ldc2Long hx hown (mvT hZ tw185) (g := (mkF m 179 #[.val (.ref a1), .val (.int p1), .val (.long nv), .second, .val (.long z), .second, .val (.int i), .unset] [(.long z), (.int q)])) rfl (hb hby dk509) _ (XS.lcmp Xg8.here hx rfl (hb hby dk510) rfl k))) ?_
    by_cases hc147 : (0 : Int32) < (lcmpW z (-1000000000 : Int64))
    case pos =>
      refine Goes.step (S' := Tg8.setTop (mkF m 192 #[.val (.ref a1), .val (.int p1), .val (.long nv), .second, .val (.long z), .second, .val (.int i), .unset] [(.int (q + (0 : Int32)))])) (fun t k => XS.ifYes Xg8.here hx rfl (pc0 := 183) (pc' := 190) rfl (hb hby dk511) rfl ((if0 _ _).trans (tlt hc147).2.2.1) (by decide) (by decide) (XS.iconst Xg8.here hx rfl (hb hby dk514) (XS.iadd Xg8.here hx rfl (hb hby dk515) rfl k))) ?_
      exact g9 z i (q + (0 : Int32)) Tg8 _ Xg8 eg8 Ng8 hz hi (own_cntT (own_gtT hc147) hq)
    case neg =>
      refine Goes.step (S' := Tg8.setTop (mkF m 192 #[.val (.ref a1), .val (.int p1), .val (.long nv), .second, .val (.long z), .second, .val (.int i), .unset] [(.int (q + (1 : Int32)))])) (fun t k => XS.ifNo Xg8.here hx rfl (hb hby dk511) rfl ((if0 _ _).trans (flt hc147).2.2.1) (XS.iconst Xg8.here hx rfl (hb hby dk512) (XS.goto Xg8.here hx rfl (pc0 := 187) (pc' := 191) rfl (hb hby dk513) (by decide) (by decide) (XS.iadd Xg8.here hx rfl (hb hby dk515) rfl k)))) ?_
      exact g9 z i (q + (1 : Int32)) Tg8 _ Xg8 eg8 Ng8 hz hi (own_cntF (own_gtF hc147) hq)
  have g7 : ∀ (z : Int64) (i : Int32) (q : Int32) (Tg7 : State) (locsg7 : List Loc)  (Xg7 : Stand p l e rom32 s m #[(.ref a1), (.int p1), (.long nv)] below meth c Tg7 locsg7 0 0) (eg7 : Tg7.heap = h0) (Ng7 : Fr n0 locsg7) (hz : z = negL nn) (hi : i = Int32.ofNat (ps + GetCharsL.sgnL nv)) (hq : q = own_cnt [(-10000000 : Int64), (-1000000 : Int64), (-100000 : Int64), (-10000 : Int64), (-1000 : Int64), (-100 : Int64), (-10 : Int64)] z), Goes p e below (Pq (Q_num Z a1 w kw N bs p1 nv nn ps cs fm h0 n0) s rom32.cells rom32.slots) (Tg7.setTop (mkF m 162 #[.val (.ref a1), .val (.int p1), .val (.long nv), .second, .val (.long z), .second, .val (.int i), .unset] [(.int q)])) := by
    intro z i q Tg7 locsg7 Xg7 eg7 Ng7 hz hi hq
    refine Goes.step (S' := Tg7.setTop (mkF m 168 #[.val (.ref a1), .val (.int p1), .val (.long nv), .second, .val (.long z), .second, .val (.int i), .unset] [(.int (lcmpW z (-100000000 : Int64))), (.int q)])) (fun t k => XS.lload Xg7.here hx rfl (hb hby dk500) rfl (Xg7.ldc2Long hx hown (mvT hZ tw184) (g := (mkF m 164 #[.val (.ref a1), .val (.int p1), .val (.long nv), .second, .val (.long z), .second, .val (.int i), .unset] [(.long z), (.int q)])) rfl (hb hby dk501) _ (XS.lcmp Xg7.here hx rfl (hb hby dk502) rfl k))) ?_
    by_cases hc148 : (0 : Int32) < (lcmpW z (-100000000 : Int64))
    case pos =>
      refine Goes.step (S' := Tg7.setTop (mkF m 177 #[.val (.ref a1), .val (.int p1), .val (.long nv), .second, .val (.long z), .second, .val (.int i), .unset] [(.int (q + (0 : Int32)))])) (fun t k => XS.ifYes Xg7.here hx rfl (pc0 := 168) (pc' := 175) rfl (hb hby dk503) rfl ((if0 _ _).trans (tlt hc148).2.2.1) (by decide) (by decide) (XS.iconst Xg7.here hx rfl (hb hby dk506) (XS.iadd Xg7.here hx rfl (hb hby dk507) rfl k))) ?_
      exact g8 z i (q + (0 : Int32)) Tg7 _ Xg7 eg7 Ng7 hz hi (own_cntT (own_gtT hc148) hq)
    case neg =>
      refine Goes.step (S' := Tg7.setTop (mkF m 177 #[.val (.ref a1), .val (.int p1), .val (.long nv), .second, .val (.long z), .second, .val (.int i), .unset] [(.int (q + (1 : Int32)))])) (fun t k => XS.ifNo Xg7.here hx rfl (hb hby dk503) rfl ((if0 _ _).trans (flt hc148).2.2.1) (XS.iconst Xg7.here hx rfl (hb hby dk504) (XS.goto Xg7.here hx rfl (pc0 := 172) (pc' := 176) rfl (hb hby dk505) (by decide) (by decide) (XS.iadd Xg7.here hx rfl (hb hby dk507) rfl k)))) ?_
      exact g8 z i (q + (1 : Int32)) Tg7 _ Xg7 eg7 Ng7 hz hi (own_cntF (own_gtF hc148) hq)
  have g6 : ∀ (z : Int64) (i : Int32) (q : Int32) (Tg6 : State) (locsg6 : List Loc)  (Xg6 : Stand p l e rom32 s m #[(.ref a1), (.int p1), (.long nv)] below meth c Tg6 locsg6 0 0) (eg6 : Tg6.heap = h0) (Ng6 : Fr n0 locsg6) (hz : z = negL nn) (hi : i = Int32.ofNat (ps + GetCharsL.sgnL nv)) (hq : q = own_cnt [(-1000000 : Int64), (-100000 : Int64), (-10000 : Int64), (-1000 : Int64), (-100 : Int64), (-10 : Int64)] z), Goes p e below (Pq (Q_num Z a1 w kw N bs p1 nv nn ps cs fm h0 n0) s rom32.cells rom32.slots) (Tg6.setTop (mkF m 147 #[.val (.ref a1), .val (.int p1), .val (.long nv), .second, .val (.long z), .second, .val (.int i), .unset] [(.int q)])) := by
    intro z i q Tg6 locsg6 Xg6 eg6 Ng6 hz hi hq
    refine Goes.step (S' := Tg6.setTop (mkF m 153 #[.val (.ref a1), .val (.int p1), .val (.long nv), .second, .val (.long z), .second, .val (.int i), .unset] [(.int (lcmpW z (-10000000 : Int64))), (.int q)])) (fun t k => XS.lload Xg6.here hx rfl (hb hby dk492) rfl (Xg6.ldc2Long hx hown (mvT hZ tw183) (g := (mkF m 149 #[.val (.ref a1), .val (.int p1), .val (.long nv), .second, .val (.long z), .second, .val (.int i), .unset] [(.long z), (.int q)])) rfl (hb hby dk493) _ (XS.lcmp Xg6.here hx rfl (hb hby dk494) rfl k))) ?_
    by_cases hc149 : (0 : Int32) < (lcmpW z (-10000000 : Int64))
    case pos =>
      refine Goes.step (S' := Tg6.setTop (mkF m 162 #[.val (.ref a1), .val (.int p1), .val (.long nv), .second, .val (.long z), .second, .val (.int i), .unset] [(.int (q + (0 : Int32)))])) (fun t k => XS.ifYes Xg6.here hx rfl (pc0 := 153) (pc' := 160) rfl (hb hby dk495) rfl ((if0 _ _).trans (tlt hc149).2.2.1) (by decide) (by decide) (XS.iconst Xg6.here hx rfl (hb hby dk498) (XS.iadd Xg6.here hx rfl (hb hby dk499) rfl k))) ?_
      exact g7 z i (q + (0 : Int32)) Tg6 _ Xg6 eg6 Ng6 hz hi (own_cntT (own_gtT hc149) hq)
    case neg =>
      refine Goes.step (S' := Tg6.setTop (mkF m 162 #[.val (.ref a1), .val (.int p1), .val (.long nv), .second, .val (.long z), .second, .val (.int i), .unset] [(.int (q + (1 : Int32)))])) (fun t k => XS.ifNo Xg6.here hx rfl (hb hby dk495) rfl ((if0 _ _).trans (flt hc149).2.2.1) (XS.iconst Xg6.here hx rfl (hb hby dk496) (XS.goto Xg6.here hx rfl (pc0 := 157) (pc' := 161) rfl (hb hby dk497) (by decide) (by decide) (XS.iadd Xg6.here hx rfl (hb hby dk499) rfl k)))) ?_
      exact g7 z i (q + (1 : Int32)) Tg6 _ Xg6 eg6 Ng6 hz hi (own_cntF (own_gtF hc149) hq)
  have g5 : ∀ (z : Int64) (i : Int32) (q : Int32) (Tg5 : State) (locsg5 : List Loc)  (Xg5 : Stand p l e rom32 s m #[(.ref a1), (.int p1), (.long nv)] below meth c Tg5 locsg5 0 0) (eg5 : Tg5.heap = h0) (Ng5 : Fr n0 locsg5) (hz : z = negL nn) (hi : i = Int32.ofNat (ps + GetCharsL.sgnL nv)) (hq : q = own_cnt [(-100000 : Int64), (-10000 : Int64), (-1000 : Int64), (-100 : Int64), (-10 : Int64)] z), Goes p e below (Pq (Q_num Z a1 w kw N bs p1 nv nn ps cs fm h0 n0) s rom32.cells rom32.slots) (Tg5.setTop (mkF m 132 #[.val (.ref a1), .val (.int p1), .val (.long nv), .second, .val (.long z), .second, .val (.int i), .unset] [(.int q)])) := by
    intro z i q Tg5 locsg5 Xg5 eg5 Ng5 hz hi hq
    refine Goes.step (S' := Tg5.setTop (mkF m 138 #[.val (.ref a1), .val (.int p1), .val (.long nv), .second, .val (.long z), .second, .val (.int i), .unset] [(.int (lcmpW z (-1000000 : Int64))), (.int q)])) (fun t k => XS.lload Xg5.here hx rfl (hb hby dk484) rfl (Xg5.ldc2Long hx hown (mvT hZ tw182) (g := (mkF m 134 #[.val (.ref a1), .val (.int p1), .val (.long nv), .second, .val (.long z), .second, .val (.int i), .unset] [(.long z), (.int q)])) rfl (hb hby dk485) _ (XS.lcmp Xg5.here hx rfl (hb hby dk486) rfl k))) ?_
    by_cases hc150 : (0 : Int32) < (lcmpW z (-1000000 : Int64))
    case pos =>
      refine Goes.step (S' := Tg5.setTop (mkF m 147 #[.val (.ref a1), .val (.int p1), .val (.long nv), .second, .val (.long z), .second, .val (.int i), .unset] [(.int (q + (0 : Int32)))])) (fun t k => XS.ifYes Xg5.here hx rfl (pc0 := 138) (pc' := 145) rfl (hb hby dk487) rfl ((if0 _ _).trans (tlt hc150).2.2.1) (by decide) (by decide) (XS.iconst Xg5.here hx rfl (hb hby dk490) (XS.iadd Xg5.here hx rfl (hb hby dk491) rfl k))) ?_
      exact g6 z i (q + (0 : Int32)) Tg5 _ Xg5 eg5 Ng5 hz hi (own_cntT (own_gtT hc150) hq)
    case neg =>
      refine Goes.step (S' := Tg5.setTop (mkF m 147 #[.val (.ref a1), .val (.int p1), .val (.long nv), .second, .val (.long z), .second, .val (.int i), .unset] [(.int (q + (1 : Int32)))])) (fun t k => XS.ifNo Xg5.here hx rfl (hb hby dk487) rfl ((if0 _ _).trans (flt hc150).2.2.1) (XS.iconst Xg5.here hx rfl (hb hby dk488) (XS.goto Xg5.here hx rfl (pc0 := 142) (pc' := 146) rfl (hb hby dk489) (by decide) (by decide) (XS.iadd Xg5.here hx rfl (hb hby dk491) rfl k)))) ?_
      exact g6 z i (q + (1 : Int32)) Tg5 _ Xg5 eg5 Ng5 hz hi (own_cntF (own_gtF hc150) hq)
  have g4 : ∀ (z : Int64) (i : Int32) (q : Int32) (Tg4 : State) (locsg4 : List Loc)  (Xg4 : Stand p l e rom32 s m #[(.ref a1), (.int p1), (.long nv)] below meth c Tg4 locsg4 0 0) (eg4 : Tg4.heap = h0) (Ng4 : Fr n0 locsg4) (hz : z = negL nn) (hi : i = Int32.ofNat (ps + GetCharsL.sgnL nv)) (hq : q = own_cnt [(-10000 : Int64), (-1000 : Int64), (-100 : Int64), (-10 : Int64)] z), Goes p e below (Pq (Q_num Z a1 w kw N bs p1 nv nn ps cs fm h0 n0) s rom32.cells rom32.slots) (Tg4.setTop (mkF m 117 #[.val (.ref a1), .val (.int p1), .val (.long nv), .second, .val (.long z), .second, .val (.int i), .unset] [(.int q)])) := by
    intro z i q Tg4 locsg4 Xg4 eg4 Ng4 hz hi hq
    refine Goes.step (S' := Tg4.setTop (mkF m 123 #[.val (.ref a1), .val (.int p1), .val (.long nv), .second, .val (.long z), .second, .val (.int i), .unset] [(.int (lcmpW z (-100000 : Int64))), (.int q)])) (fun t k => XS.lload Xg4.here hx rfl (hb hby dk476) rfl (Xg4.ldc2Long hx hown (mvT hZ tw181) (g := (mkF m 119 #[.val (.ref a1), .val (.int p1), .val (.long nv), .second, .val (.long z), .second, .val (.int i), .unset] [(.long z), (.int q)])) rfl (hb hby dk477) _ (XS.lcmp Xg4.here hx rfl (hb hby dk478) rfl k))) ?_
    by_cases hc151 : (0 : Int32) < (lcmpW z (-100000 : Int64))
    case pos =>
      refine Goes.step (S' := Tg4.setTop (mkF m 132 #[.val (.ref a1), .val (.int p1), .val (.long nv), .second, .val (.long z), .second, .val (.int i), .unset] [(.int (q + (0 : Int32)))])) (fun t k => XS.ifYes Xg4.here hx rfl (pc0 := 123) (pc' := 130) rfl (hb hby dk479) rfl ((if0 _ _).trans (tlt hc151).2.2.1) (by decide) (by decide) (XS.iconst Xg4.here hx rfl (hb hby dk482) (XS.iadd Xg4.here hx rfl (hb hby dk483) rfl k))) ?_
      exact g5 z i (q + (0 : Int32)) Tg4 _ Xg4 eg4 Ng4 hz hi (own_cntT (own_gtT hc151) hq)
    case neg =>
      refine Goes.step (S' := Tg4.setTop (mkF m 132 #[.val (.ref a1), .val (.int p1), .val (.long nv), .second, .val (.long z), .second, .val (.int i), .unset] [(.int (q + (1 : Int32)))])) (fun t k => XS.ifNo Xg4.here hx rfl (hb hby dk479) rfl ((if0 _ _).trans (flt hc151).2.2.1) (XS.iconst Xg4.here hx rfl (hb hby dk480) (XS.goto Xg4.here hx rfl (pc0 := 127) (pc' := 131) rfl (hb hby dk481) (by decide) (by decide) (XS.iadd Xg4.here hx rfl (hb hby dk483) rfl k)))) ?_
      exact g5 z i (q + (1 : Int32)) Tg4 _ Xg4 eg4 Ng4 hz hi (own_cntF (own_gtF hc151) hq)
  have g3 : ∀ (z : Int64) (i : Int32) (q : Int32) (Tg3 : State) (locsg3 : List Loc)  (Xg3 : Stand p l e rom32 s m #[(.ref a1), (.int p1), (.long nv)] below meth c Tg3 locsg3 0 0) (eg3 : Tg3.heap = h0) (Ng3 : Fr n0 locsg3) (hz : z = negL nn) (hi : i = Int32.ofNat (ps + GetCharsL.sgnL nv)) (hq : q = own_cnt [(-1000 : Int64), (-100 : Int64), (-10 : Int64)] z), Goes p e below (Pq (Q_num Z a1 w kw N bs p1 nv nn ps cs fm h0 n0) s rom32.cells rom32.slots) (Tg3.setTop (mkF m 102 #[.val (.ref a1), .val (.int p1), .val (.long nv), .second, .val (.long z), .second, .val (.int i), .unset] [(.int q)])) := by
    intro z i q Tg3 locsg3 Xg3 eg3 Ng3 hz hi hq
    refine Goes.step (S' := Tg3.setTop (mkF m 108 #[.val (.ref a1), .val (.int p1), .val (.long nv), .second, .val (.long z), .second, .val (.int i), .unset] [(.int (lcmpW z (-10000 : Int64))), (.int q)])) (fun t k => XS.lload Xg3.here hx rfl (hb hby dk468) rfl (Xg3.ldc2Long hx hown (mvT hZ tw180) (g := (mkF m 104 #[.val (.ref a1), .val (.int p1), .val (.long nv), .second, .val (.long z), .second, .val (.int i), .unset] [(.long z), (.int q)])) rfl (hb hby dk469) _ (XS.lcmp Xg3.here hx rfl (hb hby dk470) rfl k))) ?_
    by_cases hc152 : (0 : Int32) < (lcmpW z (-10000 : Int64))
    case pos =>
      refine Goes.step (S' := Tg3.setTop (mkF m 117 #[.val (.ref a1), .val (.int p1), .val (.long nv), .second, .val (.long z), .second, .val (.int i), .unset] [(.int (q + (0 : Int32)))])) (fun t k => XS.ifYes Xg3.here hx rfl (pc0 := 108) (pc' := 115) rfl (hb hby dk471) rfl ((if0 _ _).trans (tlt hc152).2.2.1) (by decide) (by decide) (XS.iconst Xg3.here hx rfl (hb hby dk474) (XS.iadd Xg3.here hx rfl (hb hby dk475) rfl k))) ?_
      exact g4 z i (q + (0 : Int32)) Tg3 _ Xg3 eg3 Ng3 hz hi (own_cntT (own_gtT hc152) hq)
    case neg =>
      refine Goes.step (S' := Tg3.setTop (mkF m 117 #[.val (.ref a1), .val (.int p1), .val (.long nv), .second, .val (.long z), .second, .val (.int i), .unset] [(.int (q + (1 : Int32)))])) (fun t k => XS.ifNo Xg3.here hx rfl (hb hby dk471) rfl ((if0 _ _).trans (flt hc152).2.2.1) (XS.iconst Xg3.here hx rfl (hb hby dk472) (XS.goto Xg3.here hx rfl (pc0 := 112) (pc' := 116) rfl (hb hby dk473) (by decide) (by decide) (XS.iadd Xg3.here hx rfl (hb hby dk475) rfl k)))) ?_
      exact g4 z i (q + (1 : Int32)) Tg3 _ Xg3 eg3 Ng3 hz hi (own_cntF (own_gtF hc152) hq)
  have g2 : ∀ (z : Int64) (i : Int32) (q : Int32) (Tg2 : State) (locsg2 : List Loc)  (Xg2 : Stand p l e rom32 s m #[(.ref a1), (.int p1), (.long nv)] below meth c Tg2 locsg2 0 0) (eg2 : Tg2.heap = h0) (Ng2 : Fr n0 locsg2) (hz : z = negL nn) (hi : i = Int32.ofNat (ps + GetCharsL.sgnL nv)) (hq : q = own_cnt [(-100 : Int64), (-10 : Int64)] z), Goes p e below (Pq (Q_num Z a1 w kw N bs p1 nv nn ps cs fm h0 n0) s rom32.cells rom32.slots) (Tg2.setTop (mkF m 87 #[.val (.ref a1), .val (.int p1), .val (.long nv), .second, .val (.long z), .second, .val (.int i), .unset] [(.int q)])) := by
    intro z i q Tg2 locsg2 Xg2 eg2 Ng2 hz hi hq
    refine Goes.step (S' := Tg2.setTop (mkF m 93 #[.val (.ref a1), .val (.int p1), .val (.long nv), .second, .val (.long z), .second, .val (.int i), .unset] [(.int (lcmpW z (-1000 : Int64))), (.int q)])) (fun t k => XS.lload Xg2.here hx rfl (hb hby dk460) rfl (Xg2.ldc2Long hx hown (mvT hZ tw179) (g := (mkF m 89 #[.val (.ref a1), .val (.int p1), .val (.long nv), .second, .val (.long z), .second, .val (.int i), .unset] [(.long z), (.int q)])) rfl (hb hby dk461) _ (XS.lcmp Xg2.here hx rfl (hb hby dk462) rfl k))) ?_
    by_cases hc153 : (0 : Int32) < (lcmpW z (-1000 : Int64))
    case pos =>
      refine Goes.step (S' := Tg2.setTop (mkF m 102 #[.val (.ref a1), .val (.int p1), .val (.long nv), .second, .val (.long z), .second, .val (.int i), .unset] [(.int (q + (0 : Int32)))])) (fun t k => XS.ifYes Xg2.here hx rfl (pc0 := 93) (pc' := 100) rfl (hb hby dk463) rfl ((if0 _ _).trans (tlt hc153).2.2.1) (by decide) (by decide) (XS.iconst Xg2.here hx rfl (hb hby dk466) (XS.iadd Xg2.here hx rfl (hb hby dk467) rfl k))) ?_
      exact g3 z i (q + (0 : Int32)) Tg2 _ Xg2 eg2 Ng2 hz hi (own_cntT (own_gtT hc153) hq)
    case neg =>
      refine Goes.step (S' := Tg2.setTop (mkF m 102 #[.val (.ref a1), .val (.int p1), .val (.long nv), .second, .val (.long z), .second, .val (.int i), .unset] [(.int (q + (1 : Int32)))])) (fun t k => XS.ifNo Xg2.here hx rfl (hb hby dk463) rfl ((if0 _ _).trans (flt hc153).2.2.1) (XS.iconst Xg2.here hx rfl (hb hby dk464) (XS.goto Xg2.here hx rfl (pc0 := 97) (pc' := 101) rfl (hb hby dk465) (by decide) (by decide) (XS.iadd Xg2.here hx rfl (hb hby dk467) rfl k)))) ?_
      exact g3 z i (q + (1 : Int32)) Tg2 _ Xg2 eg2 Ng2 hz hi (own_cntF (own_gtF hc153) hq)
  have g1 : ∀ (z : Int64) (i : Int32) (q : Int32) (Tg1 : State) (locsg1 : List Loc)  (Xg1 : Stand p l e rom32 s m #[(.ref a1), (.int p1), (.long nv)] below meth c Tg1 locsg1 0 0) (eg1 : Tg1.heap = h0) (Ng1 : Fr n0 locsg1) (hz : z = negL nn) (hi : i = Int32.ofNat (ps + GetCharsL.sgnL nv)) (hq : q = own_cnt [(-10 : Int64)] z), Goes p e below (Pq (Q_num Z a1 w kw N bs p1 nv nn ps cs fm h0 n0) s rom32.cells rom32.slots) (Tg1.setTop (mkF m 72 #[.val (.ref a1), .val (.int p1), .val (.long nv), .second, .val (.long z), .second, .val (.int i), .unset] [(.int q)])) := by
    intro z i q Tg1 locsg1 Xg1 eg1 Ng1 hz hi hq
    refine Goes.step (S' := Tg1.setTop (mkF m 78 #[.val (.ref a1), .val (.int p1), .val (.long nv), .second, .val (.long z), .second, .val (.int i), .unset] [(.int (lcmpW z (-100 : Int64))), (.int q)])) (fun t k => XS.lload Xg1.here hx rfl (hb hby dk452) rfl (Xg1.ldc2Long hx hown (mvT hZ tw178) (g := (mkF m 74 #[.val (.ref a1), .val (.int p1), .val (.long nv), .second, .val (.long z), .second, .val (.int i), .unset] [(.long z), (.int q)])) rfl (hb hby dk453) _ (XS.lcmp Xg1.here hx rfl (hb hby dk454) rfl k))) ?_
    by_cases hc154 : (0 : Int32) < (lcmpW z (-100 : Int64))
    case pos =>
      refine Goes.step (S' := Tg1.setTop (mkF m 87 #[.val (.ref a1), .val (.int p1), .val (.long nv), .second, .val (.long z), .second, .val (.int i), .unset] [(.int (q + (0 : Int32)))])) (fun t k => XS.ifYes Xg1.here hx rfl (pc0 := 78) (pc' := 85) rfl (hb hby dk455) rfl ((if0 _ _).trans (tlt hc154).2.2.1) (by decide) (by decide) (XS.iconst Xg1.here hx rfl (hb hby dk458) (XS.iadd Xg1.here hx rfl (hb hby dk459) rfl k))) ?_
      exact g2 z i (q + (0 : Int32)) Tg1 _ Xg1 eg1 Ng1 hz hi (own_cntT (own_gtT hc154) hq)
    case neg =>
      refine Goes.step (S' := Tg1.setTop (mkF m 87 #[.val (.ref a1), .val (.int p1), .val (.long nv), .second, .val (.long z), .second, .val (.int i), .unset] [(.int (q + (1 : Int32)))])) (fun t k => XS.ifNo Xg1.here hx rfl (hb hby dk455) rfl ((if0 _ _).trans (flt hc154).2.2.1) (XS.iconst Xg1.here hx rfl (hb hby dk456) (XS.goto Xg1.here hx rfl (pc0 := 82) (pc' := 86) rfl (hb hby dk457) (by decide) (by decide) (XS.iadd Xg1.here hx rfl (hb hby dk459) rfl k)))) ?_
      exact g2 z i (q + (1 : Int32)) Tg1 _ Xg1 eg1 Ng1 hz hi (own_cntF (own_gtF hc154) hq)
  have g0 : ∀ (z : Int64) (i : Int32) (q : Int32) (Tg0 : State) (locsg0 : List Loc)  (Xg0 : Stand p l e rom32 s m #[(.ref a1), (.int p1), (.long nv)] below meth c Tg0 locsg0 0 0) (eg0 : Tg0.heap = h0) (Ng0 : Fr n0 locsg0) (hz : z = negL nn) (hi : i = Int32.ofNat (ps + GetCharsL.sgnL nv)) (hq : q = own_cnt ([] : List Int64) z), Goes p e below (Pq (Q_num Z a1 w kw N bs p1 nv nn ps cs fm h0 n0) s rom32.cells rom32.slots) (Tg0.setTop (mkF m 57 #[.val (.ref a1), .val (.int p1), .val (.long nv), .second, .val (.long z), .second, .val (.int i), .unset] [(.int q)])) := by
    intro z i q Tg0 locsg0 Xg0 eg0 Ng0 hz hi hq
    refine Goes.step (S' := Tg0.setTop (mkF m 63 #[.val (.ref a1), .val (.int p1), .val (.long nv), .second, .val (.long z), .second, .val (.int i), .unset] [(.int (lcmpW z (-10 : Int64))), (.int q)])) (fun t k => XS.lload Xg0.here hx rfl (hb hby dk444) rfl (Xg0.ldc2Long hx hown (mvT hZ tw177) (g := (mkF m 59 #[.val (.ref a1), .val (.int p1), .val (.long nv), .second, .val (.long z), .second, .val (.int i), .unset] [(.long z), (.int q)])) rfl (hb hby dk445) _ (XS.lcmp Xg0.here hx rfl (hb hby dk446) rfl k))) ?_
    by_cases hc155 : (0 : Int32) < (lcmpW z (-10 : Int64))
    case pos =>
      refine Goes.step (S' := Tg0.setTop (mkF m 72 #[.val (.ref a1), .val (.int p1), .val (.long nv), .second, .val (.long z), .second, .val (.int i), .unset] [(.int (q + (0 : Int32)))])) (fun t k => XS.ifYes Xg0.here hx rfl (pc0 := 63) (pc' := 70) rfl (hb hby dk447) rfl ((if0 _ _).trans (tlt hc155).2.2.1) (by decide) (by decide) (XS.iconst Xg0.here hx rfl (hb hby dk450) (XS.iadd Xg0.here hx rfl (hb hby dk451) rfl k))) ?_
      exact g1 z i (q + (0 : Int32)) Tg0 _ Xg0 eg0 Ng0 hz hi (own_cntT (own_gtT hc155) hq)
    case neg =>
      refine Goes.step (S' := Tg0.setTop (mkF m 72 #[.val (.ref a1), .val (.int p1), .val (.long nv), .second, .val (.long z), .second, .val (.int i), .unset] [(.int (q + (1 : Int32)))])) (fun t k => XS.ifNo Xg0.here hx rfl (hb hby dk447) rfl ((if0 _ _).trans (flt hc155).2.2.1) (XS.iconst Xg0.here hx rfl (hb hby dk448) (XS.goto Xg0.here hx rfl (pc0 := 67) (pc' := 71) rfl (hb hby dk449) (by decide) (by decide) (XS.iadd Xg0.here hx rfl (hb hby dk451) rfl k)))) ?_
      exact g1 z i (q + (1 : Int32)) Tg0 _ Xg0 eg0 Ng0 hz hi (own_cntF (own_gtF hc155) hq)
  by_cases hc156 : nv < (0 : Int64)
  case pos =>
    refine Goes.step (S' := s₁.setTop (mkF m 15 #[.val (.ref a1), .val (.int p1), .val (.long nv), .second, .val (.long nv), .second, .unset, .unset] [(.int p1)])) (fun t k => XS.lloadN X0.here hx rfl (hb hby dk413) rfl (XS.lconst X0.here hx rfl (hb hby dk414) (XS.lcmp X0.here hx rfl (hb hby dk415) rfl (XS.ifNo X0.here hx rfl (hb hby dk416) rfl ((if0 _ _).trans (tlt ((own_lcT hc156) : (lcmpW nv (0 : Int64)) < (0 : Int32))).2.1) (XS.lloadN X0.here hx rfl (hb hby dk417) rfl (XS.goto X0.here hx rfl (pc0 := 7) (pc' := 12) rfl (hb hby dk418) (by decide) (by decide) (XS.lstore X0.here hx rfl (hb hby dk421) rfl (l' := #[.val (.ref a1), .val (.int p1), .val (.long nv), .second, .val (.long nv), .second, .unset, .unset]) rfl (XS.iloadN X0.here hx rfl (hb hby dk422) rfl k)))))))) ?_
    refine Goes.step (S' := s₁.setTop (mkF m 30 #[.val (.ref a1), .val (.int p1), .val (.long nv), .second, .val (.long nv), .second, .val (.int p1), .unset] [(.int p1)])) (fun t k => XS.istore X0.here hx rfl (hb hby dk423) rfl (l' := #[.val (.ref a1), .val (.int p1), .val (.long nv), .second, .val (.long nv), .second, .val (.int p1), .unset]) rfl (XS.lloadN X0.here hx rfl (hb hby dk424) rfl (XS.lconst X0.here hx rfl (hb hby dk425) (XS.lcmp X0.here hx rfl (hb hby dk426) rfl (XS.ifNo X0.here hx rfl (hb hby dk427) rfl ((if0 _ _).trans (tlt ((own_lcT hc156) : (lcmpW nv (0 : Int64)) < (0 : Int32))).2.1) (XS.iload X0.here hx rfl (hb hby dk428) rfl (XS.ifNo X0.here hx rfl (hb hby dk429) rfl ((if0 _ _).trans (flt (U0 : ¬ (p1 < (0 : Int32)))).1) (XS.iload X0.here hx rfl (hb hby dk430) rfl k)))))))) ?_
    refine Goes.step (S' := s₁.setTop (mkF m 31 #[.val (.ref a1), .val (.int p1), .val (.long nv), .second, .val (.long nv), .second, .val (.int p1), .unset] [(.ref a1), (.int p1)])) (fun t k => XS.aloadN X0.here hx rfl (hb hby dk431) rfl rfl k) ?_
    obtain ⟨cq157, kq157, q157a, q157b, q157c⟩ := isOf hZ eh0 Es
    obtain ⟨_, _, ⟨T157, L157, k157, n157⟩, -, X157, ⟨Lc157, hQ157, l157, y157, z157⟩, st157⟩ := X0.virtualBack hx (y := mth14) (z := mth14) hown (mvT hZ tw198) (mvT hZ tw99) (notFace_of_selects (args := #[]) (mvT hZ tw101)) (mvT hZ tw101) (mvT hZ tw100) (by decide) (backOf (W := 1) (slen l Z a0 hw [] a1 w kw N bs cs h0 n0 Z0 Es Fw Fx Vw SC (PC : ¬ (cs = (0 : Int32)))) hZ tw102 tw44 (by decide) (by decide)) q157a q157c (g := (mkF m 31 #[.val (.ref a1), .val (.int p1), .val (.long nv), .second, .val (.long nv), .second, .val (.int p1), .unset] [(.ref a1), (.int p1)])) rfl (by rw [hml]; rfl) (Steps.refl _) (argsL := []) (rest := [(.int p1)]) (lenOf pd_I rfl) rfl (Nat.le_of_eq rfl) (hb hby dk432) (fun _ _ => ⟨rfl, eh0, (by decide : 0 + 0 ≤ _), (by decide : 0 + 0 ≤ _)⟩)
    dsimp only [Pt.U, Pt.locs, Pt.cells, Pt.slots] at X157 l157 y157 z157 st157 hQ157
    subst y157 z157
    obtain ⟨rfl, Nq157, q157_0⟩ := hQ157
    have N157 : Fr n0 L157 := by rw [l157]; exact Fr.app N0 Nq157
    refine Goes.step (S' := T157.setTop (mkF m 40 #[.val (.ref a1), .val (.int p1), .val (.long nv), .second, .val (.long nv), .second, .val (.int p1), .unset] [(.int p1), (.ref a1)])) (fun t k => st157.trans (XS.icmpNo X157.here hx rfl (hb hby dk433) rfl (tlt (U1 : p1 < N)).2.1 (XS.aloadN X157.here hx rfl (hb hby dk434) rfl rfl (XS.iload X157.here hx rfl (hb hby dk435) rfl k)))) ?_
    obtain ⟨cq158, kq158, q158a, q158b, q158c⟩ := isOf hZ q157_0 Es
    obtain ⟨_, _, ⟨T158, L158, k158, n158⟩, -, X158, ⟨Lc158, hQ158, l158, y158, z158⟩, st158⟩ := X157.virtualBack hx (y := mth36) (z := mth36) hown (mvT hZ tw200) (mvT hZ tw201) (notFace_of_selects (args := #[]) (mvT hZ tw203)) (mvT hZ tw203) (mvT hZ tw202) (by decide) (backOf (W := 0) (sca l Z a0 hw [] a1 w kw N bs p1 (45 : Int32) cs fm h0 n0 Z0 Es Fw Fx Vw SC (PC : ¬ (cs = (0 : Int32))) SF (HF : fm.isRef = true) (U0 : ¬ (p1 < (0 : Int32))) (U1 : p1 < N) (own_sgn HI HP HL HW hc156) (by decide) (by decide)) hZ tw204 tw44 (by decide) (by decide)) q158a q158c (g := (mkF m 40 #[.val (.ref a1), .val (.int p1), .val (.long nv), .second, .val (.long nv), .second, .val (.int p1), .unset] [(.int p1), (.ref a1)])) rfl (by rw [hml]; rfl) (Steps.refl _) (argsL := [(.int p1)]) (rest := []) (lenOf pd_I_C rfl) rfl (Nat.le_of_eq rfl) (hb hby dk436) (fun _ _ => ⟨rfl, q157_0, (by decide : 0 + 0 ≤ _), (by decide : 0 + 0 ≤ _)⟩)
    dsimp only [Pt.U, Pt.locs, Pt.cells, Pt.slots] at X158 l158 y158 z158 st158 hQ158
    subst y158 z158
    obtain ⟨rfl, Nq158, q158_0⟩ := hQ158
    have N158 : Fr n0 L158 := by rw [l158]; exact Fr.app N157 Nq158
    refine Goes.step (S' := T158.setTop (mkF m 57 #[.val (.ref a1), .val (.int p1), .val (.long nv), .second, .val (.long nv), .second, .val (.int (p1 + (1 : Int32))), .unset] [(.int (1 : Int32))])) (fun t k => st158.trans (XS.bipush X158.here hx rfl (hb hby dk437) (XS.icmpYes X158.here hx rfl (pc0 := 45) (pc' := 50) rfl (hb hby dk438) rfl (teq ((by decide) : (45 : Int32) = (45 : Int32))).1 (by decide) (by decide) (XS.iload X158.here hx rfl (hb hby dk439) rfl (XS.iconst X158.here hx rfl (hb hby dk440) (XS.iadd X158.here hx rfl (hb hby dk441) rfl (XS.istore X158.here hx rfl (hb hby dk442) rfl (l' := #[.val (.ref a1), .val (.int p1), .val (.long nv), .second, .val (.long nv), .second, .val (.int (p1 + (1 : Int32))), .unset]) rfl (XS.iconst X158.here hx rfl (hb hby dk443) k)))))))) ?_
    exact g0 nv (p1 + (1 : Int32)) (1 : Int32) T158 _ X158 q158_0 N158 (own_z1 HA hc156) (own_i1 HP hc156) rfl
  case neg =>
    refine Goes.step (S' := s₁.setTop (mkF m 15 #[.val (.ref a1), .val (.int p1), .val (.long nv), .second, .val (.long (-nv)), .second, .unset, .unset] [(.int p1)])) (fun t k => XS.lloadN X0.here hx rfl (hb hby dk413) rfl (XS.lconst X0.here hx rfl (hb hby dk414) (XS.lcmp X0.here hx rfl (hb hby dk415) rfl (XS.ifYes X0.here hx rfl (pc0 := 3) (pc' := 10) rfl (hb hby dk416) rfl ((if0 _ _).trans (flt ((own_lcF hc156) : ¬ ((lcmpW nv (0 : Int64)) < (0 : Int32)))).2.1) (by decide) (by decide) (XS.lloadN X0.here hx rfl (hb hby dk419) rfl (XS.lneg X0.here hx rfl (hb hby dk420) rfl (XS.lstore X0.here hx rfl (hb hby dk421) rfl (l' := #[.val (.ref a1), .val (.int p1), .val (.long nv), .second, .val (.long (-nv)), .second, .unset, .unset]) rfl (XS.iloadN X0.here hx rfl (hb hby dk422) rfl k)))))))) ?_
    refine Goes.step (S' := s₁.setTop (mkF m 57 #[.val (.ref a1), .val (.int p1), .val (.long nv), .second, .val (.long (-nv)), .second, .val (.int p1), .unset] [(.int (1 : Int32))])) (fun t k => XS.istore X0.here hx rfl (hb hby dk423) rfl (l' := #[.val (.ref a1), .val (.int p1), .val (.long nv), .second, .val (.long (-nv)), .second, .val (.int p1), .unset]) rfl (XS.lloadN X0.here hx rfl (hb hby dk424) rfl (XS.lconst X0.here hx rfl (hb hby dk425) (XS.lcmp X0.here hx rfl (hb hby dk426) rfl (XS.ifYes X0.here hx rfl (pc0 := 20) (pc' := 56) rfl (hb hby dk427) rfl ((if0 _ _).trans (flt ((own_lcF hc156) : ¬ ((lcmpW nv (0 : Int64)) < (0 : Int32)))).2.1) (by decide) (by decide) (XS.iconst X0.here hx rfl (hb hby dk443) k)))))) ?_
    exact g0 (-nv) p1 (1 : Int32) s₁ _ X0 eh0 N0 (own_z2 HA hc156) (own_i2 HP hc156) rfl

theorem ef_jmina (m : MethodId) (x0 : Int64) (x1 : Int64) : entryFrame m #[(.long x0), (.long x1)] 4 = mkF m 0 #[.val (.long x0), .second, .val (.long x1), .second] [] := by first | (simp [entryFrame, mkF, argsToLocals, Value.category]; done) | rfl
def Q_jmina (Z : State) (p0 : Int64) (p1 : Int64) (h0 : Heap) (n0 : Nat) (v : Option Value) (h : Heap) (L : List Loc) : Prop := v = some (.long p0) ∧ Fr n0 L ∧ h = h0
set_option maxRecDepth 65536 in
set_option maxHeartbeats 40000000 in
theorem jmina (l : Launch) (Z : State) (a0 : Array Value) (hw : ∀ d ∈ tables_1, d.before a0 Z = true) (ws : List Jvm.Cond) (p0 : Int64) (p1 : Int64) (h0 : Heap) (n0 : Nat) (Z0 : n0 ≤ h0.size) (Q0 : ¬ (p1 < p0)) :
    MetFree l mth39 (head1 (Jvm.Cond.code mth39 jdk_29_method_70_code 4 (some .long) :: ws) rom2) (fun a U => a = #[(.long p0), (.long p1)] ∧ Z.Warmed39 U.vm ∧ U.heap = h0) (fun _ _ _ _ _ => True) (fun _ U o U' => ∃ v L, o = .returned v ∧ Q_jmina Z p0 p1 h0 n0 v U'.heap L ∧ FrameEnd U o U' L rom2.cells rom2.slots) := by
  refine MetFree.of_bodySF (Jvm.Free.JP.mathPlain rfl (by decide +kernel)) hisR ?_
  intro p e s m args below meth c s₁ Bd hml0 hP hK
  obtain ⟨rfl, hZ, hh⟩ := hP
  have hx := Bd.exec
  have hby := Bd.bytes
  have hml : c.maxLocals = 4 := hml0
  have hown : s.vm.findClass "java/lang/Math" = some m.cls := findClass_of_methodNamed Bd.named
  have hnm := (name_of_methodNamed Bd.named Bd.method).1
  have X0 : Stand p l e rom2 s m #[(.long p0), (.long p1)] below meth c s₁ [] 0 0 := Stand.of_body Bd
  have eh0 : s₁.heap = h0 := by rw [← hh, Bd.state]; rfl
  have N0 := Fr.nil n0
  show Goes p e below (Pq (Q_jmina Z p0 p1 h0 n0) s rom2.cells rom2.slots) (s₁.setTop (entryFrame m #[(.long p0), (.long p1)] 4))
  refine Goes.step (S' := s₁.setTop (mkF m 0 #[.val (.long p0), .second, .val (.long p1), .second] [])) (fun t k => castTop (ef_jmina m p0 p1) k) ?_
  refine Goes.step (S' := s₁.setTop (mkF m 11 #[.val (.long p0), .second, .val (.long p1), .second] [(.long p0)])) (fun t k => XS.lloadN X0.here hx rfl (hb hby dk837) rfl (XS.lloadN X0.here hx rfl (hb hby dk838) rfl (XS.lcmp X0.here hx rfl (hb hby dk839) rfl (XS.ifNo X0.here hx rfl (hb hby dk840) rfl ((if0 _ _).trans (flt ((by have u0:=Q0; have u1:=rng64 p1; have u2:=rng64 p0; have u3:=rng32 (lcmpW p0 p1); have u4:=c_lcmp p0 p1; (try simp only [Int32.lt_iff_toInt_lt, Int64.lt_iff_toInt_lt, ne_eq, ← Int32.toInt_inj, ← Int64.toInt_inj, Int32.reduceToInt, Int64.reduceToInt, Nat.reducePow] at u0 u1 u2 u3 u4 ⊢); try omega) : ¬ ((0 : Int32) < (lcmpW p0 p1)))).2.2.1) (XS.lloadN X0.here hx rfl (hb hby dk841) rfl (XS.goto X0.here hx rfl (pc0 := 7) (pc' := 11) rfl (hb hby dk842) (by decide) (by decide) k)))))) ?_
  refine Goes.leave (g := (mkF m 11 #[.val (.long p0), .second, .val (.long p1), .second] [(.long p0)])) X0 Bd.notSynchronized (v := (some (.long p0))) (fun h => by rw [Bd.returns] at h; cases h) (fun fs hr => retJ X0 hx Bd.returns (hb hby dk843) hr) eh0 ?_ (by decide) (by decide)
  exact ⟨rfl, N0, rfl⟩

theorem ef_jminb (m : MethodId) (x0 : Int64) (x1 : Int64) : entryFrame m #[(.long x0), (.long x1)] 4 = mkF m 0 #[.val (.long x0), .second, .val (.long x1), .second] [] := by first | (simp [entryFrame, mkF, argsToLocals, Value.category]; done) | rfl
def Q_jminb (Z : State) (p0 : Int64) (p1 : Int64) (h0 : Heap) (n0 : Nat) (v : Option Value) (h : Heap) (L : List Loc) : Prop := v = some (.long p1) ∧ Fr n0 L ∧ h = h0
set_option maxRecDepth 65536 in
set_option maxHeartbeats 40000000 in
theorem jminb (l : Launch) (Z : State) (a0 : Array Value) (hw : ∀ d ∈ tables_1, d.before a0 Z = true) (ws : List Jvm.Cond) (p0 : Int64) (p1 : Int64) (h0 : Heap) (n0 : Nat) (Z0 : n0 ≤ h0.size) (Q0 : p1 < p0) :
    MetFree l mth39 (head1 (Jvm.Cond.code mth39 jdk_29_method_70_code 4 (some .long) :: ws) rom2) (fun a U => a = #[(.long p0), (.long p1)] ∧ Z.Warmed39 U.vm ∧ U.heap = h0) (fun _ _ _ _ _ => True) (fun _ U o U' => ∃ v L, o = .returned v ∧ Q_jminb Z p0 p1 h0 n0 v U'.heap L ∧ FrameEnd U o U' L rom2.cells rom2.slots) := by
  refine MetFree.of_bodySF (Jvm.Free.JP.mathPlain rfl (by decide +kernel)) hisR ?_
  intro p e s m args below meth c s₁ Bd hml0 hP hK
  obtain ⟨rfl, hZ, hh⟩ := hP
  have hx := Bd.exec
  have hby := Bd.bytes
  have hml : c.maxLocals = 4 := hml0
  have hown : s.vm.findClass "java/lang/Math" = some m.cls := findClass_of_methodNamed Bd.named
  have hnm := (name_of_methodNamed Bd.named Bd.method).1
  have X0 : Stand p l e rom2 s m #[(.long p0), (.long p1)] below meth c s₁ [] 0 0 := Stand.of_body Bd
  have eh0 : s₁.heap = h0 := by rw [← hh, Bd.state]; rfl
  have N0 := Fr.nil n0
  show Goes p e below (Pq (Q_jminb Z p0 p1 h0 n0) s rom2.cells rom2.slots) (s₁.setTop (entryFrame m #[(.long p0), (.long p1)] 4))
  refine Goes.step (S' := s₁.setTop (mkF m 0 #[.val (.long p0), .second, .val (.long p1), .second] [])) (fun t k => castTop (ef_jminb m p0 p1) k) ?_
  refine Goes.step (S' := s₁.setTop (mkF m 11 #[.val (.long p0), .second, .val (.long p1), .second] [(.long p1)])) (fun t k => XS.lloadN X0.here hx rfl (hb hby dk837) rfl (XS.lloadN X0.here hx rfl (hb hby dk838) rfl (XS.lcmp X0.here hx rfl (hb hby dk839) rfl (XS.ifYes X0.here hx rfl (pc0 := 3) (pc' := 10) rfl (hb hby dk840) rfl ((if0 _ _).trans (tlt ((by have u0:=Q0; have u1:=rng64 p1; have u2:=rng64 p0; have u3:=rng32 (lcmpW p0 p1); have u4:=c_lcmp p0 p1; (try simp only [Int32.lt_iff_toInt_lt, Int64.lt_iff_toInt_lt, ne_eq, ← Int32.toInt_inj, ← Int64.toInt_inj, Int32.reduceToInt, Int64.reduceToInt, Nat.reducePow] at u0 u1 u2 u3 u4 ⊢); try omega) : (0 : Int32) < (lcmpW p0 p1))).2.2.1) (by decide) (by decide) (XS.lloadN X0.here hx rfl (hb hby dk844) rfl k))))) ?_
  refine Goes.leave (g := (mkF m 11 #[.val (.long p0), .second, .val (.long p1), .second] [(.long p1)])) X0 Bd.notSynchronized (v := (some (.long p1))) (fun h => by rw [Bd.returns] at h; cases h) (fun fs hr => retJ X0 hx Bd.returns (hb hby dk843) hr) eh0 ?_ (by decide) (by decide)
  exact ⟨rfl, N0, rfl⟩

theorem ef_jmaxa (m : MethodId) (x0 : Int64) (x1 : Int64) : entryFrame m #[(.long x0), (.long x1)] 4 = mkF m 0 #[.val (.long x0), .second, .val (.long x1), .second] [] := by first | (simp [entryFrame, mkF, argsToLocals, Value.category]; done) | rfl
def Q_jmaxa (Z : State) (p0 : Int64) (p1 : Int64) (h0 : Heap) (n0 : Nat) (v : Option Value) (h : Heap) (L : List Loc) : Prop := v = some (.long p0) ∧ Fr n0 L ∧ h = h0
set_option maxRecDepth 65536 in
set_option maxHeartbeats 40000000 in
theorem jmaxa (l : Launch) (Z : State) (a0 : Array Value) (hw : ∀ d ∈ tables_1, d.before a0 Z = true) (ws : List Jvm.Cond) (p0 : Int64) (p1 : Int64) (h0 : Heap) (n0 : Nat) (Z0 : n0 ≤ h0.size) (Q0 : ¬ (p0 < p1)) :
    MetFree l mth40 (head1 (Jvm.Cond.code mth40 jdk_29_method_66_code 4 (some .long) :: ws) rom2) (fun a U => a = #[(.long p0), (.long p1)] ∧ Z.Warmed39 U.vm ∧ U.heap = h0) (fun _ _ _ _ _ => True) (fun _ U o U' => ∃ v L, o = .returned v ∧ Q_jmaxa Z p0 p1 h0 n0 v U'.heap L ∧ FrameEnd U o U' L rom2.cells rom2.slots) := by
  refine MetFree.of_bodySF (Jvm.Free.JP.mathPlain rfl (by decide +kernel)) hisR ?_
  intro p e s m args below meth c s₁ Bd hml0 hP hK
  obtain ⟨rfl, hZ, hh⟩ := hP
  have hx := Bd.exec
  have hby := Bd.bytes
  have hml : c.maxLocals = 4 := hml0
  have hown : s.vm.findClass "java/lang/Math" = some m.cls := findClass_of_methodNamed Bd.named
  have hnm := (name_of_methodNamed Bd.named Bd.method).1
  have X0 : Stand p l e rom2 s m #[(.long p0), (.long p1)] below meth c s₁ [] 0 0 := Stand.of_body Bd
  have eh0 : s₁.heap = h0 := by rw [← hh, Bd.state]; rfl
  have N0 := Fr.nil n0
  show Goes p e below (Pq (Q_jmaxa Z p0 p1 h0 n0) s rom2.cells rom2.slots) (s₁.setTop (entryFrame m #[(.long p0), (.long p1)] 4))
  refine Goes.step (S' := s₁.setTop (mkF m 0 #[.val (.long p0), .second, .val (.long p1), .second] [])) (fun t k => castTop (ef_jmaxa m p0 p1) k) ?_
  refine Goes.step (S' := s₁.setTop (mkF m 11 #[.val (.long p0), .second, .val (.long p1), .second] [(.long p0)])) (fun t k => XS.lloadN X0.here hx rfl (hb hby dk845) rfl (XS.lloadN X0.here hx rfl (hb hby dk846) rfl (XS.lcmp X0.here hx rfl (hb hby dk847) rfl (XS.ifNo X0.here hx rfl (hb hby dk848) rfl ((if0 _ _).trans (flt ((by have u0:=Q0; have u1:=rng64 p0; have u2:=rng64 p1; have u3:=rng32 (lcmpW p0 p1); have u4:=c_lcmp p0 p1; (try simp only [Int32.lt_iff_toInt_lt, Int64.lt_iff_toInt_lt, ne_eq, ← Int32.toInt_inj, ← Int64.toInt_inj, Int32.reduceToInt, Int64.reduceToInt, Nat.reducePow] at u0 u1 u2 u3 u4 ⊢); try omega) : ¬ ((lcmpW p0 p1) < (0 : Int32)))).1) (XS.lloadN X0.here hx rfl (hb hby dk849) rfl (XS.goto X0.here hx rfl (pc0 := 7) (pc' := 11) rfl (hb hby dk850) (by decide) (by decide) k)))))) ?_
  refine Goes.leave (g := (mkF m 11 #[.val (.long p0), .second, .val (.long p1), .second] [(.long p0)])) X0 Bd.notSynchronized (v := (some (.long p0))) (fun h => by rw [Bd.returns] at h; cases h) (fun fs hr => retJ X0 hx Bd.returns (hb hby dk851) hr) eh0 ?_ (by decide) (by decide)
  exact ⟨rfl, N0, rfl⟩

theorem ef_jmaxb (m : MethodId) (x0 : Int64) (x1 : Int64) : entryFrame m #[(.long x0), (.long x1)] 4 = mkF m 0 #[.val (.long x0), .second, .val (.long x1), .second] [] := by first | (simp [entryFrame, mkF, argsToLocals, Value.category]; done) | rfl
def Q_jmaxb (Z : State) (p0 : Int64) (p1 : Int64) (h0 : Heap) (n0 : Nat) (v : Option Value) (h : Heap) (L : List Loc) : Prop := v = some (.long p1) ∧ Fr n0 L ∧ h = h0
set_option maxRecDepth 65536 in
set_option maxHeartbeats 40000000 in
theorem jmaxb (l : Launch) (Z : State) (a0 : Array Value) (hw : ∀ d ∈ tables_1, d.before a0 Z = true) (ws : List Jvm.Cond) (p0 : Int64) (p1 : Int64) (h0 : Heap) (n0 : Nat) (Z0 : n0 ≤ h0.size) (Q0 : p0 < p1) :
    MetFree l mth40 (head1 (Jvm.Cond.code mth40 jdk_29_method_66_code 4 (some .long) :: ws) rom2) (fun a U => a = #[(.long p0), (.long p1)] ∧ Z.Warmed39 U.vm ∧ U.heap = h0) (fun _ _ _ _ _ => True) (fun _ U o U' => ∃ v L, o = .returned v ∧ Q_jmaxb Z p0 p1 h0 n0 v U'.heap L ∧ FrameEnd U o U' L rom2.cells rom2.slots) := by
  refine MetFree.of_bodySF (Jvm.Free.JP.mathPlain rfl (by decide +kernel)) hisR ?_
  intro p e s m args below meth c s₁ Bd hml0 hP hK
  obtain ⟨rfl, hZ, hh⟩ := hP
  have hx := Bd.exec
  have hby := Bd.bytes
  have hml : c.maxLocals = 4 := hml0
  have hown : s.vm.findClass "java/lang/Math" = some m.cls := findClass_of_methodNamed Bd.named
  have hnm := (name_of_methodNamed Bd.named Bd.method).1
  have X0 : Stand p l e rom2 s m #[(.long p0), (.long p1)] below meth c s₁ [] 0 0 := Stand.of_body Bd
  have eh0 : s₁.heap = h0 := by rw [← hh, Bd.state]; rfl
  have N0 := Fr.nil n0
  show Goes p e below (Pq (Q_jmaxb Z p0 p1 h0 n0) s rom2.cells rom2.slots) (s₁.setTop (entryFrame m #[(.long p0), (.long p1)] 4))
  refine Goes.step (S' := s₁.setTop (mkF m 0 #[.val (.long p0), .second, .val (.long p1), .second] [])) (fun t k => castTop (ef_jmaxb m p0 p1) k) ?_
  refine Goes.step (S' := s₁.setTop (mkF m 11 #[.val (.long p0), .second, .val (.long p1), .second] [(.long p1)])) (fun t k => XS.lloadN X0.here hx rfl (hb hby dk845) rfl (XS.lloadN X0.here hx rfl (hb hby dk846) rfl (XS.lcmp X0.here hx rfl (hb hby dk847) rfl (XS.ifYes X0.here hx rfl (pc0 := 3) (pc' := 10) rfl (hb hby dk848) rfl ((if0 _ _).trans (tlt ((by have u0:=Q0; have u1:=rng64 p0; have u2:=rng64 p1; have u3:=rng32 (lcmpW p0 p1); have u4:=c_lcmp p0 p1; (try simp only [Int32.lt_iff_toInt_lt, Int64.lt_iff_toInt_lt, ne_eq, ← Int32.toInt_inj, ← Int64.toInt_inj, Int32.reduceToInt, Int64.reduceToInt, Nat.reducePow] at u0 u1 u2 u3 u4 ⊢); try omega) : (lcmpW p0 p1) < (0 : Int32))).1) (by decide) (by decide) (XS.lloadN X0.here hx rfl (hb hby dk852) rfl k))))) ?_
  refine Goes.leave (g := (mkF m 11 #[.val (.long p0), .second, .val (.long p1), .second] [(.long p1)])) X0 Bd.notSynchronized (v := (some (.long p1))) (fun h => by rw [Bd.returns] at h; cases h) (fun fs hr => retJ X0 hx Bd.returns (hb hby dk851) hr) eh0 ?_ (by decide) (by decide)
  exact ⟨rfl, N0, rfl⟩

theorem ef_law (m : MethodId) (x0 : Int64) (x1 : Int64) : entryFrame m #[(.long x0), (.long x1)] maxLocals = mkF m 0 #[.val (.long x0), .second, .val (.long x1), .second, .unset, .unset, .unset, .unset, .unset, .unset, .unset] [] := by first | (simp [entryFrame, mkF, argsToLocals, Value.category, maxLocals]; done) | rfl
def Q_law (Z : State) (p0 : Int64) (p1 : Int64) (cs : Int32) (d1 : Addr) (d2 : Addr) (kd1 : ClassId) (kd2 : ClassId) (fm : Value) (h0 : Heap) (n0 : Nat) (v : Option Value) (h : Heap) (L : List Loc) : Prop := v = some (.int (1 : Int32)) ∧ Fr n0 L
set_option maxRecDepth 65536 in
set_option maxHeartbeats 40000000 in
theorem law (l : Launch) (Z : State) (a0 : Array Value) (hw : ∀ d ∈ tables_1, d.before a0 Z = true) (ws : List Jvm.Cond) (p0 : Int64) (p1 : Int64) (cs : Int32) (d1 : Addr) (d2 : Addr) (kd1 : ClassId) (kd2 : ClassId) (fm : Value) (h0 : Heap) (n0 : Nat) (Z0 : n0 ≤ h0.size) (SC : Sta Z h0 "java/lang/String" "COMPACT_STRINGS" "Z" (.int cs)) (PC : ¬ (cs = (0 : Int32))) (S1 : Sta Z h0 "java/lang/Integer" "DigitOnes" "[B" (.ref d1)) (W1 : Arv Z h0 d1 kd1 .byte (100 : Int32) own_ones (.int (0 : Int32))) (S2 : Sta Z h0 "java/lang/Integer" "DigitTens" "[B" (.ref d2)) (W2 : Arv Z h0 d2 kd2 .byte (100 : Int32) own_tens (.int (0 : Int32))) (HS : own_same Z) (SF : Sta Z h0 "jdk/internal/util/Preconditions" "SIOOBE_FORMATTER" "Ljava/util/function/BiFunction;" fm) (HF : fm.isRef = true) :
    MetFree l x (head1 (Jvm.Cond.code x code maxLocals ret :: ws) room_1) (fun a U => a = #[(.long p0), (.long p1)] ∧ Z.Warmed39 U.vm ∧ U.heap = h0 ∧ CHv Z own_EL U.vm h0) (fun _ _ _ _ _ => True) (fun _ U o U' => ∃ v L, o = .returned v ∧ Q_law Z p0 p1 cs d1 d2 kd1 kd2 fm h0 n0 v U'.heap L ∧ CHr Z own_EL U.vm U.heap U'.vm U'.heap ∧ ReturnedEndW U o U' L room_1.cells room_1.slots) := by
  refine MetFree.of_bodySF (plainFor_of_name pnm9) hisR ?_
  intro p e s m args below meth c s₁ Bd hml0 hP hK
  obtain ⟨rfl, hZ, hh, hC⟩ := hP
  have hx := Bd.exec
  have hby := Bd.bytes
  have hml : c.maxLocals = 11 := hml0
  have hown : s.vm.findClass "com/example/uraniborg/uraniborg/model/PriorityRangeToStringPinLaw" = some m.cls := findClass_of_methodNamed Bd.named
  have hnm := (name_of_methodNamed Bd.named Bd.method).1
  have X0 : Stand p l e room_1 s m #[(.long p0), (.long p1)] below meth c s₁ [] 0 0 := Stand.of_body Bd
  replace X0 : Stand p l e room_1 (s.setVm s.vm) m #[(.long p0), (.long p1)] below meth c s₁ [] 0 0 := X0
  have hZ0 := hZ
  have hown0 := hown
  have hS0 := own_s0 s h0.size
  have CR0 : CHr Z own_EL s.vm h0 s.vm h0 := CHr.refl hC
  have eh0 : s₁.heap = h0 := by rw [← hh, Bd.state]; rfl
  have N0 := Fr.nil n0
  have tw0 := own_hw hw 0 rfl
  have tw1 := own_hw hw 1 rfl
  have tw2 := own_hw hw 2 rfl
  have tw3 := own_hw hw 3 rfl
  have tw4 := own_hw hw 4 rfl
  have tw5 := own_hw hw 5 rfl
  have tw6 := own_hw hw 6 rfl
  have tw7 := own_hw hw 7 rfl
  have tw8 := own_hw hw 8 rfl
  have tw9 := own_hw hw 9 rfl
  have tw10 := own_hw hw 10 rfl
  have tw11 := own_hw hw 11 rfl
  have tw12 := own_hw hw 12 rfl
  have tw22 := own_hw hw 22 rfl
  have tw24 := own_hw hw 24 rfl
  have tw25 := own_hw hw 25 rfl
  have tw26 := own_hw hw 26 rfl
  have tw27 := own_hw hw 27 rfl
  have tw28 := own_hw hw 28 rfl
  have tw29 := own_hw hw 29 rfl
  have tw44 := own_hw hw 44 rfl
  have tw99 := own_hw hw 99 rfl
  have tw100 := own_hw hw 100 rfl
  have tw101 := own_hw hw 101 rfl
  have tw102 := own_hw hw 102 rfl
  have tw173 := own_hw hw 173 rfl
  have tw174 := own_hw hw 174 rfl
  have tw175 := own_hw hw 175 rfl
  have tw176 := own_hw hw 176 rfl
  have tw198 := own_hw hw 198 rfl
  have tw200 := own_hw hw 200 rfl
  have tw201 := own_hw hw 201 rfl
  have tw202 := own_hw hw 202 rfl
  have tw203 := own_hw hw 203 rfl
  have tw204 := own_hw hw 204 rfl
  show Goes p e below (Ph Z own_EL (Q_law Z p0 p1 cs d1 d2 kd1 kd2 fm h0 n0) s room_1.cells room_1.slots) (s₁.setTop (entryFrame m #[(.long p0), (.long p1)] maxLocals))
  refine Goes.step (S' := s₁.setTop (mkF m 0 #[.val (.long p0), .second, .val (.long p1), .second, .unset, .unset, .unset, .unset, .unset, .unset, .unset] [])) (fun t k => castTop (ef_law m p0 p1) k) ?_
  by_cases hc101 : p1 < p0
  case pos =>
    refine Goes.step (S' := s₁.setTop (mkF m 2 #[.val (.long p0), .second, .val (.long p1), .second, .unset, .unset, .unset, .unset, .unset, .unset, .unset] [(.long p1), (.long p0)])) (fun t k => XS.lloadN X0.here hx rfl (hb hby at_0) rfl (XS.lloadN X0.here hx rfl (hb hby at_1) rfl k)) ?_
    obtain ⟨_, _, ⟨T102, L102, k102, n102⟩, -, X102, ⟨Lc102, hQ102, l102, y102, z102⟩, st102⟩ := Jvm.LawKit.callS X0 hx (y := mth39) hown (mvT hZ tw0) (mvT hZ tw1) (mvT hZ tw2) (mvT hZ tw3) (by decide) (backOf (W := 0) (jminb l Z a0 hw [] p0 p1 h0 n0 Z0 (hc101 : p1 < p0)) hZ tw3 tw2 (by decide) (by decide)) (g := (mkF m 2 #[.val (.long p0), .second, .val (.long p1), .second, .unset, .unset, .unset, .unset, .unset, .unset, .unset] [(.long p1), (.long p0)])) rfl (by rw [hml]; rfl) (argsL := [(.long p0), (.long p1)]) (rest := []) (lenOf pd_JJ_J rfl) rfl (Nat.le_of_eq rfl) (hb hby at_2) (fun _ _ => ⟨rfl, eh0, (by decide : 0 + 0 ≤ _), (by decide : 0 + 0 ≤ _)⟩)
    dsimp only [Pt.U, Pt.locs, Pt.cells, Pt.slots] at X102 l102 y102 z102 st102 hQ102
    subst y102 z102
    obtain ⟨rfl, Nq102, q102_0⟩ := hQ102
    have N102 : Fr n0 L102 := by rw [l102]; exact Fr.app N0 Nq102
    refine Goes.step (S' := T102.setTop (mkF m 9 #[.val (.long p0), .second, .val (.long p1), .second, .val (.long p1), .second, .unset, .unset, .unset, .unset, .unset] [(.long p1), (.long p0)])) (fun t k => st102 _ (XS.lstore X102.here hx rfl (hb hby at_5) rfl (l' := #[.val (.long p0), .second, .val (.long p1), .second, .val (.long p1), .second, .unset, .unset, .unset, .unset, .unset]) rfl (XS.lloadN X102.here hx rfl (hb hby at_7) rfl (XS.lloadN X102.here hx rfl (hb hby at_8) rfl k)))) ?_
    obtain ⟨_, _, ⟨T103, L103, k103, n103⟩, -, X103, ⟨Lc103, hQ103, l103, y103, z103⟩, st103⟩ := Jvm.LawKit.callS X102 hx (y := mth40) hown (mvT hZ tw4) (mvT hZ tw5) (mvT hZ tw2) (mvT hZ tw6) (by decide) (backOf (W := 0) (jmaxa l Z a0 hw [] p0 p1 h0 n0 Z0 ((by have u0:=PC; have u1:=hc101; have u2:=rng32 cs; have u3:=rng64 p1; have u4:=rng64 p0; (try simp only [Int32.lt_iff_toInt_lt, Int64.lt_iff_toInt_lt, ne_eq, ← Int32.toInt_inj, ← Int64.toInt_inj, Int32.reduceToInt, Int64.reduceToInt, Nat.reducePow] at u0 u1 u2 u3 u4 ⊢); try omega) : ¬ (p0 < p1))) hZ tw6 tw2 (by decide) (by decide)) (g := (mkF m 9 #[.val (.long p0), .second, .val (.long p1), .second, .val (.long p1), .second, .unset, .unset, .unset, .unset, .unset] [(.long p1), (.long p0)])) rfl (by rw [hml]; rfl) (argsL := [(.long p0), (.long p1)]) (rest := []) (lenOf pd_JJ_J rfl) rfl (Nat.le_of_eq rfl) (hb hby at_9) (fun _ _ => ⟨rfl, q102_0, (by decide : 0 + 0 ≤ _), (by decide : 0 + 0 ≤ _)⟩)
    dsimp only [Pt.U, Pt.locs, Pt.cells, Pt.slots] at X103 l103 y103 z103 st103 hQ103
    subst y103 z103
    obtain ⟨rfl, Nq103, q103_0⟩ := hQ103
    have N103 : Fr n0 L103 := by rw [l103]; exact Fr.app N102 Nq103
    refine Goes.step (S' := T103.setTop (mkF m 14 #[.val (.long p0), .second, .val (.long p1), .second, .val (.long p1), .second, .val (.long p0), .second, .unset, .unset, .unset] [])) (fun t k => st103 _ (XS.lstore X103.here hx rfl (hb hby at_12) rfl (l' := #[.val (.long p0), .second, .val (.long p1), .second, .val (.long p1), .second, .val (.long p0), .second, .unset, .unset, .unset]) rfl k)) ?_
    obtain ⟨T105, h105, X105, e105, E105, A105, D105, U105, st105⟩ := newO X103 hx hZ hown tw7 tw8 tw9 q103_0 (g := (mkF m 14 #[.val (.long p0), .second, .val (.long p1), .second, .val (.long p1), .second, .val (.long p0), .second, .unset, .unset, .unset] [])) rfl (hb hby at_14) (by decide) (by decide)
    obtain ⟨b105, g105⟩ : ∃ z, z = h0.size := ⟨_, rfl⟩
    rw [← g105] at A105 D105 U105 st105
    have F105_min : Fld Z h105 b105 "com/example/uraniborg/uraniborg/model/PriorityRange" "min" "J" (.long (0 : Int64)) := D105 (Or.inr tw22) (ty := .long) (by decide)
    have F105_max : Fld Z h105 b105 "com/example/uraniborg/uraniborg/model/PriorityRange" "max" "J" (.long (0 : Int64)) := D105 (Or.inr tw24) (ty := .long) (by decide)
    refine Goes.step (S' := T105.setTop (mkF m 22 #[.val (.long p0), .second, .val (.long p1), .second, .val (.long p1), .second, .val (.long p0), .second, .unset, .unset, .unset] [(.long p0), (.long p1), (.ref b105), (.ref b105)])) (fun t k => st105 _ (XS.dup X105.here hx rfl (hb hby at_17) rfl rfl (XS.lload X105.here hx rfl (hb hby at_18) rfl (XS.lload X105.here hx rfl (hb hby at_20) rfl k)))) ?_
    obtain ⟨_, _, ⟨T106, L106, k106, n106⟩, -, X106, ⟨Lc106, hQ106, l106, y106, z106⟩, st106⟩ := X105.specialBack hx (y := mth31) rfl hown (mvT hZ tw10) (mvT hZ tw11) (mvT hZ tw12) (by decide) (backOf (W := 1) (prin l Z a0 hw [] b105 p1 p0 h105 n0 (Nat.le_trans Z0 E105.1) A105 (Nat.le_trans Z0 (Nat.le_of_eq g105.symm)) F105_min F105_max ((by have u0:=PC; have u1:=hc101; have u2:=rng32 cs; have u3:=rng64 p1; have u4:=rng64 p0; (try simp only [Int32.lt_iff_toInt_lt, Int64.lt_iff_toInt_lt, ne_eq, ← Int32.toInt_inj, ← Int64.toInt_inj, Int32.reduceToInt, Int64.reduceToInt, Nat.reducePow] at u0 u1 u2 u3 u4 ⊢); try omega) : ¬ (p0 < p1))) hZ tw12 tw9 (by decide) (by decide)) (g := (mkF m 22 #[.val (.long p0), .second, .val (.long p1), .second, .val (.long p1), .second, .val (.long p0), .second, .unset, .unset, .unset] [(.long p0), (.long p1), (.ref b105), (.ref b105)])) rfl (by rw [hml]; rfl) (Steps.refl _) (a := b105) (argsL := [(.long p1), (.long p0)]) (rest := [(.ref b105)]) (lenOf pd_JJ_V rfl) rfl (Nat.le_of_eq rfl) (hb hby at_22) (fun _ _ => ⟨rfl, e105, (by decide : 1 + 0 ≤ _), (by decide : 2 + 0 ≤ _)⟩)
    dsimp only [Pt.U, Pt.locs, Pt.cells, Pt.slots] at X106 l106 y106 z106 st106 hQ106
    subst y106 z106
    obtain ⟨rfl, Nq106, q106_0, q106_1, q106_2⟩ := hQ106
    have N106 : Fr n0 L106 := by rw [l106]; exact Fr.app N103 Nq106
    refine Goes.step (S' := T106.setTop (mkF m 25 #[.val (.long p0), .second, .val (.long p1), .second, .val (.long p1), .second, .val (.long p0), .second, .unset, .unset, .unset] [(.ref b105)])) (fun t k => st106.trans k) ?_
    have CR109 := CR0.trans (CHr.ext E105 CR0.1)
    have CR110 := CR109.trans (CHr.keep q106_0 (sfS (Safe.exa hZ.alike A105 (by decide) (by decide)) sf0) CR109.1)
    obtain ⟨cq108, kq108, q108a, q108b, q108c⟩ := isOf hZ rfl (A105.keep q106_0)
    obtain ⟨_, _, ⟨T108, L108, k108, n108⟩, -, X108, hs108, gr108, ⟨Lc108, hQ108, l108, y108, z108, CX108⟩, st108⟩ := X106.virtualBackS hx (y := mth32) (z := mth32) hown (mvT hZ tw25) (mvT hZ tw26) (notFace_of_selects (args := #[]) (mvT hZ tw28)) (mvT hZ tw28) (mvT hZ tw27) (by decide) (backOfSH (EL := own_EL) (W := 0) (prts l Z a0 hw [] b105 p1 (own_nn p1) p0 (own_nn p0) (Int32.ofNat (own_rep p1 (own_nn p1)).length) (Int32.ofNat (own_rep p0 (own_nn p0)).length) cs d1 d2 kd1 kd2 T106.heap n0 (Nat.le_trans Z0 (Nat.le_trans E105.1 q106_0.1)) (A105.keep q106_0) q106_1 q106_2 (own_stakeep (Sta.ext E105 SC) q106_0 (nsS A105.nostat ns0)) (PC : ¬ (cs = (0 : Int32))) (own_absOf p1) rfl (own_szB _ _).1 (own_szB _ _).2 (own_absOf p0) rfl (own_szB _ _).1 (own_szB _ _).2 (own_stakeep (Sta.ext E105 S1) q106_0 (nsS A105.nostat ns0)) ((W1.ext E105).keep q106_0 (ninS (Nat.ne_of_lt (Nat.lt_of_lt_of_le W1.lt (Nat.le_of_eq g105.symm))) nin0)) (own_stakeep (Sta.ext E105 S2) q106_0 (nsS A105.nostat ns0)) ((W2.ext E105).keep q106_0 (ninS (Nat.ne_of_lt (Nat.lt_of_lt_of_le W2.lt (Nat.le_of_eq g105.symm))) nin0)) HS) hZ tw29 tw9 (by decide) (by decide) (own_ew hw) CR110.1) q108a q108c (g := (mkF m 25 #[.val (.long p0), .second, .val (.long p1), .second, .val (.long p1), .second, .val (.long p0), .second, .unset, .unset, .unset] [(.ref b105)])) rfl (by rw [hml]; rfl) (Steps.refl _) (argsL := []) (rest := []) (lenOf pd_Ljava_lang_String rfl) rfl (Nat.le_of_eq rfl) (hb hby at_25) (fun _ _ => ⟨rfl, rfl, (by decide : 1 + 8 ≤ _), (by decide : 2 + 246 ≤ _)⟩)
    dsimp only [Pt.U, Pt.locs, Pt.cells, Pt.slots] at X108 l108 y108 z108 st108 hQ108 hs108 gr108 CX108
    subst y108 z108
    replace X108 := own_fold X108
    have hS108 := foldS hS0 (Nat.le_trans (Nat.le_refl _) (Nat.le_trans E105.1 q106_0.1)) hs108 gr108
    obtain ⟨hZ, hown⟩ := own_since hZ0 hown0 hS108
    obtain ⟨s1_108, x_108, kx_108, N_108, rfl, Nq108, q108_0, q108_1, q108_2, q108_3, q108_4, q108_5⟩ := hQ108
    have N108 : Fr n0 L108 := by rw [l108]; exact Fr.app N106 Nq108
    have CR108 := CR110.trans CX108
    refine Goes.step (S' := T108.setTop (mkF m 35 #[.val (.long p0), .second, .val (.long p1), .second, .val (.long p1), .second, .val (.long p0), .second, .val (.ref s1_108), .unset, .unset] [(.long p1), (.int (0 : Int32)), (.ref s1_108)])) (fun t k => st108.trans (XS.astore X108.here hx rfl (hb hby at_28) rfl rfl (l' := #[.val (.long p0), .second, .val (.long p1), .second, .val (.long p1), .second, .val (.long p0), .second, .val (.ref s1_108), .unset, .unset]) rfl (XS.aload X108.here hx rfl (hb hby at_30) rfl rfl (XS.iconst X108.here hx rfl (hb hby at_32) (XS.lload X108.here hx rfl (hb hby at_33) rfl k))))) ?_
    obtain ⟨_, _, ⟨T111, L111, k111, n111⟩, -, X111, ⟨Lc111, hQ111, l111, y111, z111⟩, st111⟩ := Jvm.LawKit.callS X108 hx (y := mth38) hown (mvT hZ tw173) (mvT hZ tw174) (mvT hZ tw175) (mvT hZ tw176) (by decide) (backOf (W := 0) (num l Z a0 hw [] s1_108 x_108 kx_108 N_108 (own_all p1 (own_nn p1) p0 (own_nn p0)) (0 : Int32) p1 (own_nn p1) 0 cs fm T108.heap n0 (Nat.le_trans Z0 (Nat.le_trans (Nat.le_trans E105.1 q106_0.1) q108_0.1)) q108_1 q108_2 q108_3 q108_4 (own_stakeep (own_stakeep (Sta.ext E105 SC) q106_0 (nsS A105.nostat ns0)) q108_0 ns0) (PC : ¬ (cs = (0 : Int32))) (own_stakeep (own_stakeep (Sta.ext E105 SF) q106_0 (nsS A105.nostat ns0)) q108_0 ns0) (HF : fm.isRef = true) (own_absOf p1) own_in1 (by rw [Nat.zero_add, own_allLen]; omega) (Nat.le_trans own_allB (by decide)) q108_5 rfl (by decide) (own_ltN (k := 0) rfl q108_5 (Nat.le_trans own_allB (by decide)) (by have q := own_repB p1 (own_nn p1); rw [own_allLen]; omega))) hZ tw176 tw175 (by decide) (by decide)) (g := (mkF m 35 #[.val (.long p0), .second, .val (.long p1), .second, .val (.long p1), .second, .val (.long p0), .second, .val (.ref s1_108), .unset, .unset] [(.long p1), (.int (0 : Int32)), (.ref s1_108)])) rfl (by rw [hml]; rfl) (argsL := [(.ref s1_108), (.int (0 : Int32)), (.long p1)]) (rest := []) (lenOf pd_Ljava_lang_String_IJ_I rfl) rfl (Nat.le_of_eq rfl) (hb hby at_35) (fun _ _ => ⟨rfl, rfl, (by decide : 9 + 0 ≤ _), (by decide : 248 + 0 ≤ _)⟩)
    dsimp only [Pt.U, Pt.locs, Pt.cells, Pt.slots] at X111 l111 y111 z111 st111 hQ111
    subst y111 z111
    obtain ⟨r_111, rfl, Nq111, q111_0, q111_1, q111_2, q111_3⟩ := hQ111
    have N111 : Fr n0 L111 := by rw [l111]; exact Fr.app N108 Nq111
    have hr1 : r_111 = Int32.ofNat (own_rep p1 (own_nn p1)).length := q111_1.trans (by rw [Nat.zero_add])
    have hr2 : (r_111 + (2 : Int32)) = Int32.ofNat ((own_rep p1 (own_nn p1)).length + 2) := own_add hr1 rfl
    have hr3 : (r_111 + (1 : Int32)) = Int32.ofNat ((own_rep p1 (own_nn p1)).length + 1) := own_add hr1 rfl
    have hrA : ¬ (N_108 < (r_111 + (2 : Int32))) := (own_resB hr2 q108_5 (Nat.le_trans own_allB (by decide)) (by rw [own_allLen]; omega)).2
    refine Goes.step (S' := T111.setTop (mkF m 53 #[.val (.long p0), .second, .val (.long p1), .second, .val (.long p1), .second, .val (.long p0), .second, .val (.ref s1_108), .val (.int r_111), .unset] [(.ref s1_108), (.int (r_111 + (2 : Int32)))])) (fun t k => st111 _ (XS.istore X111.here hx rfl (hb hby at_38) rfl (l' := #[.val (.long p0), .second, .val (.long p1), .second, .val (.long p1), .second, .val (.long p0), .second, .val (.ref s1_108), .val (.int r_111), .unset]) rfl (XS.iload X111.here hx rfl (hb hby at_40) rfl (XS.ifYes X111.here hx rfl (pc0 := 42) (pc' := 47) rfl (hb hby at_42) rfl ((if0 _ _).trans (flt (q111_2 : ¬ (r_111 < (0 : Int32)))).2.1) (by decide) (by decide) (XS.iload X111.here hx rfl (hb hby at_47) rfl (XS.iconst X111.here hx rfl (hb hby at_49) (XS.iadd X111.here hx rfl (hb hby at_50) rfl (XS.aload X111.here hx rfl (hb hby at_51) rfl rfl k)))))))) ?_
    obtain ⟨cq112, kq112, q112a, q112b, q112c⟩ := isOf hZ q111_0 q108_1
    obtain ⟨_, _, ⟨T112, L112, k112, n112⟩, -, X112, ⟨Lc112, hQ112, l112, y112, z112⟩, st112⟩ := X111.virtualBack hx (y := mth14) (z := mth14) hown (mvT hZ tw198) (mvT hZ tw99) (notFace_of_selects (args := #[]) (mvT hZ tw101)) (mvT hZ tw101) (mvT hZ tw100) (by decide) (backOf (W := 1) (slen l Z a0 hw [] s1_108 x_108 kx_108 N_108 (own_all p1 (own_nn p1) p0 (own_nn p0)) cs T108.heap n0 (Nat.le_trans Z0 (Nat.le_trans (Nat.le_trans E105.1 q106_0.1) q108_0.1)) q108_1 q108_2 q108_3 q108_4 (own_stakeep (own_stakeep (Sta.ext E105 SC) q106_0 (nsS A105.nostat ns0)) q108_0 ns0) (PC : ¬ (cs = (0 : Int32)))) hZ tw102 tw44 (by decide) (by decide)) q112a q112c (g := (mkF m 53 #[.val (.long p0), .second, .val (.long p1), .second, .val (.long p1), .second, .val (.long p0), .second, .val (.ref s1_108), .val (.int r_111), .unset] [(.ref s1_108), (.int (r_111 + (2 : Int32)))])) rfl (by rw [hml]; rfl) (Steps.refl _) (argsL := []) (rest := [(.int (r_111 + (2 : Int32)))]) (lenOf pd_I rfl) rfl (Nat.le_of_eq rfl) (hb hby at_53) (fun _ _ => ⟨rfl, q111_0, (by decide : 9 + 0 ≤ _), (by decide : 248 + 0 ≤ _)⟩)
    dsimp only [Pt.U, Pt.locs, Pt.cells, Pt.slots] at X112 l112 y112 z112 st112 hQ112
    subst y112 z112
    obtain ⟨rfl, Nq112, q112_0⟩ := hQ112
    have N112 : Fr n0 L112 := by rw [l112]; exact Fr.app N111 Nq112
    refine Goes.step (S' := T112.setTop (mkF m 63 #[.val (.long p0), .second, .val (.long p1), .second, .val (.long p1), .second, .val (.long p0), .second, .val (.ref s1_108), .val (.int r_111), .unset] [(.int r_111), (.ref s1_108)])) (fun t k => st112.trans (XS.icmpNo X112.here hx rfl (hb hby at_56) rfl (flt (hrA : ¬ (N_108 < (r_111 + (2 : Int32))))).2.2.1 (XS.aload X112.here hx rfl (hb hby at_59) rfl rfl (XS.iload X112.here hx rfl (hb hby at_61) rfl k)))) ?_
    obtain ⟨cq113, kq113, q113a, q113b, q113c⟩ := isOf hZ q112_0 q108_1
    obtain ⟨_, _, ⟨T113, L113, k113, n113⟩, -, X113, ⟨Lc113, hQ113, l113, y113, z113⟩, st113⟩ := X112.virtualBack hx (y := mth36) (z := mth36) hown (mvT hZ tw200) (mvT hZ tw201) (notFace_of_selects (args := #[]) (mvT hZ tw203)) (mvT hZ tw203) (mvT hZ tw202) (by decide) (backOf (W := 0) (sca l Z a0 hw [] s1_108 x_108 kx_108 N_108 (own_all p1 (own_nn p1) p0 (own_nn p0)) r_111 (46 : Int32) cs fm T108.heap n0 (Nat.le_trans Z0 (Nat.le_trans (Nat.le_trans E105.1 q106_0.1) q108_0.1)) q108_1 q108_2 q108_3 q108_4 (own_stakeep (own_stakeep (Sta.ext E105 SC) q106_0 (nsS A105.nostat ns0)) q108_0 ns0) (PC : ¬ (cs = (0 : Int32))) (own_stakeep (own_stakeep (Sta.ext E105 SF) q106_0 (nsS A105.nostat ns0)) q108_0 ns0) (HF : fm.isRef = true) (own_resB hr1 q108_5 (Nat.le_trans own_allB (by decide)) (by rw [own_allLen]; omega)).1 (own_ltN hr1 q108_5 (Nat.le_trans own_allB (by decide)) (by rw [own_allLen]; omega)) (own_at (k := (own_rep p1 (own_nn p1)).length) (j := 0) own_dots (by decide) rfl hr1 (by have q := own_repB p1 (own_nn p1); omega)) (by decide) (by decide)) hZ tw204 tw44 (by decide) (by decide)) q113a q113c (g := (mkF m 63 #[.val (.long p0), .second, .val (.long p1), .second, .val (.long p1), .second, .val (.long p0), .second, .val (.ref s1_108), .val (.int r_111), .unset] [(.int r_111), (.ref s1_108)])) rfl (by rw [hml]; rfl) (Steps.refl _) (argsL := [(.int r_111)]) (rest := []) (lenOf pd_I_C rfl) rfl (Nat.le_of_eq rfl) (hb hby at_63) (fun _ _ => ⟨rfl, q112_0, (by decide : 9 + 0 ≤ _), (by decide : 248 + 0 ≤ _)⟩)
    dsimp only [Pt.U, Pt.locs, Pt.cells, Pt.slots] at X113 l113 y113 z113 st113 hQ113
    subst y113 z113
    obtain ⟨rfl, Nq113, q113_0⟩ := hQ113
    have N113 : Fr n0 L113 := by rw [l113]; exact Fr.app N112 Nq113
    refine Goes.step (S' := T113.setTop (mkF m 77 #[.val (.long p0), .second, .val (.long p1), .second, .val (.long p1), .second, .val (.long p0), .second, .val (.ref s1_108), .val (.int r_111), .unset] [(.int (r_111 + (1 : Int32))), (.ref s1_108)])) (fun t k => st113.trans (XS.bipush X113.here hx rfl (hb hby at_66) (XS.icmpNo X113.here hx rfl (hb hby at_68) rfl (teq ((by decide) : (46 : Int32) = (46 : Int32))).2 (XS.aload X113.here hx rfl (hb hby at_71) rfl rfl (XS.iload X113.here hx rfl (hb hby at_73) rfl (XS.iconst X113.here hx rfl (hb hby at_75) (XS.iadd X113.here hx rfl (hb hby at_76) rfl k))))))) ?_
    obtain ⟨cq114, kq114, q114a, q114b, q114c⟩ := isOf hZ q113_0 q108_1
    obtain ⟨_, _, ⟨T114, L114, k114, n114⟩, -, X114, ⟨Lc114, hQ114, l114, y114, z114⟩, st114⟩ := X113.virtualBack hx (y := mth36) (z := mth36) hown (mvT hZ tw200) (mvT hZ tw201) (notFace_of_selects (args := #[]) (mvT hZ tw203)) (mvT hZ tw203) (mvT hZ tw202) (by decide) (backOf (W := 0) (sca l Z a0 hw [] s1_108 x_108 kx_108 N_108 (own_all p1 (own_nn p1) p0 (own_nn p0)) (r_111 + (1 : Int32)) (46 : Int32) cs fm T108.heap n0 (Nat.le_trans Z0 (Nat.le_trans (Nat.le_trans E105.1 q106_0.1) q108_0.1)) q108_1 q108_2 q108_3 q108_4 (own_stakeep (own_stakeep (Sta.ext E105 SC) q106_0 (nsS A105.nostat ns0)) q108_0 ns0) (PC : ¬ (cs = (0 : Int32))) (own_stakeep (own_stakeep (Sta.ext E105 SF) q106_0 (nsS A105.nostat ns0)) q108_0 ns0) (HF : fm.isRef = true) (own_resB hr3 q108_5 (Nat.le_trans own_allB (by decide)) (by rw [own_allLen]; omega)).1 (own_ltN hr3 q108_5 (Nat.le_trans own_allB (by decide)) (by rw [own_allLen]; omega)) (own_at (k := (own_rep p1 (own_nn p1)).length) (j := 1) own_dots (by decide) rfl hr3 (by have q := own_repB p1 (own_nn p1); omega)) (by decide) (by decide)) hZ tw204 tw44 (by decide) (by decide)) q114a q114c (g := (mkF m 77 #[.val (.long p0), .second, .val (.long p1), .second, .val (.long p1), .second, .val (.long p0), .second, .val (.ref s1_108), .val (.int r_111), .unset] [(.int (r_111 + (1 : Int32))), (.ref s1_108)])) rfl (by rw [hml]; rfl) (Steps.refl _) (argsL := [(.int (r_111 + (1 : Int32)))]) (rest := []) (lenOf pd_I_C rfl) rfl (Nat.le_of_eq rfl) (hb hby at_77) (fun _ _ => ⟨rfl, q113_0, (by decide : 9 + 0 ≤ _), (by decide : 248 + 0 ≤ _)⟩)
    dsimp only [Pt.U, Pt.locs, Pt.cells, Pt.slots] at X114 l114 y114 z114 st114 hQ114
    subst y114 z114
    obtain ⟨rfl, Nq114, q114_0⟩ := hQ114
    have N114 : Fr n0 L114 := by rw [l114]; exact Fr.app N113 Nq114
    refine Goes.step (S' := T114.setTop (mkF m 95 #[.val (.long p0), .second, .val (.long p1), .second, .val (.long p1), .second, .val (.long p0), .second, .val (.ref s1_108), .val (.int r_111), .unset] [(.long p0), (.int (r_111 + (2 : Int32))), (.ref s1_108)])) (fun t k => st114.trans (XS.bipush X114.here hx rfl (hb hby at_80) (XS.icmpYes X114.here hx rfl (pc0 := 82) (pc' := 87) rfl (hb hby at_82) rfl (teq ((by decide) : (46 : Int32) = (46 : Int32))).1 (by decide) (by decide) (XS.aload X114.here hx rfl (hb hby at_87) rfl rfl (XS.iload X114.here hx rfl (hb hby at_89) rfl (XS.iconst X114.here hx rfl (hb hby at_91) (XS.iadd X114.here hx rfl (hb hby at_92) rfl (XS.lload X114.here hx rfl (hb hby at_93) rfl k)))))))) ?_
    obtain ⟨_, _, ⟨T115, L115, k115, n115⟩, -, X115, ⟨Lc115, hQ115, l115, y115, z115⟩, st115⟩ := Jvm.LawKit.callS X114 hx (y := mth38) hown (mvT hZ tw173) (mvT hZ tw174) (mvT hZ tw175) (mvT hZ tw176) (by decide) (backOf (W := 0) (num l Z a0 hw [] s1_108 x_108 kx_108 N_108 (own_all p1 (own_nn p1) p0 (own_nn p0)) (r_111 + (2 : Int32)) p0 (own_nn p0) ((own_rep p1 (own_nn p1)).length + 2) cs fm T108.heap n0 (Nat.le_trans Z0 (Nat.le_trans (Nat.le_trans E105.1 q106_0.1) q108_0.1)) q108_1 q108_2 q108_3 q108_4 (own_stakeep (own_stakeep (Sta.ext E105 SC) q106_0 (nsS A105.nostat ns0)) q108_0 ns0) (PC : ¬ (cs = (0 : Int32))) (own_stakeep (own_stakeep (Sta.ext E105 SF) q106_0 (nsS A105.nostat ns0)) q108_0 ns0) (HF : fm.isRef = true) (own_absOf p0) own_in2 (by rw [own_allLen]; exact Nat.le_refl _) (Nat.le_trans own_allB (by decide)) q108_5 hr2 (own_resB hr2 q108_5 (Nat.le_trans own_allB (by decide)) (by rw [own_allLen]; omega)).1 (own_ltN hr2 q108_5 (Nat.le_trans own_allB (by decide)) (by have q := own_repB p0 (own_nn p0); rw [own_allLen]; omega))) hZ tw176 tw175 (by decide) (by decide)) (g := (mkF m 95 #[.val (.long p0), .second, .val (.long p1), .second, .val (.long p1), .second, .val (.long p0), .second, .val (.ref s1_108), .val (.int r_111), .unset] [(.long p0), (.int (r_111 + (2 : Int32))), (.ref s1_108)])) rfl (by rw [hml]; rfl) (argsL := [(.ref s1_108), (.int (r_111 + (2 : Int32))), (.long p0)]) (rest := []) (lenOf pd_Ljava_lang_String_IJ_I rfl) rfl (Nat.le_of_eq rfl) (hb hby at_95) (fun _ _ => ⟨rfl, q114_0, (by decide : 9 + 0 ≤ _), (by decide : 248 + 0 ≤ _)⟩)
    dsimp only [Pt.U, Pt.locs, Pt.cells, Pt.slots] at X115 l115 y115 z115 st115 hQ115
    subst y115 z115
    obtain ⟨r_115, rfl, Nq115, q115_0, q115_1, q115_2, q115_3⟩ := hQ115
    have N115 : Fr n0 L115 := by rw [l115]; exact Fr.app N114 Nq115
    have hrE : r_115 = N_108 := q115_1.trans (by rw [q108_5, own_allLen])
    refine Goes.step (S' := T115.setTop (mkF m 104 #[.val (.long p0), .second, .val (.long p1), .second, .val (.long p1), .second, .val (.long p0), .second, .val (.ref s1_108), .val (.int r_111), .val (.int r_115)] [(.ref s1_108), (.int r_115)])) (fun t k => st115 _ (XS.istore X115.here hx rfl (hb hby at_98) rfl (l' := #[.val (.long p0), .second, .val (.long p1), .second, .val (.long p1), .second, .val (.long p0), .second, .val (.ref s1_108), .val (.int r_111), .val (.int r_115)]) rfl (XS.iload X115.here hx rfl (hb hby at_100) rfl (XS.aload X115.here hx rfl (hb hby at_102) rfl rfl k)))) ?_
    obtain ⟨cq116, kq116, q116a, q116b, q116c⟩ := isOf hZ q115_0 q108_1
    obtain ⟨_, _, ⟨T116, L116, k116, n116⟩, -, X116, ⟨Lc116, hQ116, l116, y116, z116⟩, st116⟩ := X115.virtualBack hx (y := mth14) (z := mth14) hown (mvT hZ tw198) (mvT hZ tw99) (notFace_of_selects (args := #[]) (mvT hZ tw101)) (mvT hZ tw101) (mvT hZ tw100) (by decide) (backOf (W := 1) (slen l Z a0 hw [] s1_108 x_108 kx_108 N_108 (own_all p1 (own_nn p1) p0 (own_nn p0)) cs T108.heap n0 (Nat.le_trans Z0 (Nat.le_trans (Nat.le_trans E105.1 q106_0.1) q108_0.1)) q108_1 q108_2 q108_3 q108_4 (own_stakeep (own_stakeep (Sta.ext E105 SC) q106_0 (nsS A105.nostat ns0)) q108_0 ns0) (PC : ¬ (cs = (0 : Int32)))) hZ tw102 tw44 (by decide) (by decide)) q116a q116c (g := (mkF m 104 #[.val (.long p0), .second, .val (.long p1), .second, .val (.long p1), .second, .val (.long p0), .second, .val (.ref s1_108), .val (.int r_111), .val (.int r_115)] [(.ref s1_108), (.int r_115)])) rfl (by rw [hml]; rfl) (Steps.refl _) (argsL := []) (rest := [(.int r_115)]) (lenOf pd_I rfl) rfl (Nat.le_of_eq rfl) (hb hby at_104) (fun _ _ => ⟨rfl, q115_0, (by decide : 9 + 0 ≤ _), (by decide : 248 + 0 ≤ _)⟩)
    dsimp only [Pt.U, Pt.locs, Pt.cells, Pt.slots] at X116 l116 y116 z116 st116 hQ116
    subst y116 z116
    obtain ⟨rfl, Nq116, q116_0⟩ := hQ116
    have N116 : Fr n0 L116 := by rw [l116]; exact Fr.app N115 Nq116
    refine Goes.step (S' := T116.setTop (mkF m 115 #[.val (.long p0), .second, .val (.long p1), .second, .val (.long p1), .second, .val (.long p0), .second, .val (.ref s1_108), .val (.int r_111), .val (.int r_115)] [(.int (1 : Int32))])) (fun t k => st116.trans (XS.icmpNo X116.here hx rfl (hb hby at_107) rfl (teq (hrE : r_115 = N_108)).2 (XS.iconst X116.here hx rfl (hb hby at_110) (XS.goto X116.here hx rfl (pc0 := 111) (pc' := 115) rfl (hb hby at_111) (by decide) (by decide) k)))) ?_
    refine Goes.leaveH (g := (mkF m 115 #[.val (.long p0), .second, .val (.long p1), .second, .val (.long p1), .second, .val (.long p0), .second, .val (.ref s1_108), .val (.int r_111), .val (.int r_115)] [(.int (1 : Int32))])) (own_ew hw) hZ hh CR108 X116 hS108 (Nat.le_refl _) Bd.notSynchronized (v := (some (.int (1 : Int32)))) (fun h => by rw [Bd.returns] at h; cases h) (fun fs hr => retN X116 hx (t := .boolean) Bd.returns (by simp) (hb hby at_115) hr) q116_0 ?_ (by decide) (by decide)
    exact ⟨rfl, N116⟩
  case neg =>
    by_cases hc117 : p0 < p1
    case pos =>
      refine Goes.step (S' := s₁.setTop (mkF m 2 #[.val (.long p0), .second, .val (.long p1), .second, .unset, .unset, .unset, .unset, .unset, .unset, .unset] [(.long p1), (.long p0)])) (fun t k => XS.lloadN X0.here hx rfl (hb hby at_0) rfl (XS.lloadN X0.here hx rfl (hb hby at_1) rfl k)) ?_
      obtain ⟨_, _, ⟨T118, L118, k118, n118⟩, -, X118, ⟨Lc118, hQ118, l118, y118, z118⟩, st118⟩ := Jvm.LawKit.callS X0 hx (y := mth39) hown (mvT hZ tw0) (mvT hZ tw1) (mvT hZ tw2) (mvT hZ tw3) (by decide) (backOf (W := 0) (jmina l Z a0 hw [] p0 p1 h0 n0 Z0 (hc101 : ¬ (p1 < p0))) hZ tw3 tw2 (by decide) (by decide)) (g := (mkF m 2 #[.val (.long p0), .second, .val (.long p1), .second, .unset, .unset, .unset, .unset, .unset, .unset, .unset] [(.long p1), (.long p0)])) rfl (by rw [hml]; rfl) (argsL := [(.long p0), (.long p1)]) (rest := []) (lenOf pd_JJ_J rfl) rfl (Nat.le_of_eq rfl) (hb hby at_2) (fun _ _ => ⟨rfl, eh0, (by decide : 0 + 0 ≤ _), (by decide : 0 + 0 ≤ _)⟩)
      dsimp only [Pt.U, Pt.locs, Pt.cells, Pt.slots] at X118 l118 y118 z118 st118 hQ118
      subst y118 z118
      obtain ⟨rfl, Nq118, q118_0⟩ := hQ118
      have N118 : Fr n0 L118 := by rw [l118]; exact Fr.app N0 Nq118
      refine Goes.step (S' := T118.setTop (mkF m 9 #[.val (.long p0), .second, .val (.long p1), .second, .val (.long p0), .second, .unset, .unset, .unset, .unset, .unset] [(.long p1), (.long p0)])) (fun t k => st118 _ (XS.lstore X118.here hx rfl (hb hby at_5) rfl (l' := #[.val (.long p0), .second, .val (.long p1), .second, .val (.long p0), .second, .unset, .unset, .unset, .unset, .unset]) rfl (XS.lloadN X118.here hx rfl (hb hby at_7) rfl (XS.lloadN X118.here hx rfl (hb hby at_8) rfl k)))) ?_
      obtain ⟨_, _, ⟨T119, L119, k119, n119⟩, -, X119, ⟨Lc119, hQ119, l119, y119, z119⟩, st119⟩ := Jvm.LawKit.callS X118 hx (y := mth40) hown (mvT hZ tw4) (mvT hZ tw5) (mvT hZ tw2) (mvT hZ tw6) (by decide) (backOf (W := 0) (jmaxb l Z a0 hw [] p0 p1 h0 n0 Z0 (hc117 : p0 < p1)) hZ tw6 tw2 (by decide) (by decide)) (g := (mkF m 9 #[.val (.long p0), .second, .val (.long p1), .second, .val (.long p0), .second, .unset, .unset, .unset, .unset, .unset] [(.long p1), (.long p0)])) rfl (by rw [hml]; rfl) (argsL := [(.long p0), (.long p1)]) (rest := []) (lenOf pd_JJ_J rfl) rfl (Nat.le_of_eq rfl) (hb hby at_9) (fun _ _ => ⟨rfl, q118_0, (by decide : 0 + 0 ≤ _), (by decide : 0 + 0 ≤ _)⟩)
      dsimp only [Pt.U, Pt.locs, Pt.cells, Pt.slots] at X119 l119 y119 z119 st119 hQ119
      subst y119 z119
      obtain ⟨rfl, Nq119, q119_0⟩ := hQ119
      have N119 : Fr n0 L119 := by rw [l119]; exact Fr.app N118 Nq119
      refine Goes.step (S' := T119.setTop (mkF m 14 #[.val (.long p0), .second, .val (.long p1), .second, .val (.long p0), .second, .val (.long p1), .second, .unset, .unset, .unset] [])) (fun t k => st119 _ (XS.lstore X119.here hx rfl (hb hby at_12) rfl (l' := #[.val (.long p0), .second, .val (.long p1), .second, .val (.long p0), .second, .val (.long p1), .second, .unset, .unset, .unset]) rfl k)) ?_
      obtain ⟨T120, h120, X120, e120, E120, A120, D120, U120, st120⟩ := newO X119 hx hZ hown tw7 tw8 tw9 q119_0 (g := (mkF m 14 #[.val (.long p0), .second, .val (.long p1), .second, .val (.long p0), .second, .val (.long p1), .second, .unset, .unset, .unset] [])) rfl (hb hby at_14) (by decide) (by decide)
      obtain ⟨b120, g120⟩ : ∃ z, z = h0.size := ⟨_, rfl⟩
      rw [← g120] at A120 D120 U120 st120
      have F120_min : Fld Z h120 b120 "com/example/uraniborg/uraniborg/model/PriorityRange" "min" "J" (.long (0 : Int64)) := D120 (Or.inr tw22) (ty := .long) (by decide)
      have F120_max : Fld Z h120 b120 "com/example/uraniborg/uraniborg/model/PriorityRange" "max" "J" (.long (0 : Int64)) := D120 (Or.inr tw24) (ty := .long) (by decide)
      refine Goes.step (S' := T120.setTop (mkF m 22 #[.val (.long p0), .second, .val (.long p1), .second, .val (.long p0), .second, .val (.long p1), .second, .unset, .unset, .unset] [(.long p1), (.long p0), (.ref b120), (.ref b120)])) (fun t k => st120 _ (XS.dup X120.here hx rfl (hb hby at_17) rfl rfl (XS.lload X120.here hx rfl (hb hby at_18) rfl (XS.lload X120.here hx rfl (hb hby at_20) rfl k)))) ?_
      obtain ⟨_, _, ⟨T121, L121, k121, n121⟩, -, X121, ⟨Lc121, hQ121, l121, y121, z121⟩, st121⟩ := X120.specialBack hx (y := mth31) rfl hown (mvT hZ tw10) (mvT hZ tw11) (mvT hZ tw12) (by decide) (backOf (W := 1) (prin l Z a0 hw [] b120 p0 p1 h120 n0 (Nat.le_trans Z0 E120.1) A120 (Nat.le_trans Z0 (Nat.le_of_eq g120.symm)) F120_min F120_max (hc101 : ¬ (p1 < p0))) hZ tw12 tw9 (by decide) (by decide)) (g := (mkF m 22 #[.val (.long p0), .second, .val (.long p1), .second, .val (.long p0), .second, .val (.long p1), .second, .unset, .unset, .unset] [(.long p1), (.long p0), (.ref b120), (.ref b120)])) rfl (by rw [hml]; rfl) (Steps.refl _) (a := b120) (argsL := [(.long p0), (.long p1)]) (rest := [(.ref b120)]) (lenOf pd_JJ_V rfl) rfl (Nat.le_of_eq rfl) (hb hby at_22) (fun _ _ => ⟨rfl, e120, (by decide : 1 + 0 ≤ _), (by decide : 2 + 0 ≤ _)⟩)
      dsimp only [Pt.U, Pt.locs, Pt.cells, Pt.slots] at X121 l121 y121 z121 st121 hQ121
      subst y121 z121
      obtain ⟨rfl, Nq121, q121_0, q121_1, q121_2⟩ := hQ121
      have N121 : Fr n0 L121 := by rw [l121]; exact Fr.app N119 Nq121
      refine Goes.step (S' := T121.setTop (mkF m 25 #[.val (.long p0), .second, .val (.long p1), .second, .val (.long p0), .second, .val (.long p1), .second, .unset, .unset, .unset] [(.ref b120)])) (fun t k => st121.trans k) ?_
      have CR123 := CR0.trans (CHr.ext E120 CR0.1)
      have CR124 := CR123.trans (CHr.keep q121_0 (sfS (Safe.exa hZ.alike A120 (by decide) (by decide)) sf0) CR123.1)
      obtain ⟨cq122, kq122, q122a, q122b, q122c⟩ := isOf hZ rfl (A120.keep q121_0)
      obtain ⟨_, _, ⟨T122, L122, k122, n122⟩, -, X122, hs122, gr122, ⟨Lc122, hQ122, l122, y122, z122, CX122⟩, st122⟩ := X121.virtualBackS hx (y := mth32) (z := mth32) hown (mvT hZ tw25) (mvT hZ tw26) (notFace_of_selects (args := #[]) (mvT hZ tw28)) (mvT hZ tw28) (mvT hZ tw27) (by decide) (backOfSH (EL := own_EL) (W := 0) (prts l Z a0 hw [] b120 p0 (own_nn p0) p1 (own_nn p1) (Int32.ofNat (own_rep p0 (own_nn p0)).length) (Int32.ofNat (own_rep p1 (own_nn p1)).length) cs d1 d2 kd1 kd2 T121.heap n0 (Nat.le_trans Z0 (Nat.le_trans E120.1 q121_0.1)) (A120.keep q121_0) q121_1 q121_2 (own_stakeep (Sta.ext E120 SC) q121_0 (nsS A120.nostat ns0)) (PC : ¬ (cs = (0 : Int32))) (own_absOf p0) rfl (own_szB _ _).1 (own_szB _ _).2 (own_absOf p1) rfl (own_szB _ _).1 (own_szB _ _).2 (own_stakeep (Sta.ext E120 S1) q121_0 (nsS A120.nostat ns0)) ((W1.ext E120).keep q121_0 (ninS (Nat.ne_of_lt (Nat.lt_of_lt_of_le W1.lt (Nat.le_of_eq g120.symm))) nin0)) (own_stakeep (Sta.ext E120 S2) q121_0 (nsS A120.nostat ns0)) ((W2.ext E120).keep q121_0 (ninS (Nat.ne_of_lt (Nat.lt_of_lt_of_le W2.lt (Nat.le_of_eq g120.symm))) nin0)) HS) hZ tw29 tw9 (by decide) (by decide) (own_ew hw) CR124.1) q122a q122c (g := (mkF m 25 #[.val (.long p0), .second, .val (.long p1), .second, .val (.long p0), .second, .val (.long p1), .second, .unset, .unset, .unset] [(.ref b120)])) rfl (by rw [hml]; rfl) (Steps.refl _) (argsL := []) (rest := []) (lenOf pd_Ljava_lang_String rfl) rfl (Nat.le_of_eq rfl) (hb hby at_25) (fun _ _ => ⟨rfl, rfl, (by decide : 1 + 8 ≤ _), (by decide : 2 + 246 ≤ _)⟩)
      dsimp only [Pt.U, Pt.locs, Pt.cells, Pt.slots] at X122 l122 y122 z122 st122 hQ122 hs122 gr122 CX122
      subst y122 z122
      replace X122 := own_fold X122
      have hS122 := foldS hS0 (Nat.le_trans (Nat.le_refl _) (Nat.le_trans E120.1 q121_0.1)) hs122 gr122
      obtain ⟨hZ, hown⟩ := own_since hZ0 hown0 hS122
      obtain ⟨s1_122, x_122, kx_122, N_122, rfl, Nq122, q122_0, q122_1, q122_2, q122_3, q122_4, q122_5⟩ := hQ122
      have N122 : Fr n0 L122 := by rw [l122]; exact Fr.app N121 Nq122
      have CR122 := CR124.trans CX122
      refine Goes.step (S' := T122.setTop (mkF m 35 #[.val (.long p0), .second, .val (.long p1), .second, .val (.long p0), .second, .val (.long p1), .second, .val (.ref s1_122), .unset, .unset] [(.long p0), (.int (0 : Int32)), (.ref s1_122)])) (fun t k => st122.trans (XS.astore X122.here hx rfl (hb hby at_28) rfl rfl (l' := #[.val (.long p0), .second, .val (.long p1), .second, .val (.long p0), .second, .val (.long p1), .second, .val (.ref s1_122), .unset, .unset]) rfl (XS.aload X122.here hx rfl (hb hby at_30) rfl rfl (XS.iconst X122.here hx rfl (hb hby at_32) (XS.lload X122.here hx rfl (hb hby at_33) rfl k))))) ?_
      obtain ⟨_, _, ⟨T125, L125, k125, n125⟩, -, X125, ⟨Lc125, hQ125, l125, y125, z125⟩, st125⟩ := Jvm.LawKit.callS X122 hx (y := mth38) hown (mvT hZ tw173) (mvT hZ tw174) (mvT hZ tw175) (mvT hZ tw176) (by decide) (backOf (W := 0) (num l Z a0 hw [] s1_122 x_122 kx_122 N_122 (own_all p0 (own_nn p0) p1 (own_nn p1)) (0 : Int32) p0 (own_nn p0) 0 cs fm T122.heap n0 (Nat.le_trans Z0 (Nat.le_trans (Nat.le_trans E120.1 q121_0.1) q122_0.1)) q122_1 q122_2 q122_3 q122_4 (own_stakeep (own_stakeep (Sta.ext E120 SC) q121_0 (nsS A120.nostat ns0)) q122_0 ns0) (PC : ¬ (cs = (0 : Int32))) (own_stakeep (own_stakeep (Sta.ext E120 SF) q121_0 (nsS A120.nostat ns0)) q122_0 ns0) (HF : fm.isRef = true) (own_absOf p0) own_in1 (by rw [Nat.zero_add, own_allLen]; omega) (Nat.le_trans own_allB (by decide)) q122_5 rfl (by decide) (own_ltN (k := 0) rfl q122_5 (Nat.le_trans own_allB (by decide)) (by have q := own_repB p0 (own_nn p0); rw [own_allLen]; omega))) hZ tw176 tw175 (by decide) (by decide)) (g := (mkF m 35 #[.val (.long p0), .second, .val (.long p1), .second, .val (.long p0), .second, .val (.long p1), .second, .val (.ref s1_122), .unset, .unset] [(.long p0), (.int (0 : Int32)), (.ref s1_122)])) rfl (by rw [hml]; rfl) (argsL := [(.ref s1_122), (.int (0 : Int32)), (.long p0)]) (rest := []) (lenOf pd_Ljava_lang_String_IJ_I rfl) rfl (Nat.le_of_eq rfl) (hb hby at_35) (fun _ _ => ⟨rfl, rfl, (by decide : 9 + 0 ≤ _), (by decide : 248 + 0 ≤ _)⟩)
      dsimp only [Pt.U, Pt.locs, Pt.cells, Pt.slots] at X125 l125 y125 z125 st125 hQ125
      subst y125 z125
      obtain ⟨r_125, rfl, Nq125, q125_0, q125_1, q125_2, q125_3⟩ := hQ125
      have N125 : Fr n0 L125 := by rw [l125]; exact Fr.app N122 Nq125
      have hr1 : r_125 = Int32.ofNat (own_rep p0 (own_nn p0)).length := q125_1.trans (by rw [Nat.zero_add])
      have hr2 : (r_125 + (2 : Int32)) = Int32.ofNat ((own_rep p0 (own_nn p0)).length + 2) := own_add hr1 rfl
      have hr3 : (r_125 + (1 : Int32)) = Int32.ofNat ((own_rep p0 (own_nn p0)).length + 1) := own_add hr1 rfl
      have hrA : ¬ (N_122 < (r_125 + (2 : Int32))) := (own_resB hr2 q122_5 (Nat.le_trans own_allB (by decide)) (by rw [own_allLen]; omega)).2
      refine Goes.step (S' := T125.setTop (mkF m 53 #[.val (.long p0), .second, .val (.long p1), .second, .val (.long p0), .second, .val (.long p1), .second, .val (.ref s1_122), .val (.int r_125), .unset] [(.ref s1_122), (.int (r_125 + (2 : Int32)))])) (fun t k => st125 _ (XS.istore X125.here hx rfl (hb hby at_38) rfl (l' := #[.val (.long p0), .second, .val (.long p1), .second, .val (.long p0), .second, .val (.long p1), .second, .val (.ref s1_122), .val (.int r_125), .unset]) rfl (XS.iload X125.here hx rfl (hb hby at_40) rfl (XS.ifYes X125.here hx rfl (pc0 := 42) (pc' := 47) rfl (hb hby at_42) rfl ((if0 _ _).trans (flt (q125_2 : ¬ (r_125 < (0 : Int32)))).2.1) (by decide) (by decide) (XS.iload X125.here hx rfl (hb hby at_47) rfl (XS.iconst X125.here hx rfl (hb hby at_49) (XS.iadd X125.here hx rfl (hb hby at_50) rfl (XS.aload X125.here hx rfl (hb hby at_51) rfl rfl k)))))))) ?_
      obtain ⟨cq126, kq126, q126a, q126b, q126c⟩ := isOf hZ q125_0 q122_1
      obtain ⟨_, _, ⟨T126, L126, k126, n126⟩, -, X126, ⟨Lc126, hQ126, l126, y126, z126⟩, st126⟩ := X125.virtualBack hx (y := mth14) (z := mth14) hown (mvT hZ tw198) (mvT hZ tw99) (notFace_of_selects (args := #[]) (mvT hZ tw101)) (mvT hZ tw101) (mvT hZ tw100) (by decide) (backOf (W := 1) (slen l Z a0 hw [] s1_122 x_122 kx_122 N_122 (own_all p0 (own_nn p0) p1 (own_nn p1)) cs T122.heap n0 (Nat.le_trans Z0 (Nat.le_trans (Nat.le_trans E120.1 q121_0.1) q122_0.1)) q122_1 q122_2 q122_3 q122_4 (own_stakeep (own_stakeep (Sta.ext E120 SC) q121_0 (nsS A120.nostat ns0)) q122_0 ns0) (PC : ¬ (cs = (0 : Int32)))) hZ tw102 tw44 (by decide) (by decide)) q126a q126c (g := (mkF m 53 #[.val (.long p0), .second, .val (.long p1), .second, .val (.long p0), .second, .val (.long p1), .second, .val (.ref s1_122), .val (.int r_125), .unset] [(.ref s1_122), (.int (r_125 + (2 : Int32)))])) rfl (by rw [hml]; rfl) (Steps.refl _) (argsL := []) (rest := [(.int (r_125 + (2 : Int32)))]) (lenOf pd_I rfl) rfl (Nat.le_of_eq rfl) (hb hby at_53) (fun _ _ => ⟨rfl, q125_0, (by decide : 9 + 0 ≤ _), (by decide : 248 + 0 ≤ _)⟩)
      dsimp only [Pt.U, Pt.locs, Pt.cells, Pt.slots] at X126 l126 y126 z126 st126 hQ126
      subst y126 z126
      obtain ⟨rfl, Nq126, q126_0⟩ := hQ126
      have N126 : Fr n0 L126 := by rw [l126]; exact Fr.app N125 Nq126
      refine Goes.step (S' := T126.setTop (mkF m 63 #[.val (.long p0), .second, .val (.long p1), .second, .val (.long p0), .second, .val (.long p1), .second, .val (.ref s1_122), .val (.int r_125), .unset] [(.int r_125), (.ref s1_122)])) (fun t k => st126.trans (XS.icmpNo X126.here hx rfl (hb hby at_56) rfl (flt (hrA : ¬ (N_122 < (r_125 + (2 : Int32))))).2.2.1 (XS.aload X126.here hx rfl (hb hby at_59) rfl rfl (XS.iload X126.here hx rfl (hb hby at_61) rfl k)))) ?_
      obtain ⟨cq127, kq127, q127a, q127b, q127c⟩ := isOf hZ q126_0 q122_1
      obtain ⟨_, _, ⟨T127, L127, k127, n127⟩, -, X127, ⟨Lc127, hQ127, l127, y127, z127⟩, st127⟩ := X126.virtualBack hx (y := mth36) (z := mth36) hown (mvT hZ tw200) (mvT hZ tw201) (notFace_of_selects (args := #[]) (mvT hZ tw203)) (mvT hZ tw203) (mvT hZ tw202) (by decide) (backOf (W := 0) (sca l Z a0 hw [] s1_122 x_122 kx_122 N_122 (own_all p0 (own_nn p0) p1 (own_nn p1)) r_125 (46 : Int32) cs fm T122.heap n0 (Nat.le_trans Z0 (Nat.le_trans (Nat.le_trans E120.1 q121_0.1) q122_0.1)) q122_1 q122_2 q122_3 q122_4 (own_stakeep (own_stakeep (Sta.ext E120 SC) q121_0 (nsS A120.nostat ns0)) q122_0 ns0) (PC : ¬ (cs = (0 : Int32))) (own_stakeep (own_stakeep (Sta.ext E120 SF) q121_0 (nsS A120.nostat ns0)) q122_0 ns0) (HF : fm.isRef = true) (own_resB hr1 q122_5 (Nat.le_trans own_allB (by decide)) (by rw [own_allLen]; omega)).1 (own_ltN hr1 q122_5 (Nat.le_trans own_allB (by decide)) (by rw [own_allLen]; omega)) (own_at (k := (own_rep p0 (own_nn p0)).length) (j := 0) own_dots (by decide) rfl hr1 (by have q := own_repB p0 (own_nn p0); omega)) (by decide) (by decide)) hZ tw204 tw44 (by decide) (by decide)) q127a q127c (g := (mkF m 63 #[.val (.long p0), .second, .val (.long p1), .second, .val (.long p0), .second, .val (.long p1), .second, .val (.ref s1_122), .val (.int r_125), .unset] [(.int r_125), (.ref s1_122)])) rfl (by rw [hml]; rfl) (Steps.refl _) (argsL := [(.int r_125)]) (rest := []) (lenOf pd_I_C rfl) rfl (Nat.le_of_eq rfl) (hb hby at_63) (fun _ _ => ⟨rfl, q126_0, (by decide : 9 + 0 ≤ _), (by decide : 248 + 0 ≤ _)⟩)
      dsimp only [Pt.U, Pt.locs, Pt.cells, Pt.slots] at X127 l127 y127 z127 st127 hQ127
      subst y127 z127
      obtain ⟨rfl, Nq127, q127_0⟩ := hQ127
      have N127 : Fr n0 L127 := by rw [l127]; exact Fr.app N126 Nq127
      refine Goes.step (S' := T127.setTop (mkF m 77 #[.val (.long p0), .second, .val (.long p1), .second, .val (.long p0), .second, .val (.long p1), .second, .val (.ref s1_122), .val (.int r_125), .unset] [(.int (r_125 + (1 : Int32))), (.ref s1_122)])) (fun t k => st127.trans (XS.bipush X127.here hx rfl (hb hby at_66) (XS.icmpNo X127.here hx rfl (hb hby at_68) rfl (teq ((by decide) : (46 : Int32) = (46 : Int32))).2 (XS.aload X127.here hx rfl (hb hby at_71) rfl rfl (XS.iload X127.here hx rfl (hb hby at_73) rfl (XS.iconst X127.here hx rfl (hb hby at_75) (XS.iadd X127.here hx rfl (hb hby at_76) rfl k))))))) ?_
      obtain ⟨cq128, kq128, q128a, q128b, q128c⟩ := isOf hZ q127_0 q122_1
      obtain ⟨_, _, ⟨T128, L128, k128, n128⟩, -, X128, ⟨Lc128, hQ128, l128, y128, z128⟩, st128⟩ := X127.virtualBack hx (y := mth36) (z := mth36) hown (mvT hZ tw200) (mvT hZ tw201) (notFace_of_selects (args := #[]) (mvT hZ tw203)) (mvT hZ tw203) (mvT hZ tw202) (by decide) (backOf (W := 0) (sca l Z a0 hw [] s1_122 x_122 kx_122 N_122 (own_all p0 (own_nn p0) p1 (own_nn p1)) (r_125 + (1 : Int32)) (46 : Int32) cs fm T122.heap n0 (Nat.le_trans Z0 (Nat.le_trans (Nat.le_trans E120.1 q121_0.1) q122_0.1)) q122_1 q122_2 q122_3 q122_4 (own_stakeep (own_stakeep (Sta.ext E120 SC) q121_0 (nsS A120.nostat ns0)) q122_0 ns0) (PC : ¬ (cs = (0 : Int32))) (own_stakeep (own_stakeep (Sta.ext E120 SF) q121_0 (nsS A120.nostat ns0)) q122_0 ns0) (HF : fm.isRef = true) (own_resB hr3 q122_5 (Nat.le_trans own_allB (by decide)) (by rw [own_allLen]; omega)).1 (own_ltN hr3 q122_5 (Nat.le_trans own_allB (by decide)) (by rw [own_allLen]; omega)) (own_at (k := (own_rep p0 (own_nn p0)).length) (j := 1) own_dots (by decide) rfl hr3 (by have q := own_repB p0 (own_nn p0); omega)) (by decide) (by decide)) hZ tw204 tw44 (by decide) (by decide)) q128a q128c (g := (mkF m 77 #[.val (.long p0), .second, .val (.long p1), .second, .val (.long p0), .second, .val (.long p1), .second, .val (.ref s1_122), .val (.int r_125), .unset] [(.int (r_125 + (1 : Int32))), (.ref s1_122)])) rfl (by rw [hml]; rfl) (Steps.refl _) (argsL := [(.int (r_125 + (1 : Int32)))]) (rest := []) (lenOf pd_I_C rfl) rfl (Nat.le_of_eq rfl) (hb hby at_77) (fun _ _ => ⟨rfl, q127_0, (by decide : 9 + 0 ≤ _), (by decide : 248 + 0 ≤ _)⟩)
      dsimp only [Pt.U, Pt.locs, Pt.cells, Pt.slots] at X128 l128 y128 z128 st128 hQ128
      subst y128 z128
      obtain ⟨rfl, Nq128, q128_0⟩ := hQ128
      have N128 : Fr n0 L128 := by rw [l128]; exact Fr.app N127 Nq128
      refine Goes.step (S' := T128.setTop (mkF m 95 #[.val (.long p0), .second, .val (.long p1), .second, .val (.long p0), .second, .val (.long p1), .second, .val (.ref s1_122), .val (.int r_125), .unset] [(.long p1), (.int (r_125 + (2 : Int32))), (.ref s1_122)])) (fun t k => st128.trans (XS.bipush X128.here hx rfl (hb hby at_80) (XS.icmpYes X128.here hx rfl (pc0 := 82) (pc' := 87) rfl (hb hby at_82) rfl (teq ((by decide) : (46 : Int32) = (46 : Int32))).1 (by decide) (by decide) (XS.aload X128.here hx rfl (hb hby at_87) rfl rfl (XS.iload X128.here hx rfl (hb hby at_89) rfl (XS.iconst X128.here hx rfl (hb hby at_91) (XS.iadd X128.here hx rfl (hb hby at_92) rfl (XS.lload X128.here hx rfl (hb hby at_93) rfl k)))))))) ?_
      obtain ⟨_, _, ⟨T129, L129, k129, n129⟩, -, X129, ⟨Lc129, hQ129, l129, y129, z129⟩, st129⟩ := Jvm.LawKit.callS X128 hx (y := mth38) hown (mvT hZ tw173) (mvT hZ tw174) (mvT hZ tw175) (mvT hZ tw176) (by decide) (backOf (W := 0) (num l Z a0 hw [] s1_122 x_122 kx_122 N_122 (own_all p0 (own_nn p0) p1 (own_nn p1)) (r_125 + (2 : Int32)) p1 (own_nn p1) ((own_rep p0 (own_nn p0)).length + 2) cs fm T122.heap n0 (Nat.le_trans Z0 (Nat.le_trans (Nat.le_trans E120.1 q121_0.1) q122_0.1)) q122_1 q122_2 q122_3 q122_4 (own_stakeep (own_stakeep (Sta.ext E120 SC) q121_0 (nsS A120.nostat ns0)) q122_0 ns0) (PC : ¬ (cs = (0 : Int32))) (own_stakeep (own_stakeep (Sta.ext E120 SF) q121_0 (nsS A120.nostat ns0)) q122_0 ns0) (HF : fm.isRef = true) (own_absOf p1) own_in2 (by rw [own_allLen]; exact Nat.le_refl _) (Nat.le_trans own_allB (by decide)) q122_5 hr2 (own_resB hr2 q122_5 (Nat.le_trans own_allB (by decide)) (by rw [own_allLen]; omega)).1 (own_ltN hr2 q122_5 (Nat.le_trans own_allB (by decide)) (by have q := own_repB p1 (own_nn p1); rw [own_allLen]; omega))) hZ tw176 tw175 (by decide) (by decide)) (g := (mkF m 95 #[.val (.long p0), .second, .val (.long p1), .second, .val (.long p0), .second, .val (.long p1), .second, .val (.ref s1_122), .val (.int r_125), .unset] [(.long p1), (.int (r_125 + (2 : Int32))), (.ref s1_122)])) rfl (by rw [hml]; rfl) (argsL := [(.ref s1_122), (.int (r_125 + (2 : Int32))), (.long p1)]) (rest := []) (lenOf pd_Ljava_lang_String_IJ_I rfl) rfl (Nat.le_of_eq rfl) (hb hby at_95) (fun _ _ => ⟨rfl, q128_0, (by decide : 9 + 0 ≤ _), (by decide : 248 + 0 ≤ _)⟩)
      dsimp only [Pt.U, Pt.locs, Pt.cells, Pt.slots] at X129 l129 y129 z129 st129 hQ129
      subst y129 z129
      obtain ⟨r_129, rfl, Nq129, q129_0, q129_1, q129_2, q129_3⟩ := hQ129
      have N129 : Fr n0 L129 := by rw [l129]; exact Fr.app N128 Nq129
      have hrE : r_129 = N_122 := q129_1.trans (by rw [q122_5, own_allLen])
      refine Goes.step (S' := T129.setTop (mkF m 104 #[.val (.long p0), .second, .val (.long p1), .second, .val (.long p0), .second, .val (.long p1), .second, .val (.ref s1_122), .val (.int r_125), .val (.int r_129)] [(.ref s1_122), (.int r_129)])) (fun t k => st129 _ (XS.istore X129.here hx rfl (hb hby at_98) rfl (l' := #[.val (.long p0), .second, .val (.long p1), .second, .val (.long p0), .second, .val (.long p1), .second, .val (.ref s1_122), .val (.int r_125), .val (.int r_129)]) rfl (XS.iload X129.here hx rfl (hb hby at_100) rfl (XS.aload X129.here hx rfl (hb hby at_102) rfl rfl k)))) ?_
      obtain ⟨cq130, kq130, q130a, q130b, q130c⟩ := isOf hZ q129_0 q122_1
      obtain ⟨_, _, ⟨T130, L130, k130, n130⟩, -, X130, ⟨Lc130, hQ130, l130, y130, z130⟩, st130⟩ := X129.virtualBack hx (y := mth14) (z := mth14) hown (mvT hZ tw198) (mvT hZ tw99) (notFace_of_selects (args := #[]) (mvT hZ tw101)) (mvT hZ tw101) (mvT hZ tw100) (by decide) (backOf (W := 1) (slen l Z a0 hw [] s1_122 x_122 kx_122 N_122 (own_all p0 (own_nn p0) p1 (own_nn p1)) cs T122.heap n0 (Nat.le_trans Z0 (Nat.le_trans (Nat.le_trans E120.1 q121_0.1) q122_0.1)) q122_1 q122_2 q122_3 q122_4 (own_stakeep (own_stakeep (Sta.ext E120 SC) q121_0 (nsS A120.nostat ns0)) q122_0 ns0) (PC : ¬ (cs = (0 : Int32)))) hZ tw102 tw44 (by decide) (by decide)) q130a q130c (g := (mkF m 104 #[.val (.long p0), .second, .val (.long p1), .second, .val (.long p0), .second, .val (.long p1), .second, .val (.ref s1_122), .val (.int r_125), .val (.int r_129)] [(.ref s1_122), (.int r_129)])) rfl (by rw [hml]; rfl) (Steps.refl _) (argsL := []) (rest := [(.int r_129)]) (lenOf pd_I rfl) rfl (Nat.le_of_eq rfl) (hb hby at_104) (fun _ _ => ⟨rfl, q129_0, (by decide : 9 + 0 ≤ _), (by decide : 248 + 0 ≤ _)⟩)
      dsimp only [Pt.U, Pt.locs, Pt.cells, Pt.slots] at X130 l130 y130 z130 st130 hQ130
      subst y130 z130
      obtain ⟨rfl, Nq130, q130_0⟩ := hQ130
      have N130 : Fr n0 L130 := by rw [l130]; exact Fr.app N129 Nq130
      refine Goes.step (S' := T130.setTop (mkF m 115 #[.val (.long p0), .second, .val (.long p1), .second, .val (.long p0), .second, .val (.long p1), .second, .val (.ref s1_122), .val (.int r_125), .val (.int r_129)] [(.int (1 : Int32))])) (fun t k => st130.trans (XS.icmpNo X130.here hx rfl (hb hby at_107) rfl (teq (hrE : r_129 = N_122)).2 (XS.iconst X130.here hx rfl (hb hby at_110) (XS.goto X130.here hx rfl (pc0 := 111) (pc' := 115) rfl (hb hby at_111) (by decide) (by decide) k)))) ?_
      refine Goes.leaveH (g := (mkF m 115 #[.val (.long p0), .second, .val (.long p1), .second, .val (.long p0), .second, .val (.long p1), .second, .val (.ref s1_122), .val (.int r_125), .val (.int r_129)] [(.int (1 : Int32))])) (own_ew hw) hZ hh CR122 X130 hS122 (Nat.le_refl _) Bd.notSynchronized (v := (some (.int (1 : Int32)))) (fun h => by rw [Bd.returns] at h; cases h) (fun fs hr => retN X130 hx (t := .boolean) Bd.returns (by simp) (hb hby at_115) hr) q130_0 ?_ (by decide) (by decide)
      exact ⟨rfl, N130⟩
    case neg =>
      refine Goes.step (S' := s₁.setTop (mkF m 2 #[.val (.long p0), .second, .val (.long p1), .second, .unset, .unset, .unset, .unset, .unset, .unset, .unset] [(.long p1), (.long p0)])) (fun t k => XS.lloadN X0.here hx rfl (hb hby at_0) rfl (XS.lloadN X0.here hx rfl (hb hby at_1) rfl k)) ?_
      obtain ⟨_, _, ⟨T131, L131, k131, n131⟩, -, X131, ⟨Lc131, hQ131, l131, y131, z131⟩, st131⟩ := Jvm.LawKit.callS X0 hx (y := mth39) hown (mvT hZ tw0) (mvT hZ tw1) (mvT hZ tw2) (mvT hZ tw3) (by decide) (backOf (W := 0) (jmina l Z a0 hw [] p0 p1 h0 n0 Z0 (hc101 : ¬ (p1 < p0))) hZ tw3 tw2 (by decide) (by decide)) (g := (mkF m 2 #[.val (.long p0), .second, .val (.long p1), .second, .unset, .unset, .unset, .unset, .unset, .unset, .unset] [(.long p1), (.long p0)])) rfl (by rw [hml]; rfl) (argsL := [(.long p0), (.long p1)]) (rest := []) (lenOf pd_JJ_J rfl) rfl (Nat.le_of_eq rfl) (hb hby at_2) (fun _ _ => ⟨rfl, eh0, (by decide : 0 + 0 ≤ _), (by decide : 0 + 0 ≤ _)⟩)
      dsimp only [Pt.U, Pt.locs, Pt.cells, Pt.slots] at X131 l131 y131 z131 st131 hQ131
      subst y131 z131
      obtain ⟨rfl, Nq131, q131_0⟩ := hQ131
      have N131 : Fr n0 L131 := by rw [l131]; exact Fr.app N0 Nq131
      refine Goes.step (S' := T131.setTop (mkF m 9 #[.val (.long p0), .second, .val (.long p1), .second, .val (.long p0), .second, .unset, .unset, .unset, .unset, .unset] [(.long p1), (.long p0)])) (fun t k => st131 _ (XS.lstore X131.here hx rfl (hb hby at_5) rfl (l' := #[.val (.long p0), .second, .val (.long p1), .second, .val (.long p0), .second, .unset, .unset, .unset, .unset, .unset]) rfl (XS.lloadN X131.here hx rfl (hb hby at_7) rfl (XS.lloadN X131.here hx rfl (hb hby at_8) rfl k)))) ?_
      obtain ⟨_, _, ⟨T132, L132, k132, n132⟩, -, X132, ⟨Lc132, hQ132, l132, y132, z132⟩, st132⟩ := Jvm.LawKit.callS X131 hx (y := mth40) hown (mvT hZ tw4) (mvT hZ tw5) (mvT hZ tw2) (mvT hZ tw6) (by decide) (backOf (W := 0) (jmaxa l Z a0 hw [] p0 p1 h0 n0 Z0 (hc117 : ¬ (p0 < p1))) hZ tw6 tw2 (by decide) (by decide)) (g := (mkF m 9 #[.val (.long p0), .second, .val (.long p1), .second, .val (.long p0), .second, .unset, .unset, .unset, .unset, .unset] [(.long p1), (.long p0)])) rfl (by rw [hml]; rfl) (argsL := [(.long p0), (.long p1)]) (rest := []) (lenOf pd_JJ_J rfl) rfl (Nat.le_of_eq rfl) (hb hby at_9) (fun _ _ => ⟨rfl, q131_0, (by decide : 0 + 0 ≤ _), (by decide : 0 + 0 ≤ _)⟩)
      dsimp only [Pt.U, Pt.locs, Pt.cells, Pt.slots] at X132 l132 y132 z132 st132 hQ132
      subst y132 z132
      obtain ⟨rfl, Nq132, q132_0⟩ := hQ132
      have N132 : Fr n0 L132 := by rw [l132]; exact Fr.app N131 Nq132
      refine Goes.step (S' := T132.setTop (mkF m 14 #[.val (.long p0), .second, .val (.long p1), .second, .val (.long p0), .second, .val (.long p0), .second, .unset, .unset, .unset] [])) (fun t k => st132 _ (XS.lstore X132.here hx rfl (hb hby at_12) rfl (l' := #[.val (.long p0), .second, .val (.long p1), .second, .val (.long p0), .second, .val (.long p0), .second, .unset, .unset, .unset]) rfl k)) ?_
      obtain ⟨T133, h133, X133, e133, E133, A133, D133, U133, st133⟩ := newO X132 hx hZ hown tw7 tw8 tw9 q132_0 (g := (mkF m 14 #[.val (.long p0), .second, .val (.long p1), .second, .val (.long p0), .second, .val (.long p0), .second, .unset, .unset, .unset] [])) rfl (hb hby at_14) (by decide) (by decide)
      obtain ⟨b133, g133⟩ : ∃ z, z = h0.size := ⟨_, rfl⟩
      rw [← g133] at A133 D133 U133 st133
      have F133_min : Fld Z h133 b133 "com/example/uraniborg/uraniborg/model/PriorityRange" "min" "J" (.long (0 : Int64)) := D133 (Or.inr tw22) (ty := .long) (by decide)
      have F133_max : Fld Z h133 b133 "com/example/uraniborg/uraniborg/model/PriorityRange" "max" "J" (.long (0 : Int64)) := D133 (Or.inr tw24) (ty := .long) (by decide)
      refine Goes.step (S' := T133.setTop (mkF m 22 #[.val (.long p0), .second, .val (.long p1), .second, .val (.long p0), .second, .val (.long p0), .second, .unset, .unset, .unset] [(.long p0), (.long p0), (.ref b133), (.ref b133)])) (fun t k => st133 _ (XS.dup X133.here hx rfl (hb hby at_17) rfl rfl (XS.lload X133.here hx rfl (hb hby at_18) rfl (XS.lload X133.here hx rfl (hb hby at_20) rfl k)))) ?_
      obtain ⟨_, _, ⟨T134, L134, k134, n134⟩, -, X134, ⟨Lc134, hQ134, l134, y134, z134⟩, st134⟩ := X133.specialBack hx (y := mth31) rfl hown (mvT hZ tw10) (mvT hZ tw11) (mvT hZ tw12) (by decide) (backOf (W := 1) (prin l Z a0 hw [] b133 p0 p0 h133 n0 (Nat.le_trans Z0 E133.1) A133 (Nat.le_trans Z0 (Nat.le_of_eq g133.symm)) F133_min F133_max ((by have u0:=PC; have u1:=hc101; have u2:=hc117; have u3:=rng32 cs; have u4:=rng64 p1; have u5:=rng64 p0; (try simp only [Int32.lt_iff_toInt_lt, Int64.lt_iff_toInt_lt, ne_eq, ← Int32.toInt_inj, ← Int64.toInt_inj, Int32.reduceToInt, Int64.reduceToInt, Nat.reducePow] at u0 u1 u2 u3 u4 u5 ⊢); try omega) : ¬ (p0 < p0))) hZ tw12 tw9 (by decide) (by decide)) (g := (mkF m 22 #[.val (.long p0), .second, .val (.long p1), .second, .val (.long p0), .second, .val (.long p0), .second, .unset, .unset, .unset] [(.long p0), (.long p0), (.ref b133), (.ref b133)])) rfl (by rw [hml]; rfl) (Steps.refl _) (a := b133) (argsL := [(.long p0), (.long p0)]) (rest := [(.ref b133)]) (lenOf pd_JJ_V rfl) rfl (Nat.le_of_eq rfl) (hb hby at_22) (fun _ _ => ⟨rfl, e133, (by decide : 1 + 0 ≤ _), (by decide : 2 + 0 ≤ _)⟩)
      dsimp only [Pt.U, Pt.locs, Pt.cells, Pt.slots] at X134 l134 y134 z134 st134 hQ134
      subst y134 z134
      obtain ⟨rfl, Nq134, q134_0, q134_1, q134_2⟩ := hQ134
      have N134 : Fr n0 L134 := by rw [l134]; exact Fr.app N132 Nq134
      refine Goes.step (S' := T134.setTop (mkF m 25 #[.val (.long p0), .second, .val (.long p1), .second, .val (.long p0), .second, .val (.long p0), .second, .unset, .unset, .unset] [(.ref b133)])) (fun t k => st134.trans k) ?_
      have CR137 := CR0.trans (CHr.ext E133 CR0.1)
      have CR138 := CR137.trans (CHr.keep q134_0 (sfS (Safe.exa hZ.alike A133 (by decide) (by decide)) sf0) CR137.1)
      obtain ⟨cq136, kq136, q136a, q136b, q136c⟩ := isOf hZ rfl (A133.keep q134_0)
      obtain ⟨_, _, ⟨T136, L136, k136, n136⟩, -, X136, hs136, gr136, ⟨Lc136, hQ136, l136, y136, z136, CX136⟩, st136⟩ := X134.virtualBackS hx (y := mth32) (z := mth32) hown (mvT hZ tw25) (mvT hZ tw26) (notFace_of_selects (args := #[]) (mvT hZ tw28)) (mvT hZ tw28) (mvT hZ tw27) (by decide) (backOfSH (EL := own_EL) (W := 0) (prts l Z a0 hw [] b133 p0 (own_nn p0) p0 (own_nn p0) (Int32.ofNat (own_rep p0 (own_nn p0)).length) (Int32.ofNat (own_rep p0 (own_nn p0)).length) cs d1 d2 kd1 kd2 T134.heap n0 (Nat.le_trans Z0 (Nat.le_trans E133.1 q134_0.1)) (A133.keep q134_0) q134_1 q134_2 (own_stakeep (Sta.ext E133 SC) q134_0 (nsS A133.nostat ns0)) (PC : ¬ (cs = (0 : Int32))) (own_absOf p0) rfl (own_szB _ _).1 (own_szB _ _).2 (own_absOf p0) rfl (own_szB _ _).1 (own_szB _ _).2 (own_stakeep (Sta.ext E133 S1) q134_0 (nsS A133.nostat ns0)) ((W1.ext E133).keep q134_0 (ninS (Nat.ne_of_lt (Nat.lt_of_lt_of_le W1.lt (Nat.le_of_eq g133.symm))) nin0)) (own_stakeep (Sta.ext E133 S2) q134_0 (nsS A133.nostat ns0)) ((W2.ext E133).keep q134_0 (ninS (Nat.ne_of_lt (Nat.lt_of_lt_of_le W2.lt (Nat.le_of_eq g133.symm))) nin0)) HS) hZ tw29 tw9 (by decide) (by decide) (own_ew hw) CR138.1) q136a q136c (g := (mkF m 25 #[.val (.long p0), .second, .val (.long p1), .second, .val (.long p0), .second, .val (.long p0), .second, .unset, .unset, .unset] [(.ref b133)])) rfl (by rw [hml]; rfl) (Steps.refl _) (argsL := []) (rest := []) (lenOf pd_Ljava_lang_String rfl) rfl (Nat.le_of_eq rfl) (hb hby at_25) (fun _ _ => ⟨rfl, rfl, (by decide : 1 + 8 ≤ _), (by decide : 2 + 246 ≤ _)⟩)
      dsimp only [Pt.U, Pt.locs, Pt.cells, Pt.slots] at X136 l136 y136 z136 st136 hQ136 hs136 gr136 CX136
      subst y136 z136
      replace X136 := own_fold X136
      have hS136 := foldS hS0 (Nat.le_trans (Nat.le_refl _) (Nat.le_trans E133.1 q134_0.1)) hs136 gr136
      obtain ⟨hZ, hown⟩ := own_since hZ0 hown0 hS136
      obtain ⟨s1_136, x_136, kx_136, N_136, rfl, Nq136, q136_0, q136_1, q136_2, q136_3, q136_4, q136_5⟩ := hQ136
      have N136 : Fr n0 L136 := by rw [l136]; exact Fr.app N134 Nq136
      have CR136 := CR138.trans CX136
      refine Goes.step (S' := T136.setTop (mkF m 35 #[.val (.long p0), .second, .val (.long p1), .second, .val (.long p0), .second, .val (.long p0), .second, .val (.ref s1_136), .unset, .unset] [(.long p0), (.int (0 : Int32)), (.ref s1_136)])) (fun t k => st136.trans (XS.astore X136.here hx rfl (hb hby at_28) rfl rfl (l' := #[.val (.long p0), .second, .val (.long p1), .second, .val (.long p0), .second, .val (.long p0), .second, .val (.ref s1_136), .unset, .unset]) rfl (XS.aload X136.here hx rfl (hb hby at_30) rfl rfl (XS.iconst X136.here hx rfl (hb hby at_32) (XS.lload X136.here hx rfl (hb hby at_33) rfl k))))) ?_
      obtain ⟨_, _, ⟨T139, L139, k139, n139⟩, -, X139, ⟨Lc139, hQ139, l139, y139, z139⟩, st139⟩ := Jvm.LawKit.callS X136 hx (y := mth38) hown (mvT hZ tw173) (mvT hZ tw174) (mvT hZ tw175) (mvT hZ tw176) (by decide) (backOf (W := 0) (num l Z a0 hw [] s1_136 x_136 kx_136 N_136 (own_all p0 (own_nn p0) p0 (own_nn p0)) (0 : Int32) p0 (own_nn p0) 0 cs fm T136.heap n0 (Nat.le_trans Z0 (Nat.le_trans (Nat.le_trans E133.1 q134_0.1) q136_0.1)) q136_1 q136_2 q136_3 q136_4 (own_stakeep (own_stakeep (Sta.ext E133 SC) q134_0 (nsS A133.nostat ns0)) q136_0 ns0) (PC : ¬ (cs = (0 : Int32))) (own_stakeep (own_stakeep (Sta.ext E133 SF) q134_0 (nsS A133.nostat ns0)) q136_0 ns0) (HF : fm.isRef = true) (own_absOf p0) own_in1 (by rw [Nat.zero_add, own_allLen]; omega) (Nat.le_trans own_allB (by decide)) q136_5 rfl (by decide) (own_ltN (k := 0) rfl q136_5 (Nat.le_trans own_allB (by decide)) (by have q := own_repB p0 (own_nn p0); rw [own_allLen]; omega))) hZ tw176 tw175 (by decide) (by decide)) (g := (mkF m 35 #[.val (.long p0), .second, .val (.long p1), .second, .val (.long p0), .second, .val (.long p0), .second, .val (.ref s1_136), .unset, .unset] [(.long p0), (.int (0 : Int32)), (.ref s1_136)])) rfl (by rw [hml]; rfl) (argsL := [(.ref s1_136), (.int (0 : Int32)), (.long p0)]) (rest := []) (lenOf pd_Ljava_lang_String_IJ_I rfl) rfl (Nat.le_of_eq rfl) (hb hby at_35) (fun _ _ => ⟨rfl, rfl, (by decide : 9 + 0 ≤ _), (by decide : 248 + 0 ≤ _)⟩)
      dsimp only [Pt.U, Pt.locs, Pt.cells, Pt.slots] at X139 l139 y139 z139 st139 hQ139
      subst y139 z139
      obtain ⟨r_139, rfl, Nq139, q139_0, q139_1, q139_2, q139_3⟩ := hQ139
      have N139 : Fr n0 L139 := by rw [l139]; exact Fr.app N136 Nq139
      have hr1 : r_139 = Int32.ofNat (own_rep p0 (own_nn p0)).length := q139_1.trans (by rw [Nat.zero_add])
      have hr2 : (r_139 + (2 : Int32)) = Int32.ofNat ((own_rep p0 (own_nn p0)).length + 2) := own_add hr1 rfl
      have hr3 : (r_139 + (1 : Int32)) = Int32.ofNat ((own_rep p0 (own_nn p0)).length + 1) := own_add hr1 rfl
      have hrA : ¬ (N_136 < (r_139 + (2 : Int32))) := (own_resB hr2 q136_5 (Nat.le_trans own_allB (by decide)) (by rw [own_allLen]; omega)).2
      refine Goes.step (S' := T139.setTop (mkF m 53 #[.val (.long p0), .second, .val (.long p1), .second, .val (.long p0), .second, .val (.long p0), .second, .val (.ref s1_136), .val (.int r_139), .unset] [(.ref s1_136), (.int (r_139 + (2 : Int32)))])) (fun t k => st139 _ (XS.istore X139.here hx rfl (hb hby at_38) rfl (l' := #[.val (.long p0), .second, .val (.long p1), .second, .val (.long p0), .second, .val (.long p0), .second, .val (.ref s1_136), .val (.int r_139), .unset]) rfl (XS.iload X139.here hx rfl (hb hby at_40) rfl (XS.ifYes X139.here hx rfl (pc0 := 42) (pc' := 47) rfl (hb hby at_42) rfl ((if0 _ _).trans (flt (q139_2 : ¬ (r_139 < (0 : Int32)))).2.1) (by decide) (by decide) (XS.iload X139.here hx rfl (hb hby at_47) rfl (XS.iconst X139.here hx rfl (hb hby at_49) (XS.iadd X139.here hx rfl (hb hby at_50) rfl (XS.aload X139.here hx rfl (hb hby at_51) rfl rfl k)))))))) ?_
      obtain ⟨cq140, kq140, q140a, q140b, q140c⟩ := isOf hZ q139_0 q136_1
      obtain ⟨_, _, ⟨T140, L140, k140, n140⟩, -, X140, ⟨Lc140, hQ140, l140, y140, z140⟩, st140⟩ := X139.virtualBack hx (y := mth14) (z := mth14) hown (mvT hZ tw198) (mvT hZ tw99) (notFace_of_selects (args := #[]) (mvT hZ tw101)) (mvT hZ tw101) (mvT hZ tw100) (by decide) (backOf (W := 1) (slen l Z a0 hw [] s1_136 x_136 kx_136 N_136 (own_all p0 (own_nn p0) p0 (own_nn p0)) cs T136.heap n0 (Nat.le_trans Z0 (Nat.le_trans (Nat.le_trans E133.1 q134_0.1) q136_0.1)) q136_1 q136_2 q136_3 q136_4 (own_stakeep (own_stakeep (Sta.ext E133 SC) q134_0 (nsS A133.nostat ns0)) q136_0 ns0) (PC : ¬ (cs = (0 : Int32)))) hZ tw102 tw44 (by decide) (by decide)) q140a q140c (g := (mkF m 53 #[.val (.long p0), .second, .val (.long p1), .second, .val (.long p0), .second, .val (.long p0), .second, .val (.ref s1_136), .val (.int r_139), .unset] [(.ref s1_136), (.int (r_139 + (2 : Int32)))])) rfl (by rw [hml]; rfl) (Steps.refl _) (argsL := []) (rest := [(.int (r_139 + (2 : Int32)))]) (lenOf pd_I rfl) rfl (Nat.le_of_eq rfl) (hb hby at_53) (fun _ _ => ⟨rfl, q139_0, (by decide : 9 + 0 ≤ _), (by decide : 248 + 0 ≤ _)⟩)
      dsimp only [Pt.U, Pt.locs, Pt.cells, Pt.slots] at X140 l140 y140 z140 st140 hQ140
      subst y140 z140
      obtain ⟨rfl, Nq140, q140_0⟩ := hQ140
      have N140 : Fr n0 L140 := by rw [l140]; exact Fr.app N139 Nq140
      refine Goes.step (S' := T140.setTop (mkF m 63 #[.val (.long p0), .second, .val (.long p1), .second, .val (.long p0), .second, .val (.long p0), .second, .val (.ref s1_136), .val (.int r_139), .unset] [(.int r_139), (.ref s1_136)])) (fun t k => st140.trans (XS.icmpNo X140.here hx rfl (hb hby at_56) rfl (flt (hrA : ¬ (N_136 < (r_139 + (2 : Int32))))).2.2.1 (XS.aload X140.here hx rfl (hb hby at_59) rfl rfl (XS.iload X140.here hx rfl (hb hby at_61) rfl k)))) ?_
      obtain ⟨cq141, kq141, q141a, q141b, q141c⟩ := isOf hZ q140_0 q136_1
      obtain ⟨_, _, ⟨T141, L141, k141, n141⟩, -, X141, ⟨Lc141, hQ141, l141, y141, z141⟩, st141⟩ := X140.virtualBack hx (y := mth36) (z := mth36) hown (mvT hZ tw200) (mvT hZ tw201) (notFace_of_selects (args := #[]) (mvT hZ tw203)) (mvT hZ tw203) (mvT hZ tw202) (by decide) (backOf (W := 0) (sca l Z a0 hw [] s1_136 x_136 kx_136 N_136 (own_all p0 (own_nn p0) p0 (own_nn p0)) r_139 (46 : Int32) cs fm T136.heap n0 (Nat.le_trans Z0 (Nat.le_trans (Nat.le_trans E133.1 q134_0.1) q136_0.1)) q136_1 q136_2 q136_3 q136_4 (own_stakeep (own_stakeep (Sta.ext E133 SC) q134_0 (nsS A133.nostat ns0)) q136_0 ns0) (PC : ¬ (cs = (0 : Int32))) (own_stakeep (own_stakeep (Sta.ext E133 SF) q134_0 (nsS A133.nostat ns0)) q136_0 ns0) (HF : fm.isRef = true) (own_resB hr1 q136_5 (Nat.le_trans own_allB (by decide)) (by rw [own_allLen]; omega)).1 (own_ltN hr1 q136_5 (Nat.le_trans own_allB (by decide)) (by rw [own_allLen]; omega)) (own_at (k := (own_rep p0 (own_nn p0)).length) (j := 0) own_dots (by decide) rfl hr1 (by have q := own_repB p0 (own_nn p0); omega)) (by decide) (by decide)) hZ tw204 tw44 (by decide) (by decide)) q141a q141c (g := (mkF m 63 #[.val (.long p0), .second, .val (.long p1), .second, .val (.long p0), .second, .val (.long p0), .second, .val (.ref s1_136), .val (.int r_139), .unset] [(.int r_139), (.ref s1_136)])) rfl (by rw [hml]; rfl) (Steps.refl _) (argsL := [(.int r_139)]) (rest := []) (lenOf pd_I_C rfl) rfl (Nat.le_of_eq rfl) (hb hby at_63) (fun _ _ => ⟨rfl, q140_0, (by decide : 9 + 0 ≤ _), (by decide : 248 + 0 ≤ _)⟩)
      dsimp only [Pt.U, Pt.locs, Pt.cells, Pt.slots] at X141 l141 y141 z141 st141 hQ141
      subst y141 z141
      obtain ⟨rfl, Nq141, q141_0⟩ := hQ141
      have N141 : Fr n0 L141 := by rw [l141]; exact Fr.app N140 Nq141
      refine Goes.step (S' := T141.setTop (mkF m 77 #[.val (.long p0), .second, .val (.long p1), .second, .val (.long p0), .second, .val (.long p0), .second, .val (.ref s1_136), .val (.int r_139), .unset] [(.int (r_139 + (1 : Int32))), (.ref s1_136)])) (fun t k => st141.trans (XS.bipush X141.here hx rfl (hb hby at_66) (XS.icmpNo X141.here hx rfl (hb hby at_68) rfl (teq ((by decide) : (46 : Int32) = (46 : Int32))).2 (XS.aload X141.here hx rfl (hb hby at_71) rfl rfl (XS.iload X141.here hx rfl (hb hby at_73) rfl (XS.iconst X141.here hx rfl (hb hby at_75) (XS.iadd X141.here hx rfl (hb hby at_76) rfl k))))))) ?_
      obtain ⟨cq142, kq142, q142a, q142b, q142c⟩ := isOf hZ q141_0 q136_1
      obtain ⟨_, _, ⟨T142, L142, k142, n142⟩, -, X142, ⟨Lc142, hQ142, l142, y142, z142⟩, st142⟩ := X141.virtualBack hx (y := mth36) (z := mth36) hown (mvT hZ tw200) (mvT hZ tw201) (notFace_of_selects (args := #[]) (mvT hZ tw203)) (mvT hZ tw203) (mvT hZ tw202) (by decide) (backOf (W := 0) (sca l Z a0 hw [] s1_136 x_136 kx_136 N_136 (own_all p0 (own_nn p0) p0 (own_nn p0)) (r_139 + (1 : Int32)) (46 : Int32) cs fm T136.heap n0 (Nat.le_trans Z0 (Nat.le_trans (Nat.le_trans E133.1 q134_0.1) q136_0.1)) q136_1 q136_2 q136_3 q136_4 (own_stakeep (own_stakeep (Sta.ext E133 SC) q134_0 (nsS A133.nostat ns0)) q136_0 ns0) (PC : ¬ (cs = (0 : Int32))) (own_stakeep (own_stakeep (Sta.ext E133 SF) q134_0 (nsS A133.nostat ns0)) q136_0 ns0) (HF : fm.isRef = true) (own_resB hr3 q136_5 (Nat.le_trans own_allB (by decide)) (by rw [own_allLen]; omega)).1 (own_ltN hr3 q136_5 (Nat.le_trans own_allB (by decide)) (by rw [own_allLen]; omega)) (own_at (k := (own_rep p0 (own_nn p0)).length) (j := 1) own_dots (by decide) rfl hr3 (by have q := own_repB p0 (own_nn p0); omega)) (by decide) (by decide)) hZ tw204 tw44 (by decide) (by decide)) q142a q142c (g := (mkF m 77 #[.val (.long p0), .second, .val (.long p1), .second, .val (.long p0), .second, .val (.long p0), .second, .val (.ref s1_136), .val (.int r_139), .unset] [(.int (r_139 + (1 : Int32))), (.ref s1_136)])) rfl (by rw [hml]; rfl) (Steps.refl _) (argsL := [(.int (r_139 + (1 : Int32)))]) (rest := []) (lenOf pd_I_C rfl) rfl (Nat.le_of_eq rfl) (hb hby at_77) (fun _ _ => ⟨rfl, q141_0, (by decide : 9 + 0 ≤ _), (by decide : 248 + 0 ≤ _)⟩)
      dsimp only [Pt.U, Pt.locs, Pt.cells, Pt.slots] at X142 l142 y142 z142 st142 hQ142
      subst y142 z142
      obtain ⟨rfl, Nq142, q142_0⟩ := hQ142
      have N142 : Fr n0 L142 := by rw [l142]; exact Fr.app N141 Nq142
      refine Goes.step (S' := T142.setTop (mkF m 95 #[.val (.long p0), .second, .val (.long p1), .second, .val (.long p0), .second, .val (.long p0), .second, .val (.ref s1_136), .val (.int r_139), .unset] [(.long p0), (.int (r_139 + (2 : Int32))), (.ref s1_136)])) (fun t k => st142.trans (XS.bipush X142.here hx rfl (hb hby at_80) (XS.icmpYes X142.here hx rfl (pc0 := 82) (pc' := 87) rfl (hb hby at_82) rfl (teq ((by decide) : (46 : Int32) = (46 : Int32))).1 (by decide) (by decide) (XS.aload X142.here hx rfl (hb hby at_87) rfl rfl (XS.iload X142.here hx rfl (hb hby at_89) rfl (XS.iconst X142.here hx rfl (hb hby at_91) (XS.iadd X142.here hx rfl (hb hby at_92) rfl (XS.lload X142.here hx rfl (hb hby at_93) rfl k)))))))) ?_
      obtain ⟨_, _, ⟨T143, L143, k143, n143⟩, -, X143, ⟨Lc143, hQ143, l143, y143, z143⟩, st143⟩ := Jvm.LawKit.callS X142 hx (y := mth38) hown (mvT hZ tw173) (mvT hZ tw174) (mvT hZ tw175) (mvT hZ tw176) (by decide) (backOf (W := 0) (num l Z a0 hw [] s1_136 x_136 kx_136 N_136 (own_all p0 (own_nn p0) p0 (own_nn p0)) (r_139 + (2 : Int32)) p0 (own_nn p0) ((own_rep p0 (own_nn p0)).length + 2) cs fm T136.heap n0 (Nat.le_trans Z0 (Nat.le_trans (Nat.le_trans E133.1 q134_0.1) q136_0.1)) q136_1 q136_2 q136_3 q136_4 (own_stakeep (own_stakeep (Sta.ext E133 SC) q134_0 (nsS A133.nostat ns0)) q136_0 ns0) (PC : ¬ (cs = (0 : Int32))) (own_stakeep (own_stakeep (Sta.ext E133 SF) q134_0 (nsS A133.nostat ns0)) q136_0 ns0) (HF : fm.isRef = true) (own_absOf p0) own_in2 (by rw [own_allLen]; exact Nat.le_refl _) (Nat.le_trans own_allB (by decide)) q136_5 hr2 (own_resB hr2 q136_5 (Nat.le_trans own_allB (by decide)) (by rw [own_allLen]; omega)).1 (own_ltN hr2 q136_5 (Nat.le_trans own_allB (by decide)) (by have q := own_repB p0 (own_nn p0); rw [own_allLen]; omega))) hZ tw176 tw175 (by decide) (by decide)) (g := (mkF m 95 #[.val (.long p0), .second, .val (.long p1), .second, .val (.long p0), .second, .val (.long p0), .second, .val (.ref s1_136), .val (.int r_139), .unset] [(.long p0), (.int (r_139 + (2 : Int32))), (.ref s1_136)])) rfl (by rw [hml]; rfl) (argsL := [(.ref s1_136), (.int (r_139 + (2 : Int32))), (.long p0)]) (rest := []) (lenOf pd_Ljava_lang_String_IJ_I rfl) rfl (Nat.le_of_eq rfl) (hb hby at_95) (fun _ _ => ⟨rfl, q142_0, (by decide : 9 + 0 ≤ _), (by decide : 248 + 0 ≤ _)⟩)
      dsimp only [Pt.U, Pt.locs, Pt.cells, Pt.slots] at X143 l143 y143 z143 st143 hQ143
      subst y143 z143
      obtain ⟨r_143, rfl, Nq143, q143_0, q143_1, q143_2, q143_3⟩ := hQ143
      have N143 : Fr n0 L143 := by rw [l143]; exact Fr.app N142 Nq143
      have hrE : r_143 = N_136 := q143_1.trans (by rw [q136_5, own_allLen])
      refine Goes.step (S' := T143.setTop (mkF m 104 #[.val (.long p0), .second, .val (.long p1), .second, .val (.long p0), .second, .val (.long p0), .second, .val (.ref s1_136), .val (.int r_139), .val (.int r_143)] [(.ref s1_136), (.int r_143)])) (fun t k => st143 _ (XS.istore X143.here hx rfl (hb hby at_98) rfl (l' := #[.val (.long p0), .second, .val (.long p1), .second, .val (.long p0), .second, .val (.long p0), .second, .val (.ref s1_136), .val (.int r_139), .val (.int r_143)]) rfl (XS.iload X143.here hx rfl (hb hby at_100) rfl (XS.aload X143.here hx rfl (hb hby at_102) rfl rfl k)))) ?_
      obtain ⟨cq144, kq144, q144a, q144b, q144c⟩ := isOf hZ q143_0 q136_1
      obtain ⟨_, _, ⟨T144, L144, k144, n144⟩, -, X144, ⟨Lc144, hQ144, l144, y144, z144⟩, st144⟩ := X143.virtualBack hx (y := mth14) (z := mth14) hown (mvT hZ tw198) (mvT hZ tw99) (notFace_of_selects (args := #[]) (mvT hZ tw101)) (mvT hZ tw101) (mvT hZ tw100) (by decide) (backOf (W := 1) (slen l Z a0 hw [] s1_136 x_136 kx_136 N_136 (own_all p0 (own_nn p0) p0 (own_nn p0)) cs T136.heap n0 (Nat.le_trans Z0 (Nat.le_trans (Nat.le_trans E133.1 q134_0.1) q136_0.1)) q136_1 q136_2 q136_3 q136_4 (own_stakeep (own_stakeep (Sta.ext E133 SC) q134_0 (nsS A133.nostat ns0)) q136_0 ns0) (PC : ¬ (cs = (0 : Int32)))) hZ tw102 tw44 (by decide) (by decide)) q144a q144c (g := (mkF m 104 #[.val (.long p0), .second, .val (.long p1), .second, .val (.long p0), .second, .val (.long p0), .second, .val (.ref s1_136), .val (.int r_139), .val (.int r_143)] [(.ref s1_136), (.int r_143)])) rfl (by rw [hml]; rfl) (Steps.refl _) (argsL := []) (rest := [(.int r_143)]) (lenOf pd_I rfl) rfl (Nat.le_of_eq rfl) (hb hby at_104) (fun _ _ => ⟨rfl, q143_0, (by decide : 9 + 0 ≤ _), (by decide : 248 + 0 ≤ _)⟩)
      dsimp only [Pt.U, Pt.locs, Pt.cells, Pt.slots] at X144 l144 y144 z144 st144 hQ144
      subst y144 z144
      obtain ⟨rfl, Nq144, q144_0⟩ := hQ144
      have N144 : Fr n0 L144 := by rw [l144]; exact Fr.app N143 Nq144
      refine Goes.step (S' := T144.setTop (mkF m 115 #[.val (.long p0), .second, .val (.long p1), .second, .val (.long p0), .second, .val (.long p0), .second, .val (.ref s1_136), .val (.int r_139), .val (.int r_143)] [(.int (1 : Int32))])) (fun t k => st144.trans (XS.icmpNo X144.here hx rfl (hb hby at_107) rfl (teq (hrE : r_143 = N_136)).2 (XS.iconst X144.here hx rfl (hb hby at_110) (XS.goto X144.here hx rfl (pc0 := 111) (pc' := 115) rfl (hb hby at_111) (by decide) (by decide) k)))) ?_
      refine Goes.leaveH (g := (mkF m 115 #[.val (.long p0), .second, .val (.long p1), .second, .val (.long p0), .second, .val (.long p0), .second, .val (.ref s1_136), .val (.int r_139), .val (.int r_143)] [(.int (1 : Int32))])) (own_ew hw) hZ hh CR136 X144 hS136 (Nat.le_refl _) Bd.notSynchronized (v := (some (.int (1 : Int32)))) (fun h => by rw [Bd.returns] at h; cases h) (fun fs hr => retN X144 hx (t := .boolean) Bd.returns (by simp) (hb hby at_115) hr) q144_0 ?_ (by decide) (by decide)
      exact ⟨rfl, N144⟩

set_option maxRecDepth 65536 in
set_option maxHeartbeats 40000000 in
theorem comes_1 {Post : Tables → Env → Array Value → State → Outcome → State → Prop} (hpost : ∀ tb e args s v u, (limb_1_1.after args s (.returned v) u = true ∧ limb_1_2.after args s (.returned v) u = true ∧ True) → ReturnedEndW s (.returned v) u (Jvm.fieldLocs frame_1_writes args s ++ Jvm.arrayLocs frame_1_arrays args s ++ Jvm.staticLocs frame_1_statics s) 24 1472 → Post tb e args s (.returned v) u) :
    ArmFor flags0 classFile x code maxLocals ret World_1 tables_1 room_1 Calls_1 rest_1 Pre_1 Post := by
  intro l hfl _ _ p e ha hc hk s m args below hf hA hF happ hP
  obtain ⟨hcalls, hrest, hpre⟩ := hP
  obtain ⟨-, -, -, hnamed, -, -, -, hat⟩ := (Spec.applies_iff hf).mp happ
  obtain ⟨hg, hn⟩ := and_e (Cond.before_iff.mp (show (Jvm.Cond.and given_1 narrow_1).before args s = true from hpre))
  obtain ⟨g1, g2⟩ := and_e hg
  obtain ⟨g3, g4⟩ := and_e g2
  obtain ⟨w0, w1, rfl⟩ : ∃ w0 w1 : Value, args = #[w0, w1] := by
    have hs : args.size = 2 := by simpa [Cond.value, given_1] using g1
    obtain ⟨L⟩ := args
    match L, hs with
    | [w0, w1], _ => exact ⟨w0, w1, rfl⟩
  have hw := fun d (hd : d ∈ tables_1) => atoms_spec (ws := Jvm.Cond.code x code maxLocals ret :: tables_1) hat d (List.mem_cons_of_mem _ hd)
  have hfit : Fit s := fun {y c} hc i hi => by
    obtain ⟨ha, rfl⟩ := Array.getElem?_eq_some_iff.mp hc
    have q := List.all_eq_true.mp ((Array.all_eq_true_iff_forall_mem.mp hF) _ (Array.getElem_mem ha)) i (List.mem_range.mpr hi)
    simpa [Array.getElem?_eq_getElem hi] using q
  obtain ⟨hsets, hown0⟩ := atoms_of _ (rest_1_c_eq ▸ (show rest_1_c.before _ s = true from hrest))
  have hr0 := Cond.before_iff.mp hown0
  obtain ⟨i0, ei0⟩ := isL_v g3
  obtain rfl : w0 = (.long i0) := Option.some.inj ei0
  obtain ⟨i1, ei1⟩ := isL_v g4
  obtain rfl : w1 = (.long i1) := Option.some.inj ei1
  -- hn says: Jvm.Cond.tt
  obtain ⟨cs, ev_cs⟩ := is_v (Cond.before_iff.mp (hsets _ (List.mem_of_getElem? (i := 1) rfl)))
  have SC : Sta s s.heap "java/lang/String" "COMPACT_STRINGS" "Z" (.int cs) := Sta.start ev_cs (Or.inl (hsets _ (List.mem_of_getElem? (i := 0) rfl)))
  have PC : ¬ (cs = (0 : Int32)) := own_neI (Cond.before_iff.mp (hsets _ (List.mem_of_getElem? (i := 2) rfl))) ev_cs
  obtain ⟨fm, ev_fm, HF⟩ := own_isRef (hsets _ (List.mem_of_getElem? (i := 8) rfl))
  have SF : Sta s s.heap "jdk/internal/util/Preconditions" "SIOOBE_FORMATTER" "Ljava/util/function/BiFunction;" fm := Sta.start ev_fm (Or.inl (hsets _ (List.mem_of_getElem? (i := 7) rfl)))
  obtain ⟨d1, kd1, S1, -, W1⟩ := own_tabV (F := fun r => 48 + r % 10) (hsets _ (List.mem_of_getElem? (i := 11) rfl)) (hsets _ (List.mem_of_getElem? (i := 12) rfl)) (hsets _ (List.mem_of_getElem? (i := 13) rfl)) (hsets _ (List.mem_of_getElem? (i := 14) rfl)) (hw _ (List.mem_of_getElem? (i := 45) rfl)) (fun r q => own_onesE q) (fun r q => own_fitB _ (by omega))
  obtain ⟨d2, kd2, S2, -, W2⟩ := own_tabV (F := fun r => 48 + r / 10) (hsets _ (List.mem_of_getElem? (i := 16) rfl)) (hsets _ (List.mem_of_getElem? (i := 17) rfl)) (hsets _ (List.mem_of_getElem? (i := 18) rfl)) (hsets _ (List.mem_of_getElem? (i := 19) rfl)) (hw _ (List.mem_of_getElem? (i := 45) rfl)) (fun r q => own_tensE q) (fun r q => own_fitB _ (by omega))
  have HS : own_same s := own_sameOf (hsets _ (List.mem_of_getElem? (i := 10) rfl)) (hsets _ (List.mem_of_getElem? (i := 15) rfl))
  have hCH : CHv s own_EL s.vm s.heap := CHv.start (own_ew hw) (fun p hp => hcalls.1 p hp) (hsets _ (List.mem_of_getElem? (i := 2) rfl)) (hw _ (List.mem_of_getElem? (i := 45) rfl)) (hw _ (List.mem_of_getElem? (i := 84) rfl))
  obtain ⟨n, o, h1, h2, h3, _, L, rfl, ⟨rfl, N⟩, hcr, hq⟩ := law l s _ hw tables_1 i0 i1 cs d1 d2 kd1 kd2 fm s.heap s.heap.size (Nat.le_refl _) SC PC S1 W1 S2 W2 HS SF HF p e ha hc hk s m _ below hf ((Spec.applies_iff_loose hf).mp happ).1 ⟨rfl, State.Warmed39.refl s, rfl, hCH⟩ trivial
  refine ⟨n, _, h1, h2, h3, hpost _ _ _ _ _ _ ⟨Cond.after_iff.mpr rfl, Cond.after_iff.mpr (eq_i res_at (Term.int_eval (1)) rfl), trivial⟩ ⟨hq.1, hq.2.1, hq.2.2.1, (hq.2.2.2.sift fun y hy => Or.inr (N y hy)).mono (by decide) (by decide)⟩⟩
theorem main_1_1 : Claimed_1_1 := comes_1 fun _ _ _ _ _ _ h hF => ⟨h.1, hF⟩
theorem main_1_2 : Claimed_1_2 := comes_1 fun _ _ _ _ _ _ h hF => ⟨h.2.1, hF⟩
end Jvm.Pilot.@@N@@
namespace Jvm.Pilot.@@N@@
open Jvm Jvm.ClassFile Sem Op Lib Jvm.Free Jvm.Stand Jvm.Pilot.@@N@@.Jvm.D
/-! MADE BY PROGRAM (witnessworld.py) out of the Statement's table words and the real class files: 27 classes; the members and pool entries that the words name. The judged class is class 1, her method 1. -/
namespace start1
open Jvm.ClassFile
def u (s : String) : CpInfo := .utf8 (stringToUtf16 s)
/-- a pool by its gaps: so many unusable entries, then the entry; so many at the end -/
def gap : Nat → List CpInfo → List CpInfo
  | 0, r => r
  | n + 1, r => .unusable :: gap n r
def poolList (es : List (Nat × CpInfo)) (last : Nat) : List CpInfo := es.foldr (fun e r => gap e.1 (e.2 :: r)) (gap last [])
def pool (es : List (Nat × CpInfo)) (last : Nat) : Array CpInfo := ⟨poolList es last⟩
def fileOf (pool : Array CpInfo) (this : Nat) (attrs : Array Attribute := #[]) (ms : Array MethodInfo := #[]) (fl : Nat := 33) (sup : Nat := 0) (ifs : Array Nat := #[]) (fds : Array FieldInfo := #[]) : ClassFile where
  minorVersion := 0
  majorVersion := 65
  constantPool := pool
  accessFlags := fl
  thisClass := this
  superClass := sup
  interfaces := ifs
  fields := fds
  methods := ms
  attributes := attrs
def plain (name : String) (sup : Option ClassId) : Class where
  name := name
  kind := .ordinary
  loader := none
  accessFlags := 33
  super := sup
  interfaces := #[]
  cf := none
  fields := #[]
  methods := #[]
  instanceTypes := #[]
  staticTypes := #[]
  resolved := #[]
  callSites := []
  init := .initialized
  statics := none
  mirror := none

def pool0 : Array CpInfo := pool [(5, u "<init>"), (0, u "()V"), (1, .class_ 10), (1, u "java/lang/Object"), (85, u "clone"), (0, u "()Ljava/lang/Object;")] 26

def k0c0 : Code := { maxStack := 0, maxLocals := 1, code := object_method_1_code, exceptionTable := #[], attributes := #[] }
def k0m0 : Method := { name := "<init>", desc := "()V", sig := { parameters := [], returnType := none }, accessFlags := 1, code := some k0c0 }
def k0m1 : Method := { name := "clone", desc := "()Ljava/lang/Object;", sig := { parameters := [], returnType := some (.object "java/lang/Object") }, accessFlags := 260, code := none }
/-- java/lang/Object -/
def k0 : Class := { plain "java/lang/Object" none with
  accessFlags := 33
  interfaces := #[]
  cf := some (fileOf pool0 8 #[] #[{ accessFlags := 1, nameIndex := 5, descriptorIndex := 6, attributes := #[] }, { accessFlags := 260, nameIndex := 96, descriptorIndex := 97, attributes := #[] }] 33 0 #[] #[])
  fields := #[]
  methods := #[k0m0, k0m1]
  instanceTypes := #[]
  staticTypes := #[]
  resolved := Array.replicate 124 none
  statics := none }

def pool1 : Array CpInfo := pool [(2, .class_ 4), (1, u "java/lang/Object"), (0, u "<init>"), (0, u "()V"), (0, .methodref 8 9), (0, .class_ 10), (0, .nameAndType 11 12), (0, u "java/lang/Math"), (0, u "min"), (0, u "(JJ)J"), (0, .methodref 8 14), (0, .nameAndType 15 12), (0, u "max"), (0, .class_ 17), (0, u "com/example/uraniborg/uraniborg/model/PriorityRange"), (0, .methodref 16 19), (0, .nameAndType 5 20), (0, u "(JJ)V"), (0, .methodref 16 22), (0, .nameAndType 23 24), (0, u "toString"), (0, u "()Ljava/lang/String;"), (0, .methodref 26 27), (0, .class_ 28), (0, .nameAndType 29 30), (0, u "com/example/uraniborg/uraniborg/model/PriorityRangeToStringPinLaw"), (0, u "num"), (0, u "(Ljava/lang/String;IJ)I"), (0, .methodref 32 33), (0, .class_ 34), (0, .nameAndType 35 36), (0, u "java/lang/String"), (0, u "length"), (0, u "()I"), (0, .methodref 32 38), (0, .nameAndType 39 40), (0, u "charAt"), (0, u "(I)C"), (0, .long 10), (1, .long 48), (1, .long 18446744073709551606), (1, .long 18446744073709551516), (1, .long 18446744073709550616), (1, .long 18446744073709541616), (1, .long 18446744073709451616), (1, .long 18446744073708551616), (1, .long 18446744073699551616), (1, .long 18446744073609551616), (1, .long 18446744072709551616), (1, .long 18446744063709551616), (1, .long 18446743973709551616), (1, .long 18446743073709551616), (1, .long 18446734073709551616), (1, .long 18446644073709551616), (1, .long 18445744073709551616), (1, .long 18436744073709551616), (1, .long 18346744073709551616), (1, .long 17446744073709551616), (1, .methodref 26 82), (0, .nameAndType 83 84), (0, u "dig"), (0, u "(Ljava/lang/String;IJJ)Z"), (0, .long 100), (1, .long 1000), (1, .long 10000), (1, .long 100000), (1, .long 1000000), (1, .long 10000000), (1, .long 100000000), (1, .long 1000000000), (1, .long 10000000000), (1, .long 100000000000), (1, .long 1000000000000), (1, .long 10000000000000), (1, .long 100000000000000), (1, .long 1000000000000000), (1, .long 10000000000000000), (1, .long 100000000000000000), (1, .long 1000000000000000000), (3, u "law"), (0, u "(JJ)Z")] 3

def k1m0 : Method := { name := "<init>", desc := "()V", sig := { parameters := [], returnType := none }, accessFlags := 1, code := none }
def k1c1 : Code := { maxStack := 6, maxLocals := 11, code := code, exceptionTable := #[], attributes := #[] }
def k1m1 : Method := { name := "law", desc := "(JJ)Z", sig := { parameters := [.long, .long], returnType := some .boolean }, accessFlags := 9, code := some k1c1 }
def k1c2 : Code := { maxStack := 5, maxLocals := 8, code := method_3_code, exceptionTable := #[], attributes := #[] }
def k1m2 : Method := { name := "dig", desc := "(Ljava/lang/String;IJJ)Z", sig := { parameters := [(.object "java/lang/String"), .int, .long, .long], returnType := some .boolean }, accessFlags := 10, code := some k1c2 }
def k1c3 : Code := { maxStack := 6, maxLocals := 8, code := method_4_code, exceptionTable := #[], attributes := #[] }
def k1m3 : Method := { name := "num", desc := "(Ljava/lang/String;IJ)I", sig := { parameters := [(.object "java/lang/String"), .int, .long], returnType := some .int }, accessFlags := 10, code := some k1c3 }
/-- com/example/uraniborg/uraniborg/model/PriorityRangeToStringPinLaw -/
def k1 : Class := { plain "com/example/uraniborg/uraniborg/model/PriorityRangeToStringPinLaw" (some 0) with
  accessFlags := 49
  interfaces := #[]
  cf := some (fileOf pool1 26 #[] #[{ accessFlags := 1, nameIndex := 5, descriptorIndex := 6, attributes := #[] }, { accessFlags := 9, nameIndex := 121, descriptorIndex := 122, attributes := #[] }, { accessFlags := 10, nameIndex := 83, descriptorIndex := 84, attributes := #[] }, { accessFlags := 10, nameIndex := 29, descriptorIndex := 30, attributes := #[] }] 49 2 #[] #[])
  fields := #[]
  methods := #[k1m0, k1m1, k1m2, k1m3]
  instanceTypes := #[]
  staticTypes := #[]
  resolved := Array.replicate 126 none
  statics := none }

def pool2 : Array CpInfo := pool [(1, .class_ 2), (0, u "java/lang/Math"), (1, .class_ 6), (1, u "java/lang/Object"), (0, u "<init>"), (0, u "()V"), (89, .class_ 100), (1, u "java/lang/Math$RandomNumberGeneratorHolder"), (20, u "(JJ)J"), (50, u "negativeZeroFloatBits"), (0, u "J"), (2, u "negativeZeroDoubleBits"), (21, u "max"), (2, u "min"), (43, u "$assertionsDisabled"), (0, u "Z"), (88, u "(II)I"), (2, u "twoToTheDoubleScaleDown"), (0, u "D"), (4, u "twoToTheDoubleScaleUp"), (9, u "E"), (3, u "PI"), (2, u "TAU"), (2, u "DEGREES_TO_RADIANS"), (0, u "RADIANS_TO_DEGREES")] 94

def k2m0 : Method := { name := "<init>", desc := "()V", sig := { parameters := [], returnType := none }, accessFlags := 2, code := none }
def k2c1 : Code := { maxStack := 2, maxLocals := 2, code := jdk_29_method_65_code, exceptionTable := #[], attributes := #[] }
def k2m1 : Method := { name := "max", desc := "(II)I", sig := { parameters := [.int, .int], returnType := some .int }, accessFlags := 9, code := some k2c1 }
def k2c2 : Code := { maxStack := 4, maxLocals := 4, code := jdk_29_method_66_code, exceptionTable := #[], attributes := #[] }
def k2m2 : Method := { name := "max", desc := "(JJ)J", sig := { parameters := [.long, .long], returnType := some .long }, accessFlags := 9, code := some k2c2 }
def k2c3 : Code := { maxStack := 2, maxLocals := 2, code := jdk_29_method_69_code, exceptionTable := #[], attributes := #[] }
def k2m3 : Method := { name := "min", desc := "(II)I", sig := { parameters := [.int, .int], returnType := some .int }, accessFlags := 9, code := some k2c3 }
def k2c4 : Code := { maxStack := 4, maxLocals := 4, code := jdk_29_method_70_code, exceptionTable := #[], attributes := #[] }
def k2m4 : Method := { name := "min", desc := "(JJ)J", sig := { parameters := [.long, .long], returnType := some .long }, accessFlags := 9, code := some k2c4 }
/-- java/lang/Math -/
def k2 : Class := { plain "java/lang/Math" (some 0) with
  accessFlags := 49
  interfaces := #[]
  cf := some (fileOf pool2 1 #[.nestMembers #[98]] #[{ accessFlags := 2, nameIndex := 7, descriptorIndex := 8, attributes := #[] }, { accessFlags := 9, nameIndex := 198, descriptorIndex := 335, attributes := #[] }, { accessFlags := 9, nameIndex := 198, descriptorIndex := 121, attributes := #[] }, { accessFlags := 9, nameIndex := 201, descriptorIndex := 335, attributes := #[] }, { accessFlags := 9, nameIndex := 201, descriptorIndex := 121, attributes := #[] }] 49 4 #[] #[{ accessFlags := 25, nameIndex := 354, descriptorIndex := 339, attributes := #[] }, { accessFlags := 25, nameIndex := 358, descriptorIndex := 339, attributes := #[] }, { accessFlags := 25, nameIndex := 361, descriptorIndex := 339, attributes := #[] }, { accessFlags := 26, nameIndex := 364, descriptorIndex := 339, attributes := #[] }, { accessFlags := 26, nameIndex := 365, descriptorIndex := 339, attributes := #[] }, { accessFlags := 26, nameIndex := 172, descriptorIndex := 173, attributes := #[] }, { accessFlags := 26, nameIndex := 176, descriptorIndex := 173, attributes := #[] }, { accessFlags := 8, nameIndex := 344, descriptorIndex := 339, attributes := #[] }, { accessFlags := 8, nameIndex := 338, descriptorIndex := 339, attributes := #[] }, { accessFlags := 4120, nameIndex := 245, descriptorIndex := 246, attributes := #[] }])
  fields := #[{ name := "E", type := .double, accessFlags := 25, slot := 0, constantValue := 0 }, { name := "PI", type := .double, accessFlags := 25, slot := 1, constantValue := 0 }, { name := "TAU", type := .double, accessFlags := 25, slot := 2, constantValue := 0 }, { name := "DEGREES_TO_RADIANS", type := .double, accessFlags := 26, slot := 3, constantValue := 0 }, { name := "RADIANS_TO_DEGREES", type := .double, accessFlags := 26, slot := 4, constantValue := 0 }, { name := "negativeZeroFloatBits", type := .long, accessFlags := 26, slot := 5, constantValue := 0 }, { name := "negativeZeroDoubleBits", type := .long, accessFlags := 26, slot := 6, constantValue := 0 }, { name := "twoToTheDoubleScaleUp", type := .double, accessFlags := 8, slot := 7, constantValue := 0 }, { name := "twoToTheDoubleScaleDown", type := .double, accessFlags := 8, slot := 8, constantValue := 0 }, { name := "$assertionsDisabled", type := .boolean, accessFlags := 4120, slot := 9, constantValue := 0 }]
  methods := #[k2m0, k2m1, k2m2, k2m3, k2m4]
  instanceTypes := #[]
  staticTypes := #[.double, .double, .double, .double, .double, .long, .long, .double, .double, .boolean]
  resolved := Array.replicate 460 none
  statics := none }

def pool3 : Array CpInfo := pool [(1, .methodref 2 3), (0, .class_ 4), (0, .nameAndType 5 6), (0, u "java/lang/Object"), (0, u "<init>"), (0, u "()V"), (0, .class_ 8), (0, u "java/lang/Record")] 13

def k3c0 : Code := { maxStack := 1, maxLocals := 1, code := jdk_30_method_1_code, exceptionTable := #[], attributes := #[] }
def k3m0 : Method := { name := "<init>", desc := "()V", sig := { parameters := [], returnType := none }, accessFlags := 4, code := some k3c0 }
/-- java/lang/Record -/
def k3 : Class := { plain "java/lang/Record" (some 0) with
  accessFlags := 1057
  interfaces := #[]
  cf := some (fileOf pool3 7 #[] #[{ accessFlags := 4, nameIndex := 5, descriptorIndex := 6, attributes := #[] }] 1057 2 #[] #[])
  fields := #[]
  methods := #[k3m0]
  instanceTypes := #[]
  staticTypes := #[]
  resolved := Array.replicate 22 none
  statics := none }

def pool4 : Array CpInfo := pool [(1, .methodref 2 3), (0, .class_ 4), (0, .nameAndType 5 6), (0, u "java/lang/Record"), (0, u "<init>"), (0, u "()V"), (2, .class_ 10), (0, u "java/lang/StringBuilder"), (0, .methodref 9 3), (2, .methodref 9 15), (0, .nameAndType 16 17), (0, u "append"), (0, u "(Ljava/lang/String;)Ljava/lang/StringBuilder;"), (0, .methodref 9 19), (0, .nameAndType 16 20), (0, u "(J)Ljava/lang/StringBuilder;"), (2, .methodref 9 24), (0, .nameAndType 25 26), (0, u "toString"), (0, u "()Ljava/lang/String;"), (3, .fieldref 31 32), (0, .class_ 33), (0, .nameAndType 34 35), (0, u "com/example/uraniborg/uraniborg/model/PriorityRange"), (0, u "min"), (0, u "J"), (0, .fieldref 31 37), (0, .nameAndType 38 35), (0, u "max"), (0, .string 40), (0, u ".."), (16, u "(JJ)V"), (2, u "ANY"), (0, u "Lcom/example/uraniborg/uraniborg/model/PriorityRange;")] 29

def k4c0 : Code := { maxStack := 5, maxLocals := 5, code := prog_12_method_1_code, exceptionTable := #[], attributes := #[] }
def k4m0 : Method := { name := "<init>", desc := "(JJ)V", sig := { parameters := [.long, .long], returnType := none }, accessFlags := 1, code := some k4c0 }
def k4c1 : Code := { maxStack := 3, maxLocals := 1, code := prog_12_method_2_code, exceptionTable := #[], attributes := #[] }
def k4m1 : Method := { name := "toString", desc := "()Ljava/lang/String;", sig := { parameters := [], returnType := some (.object "java/lang/String") }, accessFlags := 1, code := some k4c1 }
/-- com/example/uraniborg/uraniborg/model/PriorityRange -/
def k4 : Class := { plain "com/example/uraniborg/uraniborg/model/PriorityRange" (some 3) with
  accessFlags := 49
  interfaces := #[]
  cf := some (fileOf pool4 31 #[] #[{ accessFlags := 1, nameIndex := 5, descriptorIndex := 57, attributes := #[] }, { accessFlags := 1, nameIndex := 25, descriptorIndex := 26, attributes := #[] }] 49 2 #[] #[{ accessFlags := 18, nameIndex := 34, descriptorIndex := 35, attributes := #[] }, { accessFlags := 18, nameIndex := 38, descriptorIndex := 35, attributes := #[] }, { accessFlags := 25, nameIndex := 60, descriptorIndex := 61, attributes := #[] }])
  fields := #[{ name := "min", type := .long, accessFlags := 18, slot := 0, constantValue := 0 }, { name := "max", type := .long, accessFlags := 18, slot := 1, constantValue := 0 }, { name := "ANY", type := (.object "com/example/uraniborg/uraniborg/model/PriorityRange"), accessFlags := 25, slot := 0, constantValue := 0 }]
  methods := #[k4m0, k4m1]
  instanceTypes := #[.long, .long]
  staticTypes := #[(.object "com/example/uraniborg/uraniborg/model/PriorityRange")]
  resolved := Array.replicate 91 none
  statics := none }

def pool5 : Array CpInfo := pool [(1, .class_ 2), (0, u "java/lang/Appendable"), (0, .class_ 4), (0, u "java/lang/Object")] 9

/-- java/lang/Appendable -/
def k5 : Class := { plain "java/lang/Appendable" (some 0) with
  accessFlags := 1537
  interfaces := #[]
  cf := some (fileOf pool5 1 #[] #[] 1537 3 #[] #[])
  fields := #[]
  methods := #[]
  instanceTypes := #[]
  staticTypes := #[]
  resolved := Array.replicate 14 none
  statics := none }

def pool6 : Array CpInfo := pool [(2, .class_ 4), (1, u "java/lang/CharSequence"), (42, .class_ 48), (0, u "java/lang/CharSequence$1CodePointIterator"), (10, .class_ 60), (0, u "java/lang/CharSequence$1CharIterator"), (5, .class_ 67), (0, u "java/lang/Object")] 63

/-- java/lang/CharSequence -/
def k6 : Class := { plain "java/lang/CharSequence" (some 0) with
  accessFlags := 1537
  interfaces := #[]
  cf := some (fileOf pool6 2 #[.nestMembers #[47, 59]] #[] 1537 66 #[] #[])
  fields := #[]
  methods := #[]
  instanceTypes := #[]
  staticTypes := #[]
  resolved := Array.replicate 131 none
  statics := none }

def pool7 : Array CpInfo := pool [(1, .class_ 2), (0, u "java/lang/String"), (0, .methodref 4 5), (0, .class_ 6), (0, .nameAndType 7 8), (0, u "java/lang/Object"), (0, u "<init>"), (0, u "()V"), (1, .class_ 12), (1, u "java/lang/AbstractStringBuilder"), (0, u "EMPTYVALUE"), (0, u "[B"), (0, .fieldref 10 16), (0, .nameAndType 17 14), (0, u "value"), (0, .fieldref 1 19), (0, .nameAndType 20 21), (0, u "COMPACT_STRINGS"), (0, u "Z"), (0, .fieldref 10 23), (0, .nameAndType 24 25), (0, u "coder"), (0, u "B"), (6, .methodref 1 33), (0, .nameAndType 34 35), (0, u "length"), (0, u "()I"), (3, .integer 2147483647), (0, .methodref 1 41), (0, .nameAndType 24 42), (0, u "()B"), (2, u "append"), (0, u "(Ljava/lang/String;)Ljava/lang/AbstractStringBuilder;"), (1, .class_ 49), (0, u "java/lang/CharSequence"), (19, u "(Ljava/lang/String;)V"), (5, u "maybeLatin1"), (3, .fieldref 10 80), (0, .nameAndType 81 82), (0, u "count"), (0, u "I"), (0, .methodref 10 84), (0, .nameAndType 85 86), (0, u "isLatin1"), (0, u "()Z"), (13, .methodref 10 101), (0, .nameAndType 102 103), (0, u "ensureCapacityInternal"), (0, u "(I)V"), (0, .methodref 10 105), (0, .nameAndType 106 107), (0, u "newCapacity"), (0, u "(I)I"), (0, .methodref 109 110), (0, .class_ 111), (0, .nameAndType 112 113), (0, u "java/util/Arrays"), (0, u "copyOf"), (0, u "([BI)[B"), (0, .methodref 115 116), (0, .class_ 117), (0, .nameAndType 118 119), (0, u "jdk/internal/util/ArraysSupport"), (0, u "newLength"), (0, u "(III)I"), (68, u "getChars"), (19, .methodref 10 209), (0, .nameAndType 210 211), (0, u "putStringAt"), (0, u "(ILjava/lang/String;)V"), (5, u "inflateIfNeededFor"), (2, .nameAndType 221 222), (0, u "getBytes"), (0, u "([BIB)V"), (24, u "stringSize"), (6, .methodref 255 256), (0, .class_ 257), (0, .nameAndType 247 258), (0, u "java/lang/Long"), (0, u "(J)I"), (0, .methodref 255 260), (0, .nameAndType 188 261), (0, u "(JI[B)I"), (135, .methodref 10 398), (0, .nameAndType 217 69), (0, .methodref 1 220), (3, u "()[B"), (40, .class_ 445), (0, u "java/lang/Appendable"), (67, u "(J)Ljava/lang/AbstractStringBuilder;"), (38, u "getValue")] 56

def k7m0 : Method := { name := "<init>", desc := "()V", sig := { parameters := [], returnType := none }, accessFlags := 0, code := none }
def k7c1 : Code := { maxStack := 2, maxLocals := 2, code := jdk_68_method_2_code, exceptionTable := #[], attributes := #[] }
def k7m1 : Method := { name := "<init>", desc := "(I)V", sig := { parameters := [.int], returnType := none }, accessFlags := 0, code := some k7c1 }
def k7c2 : Code := { maxStack := 1, maxLocals := 1, code := jdk_68_method_6_code, exceptionTable := #[], attributes := #[] }
def k7m2 : Method := { name := "length", desc := "()I", sig := { parameters := [], returnType := some .int }, accessFlags := 1, code := some k7c2 }
def k7c3 : Code := { maxStack := 4, maxLocals := 3, code := jdk_68_method_9_code, exceptionTable := #[], attributes := #[] }
def k7m3 : Method := { name := "ensureCapacityInternal", desc := "(I)V", sig := { parameters := [.int], returnType := none }, accessFlags := 2, code := some k7c3 }
def k7c4 : Code := { maxStack := 5, maxLocals := 6, code := jdk_68_method_10_code, exceptionTable := #[], attributes := #[] }
def k7m4 : Method := { name := "newCapacity", desc := "(I)I", sig := { parameters := [.int], returnType := some .int }, accessFlags := 2, code := some k7c4 }
def k7c5 : Code := { maxStack := 3, maxLocals := 3, code := jdk_68_method_22_code, exceptionTable := #[], attributes := #[] }
def k7m5 : Method := { name := "append", desc := "(Ljava/lang/String;)Ljava/lang/AbstractStringBuilder;", sig := { parameters := [(.object "java/lang/String")], returnType := some (.object "java/lang/AbstractStringBuilder") }, accessFlags := 1, code := some k7c5 }
def k7c6 : Code := { maxStack := 5, maxLocals := 5, code := jdk_68_method_33_code, exceptionTable := #[], attributes := #[] }
def k7m6 : Method := { name := "append", desc := "(J)Ljava/lang/AbstractStringBuilder;", sig := { parameters := [.long], returnType := some (.object "java/lang/AbstractStringBuilder") }, accessFlags := 1, code := some k7c6 }
def k7c7 : Code := { maxStack := 1, maxLocals := 1, code := jdk_68_method_64_code, exceptionTable := #[], attributes := #[] }
def k7m7 : Method := { name := "getValue", desc := "()[B", sig := { parameters := [], returnType := some (.array .byte) }, accessFlags := 16, code := some k7c7 }
def k7c8 : Code := { maxStack := 1, maxLocals := 1, code := jdk_68_method_68_code, exceptionTable := #[], attributes := #[] }
def k7m8 : Method := { name := "isLatin1", desc := "()Z", sig := { parameters := [], returnType := some .boolean }, accessFlags := 16, code := some k7c8 }
def k7c9 : Code := { maxStack := 2, maxLocals := 2, code := jdk_68_method_71_code, exceptionTable := #[], attributes := #[] }
def k7m9 : Method := { name := "inflateIfNeededFor", desc := "(Ljava/lang/String;)V", sig := { parameters := [(.object "java/lang/String")], returnType := none }, accessFlags := 2, code := some k7c9 }
def k7c10 : Code := { maxStack := 4, maxLocals := 3, code := jdk_68_method_73_code, exceptionTable := #[], attributes := #[] }
def k7m10 : Method := { name := "putStringAt", desc := "(ILjava/lang/String;)V", sig := { parameters := [.int, (.object "java/lang/String")], returnType := none }, accessFlags := 2, code := some k7c10 }
/-- java/lang/AbstractStringBuilder -/
def k7 : Class := { plain "java/lang/AbstractStringBuilder" (some 0) with
  accessFlags := 1056
  interfaces := #[5, 6]
  cf := some (fileOf pool7 10 #[] #[{ accessFlags := 0, nameIndex := 7, descriptorIndex := 8, attributes := #[] }, { accessFlags := 0, nameIndex := 7, descriptorIndex := 103, attributes := #[] }, { accessFlags := 1, nameIndex := 34, descriptorIndex := 35, attributes := #[] }, { accessFlags := 2, nameIndex := 102, descriptorIndex := 103, attributes := #[] }, { accessFlags := 2, nameIndex := 106, descriptorIndex := 107, attributes := #[] }, { accessFlags := 1, nameIndex := 45, descriptorIndex := 46, attributes := #[] }, { accessFlags := 1, nameIndex := 45, descriptorIndex := 513, attributes := #[] }, { accessFlags := 16, nameIndex := 552, descriptorIndex := 403, attributes := #[] }, { accessFlags := 16, nameIndex := 85, descriptorIndex := 86, attributes := #[] }, { accessFlags := 2, nameIndex := 217, descriptorIndex := 69, attributes := #[] }, { accessFlags := 2, nameIndex := 210, descriptorIndex := 211, attributes := #[] }] 1056 4 #[444, 48] #[{ accessFlags := 0, nameIndex := 17, descriptorIndex := 14, attributes := #[] }, { accessFlags := 0, nameIndex := 24, descriptorIndex := 25, attributes := #[] }, { accessFlags := 0, nameIndex := 75, descriptorIndex := 21, attributes := #[] }, { accessFlags := 0, nameIndex := 81, descriptorIndex := 82, attributes := #[] }, { accessFlags := 26, nameIndex := 13, descriptorIndex := 14, attributes := #[] }])
  fields := #[{ name := "value", type := (.array .byte), accessFlags := 0, slot := 0, constantValue := 0 }, { name := "coder", type := .byte, accessFlags := 0, slot := 1, constantValue := 0 }, { name := "maybeLatin1", type := .boolean, accessFlags := 0, slot := 2, constantValue := 0 }, { name := "count", type := .int, accessFlags := 0, slot := 3, constantValue := 0 }, { name := "EMPTYVALUE", type := (.array .byte), accessFlags := 26, slot := 0, constantValue := 0 }]
  methods := #[k7m0, k7m1, k7m2, k7m3, k7m4, k7m5, k7m6, k7m7, k7m8, k7m9, k7m10]
  instanceTypes := #[(.array .byte), .byte, .boolean, .int]
  staticTypes := #[(.array .byte)]
  resolved := Array.replicate 609 none
  statics := none }

def pool8 : Array CpInfo := pool [(1, .class_ 2), (0, u "java/io/Serializable"), (0, .class_ 4), (0, u "java/lang/Object")] 2

/-- java/io/Serializable -/
def k8 : Class := { plain "java/io/Serializable" (some 0) with
  accessFlags := 1537
  interfaces := #[]
  cf := some (fileOf pool8 1 #[] #[] 1537 3 #[] #[])
  fields := #[]
  methods := #[]
  instanceTypes := #[]
  staticTypes := #[]
  resolved := Array.replicate 7 none
  statics := none }

def pool9 : Array CpInfo := pool [(1, .class_ 2), (0, u "java/lang/Comparable"), (0, .class_ 4), (0, u "java/lang/Object")] 7

/-- java/lang/Comparable -/
def k9 : Class := { plain "java/lang/Comparable" (some 0) with
  accessFlags := 1537
  interfaces := #[]
  cf := some (fileOf pool9 1 #[] #[] 1537 3 #[] #[])
  fields := #[]
  methods := #[]
  instanceTypes := #[]
  staticTypes := #[]
  resolved := Array.replicate 12 none
  statics := none }

def pool10 : Array CpInfo := pool [(1, .methodref 2 3), (0, .class_ 4), (0, .nameAndType 5 6), (0, u "java/lang/AbstractStringBuilder"), (0, u "<init>"), (0, u "(I)V"), (11, .class_ 20), (1, u "java/lang/String"), (3, .class_ 26), (1, u "java/lang/StringBuilder"), (0, u "append"), (0, u "(Ljava/lang/String;)Ljava/lang/StringBuilder;"), (0, .methodref 2 30), (0, .nameAndType 27 31), (0, u "(Ljava/lang/String;)Ljava/lang/AbstractStringBuilder;"), (24, .methodref 2 57), (0, .nameAndType 27 58), (0, u "(J)Ljava/lang/AbstractStringBuilder;"), (78, .methodref 18 138), (0, .nameAndType 5 139), (0, u "(Ljava/lang/StringBuilder;)V"), (5, u "()V"), (10, u "()I"), (124, u "(J)Ljava/lang/StringBuilder;"), (61, .methodref 2 344), (0, .nameAndType 345 156), (0, u "length"), (3, .class_ 350), (0, u "java/lang/Appendable"), (0, .class_ 352), (0, u "java/io/Serializable"), (0, .class_ 354), (0, u "java/lang/Comparable"), (0, .class_ 356), (0, u "java/lang/CharSequence"), (0, u "serialVersionUID"), (0, u "J"), (40, u "toString"), (0, u "()Ljava/lang/String;")] 21

def k10c0 : Code := { maxStack := 2, maxLocals := 1, code := jdk_67_method_1_code, exceptionTable := #[], attributes := #[] }
def k10m0 : Method := { name := "<init>", desc := "()V", sig := { parameters := [], returnType := none }, accessFlags := 1, code := some k10c0 }
def k10c1 : Code := { maxStack := 2, maxLocals := 2, code := jdk_67_method_7_code, exceptionTable := #[], attributes := #[] }
def k10m1 : Method := { name := "append", desc := "(Ljava/lang/String;)Ljava/lang/StringBuilder;", sig := { parameters := [(.object "java/lang/String")], returnType := some (.object "java/lang/StringBuilder") }, accessFlags := 1, code := some k10c1 }
def k10c2 : Code := { maxStack := 3, maxLocals := 3, code := jdk_67_method_16_code, exceptionTable := #[], attributes := #[] }
def k10m2 : Method := { name := "append", desc := "(J)Ljava/lang/StringBuilder;", sig := { parameters := [.long], returnType := some (.object "java/lang/StringBuilder") }, accessFlags := 1, code := some k10c2 }
def k10c3 : Code := { maxStack := 3, maxLocals := 1, code := jdk_67_method_42_code, exceptionTable := #[], attributes := #[] }
def k10m3 : Method := { name := "toString", desc := "()Ljava/lang/String;", sig := { parameters := [], returnType := some (.object "java/lang/String") }, accessFlags := 1, code := some k10c3 }
def k10c4 : Code := { maxStack := 1, maxLocals := 1, code := jdk_67_method_93_code, exceptionTable := #[], attributes := #[] }
def k10m4 : Method := { name := "length", desc := "()I", sig := { parameters := [], returnType := some .int }, accessFlags := 4161, code := some k10c4 }
/-- java/lang/StringBuilder -/
def k10 : Class := { plain "java/lang/StringBuilder" (some 7) with
  accessFlags := 49
  interfaces := #[5, 8, 9, 6]
  cf := some (fileOf pool10 24 #[] #[{ accessFlags := 1, nameIndex := 5, descriptorIndex := 145, attributes := #[] }, { accessFlags := 1, nameIndex := 27, descriptorIndex := 28, attributes := #[] }, { accessFlags := 1, nameIndex := 27, descriptorIndex := 281, attributes := #[] }, { accessFlags := 1, nameIndex := 399, descriptorIndex := 400, attributes := #[] }, { accessFlags := 4161, nameIndex := 345, descriptorIndex := 156, attributes := #[] }] 49 2 #[349, 351, 353, 355] #[{ accessFlags := 24, nameIndex := 357, descriptorIndex := 358, attributes := #[] }])
  fields := #[{ name := "serialVersionUID", type := .long, accessFlags := 24, slot := 0, constantValue := 0 }]
  methods := #[k10m0, k10m1, k10m2, k10m3, k10m4]
  instanceTypes := #[(.array .byte), .byte, .boolean, .int]
  staticTypes := #[.long]
  resolved := Array.replicate 422 none
  statics := none }

def pool11 : Array CpInfo := pool [(1, .class_ 2), (0, u "java/lang/constant/Constable"), (0, .class_ 4), (0, u "java/lang/Object")] 6

/-- java/lang/constant/Constable -/
def k11 : Class := { plain "java/lang/constant/Constable" (some 0) with
  accessFlags := 1537
  interfaces := #[]
  cf := some (fileOf pool11 1 #[] #[] 1537 3 #[] #[])
  fields := #[]
  methods := #[]
  instanceTypes := #[]
  staticTypes := #[]
  resolved := Array.replicate 11 none
  statics := none }

def pool12 : Array CpInfo := pool [(1, .class_ 2), (0, u "java/lang/constant/ConstantDesc"), (0, .class_ 4), (0, u "java/lang/Object")] 32

/-- java/lang/constant/ConstantDesc -/
def k12 : Class := { plain "java/lang/constant/ConstantDesc" (some 0) with
  accessFlags := 1537
  interfaces := #[]
  cf := some (fileOf pool12 1 #[] #[] 1537 3 #[] #[])
  fields := #[]
  methods := #[]
  instanceTypes := #[]
  staticTypes := #[]
  resolved := Array.replicate 37 none
  statics := none }

def pool13 : Array CpInfo := pool [(1, .methodref 2 3), (0, .class_ 4), (0, .nameAndType 5 6), (0, u "java/lang/Object"), (0, u "<init>"), (0, u "()V"), (2, .fieldref 10 11), (0, .class_ 12), (0, .nameAndType 13 14), (0, u "java/lang/String"), (0, u "value"), (0, u "[B"), (0, .fieldref 10 16), (0, .nameAndType 17 18), (0, u "coder"), (0, u "B"), (2, u "hash"), (0, u "I"), (2, u "hashIsZero"), (0, u "Z"), (11, .fieldref 10 39), (0, .nameAndType 40 26), (0, u "COMPACT_STRINGS"), (13, .methodref 55 56), (0, .class_ 57), (0, .nameAndType 58 59), (0, u "java/util/Arrays"), (0, u "copyOfRange"), (0, u "([BII)[B"), (47, .class_ 109), (1, u "java/lang/StringLatin1"), (32, u "()Z"), (50, .class_ 195), (1, u "java/lang/System"), (16, .methodref 193 213), (0, .nameAndType 214 215), (0, u "arraycopy"), (0, u "(Ljava/lang/Object;ILjava/lang/Object;II)V"), (118, u "()I"), (0, .methodref 10 336), (0, .nameAndType 17 337), (0, u "()B"), (2, u "()[B"), (22, u "([BI)C"), (27, u "(II)V"), (35, u "(I)C"), (61, .methodref 10 490), (0, .nameAndType 5 491), (0, u "(Ljava/lang/AbstractStringBuilder;Ljava/lang/Void;)V"), (0, .methodref 10 493), (0, .nameAndType 494 142), (0, u "isLatin1"), (0, .methodref 107 496), (0, .nameAndType 497 363), (0, u "charAt"), (3, u "checkIndex"), (4, .nameAndType 507 334), (0, u "length"), (24, u "getBytes"), (16, .methodref 550 506), (0, .class_ 551), (0, u "java/lang/AbstractStringBuilder"), (0, .methodref 550 553), (0, .nameAndType 554 340), (0, u "getValue"), (20, .class_ 576), (0, u "java/lang/CharSequence"), (22, u "CASE_INSENSITIVE_ORDER"), (0, u "Ljava/util/Comparator;"), (220, u "([BIB)V"), (225, .methodref 550 493), (5, .fieldref 1054 1055), (0, .class_ 1056), (0, .nameAndType 1057 1058), (0, u "jdk/internal/util/Preconditions"), (0, u "SIOOBE_FORMATTER"), (0, u "Ljava/util/function/BiFunction;"), (0, .methodref 1054 1060), (0, .nameAndType 501 1061), (0, u "(IILjava/util/function/BiFunction;)I"), (39, u "serialPersistentFields"), (0, u "[Ljava/io/ObjectStreamField;"), (0, .class_ 1104), (0, u "java/lang/String$CaseInsensitiveComparator"), (1, .class_ 1107), (0, u "java/io/Serializable"), (0, .class_ 1109), (0, u "java/lang/Comparable"), (0, .class_ 1111), (0, u "java/lang/constant/Constable"), (0, .class_ 1113), (0, u "java/lang/constant/ConstantDesc"), (2, u "serialVersionUID"), (0, u "J"), (3, u "REPL"), (0, u "C"), (2, u "LATIN1"), (1, u "UTF16"), (105, u "(Ljava/lang/StringBuilder;)V")] 217

def k13m0 : Method := { name := "<init>", desc := "()V", sig := { parameters := [], returnType := none }, accessFlags := 1, code := none }
def k13c1 : Code := { maxStack := 3, maxLocals := 2, code := jdk_42_method_53_code, exceptionTable := #[], attributes := #[] }
def k13m1 : Method := { name := "<init>", desc := "(Ljava/lang/StringBuilder;)V", sig := { parameters := [(.object "java/lang/StringBuilder")], returnType := none }, accessFlags := 1, code := some k13c1 }
def k13c2 : Code := { maxStack := 2, maxLocals := 1, code := jdk_42_method_54_code, exceptionTable := #[], attributes := #[] }
def k13m2 : Method := { name := "length", desc := "()I", sig := { parameters := [], returnType := some .int }, accessFlags := 1, code := some k13c2 }
def k13c3 : Code := { maxStack := 2, maxLocals := 2, code := jdk_42_method_56_code, exceptionTable := #[], attributes := #[] }
def k13m3 : Method := { name := "charAt", desc := "(I)C", sig := { parameters := [.int], returnType := some .char }, accessFlags := 1, code := some k13c3 }
def k13c4 : Code := { maxStack := 5, maxLocals := 4, code := jdk_42_method_147_code, exceptionTable := #[], attributes := #[] }
def k13m4 : Method := { name := "getBytes", desc := "([BIB)V", sig := { parameters := [(.array .byte), .int, .byte], returnType := none }, accessFlags := 0, code := some k13c4 }
def k13c5 : Code := { maxStack := 5, maxLocals := 5, code := jdk_42_method_150_code, exceptionTable := #[], attributes := #[] }
def k13m5 : Method := { name := "<init>", desc := "(Ljava/lang/AbstractStringBuilder;Ljava/lang/Void;)V", sig := { parameters := [(.object "java/lang/AbstractStringBuilder"), (.object "java/lang/Void")], returnType := none }, accessFlags := 0, code := some k13c5 }
def k13c6 : Code := { maxStack := 1, maxLocals := 1, code := jdk_42_method_152_code, exceptionTable := #[], attributes := #[] }
def k13m6 : Method := { name := "coder", desc := "()B", sig := { parameters := [], returnType := some .byte }, accessFlags := 0, code := some k13c6 }
def k13c7 : Code := { maxStack := 1, maxLocals := 1, code := jdk_42_method_154_code, exceptionTable := #[], attributes := #[] }
def k13m7 : Method := { name := "isLatin1", desc := "()Z", sig := { parameters := [], returnType := some .boolean }, accessFlags := 0, code := some k13c7 }
def k13c8 : Code := { maxStack := 3, maxLocals := 2, code := jdk_42_method_155_code, exceptionTable := #[], attributes := #[] }
def k13m8 : Method := { name := "checkIndex", desc := "(II)V", sig := { parameters := [.int, .int], returnType := none }, accessFlags := 8, code := some k13c8 }
/-- java/lang/String -/
def k13 : Class := { plain "java/lang/String" (some 0) with
  accessFlags := 49
  interfaces := #[8, 9, 6, 11, 12]
  cf := some (fileOf pool13 10 #[.nestMembers #[1103]] #[{ accessFlags := 1, nameIndex := 5, descriptorIndex := 6, attributes := #[] }, { accessFlags := 1, nameIndex := 5, descriptorIndex := 1233, attributes := #[] }, { accessFlags := 1, nameIndex := 507, descriptorIndex := 334, attributes := #[] }, { accessFlags := 1, nameIndex := 497, descriptorIndex := 427, attributes := #[] }, { accessFlags := 0, nameIndex := 532, descriptorIndex := 821, attributes := #[] }, { accessFlags := 0, nameIndex := 5, descriptorIndex := 491, attributes := #[] }, { accessFlags := 0, nameIndex := 17, descriptorIndex := 337, attributes := #[] }, { accessFlags := 0, nameIndex := 494, descriptorIndex := 142, attributes := #[] }, { accessFlags := 8, nameIndex := 501, descriptorIndex := 391, attributes := #[] }] 49 2 #[1106, 1108, 575, 1110, 1112] #[{ accessFlags := 18, nameIndex := 13, descriptorIndex := 14, attributes := #[] }, { accessFlags := 18, nameIndex := 17, descriptorIndex := 18, attributes := #[] }, { accessFlags := 2, nameIndex := 21, descriptorIndex := 22, attributes := #[] }, { accessFlags := 2, nameIndex := 25, descriptorIndex := 26, attributes := #[] }, { accessFlags := 26, nameIndex := 1116, descriptorIndex := 1117, attributes := #[] }, { accessFlags := 24, nameIndex := 40, descriptorIndex := 26, attributes := #[] }, { accessFlags := 26, nameIndex := 1101, descriptorIndex := 1102, attributes := #[] }, { accessFlags := 26, nameIndex := 1121, descriptorIndex := 1122, attributes := #[] }, { accessFlags := 25, nameIndex := 599, descriptorIndex := 600, attributes := #[] }, { accessFlags := 24, nameIndex := 1125, descriptorIndex := 18, attributes := #[] }, { accessFlags := 24, nameIndex := 1127, descriptorIndex := 18, attributes := #[] }])
  fields := #[{ name := "value", type := (.array .byte), accessFlags := 18, slot := 0, constantValue := 0 }, { name := "coder", type := .byte, accessFlags := 18, slot := 1, constantValue := 0 }, { name := "hash", type := .int, accessFlags := 2, slot := 2, constantValue := 0 }, { name := "hashIsZero", type := .boolean, accessFlags := 2, slot := 3, constantValue := 0 }, { name := "serialVersionUID", type := .long, accessFlags := 26, slot := 0, constantValue := 0 }, { name := "COMPACT_STRINGS", type := .boolean, accessFlags := 24, slot := 1, constantValue := 0 }, { name := "serialPersistentFields", type := (.array (.object "java/io/ObjectStreamField")), accessFlags := 26, slot := 2, constantValue := 0 }, { name := "REPL", type := .char, accessFlags := 26, slot := 3, constantValue := 0 }, { name := "CASE_INSENSITIVE_ORDER", type := (.object "java/util/Comparator"), accessFlags := 25, slot := 4, constantValue := 0 }, { name := "LATIN1", type := .byte, accessFlags := 24, slot := 5, constantValue := 0 }, { name := "UTF16", type := .byte, accessFlags := 24, slot := 6, constantValue := 0 }]
  methods := #[k13m0, k13m1, k13m2, k13m3, k13m4, k13m5, k13m6, k13m7, k13m8]
  instanceTypes := #[(.array .byte), .byte, .int, .boolean]
  staticTypes := #[.long, .boolean, (.array (.object "java/io/ObjectStreamField")), .char, (.object "java/util/Comparator"), .byte, .byte]
  resolved := Array.replicate 1451 none
  statics := some 0 }

def pool14 : Array CpInfo := pool [(2, .class_ 4), (1, u "java/lang/Object"), (0, u "<init>"), (0, u "()V"), (1, .class_ 10), (1, u "java/lang/Number"), (2, .class_ 14), (0, u "java/io/Serializable"), (0, u "serialVersionUID"), (0, u "J")] 20

def k14m0 : Method := { name := "<init>", desc := "()V", sig := { parameters := [], returnType := none }, accessFlags := 1, code := none }
/-- java/lang/Number -/
def k14 : Class := { plain "java/lang/Number" (some 0) with
  accessFlags := 1057
  interfaces := #[8]
  cf := some (fileOf pool14 8 #[] #[{ accessFlags := 1, nameIndex := 5, descriptorIndex := 6, attributes := #[] }] 1057 2 #[13] #[{ accessFlags := 26, nameIndex := 15, descriptorIndex := 16, attributes := #[] }])
  fields := #[{ name := "serialVersionUID", type := .long, accessFlags := 26, slot := 0, constantValue := 0 }]
  methods := #[k14m0]
  instanceTypes := #[]
  staticTypes := #[.long]
  resolved := Array.replicate 37 none
  statics := none }

def pool15 : Array CpInfo := pool [(1, .class_ 2), (0, u "java/lang/Long"), (15, .class_ 20), (1, u "java/lang/Integer"), (32, .long 10), (47, u "(J)I"), (18, u "stringSize"), (2, u "getChars"), (0, u "(JI[B)I"), (4, .long 18446744071562067968), (1, .long 100), (1, .fieldref 18 134), (0, .nameAndType 135 136), (0, u "DigitOnes"), (0, u "[B"), (0, .fieldref 18 138), (0, .nameAndType 139 136), (0, u "DigitTens"), (0, .long 18446744073709551606), (94, .class_ 237), (1, u "java/lang/Long$LongCache"), (33, .class_ 272), (0, u "java/lang/Number"), (2, u "value"), (0, u "J"), (84, u "TYPE"), (0, u "Ljava/lang/Class;"), (0, .class_ 364), (0, u "java/lang/Comparable"), (0, .class_ 366), (0, u "java/lang/constant/Constable"), (0, .class_ 368), (0, u "java/lang/constant/ConstantDesc"), (0, u "MIN_VALUE"), (1, u "MAX_VALUE"), (4, u "SIZE"), (0, u "I"), (1, u "BYTES"), (1, u "serialVersionUID")] 142

def k15c0 : Code := { maxStack := 4, maxLocals := 11, code := jdk_35_method_14_code, exceptionTable := #[], attributes := #[] }
def k15m0 : Method := { name := "getChars", desc := "(JI[B)I", sig := { parameters := [.long, .int, (.array .byte)], returnType := some .int }, accessFlags := 8, code := some k15c0 }
def k15c1 : Code := { maxStack := 4, maxLocals := 6, code := jdk_35_method_15_code, exceptionTable := #[], attributes := #[] }
def k15m1 : Method := { name := "stringSize", desc := "(J)I", sig := { parameters := [.long], returnType := some .int }, accessFlags := 8, code := some k15c1 }
/-- java/lang/Long -/
def k15 : Class := { plain "java/lang/Long" (some 14) with
  accessFlags := 49
  interfaces := #[9, 11, 12]
  cf := some (fileOf pool15 1 #[.nestMembers #[235]] #[{ accessFlags := 8, nameIndex := 123, descriptorIndex := 124, attributes := #[] }, { accessFlags := 8, nameIndex := 120, descriptorIndex := 101, attributes := #[] }] 49 271 #[363, 365, 367] #[{ accessFlags := 25, nameIndex := 369, descriptorIndex := 276, attributes := #[] }, { accessFlags := 25, nameIndex := 371, descriptorIndex := 276, attributes := #[] }, { accessFlags := 25, nameIndex := 361, descriptorIndex := 362, attributes := #[] }, { accessFlags := 18, nameIndex := 275, descriptorIndex := 276, attributes := #[] }, { accessFlags := 25, nameIndex := 376, descriptorIndex := 377, attributes := #[] }, { accessFlags := 25, nameIndex := 379, descriptorIndex := 377, attributes := #[] }, { accessFlags := 26, nameIndex := 381, descriptorIndex := 276, attributes := #[] }])
  fields := #[{ name := "MIN_VALUE", type := .long, accessFlags := 25, slot := 0, constantValue := 0 }, { name := "MAX_VALUE", type := .long, accessFlags := 25, slot := 1, constantValue := 0 }, { name := "TYPE", type := (.object "java/lang/Class"), accessFlags := 25, slot := 2, constantValue := 0 }, { name := "value", type := .long, accessFlags := 18, slot := 0, constantValue := 0 }, { name := "SIZE", type := .int, accessFlags := 25, slot := 3, constantValue := 0 }, { name := "BYTES", type := .int, accessFlags := 25, slot := 4, constantValue := 0 }, { name := "serialVersionUID", type := .long, accessFlags := 26, slot := 5, constantValue := 0 }]
  methods := #[k15m0, k15m1]
  instanceTypes := #[.long]
  staticTypes := #[.long, .long, (.object "java/lang/Class"), .int, .int, .long]
  resolved := Array.replicate 524 none
  statics := none }

def pool16 : Array CpInfo := pool [(1, .class_ 2), (0, u "java/lang/Integer"), (16, u "digits"), (0, u "[C"), (64, u "DigitOnes"), (0, u "[B"), (2, u "DigitTens"), (99, .class_ 190), (0, u "java/lang/Integer$IntegerCache"), (3, u "I"), (8, .class_ 204), (0, u "java/lang/Number"), (2, u "value"), (94, u "TYPE"), (0, u "Ljava/lang/Class;"), (0, .class_ 305), (0, u "java/lang/Comparable"), (0, .class_ 307), (0, u "java/lang/constant/Constable"), (0, .class_ 309), (0, u "java/lang/constant/ConstantDesc"), (0, u "MIN_VALUE"), (1, u "MAX_VALUE"), (3, u "SIZE"), (1, u "BYTES"), (1, u "serialVersionUID"), (0, u "J")] 131

/-- java/lang/Integer -/
def k16 : Class := { plain "java/lang/Integer" (some 14) with
  accessFlags := 49
  interfaces := #[9, 11, 12]
  cf := some (fileOf pool16 1 #[.nestMembers #[189]] #[] 49 203 #[304, 306, 308] #[{ accessFlags := 25, nameIndex := 310, descriptorIndex := 194, attributes := #[] }, { accessFlags := 25, nameIndex := 312, descriptorIndex := 194, attributes := #[] }, { accessFlags := 25, nameIndex := 302, descriptorIndex := 303, attributes := #[] }, { accessFlags := 24, nameIndex := 19, descriptorIndex := 20, attributes := #[] }, { accessFlags := 24, nameIndex := 89, descriptorIndex := 86, attributes := #[] }, { accessFlags := 24, nameIndex := 85, descriptorIndex := 86, attributes := #[] }, { accessFlags := 18, nameIndex := 207, descriptorIndex := 194, attributes := #[] }, { accessFlags := 25, nameIndex := 316, descriptorIndex := 194, attributes := #[] }, { accessFlags := 25, nameIndex := 318, descriptorIndex := 194, attributes := #[] }, { accessFlags := 26, nameIndex := 320, descriptorIndex := 321, attributes := #[] }])
  fields := #[{ name := "MIN_VALUE", type := .int, accessFlags := 25, slot := 0, constantValue := 0 }, { name := "MAX_VALUE", type := .int, accessFlags := 25, slot := 1, constantValue := 0 }, { name := "TYPE", type := (.object "java/lang/Class"), accessFlags := 25, slot := 2, constantValue := 0 }, { name := "digits", type := (.array .char), accessFlags := 24, slot := 3, constantValue := 0 }, { name := "DigitTens", type := (.array .byte), accessFlags := 24, slot := 4, constantValue := 0 }, { name := "DigitOnes", type := (.array .byte), accessFlags := 24, slot := 5, constantValue := 0 }, { name := "value", type := .int, accessFlags := 18, slot := 0, constantValue := 0 }, { name := "SIZE", type := .int, accessFlags := 25, slot := 6, constantValue := 0 }, { name := "BYTES", type := .int, accessFlags := 25, slot := 7, constantValue := 0 }, { name := "serialVersionUID", type := .long, accessFlags := 26, slot := 8, constantValue := 0 }]
  methods := #[]
  instanceTypes := #[.int]
  staticTypes := #[.int, .int, (.object "java/lang/Class"), (.array .char), (.array .byte), (.array .byte), .int, .int, .long]
  resolved := Array.replicate 453 none
  statics := some 1 }

def pool17 : Array CpInfo := pool [(2, .class_ 4), (1, u "java/lang/Object"), (0, u "<init>"), (0, u "()V"), (1, .class_ 10), (1, u "java/lang/System"), (0, u "allowSecurityManager"), (0, u "I"), (16, u "cons"), (0, u "Ljava/io/Console;"), (77, .class_ 110), (1, u "java/lang/System$CallersHolder"), (43, u "initialErrStream"), (0, u "Ljava/io/PrintStream;"), (19, u "security"), (0, u "Ljava/lang/SecurityManager;"), (31, .class_ 209), (0, u "java/lang/System$1"), (7, u "props"), (0, u "Ljava/util/Properties;"), (2, u "lineSeparator"), (0, u "Ljava/lang/String;"), (96, .class_ 321), (1, u "java/lang/System$LoggerFinder"), (5, .class_ 328), (0, u "java/lang/System$Logger"), (67, u "err"), (2, u "out"), (91, u "notSupportedJnuEncoding"), (15, u "in"), (17, u "initialIn"), (0, u "Ljava/io/InputStream;"), (35, u "bootLayer"), (0, u "Ljava/lang/ModuleLayer;"), (99, .class_ 664), (0, u "java/lang/System$2"), (9, u "NEVER"), (2, u "MAYBE"), (49, u "arraycopy"), (0, u "(Ljava/lang/Object;ILjava/lang/Object;II)V"), (72, .class_ 802), (0, u "java/lang/System$Logger$Level")] 31

def k17m0 : Method := { name := "<init>", desc := "()V", sig := { parameters := [], returnType := none }, accessFlags := 2, code := none }
def k17m1 : Method := { name := "arraycopy", desc := "(Ljava/lang/Object;ILjava/lang/Object;II)V", sig := { parameters := [(.object "java/lang/Object"), .int, (.object "java/lang/Object"), .int, .int], returnType := none }, accessFlags := 265, code := none }
/-- java/lang/System -/
def k17 : Class := { plain "java/lang/System" (some 0) with
  accessFlags := 49
  interfaces := #[]
  cf := some (fileOf pool17 8 #[.nestMembers #[319, 327, 801, 108, 663, 208]] #[{ accessFlags := 2, nameIndex := 5, descriptorIndex := 6, attributes := #[] }, { accessFlags := 265, nameIndex := 727, descriptorIndex := 728, attributes := #[] }] 49 2 #[] #[{ accessFlags := 25, nameIndex := 507, descriptorIndex := 526, attributes := #[] }, { accessFlags := 25, nameIndex := 399, descriptorIndex := 155, attributes := #[] }, { accessFlags := 25, nameIndex := 396, descriptorIndex := 155, attributes := #[] }, { accessFlags := 10, nameIndex := 525, descriptorIndex := 526, attributes := #[] }, { accessFlags := 26, nameIndex := 674, descriptorIndex := 12, attributes := #[] }, { accessFlags := 26, nameIndex := 677, descriptorIndex := 12, attributes := #[] }, { accessFlags := 10, nameIndex := 11, descriptorIndex := 12, attributes := #[] }, { accessFlags := 74, nameIndex := 175, descriptorIndex := 176, attributes := #[] }, { accessFlags := 10, nameIndex := 491, descriptorIndex := 222, attributes := #[] }, { accessFlags := 74, nameIndex := 29, descriptorIndex := 30, attributes := #[] }, { accessFlags := 74, nameIndex := 154, descriptorIndex := 155, attributes := #[] }, { accessFlags := 10, nameIndex := 217, descriptorIndex := 218, attributes := #[] }, { accessFlags := 10, nameIndex := 221, descriptorIndex := 222, attributes := #[] }, { accessFlags := 8, nameIndex := 562, descriptorIndex := 563, attributes := #[] }])
  fields := #[{ name := "in", type := (.object "java/io/InputStream"), accessFlags := 25, slot := 0, constantValue := 0 }, { name := "out", type := (.object "java/io/PrintStream"), accessFlags := 25, slot := 1, constantValue := 0 }, { name := "err", type := (.object "java/io/PrintStream"), accessFlags := 25, slot := 2, constantValue := 0 }, { name := "initialIn", type := (.object "java/io/InputStream"), accessFlags := 10, slot := 3, constantValue := 0 }, { name := "NEVER", type := .int, accessFlags := 26, slot := 4, constantValue := 0 }, { name := "MAYBE", type := .int, accessFlags := 26, slot := 5, constantValue := 0 }, { name := "allowSecurityManager", type := .int, accessFlags := 10, slot := 6, constantValue := 0 }, { name := "security", type := (.object "java/lang/SecurityManager"), accessFlags := 74, slot := 7, constantValue := 0 }, { name := "notSupportedJnuEncoding", type := (.object "java/lang/String"), accessFlags := 10, slot := 8, constantValue := 0 }, { name := "cons", type := (.object "java/io/Console"), accessFlags := 74, slot := 9, constantValue := 0 }, { name := "initialErrStream", type := (.object "java/io/PrintStream"), accessFlags := 74, slot := 10, constantValue := 0 }, { name := "props", type := (.object "java/util/Properties"), accessFlags := 10, slot := 11, constantValue := 0 }, { name := "lineSeparator", type := (.object "java/lang/String"), accessFlags := 10, slot := 12, constantValue := 0 }, { name := "bootLayer", type := (.object "java/lang/ModuleLayer"), accessFlags := 8, slot := 13, constantValue := 0 }]
  methods := #[k17m0, k17m1]
  instanceTypes := #[]
  staticTypes := #[(.object "java/io/InputStream"), (.object "java/io/PrintStream"), (.object "java/io/PrintStream"), (.object "java/io/InputStream"), .int, .int, .int, (.object "java/lang/SecurityManager"), (.object "java/lang/String"), (.object "java/io/Console"), (.object "java/io/PrintStream"), (.object "java/util/Properties"), (.object "java/lang/String"), (.object "java/lang/ModuleLayer")]
  resolved := Array.replicate 834 none
  statics := none }

def pool18 : Array CpInfo := pool [(2, .class_ 4), (1, u "java/lang/Object"), (0, u "<init>"), (0, u "()V"), (7, .class_ 16), (1, u "java/util/Arrays"), (57, .class_ 76), (1, u "java/util/Arrays$NaturalOrder"), (32, u "()Ljava/lang/Object;"), (3, .class_ 115), (1, u "java/util/Arrays$LegacyMergeSort"), (1, u "Z"), (10, .nameAndType 129 109), (0, u "clone"), (9, u "copyOfRange"), (10, .methodref 151 152), (0, .class_ 153), (0, .nameAndType 154 155), (0, u "java/lang/System"), (0, u "arraycopy"), (0, u "(Ljava/lang/Object;ILjava/lang/Object;II)V"), (146, u "copyOf"), (1, .methodref 305 306), (0, .class_ 307), (0, .nameAndType 308 309), (0, u "java/lang/Math"), (0, u "min"), (0, u "(II)I"), (0, .methodref 311 128), (0, .class_ 312), (0, u "[B"), (26, .methodref 14 340), (0, .nameAndType 341 342), (0, u "copyOfRangeByte"), (0, u "([BII)[B"), (0, .methodref 14 344), (0, .nameAndType 345 346), (0, u "checkLength"), (0, u "(II)V"), (28, .class_ 376), (0, u "java/util/Arrays$ArrayList"), (68, u "$assertionsDisabled"), (269, u "MIN_ARRAY_SORT_GRAN"), (0, u "I"), (2, u "INSERTIONSORT_THRESHOLD"), (149, u "([BI)[B"), (105, .class_ 976), (0, u "java/util/Arrays$ArrayItr")] 52

def k18m0 : Method := { name := "<init>", desc := "()V", sig := { parameters := [], returnType := none }, accessFlags := 2, code := none }
def k18c1 : Code := { maxStack := 6, maxLocals := 3, code := jdk_65_method_121_code, exceptionTable := #[], attributes := #[] }
def k18m1 : Method := { name := "copyOf", desc := "([BI)[B", sig := { parameters := [(.array .byte), .int], returnType := some (.array .byte) }, accessFlags := 9, code := some k18c1 }
def k18c2 : Code := { maxStack := 4, maxLocals := 2, code := jdk_65_method_131_code, exceptionTable := #[], attributes := #[] }
def k18m2 : Method := { name := "checkLength", desc := "(II)V", sig := { parameters := [.int, .int], returnType := none }, accessFlags := 10, code := some k18c2 }
def k18c3 : Code := { maxStack := 3, maxLocals := 3, code := jdk_65_method_132_code, exceptionTable := #[], attributes := #[] }
def k18m3 : Method := { name := "copyOfRange", desc := "([BII)[B", sig := { parameters := [(.array .byte), .int, .int], returnType := some (.array .byte) }, accessFlags := 9, code := some k18c3 }
def k18c4 : Code := { maxStack := 6, maxLocals := 5, code := jdk_65_method_133_code, exceptionTable := #[], attributes := #[] }
def k18m4 : Method := { name := "copyOfRangeByte", desc := "([BII)[B", sig := { parameters := [(.array .byte), .int, .int], returnType := some (.array .byte) }, accessFlags := 10, code := some k18c4 }
/-- java/util/Arrays -/
def k18 : Class := { plain "java/util/Arrays" (some 0) with
  accessFlags := 49
  interfaces := #[]
  cf := some (fileOf pool18 14 #[.nestMembers #[975, 375, 113, 74]] #[{ accessFlags := 2, nameIndex := 5, descriptorIndex := 6, attributes := #[] }, { accessFlags := 9, nameIndex := 302, descriptorIndex := 869, attributes := #[] }, { accessFlags := 10, nameIndex := 345, descriptorIndex := 346, attributes := #[] }, { accessFlags := 9, nameIndex := 139, descriptorIndex := 342, attributes := #[] }, { accessFlags := 10, nameIndex := 341, descriptorIndex := 342, attributes := #[] }] 49 2 #[] #[{ accessFlags := 26, nameIndex := 715, descriptorIndex := 716, attributes := #[] }, { accessFlags := 26, nameIndex := 719, descriptorIndex := 716, attributes := #[] }, { accessFlags := 4120, nameIndex := 445, descriptorIndex := 117, attributes := #[] }])
  fields := #[{ name := "MIN_ARRAY_SORT_GRAN", type := .int, accessFlags := 26, slot := 0, constantValue := 0 }, { name := "INSERTIONSORT_THRESHOLD", type := .int, accessFlags := 26, slot := 1, constantValue := 0 }, { name := "$assertionsDisabled", type := .boolean, accessFlags := 4120, slot := 2, constantValue := 0 }]
  methods := #[k18m0, k18m1, k18m2, k18m3, k18m4]
  instanceTypes := #[]
  staticTypes := #[.int, .int, .boolean]
  resolved := Array.replicate 1029 none
  statics := none }

def pool19 : Array CpInfo := pool [(1, .class_ 2), (0, u "java/lang/String"), (1, .class_ 6), (1, u "java/lang/Object"), (0, u "<init>"), (0, u "()V"), (0, .methodref 1 10), (0, .nameAndType 11 12), (0, u "checkIndex"), (0, u "(II)V"), (1, .class_ 16), (1, u "java/lang/StringLatin1"), (36, u "([BI)C"), (67, u "$assertionsDisabled"), (0, u "Z"), (98, .class_ 223), (1, u "java/lang/StringLatin1$LinesSpliterator"), (28, u "charAt"), (137, .class_ 391), (0, u "java/lang/StringLatin1$CharsSpliterator")] 3

def k19m0 : Method := { name := "<init>", desc := "()V", sig := { parameters := [], returnType := none }, accessFlags := 0, code := none }
def k19c1 : Code := { maxStack := 2, maxLocals := 2, code := jdk_43_method_2_code, exceptionTable := #[], attributes := #[] }
def k19m1 : Method := { name := "charAt", desc := "([BI)C", sig := { parameters := [(.array .byte), .int], returnType := some .char }, accessFlags := 9, code := some k19c1 }
/-- java/lang/StringLatin1 -/
def k19 : Class := { plain "java/lang/StringLatin1" (some 0) with
  accessFlags := 48
  interfaces := #[]
  cf := some (fileOf pool19 14 #[.nestMembers #[390, 221]] #[{ accessFlags := 0, nameIndex := 7, descriptorIndex := 8, attributes := #[] }, { accessFlags := 9, nameIndex := 252, descriptorIndex := 53, attributes := #[] }] 48 4 #[] #[{ accessFlags := 4120, nameIndex := 121, descriptorIndex := 122, attributes := #[] }])
  fields := #[{ name := "$assertionsDisabled", type := .boolean, accessFlags := 4120, slot := 0, constantValue := 0 }]
  methods := #[k19m0, k19m1]
  instanceTypes := #[]
  staticTypes := #[.boolean]
  resolved := Array.replicate 395 none
  statics := none }

def pool20 : Array CpInfo := pool [(2, .class_ 4), (1, u "java/lang/Object"), (0, u "<init>"), (0, u "()V"), (17, .class_ 26), (1, u "jdk/internal/util/Preconditions"), (6, u "checkIndex"), (21, .class_ 56), (0, u "jdk/internal/util/Preconditions$4"), (57, .class_ 115), (0, u "jdk/internal/util/Preconditions$1"), (7, u "SIOOBE_FORMATTER"), (0, u "Ljava/util/function/BiFunction;"), (0, .class_ 126), (0, u "jdk/internal/util/Preconditions$2"), (3, u "AIOOBE_FORMATTER"), (0, .class_ 132), (0, u "jdk/internal/util/Preconditions$3"), (3, u "IOOBE_FORMATTER"), (41, u "(IILjava/util/function/BiFunction;)I")] 15

def k20m0 : Method := { name := "<init>", desc := "()V", sig := { parameters := [], returnType := none }, accessFlags := 1, code := none }
def k20c1 : Code := { maxStack := 3, maxLocals := 3, code := jdk_41_method_11_code, exceptionTable := #[], attributes := #[] }
def k20m1 : Method := { name := "checkIndex", desc := "(IILjava/util/function/BiFunction;)I", sig := { parameters := [.int, .int, (.object "java/util/function/BiFunction")], returnType := some .int }, accessFlags := 9, code := some k20c1 }
/-- jdk/internal/util/Preconditions -/
def k20 : Class := { plain "jdk/internal/util/Preconditions" (some 0) with
  accessFlags := 33
  interfaces := #[]
  cf := some (fileOf pool20 24 #[.nestMembers #[55, 131, 125, 114]] #[{ accessFlags := 1, nameIndex := 5, descriptorIndex := 6, attributes := #[] }, { accessFlags := 9, nameIndex := 33, descriptorIndex := 178, attributes := #[] }] 33 2 #[] #[{ accessFlags := 25, nameIndex := 123, descriptorIndex := 124, attributes := #[] }, { accessFlags := 25, nameIndex := 130, descriptorIndex := 124, attributes := #[] }, { accessFlags := 25, nameIndex := 136, descriptorIndex := 124, attributes := #[] }])
  fields := #[{ name := "SIOOBE_FORMATTER", type := (.object "java/util/function/BiFunction"), accessFlags := 25, slot := 0, constantValue := 0 }, { name := "AIOOBE_FORMATTER", type := (.object "java/util/function/BiFunction"), accessFlags := 25, slot := 1, constantValue := 0 }, { name := "IOOBE_FORMATTER", type := (.object "java/util/function/BiFunction"), accessFlags := 25, slot := 2, constantValue := 0 }]
  methods := #[k20m0, k20m1]
  instanceTypes := #[]
  staticTypes := #[(.object "java/util/function/BiFunction"), (.object "java/util/function/BiFunction"), (.object "java/util/function/BiFunction")]
  resolved := Array.replicate 194 none
  statics := some 2 }

def pool21 : Array CpInfo := pool [(9, u "<init>"), (6, .class_ 18), (1, u "java/lang/Object"), (0, u "()V"), (1, .class_ 23), (1, u "jdk/internal/util/ArraysSupport"), (0, u "LOG2_ARRAY_LONG_INDEX_SCALE"), (0, u "I"), (2, u "U"), (0, u "Ljdk/internal/misc/Unsafe;"), (8, u "BIG_ENDIAN"), (0, u "Z"), (8, u "LOG2_BYTE_BIT_SIZE"), (4, u "LOG2_ARRAY_INT_INDEX_SCALE"), (54, u "JLA"), (0, u "Ljdk/internal/access/JavaLangAccess;"), (11, u "LOG2_ARRAY_BOOLEAN_INDEX_SCALE"), (9, u "LOG2_ARRAY_BYTE_INDEX_SCALE"), (5, u "LOG2_ARRAY_CHAR_INDEX_SCALE"), (5, u "LOG2_ARRAY_SHORT_INDEX_SCALE"), (18, u "LOG2_ARRAY_FLOAT_INDEX_SCALE"), (24, u "LOG2_ARRAY_DOUBLE_INDEX_SCALE"), (6, .methodref 195 196), (0, .class_ 197), (0, .nameAndType 198 199), (0, u "java/lang/Math"), (0, u "max"), (0, u "(II)I"), (0, .integer 2147483639), (76, u "T_BOOLEAN"), (2, u "T_CHAR"), (1, u "T_FLOAT"), (1, u "T_DOUBLE"), (1, u "T_BYTE"), (1, u "T_SHORT"), (1, u "T_INT"), (1, u "T_LONG"), (1, u "SOFT_MAX_ARRAY_LENGTH"), (56, u "newLength"), (0, u "(III)I")] 25

def k21m0 : Method := { name := "<init>", desc := "()V", sig := { parameters := [], returnType := none }, accessFlags := 2, code := none }
def k21c1 : Code := { maxStack := 3, maxLocals := 4, code := jdk_48_method_27_code, exceptionTable := #[], attributes := #[] }
def k21m1 : Method := { name := "newLength", desc := "(III)I", sig := { parameters := [.int, .int, .int], returnType := some .int }, accessFlags := 9, code := some k21c1 }
/-- jdk/internal/util/ArraysSupport -/
def k21 : Class := { plain "jdk/internal/util/ArraysSupport" (some 0) with
  accessFlags := 33
  interfaces := #[]
  cf := some (fileOf pool21 21 #[] #[{ accessFlags := 2, nameIndex := 9, descriptorIndex := 19, attributes := #[] }, { accessFlags := 9, nameIndex := 351, descriptorIndex := 352, attributes := #[] }] 33 16 #[] #[{ accessFlags := 24, nameIndex := 28, descriptorIndex := 29, attributes := #[] }, { accessFlags := 26, nameIndex := 38, descriptorIndex := 39, attributes := #[] }, { accessFlags := 25, nameIndex := 121, descriptorIndex := 25, attributes := #[] }, { accessFlags := 25, nameIndex := 131, descriptorIndex := 25, attributes := #[] }, { accessFlags := 25, nameIndex := 137, descriptorIndex := 25, attributes := #[] }, { accessFlags := 25, nameIndex := 143, descriptorIndex := 25, attributes := #[] }, { accessFlags := 25, nameIndex := 53, descriptorIndex := 25, attributes := #[] }, { accessFlags := 25, nameIndex := 24, descriptorIndex := 25, attributes := #[] }, { accessFlags := 25, nameIndex := 162, descriptorIndex := 25, attributes := #[] }, { accessFlags := 25, nameIndex := 187, descriptorIndex := 25, attributes := #[] }, { accessFlags := 26, nameIndex := 48, descriptorIndex := 25, attributes := #[] }, { accessFlags := 25, nameIndex := 277, descriptorIndex := 25, attributes := #[] }, { accessFlags := 25, nameIndex := 280, descriptorIndex := 25, attributes := #[] }, { accessFlags := 25, nameIndex := 282, descriptorIndex := 25, attributes := #[] }, { accessFlags := 25, nameIndex := 284, descriptorIndex := 25, attributes := #[] }, { accessFlags := 25, nameIndex := 286, descriptorIndex := 25, attributes := #[] }, { accessFlags := 25, nameIndex := 288, descriptorIndex := 25, attributes := #[] }, { accessFlags := 25, nameIndex := 290, descriptorIndex := 25, attributes := #[] }, { accessFlags := 25, nameIndex := 292, descriptorIndex := 25, attributes := #[] }, { accessFlags := 26, nameIndex := 108, descriptorIndex := 109, attributes := #[] }, { accessFlags := 25, nameIndex := 294, descriptorIndex := 25, attributes := #[] }])
  fields := #[{ name := "U", type := (.object "jdk/internal/misc/Unsafe"), accessFlags := 24, slot := 0, constantValue := 0 }, { name := "BIG_ENDIAN", type := .boolean, accessFlags := 26, slot := 1, constantValue := 0 }, { name := "LOG2_ARRAY_BOOLEAN_INDEX_SCALE", type := .int, accessFlags := 25, slot := 2, constantValue := 0 }, { name := "LOG2_ARRAY_BYTE_INDEX_SCALE", type := .int, accessFlags := 25, slot := 3, constantValue := 0 }, { name := "LOG2_ARRAY_CHAR_INDEX_SCALE", type := .int, accessFlags := 25, slot := 4, constantValue := 0 }, { name := "LOG2_ARRAY_SHORT_INDEX_SCALE", type := .int, accessFlags := 25, slot := 5, constantValue := 0 }, { name := "LOG2_ARRAY_INT_INDEX_SCALE", type := .int, accessFlags := 25, slot := 6, constantValue := 0 }, { name := "LOG2_ARRAY_LONG_INDEX_SCALE", type := .int, accessFlags := 25, slot := 7, constantValue := 0 }, { name := "LOG2_ARRAY_FLOAT_INDEX_SCALE", type := .int, accessFlags := 25, slot := 8, constantValue := 0 }, { name := "LOG2_ARRAY_DOUBLE_INDEX_SCALE", type := .int, accessFlags := 25, slot := 9, constantValue := 0 }, { name := "LOG2_BYTE_BIT_SIZE", type := .int, accessFlags := 26, slot := 10, constantValue := 0 }, { name := "T_BOOLEAN", type := .int, accessFlags := 25, slot := 11, constantValue := 0 }, { name := "T_CHAR", type := .int, accessFlags := 25, slot := 12, constantValue := 0 }, { name := "T_FLOAT", type := .int, accessFlags := 25, slot := 13, constantValue := 0 }, { name := "T_DOUBLE", type := .int, accessFlags := 25, slot := 14, constantValue := 0 }, { name := "T_BYTE", type := .int, accessFlags := 25, slot := 15, constantValue := 0 }, { name := "T_SHORT", type := .int, accessFlags := 25, slot := 16, constantValue := 0 }, { name := "T_INT", type := .int, accessFlags := 25, slot := 17, constantValue := 0 }, { name := "T_LONG", type := .int, accessFlags := 25, slot := 18, constantValue := 0 }, { name := "JLA", type := (.object "jdk/internal/access/JavaLangAccess"), accessFlags := 26, slot := 19, constantValue := 0 }, { name := "SOFT_MAX_ARRAY_LENGTH", type := .int, accessFlags := 25, slot := 20, constantValue := 0 }]
  methods := #[k21m0, k21m1]
  instanceTypes := #[]
  staticTypes := #[(.object "jdk/internal/misc/Unsafe"), .boolean, .int, .int, .int, .int, .int, .int, .int, .int, .int, .int, .int, .int, .int, .int, .int, .int, .int, (.object "jdk/internal/access/JavaLangAccess"), .int]
  resolved := Array.replicate 378 none
  statics := none }

def pool22 : Array CpInfo := pool [(1, .class_ 2), (0, u "java/lang/Cloneable"), (0, .class_ 4), (0, u "java/lang/Object")] 2

/-- java/lang/Cloneable -/
def k22 : Class := { plain "java/lang/Cloneable" (some 0) with
  accessFlags := 1537
  interfaces := #[]
  cf := some (fileOf pool22 1 #[] #[] 1537 3 #[] #[])
  fields := #[]
  methods := #[]
  instanceTypes := #[]
  staticTypes := #[]
  resolved := Array.replicate 7 none
  statics := none }

/-- the primitive byte -/
def k23 : Class := { plain "byte" none with kind := .primitive 'B', accessFlags := 0x411 }
/-- [B -/
def k24 : Class := { plain "[B" (some 0) with kind := .array 23 .byte, interfaces := #[22, 8], accessFlags := 1041 }

/-- the primitive int -/
def k25 : Class := { plain "int" none with kind := .primitive 'I', accessFlags := 0x411 }
/-- [I -/
def k26 : Class := { plain "[I" (some 0) with kind := .array 25 .int, interfaces := #[22, 8], accessFlags := 1041 }

def heap : Heap := #[{ cls := 13, slots := #[.long 0, .int 1, .null, .int 0, .null, .int 0, .int 0], vm := .statics 13 },
  { cls := 16, slots := #[.int 0, .int 0, .null, .null, .ref 4, .ref 3, .int 0, .int 0, .long 0], vm := .statics 16 },
  { cls := 20, slots := #[.null, .null, .null], vm := .statics 20 },
  { cls := 24, slots := #[.int 48, .int 49, .int 50, .int 51, .int 52, .int 53, .int 54, .int 55, .int 56, .int 57, .int 48, .int 49, .int 50, .int 51, .int 52, .int 53, .int 54, .int 55, .int 56, .int 57, .int 48, .int 49, .int 50, .int 51, .int 52, .int 53, .int 54, .int 55, .int 56, .int 57, .int 48, .int 49, .int 50, .int 51, .int 52, .int 53, .int 54, .int 55, .int 56, .int 57, .int 48, .int 49, .int 50, .int 51, .int 52, .int 53, .int 54, .int 55, .int 56, .int 57, .int 48, .int 49, .int 50, .int 51, .int 52, .int 53, .int 54, .int 55, .int 56, .int 57, .int 48, .int 49, .int 50, .int 51, .int 52, .int 53, .int 54, .int 55, .int 56, .int 57, .int 48, .int 49, .int 50, .int 51, .int 52, .int 53, .int 54, .int 55, .int 56, .int 57, .int 48, .int 49, .int 50, .int 51, .int 52, .int 53, .int 54, .int 55, .int 56, .int 57, .int 48, .int 49, .int 50, .int 51, .int 52, .int 53, .int 54, .int 55, .int 56, .int 57], vm := .none },
  { cls := 24, slots := #[.int 48, .int 48, .int 48, .int 48, .int 48, .int 48, .int 48, .int 48, .int 48, .int 48, .int 49, .int 49, .int 49, .int 49, .int 49, .int 49, .int 49, .int 49, .int 49, .int 49, .int 50, .int 50, .int 50, .int 50, .int 50, .int 50, .int 50, .int 50, .int 50, .int 50, .int 51, .int 51, .int 51, .int 51, .int 51, .int 51, .int 51, .int 51, .int 51, .int 51, .int 52, .int 52, .int 52, .int 52, .int 52, .int 52, .int 52, .int 52, .int 52, .int 52, .int 53, .int 53, .int 53, .int 53, .int 53, .int 53, .int 53, .int 53, .int 53, .int 53, .int 54, .int 54, .int 54, .int 54, .int 54, .int 54, .int 54, .int 54, .int 54, .int 54, .int 55, .int 55, .int 55, .int 55, .int 55, .int 55, .int 55, .int 55, .int 55, .int 55, .int 56, .int 56, .int 56, .int 56, .int 56, .int 56, .int 56, .int 56, .int 56, .int 56, .int 57, .int 57, .int 57, .int 57, .int 57, .int 57, .int 57, .int 57, .int 57, .int 57], vm := .none }]
def classes : Array Class := #[k0, k1, k2, k3, k4, k5, k6, k7, k8, k9, k10, k11, k12, k13, k14, k15, k16, k17, k18, k19, k20, k21, k22, k23, k24, k25, k26]
def interned : List (Array UInt16 × Addr) := []
def slotsUsed : Nat := 219
def theMethod : MethodId := ⟨1, 1⟩
def args0 : Array Value := #[.long 5, .long 6]
def aboutOver (below : List Frame) : State where
  vm := { classes := classes, interned := interned.toArray }
  heap := heap
  slotsUsed := slotsUsed
  threads := #[{ frames := .invoking theMethod args0 :: below }]
def below0 : List Frame := [.native { method := ⟨0, 0⟩, args := #[] }]
def about1 : State := aboutOver below0
def p0 : Program := .bare "" "" ""
def e0 : Env := launch0.env 0 0 0
theorem w_frames : about1.frames = Frame.invoking theMethod args0 :: below0 := rfl
set_option maxRecDepth 65536 in
theorem w_args : argsFit about1.vm theMethod args0 = true := by decide +kernel
set_option maxRecDepth 65536 in
theorem w_heap : heapFits about1 = true := by decide +kernel
set_option maxRecDepth 65536 in
theorem w_runnable : about1.curStatus? = some .runnable := by decide +kernel
set_option maxRecDepth 65536 in
theorem w_alone : about1.alone = true := by decide +kernel
set_option maxRecDepth 65536 in
theorem w_named : about1.methodNamed? x = some theMethod := by decide +kernel
set_option maxRecDepth 65536 in
theorem w_hears : about1.hears theMethod below0 = true := by decide +kernel
set_option maxRecDepth 65536 in
theorem w_ripe : about1.ripe theMethod args0 below0 = true := by decide +kernel
theorem w_running : about1.status = .running := rfl
set_option maxRecDepth 65536 in
theorem w_room : about1.hasRoom e0.platform room_1 = true :=
  launch0.hasRoom_least _ room_1 (by decide +kernel) (by decide +kernel) (by decide +kernel) (by decide +kernel) (by decide +kernel) (by decide +kernel)
theorem allAtoms_all (ts : List Jvm.Cond) (a : Array Jvm.Value) (st : Jvm.State) : (allAtoms ts).before a st = ts.all (fun c => c.before a st) := by
  induction ts with
  | nil => rfl
  | cons c t ih =>
    show (Jvm.Cond.and c (allAtoms t)).before a st = _
    rw [Jvm.Cond.before_and, ih, List.all_cons]
def words1 : List Jvm.Cond := Jvm.Cond.code x code maxLocals ret :: tables_1
/-- a 'code' word, met by the world's own term for the bytes: nothing is compared byte by byte -/
theorem code_word {y : MethodName} {bytes : ByteArray} {mx : Nat} {rt : Option FieldType} {a : Array Value} {s : State} {m : MethodId} {meth : Method} {c : Code} (h1 : s.methodNamed? y = some m) (h2 : s.vm.method? m = some meth) (h3 : meth.code = some c) (h4 : c.code = bytes)
    (h5 : (c.maxLocals == mx && c.exceptionTable.isEmpty && decide (c.maxStack ≤ mostOperands) && decide (meth.sig.returnType = rt) && !meth.locks && decide (parseMethodDescriptor y.desc = some meth.sig)) = true) : (Jvm.Cond.code y bytes mx rt).before a s = true := by
  simp only [Bool.and_eq_true, beq_iff_eq, Bool.not_eq_true', decide_eq_true_eq] at h5
  obtain ⟨⟨⟨⟨⟨g1, g2⟩, g3⟩, g4⟩, g5⟩, g6⟩ := h5
  simp [Cond.before, Cond.holds, Cond.value, h1, h2, h3, h4, g1, g2, g3, g4, g5, g6]
def isCode : Jvm.Cond → Bool
  | .code _ _ _ _ => true
  | _ => false
theorem all_split {L : List Jvm.Cond} {P : Jvm.Cond → Bool} (h1 : L.all (fun c => isCode c || P c) = true) (h2 : ∀ c ∈ L.filter isCode, P c = true) : L.all P = true := by
  refine List.all_eq_true.mpr fun c hc => ?_
  have h := List.all_eq_true.mp h1 c hc
  rcases Bool.eq_false_or_eq_true (isCode c) with hi | hi
  · exact h2 c (List.mem_filter.mpr ⟨hc, hi⟩)
  · simpa [hi] using h
set_option maxRecDepth 65536 in
theorem w_c0 : (Jvm.Cond.code x code maxLocals ret).before args0 about1 = true := code_word (m := ⟨1, 1⟩) (meth := k1m1) (c := k1c1) (by decide +kernel) rfl rfl rfl (by decide +kernel)
set_option maxRecDepth 65536 in
theorem w_c1 : (Jvm.Cond.code ({ cls := "java/lang/Math", name := "min", desc := "(JJ)J" } : Jvm.MethodName) jdk_29_method_70_code (4 : Nat) (Option.some Jvm.ClassFile.FieldType.long)).before args0 about1 = true := code_word (m := ⟨2, 4⟩) (meth := k2m4) (c := k2c4) (by decide +kernel) rfl rfl rfl (by decide +kernel)
set_option maxRecDepth 65536 in
theorem w_c2 : (Jvm.Cond.code ({ cls := "java/lang/Math", name := "max", desc := "(JJ)J" } : Jvm.MethodName) jdk_29_method_66_code (4 : Nat) (Option.some Jvm.ClassFile.FieldType.long)).before args0 about1 = true := code_word (m := ⟨2, 2⟩) (meth := k2m2) (c := k2c2) (by decide +kernel) rfl rfl rfl (by decide +kernel)
set_option maxRecDepth 65536 in
theorem w_c3 : (Jvm.Cond.code ({ cls := "com/example/uraniborg/uraniborg/model/PriorityRange", name := "<init>", desc := "(JJ)V" } : Jvm.MethodName) prog_12_method_1_code (5 : Nat) (Option.none : Option Jvm.ClassFile.FieldType)).before args0 about1 = true := code_word (m := ⟨4, 0⟩) (meth := k4m0) (c := k4c0) (by decide +kernel) rfl rfl rfl (by decide +kernel)
set_option maxRecDepth 65536 in
theorem w_c4 : (Jvm.Cond.code ({ cls := "java/lang/Record", name := "<init>", desc := "()V" } : Jvm.MethodName) jdk_30_method_1_code (1 : Nat) (Option.none : Option Jvm.ClassFile.FieldType)).before args0 about1 = true := code_word (m := ⟨3, 0⟩) (meth := k3m0) (c := k3c0) (by decide +kernel) rfl rfl rfl (by decide +kernel)
set_option maxRecDepth 65536 in
theorem w_c5 : (Jvm.Cond.code ({ cls := "java/lang/Object", name := "<init>", desc := "()V" } : Jvm.MethodName) object_method_1_code (1 : Nat) (Option.none : Option Jvm.ClassFile.FieldType)).before args0 about1 = true := code_word (m := ⟨0, 0⟩) (meth := k0m0) (c := k0c0) (by decide +kernel) rfl rfl rfl (by decide +kernel)
set_option maxRecDepth 65536 in
theorem w_c6 : (Jvm.Cond.code ({ cls := "com/example/uraniborg/uraniborg/model/PriorityRange", name := "toString", desc := "()Ljava/lang/String;" } : Jvm.MethodName) prog_12_method_2_code (1 : Nat) (Option.some (Jvm.ClassFile.FieldType.object "java/lang/String"))).before args0 about1 = true := code_word (m := ⟨4, 1⟩) (meth := k4m1) (c := k4c1) (by decide +kernel) rfl rfl rfl (by decide +kernel)
set_option maxRecDepth 65536 in
theorem w_c7 : (Jvm.Cond.code ({ cls := "java/lang/StringBuilder", name := "<init>", desc := "()V" } : Jvm.MethodName) jdk_67_method_1_code (1 : Nat) (Option.none : Option Jvm.ClassFile.FieldType)).before args0 about1 = true := code_word (m := ⟨10, 0⟩) (meth := k10m0) (c := k10c0) (by decide +kernel) rfl rfl rfl (by decide +kernel)
set_option maxRecDepth 65536 in
theorem w_c8 : (Jvm.Cond.code ({ cls := "java/lang/AbstractStringBuilder", name := "<init>", desc := "(I)V" } : Jvm.MethodName) jdk_68_method_2_code (2 : Nat) (Option.none : Option Jvm.ClassFile.FieldType)).before args0 about1 = true := code_word (m := ⟨7, 1⟩) (meth := k7m1) (c := k7c1) (by decide +kernel) rfl rfl rfl (by decide +kernel)
set_option maxRecDepth 65536 in
theorem w_c9 : (Jvm.Cond.code ({ cls := "java/lang/StringBuilder", name := "append", desc := "(J)Ljava/lang/StringBuilder;" } : Jvm.MethodName) jdk_67_method_16_code (3 : Nat) (Option.some (Jvm.ClassFile.FieldType.object "java/lang/StringBuilder"))).before args0 about1 = true := code_word (m := ⟨10, 2⟩) (meth := k10m2) (c := k10c2) (by decide +kernel) rfl rfl rfl (by decide +kernel)
set_option maxRecDepth 65536 in
theorem w_c10 : (Jvm.Cond.code ({ cls := "java/lang/AbstractStringBuilder", name := "append", desc := "(J)Ljava/lang/AbstractStringBuilder;" } : Jvm.MethodName) jdk_68_method_33_code (5 : Nat) (Option.some (Jvm.ClassFile.FieldType.object "java/lang/AbstractStringBuilder"))).before args0 about1 = true := code_word (m := ⟨7, 6⟩) (meth := k7m6) (c := k7c6) (by decide +kernel) rfl rfl rfl (by decide +kernel)
set_option maxRecDepth 65536 in
theorem w_c11 : (Jvm.Cond.code ({ cls := "java/lang/Long", name := "stringSize", desc := "(J)I" } : Jvm.MethodName) jdk_35_method_15_code (6 : Nat) (Option.some Jvm.ClassFile.FieldType.int)).before args0 about1 = true := code_word (m := ⟨15, 1⟩) (meth := k15m1) (c := k15c1) (by decide +kernel) rfl rfl rfl (by decide +kernel)
set_option maxRecDepth 65536 in
theorem w_c12 : (Jvm.Cond.code ({ cls := "java/lang/AbstractStringBuilder", name := "ensureCapacityInternal", desc := "(I)V" } : Jvm.MethodName) jdk_68_method_9_code (3 : Nat) (Option.none : Option Jvm.ClassFile.FieldType)).before args0 about1 = true := code_word (m := ⟨7, 3⟩) (meth := k7m3) (c := k7c3) (by decide +kernel) rfl rfl rfl (by decide +kernel)
set_option maxRecDepth 65536 in
theorem w_c13 : (Jvm.Cond.code ({ cls := "java/lang/AbstractStringBuilder", name := "isLatin1", desc := "()Z" } : Jvm.MethodName) jdk_68_method_68_code (1 : Nat) (Option.some Jvm.ClassFile.FieldType.boolean)).before args0 about1 = true := code_word (m := ⟨7, 8⟩) (meth := k7m8) (c := k7c8) (by decide +kernel) rfl rfl rfl (by decide +kernel)
set_option maxRecDepth 65536 in
theorem w_c14 : (Jvm.Cond.code ({ cls := "java/lang/Long", name := "getChars", desc := "(JI[B)I" } : Jvm.MethodName) jdk_35_method_14_code (11 : Nat) (Option.some Jvm.ClassFile.FieldType.int)).before args0 about1 = true := code_word (m := ⟨15, 0⟩) (meth := k15m0) (c := k15c0) (by decide +kernel) rfl rfl rfl (by decide +kernel)
set_option maxRecDepth 65536 in
theorem w_c15 : (Jvm.Cond.code ({ cls := "java/lang/StringBuilder", name := "append", desc := "(Ljava/lang/String;)Ljava/lang/StringBuilder;" } : Jvm.MethodName) jdk_67_method_7_code (2 : Nat) (Option.some (Jvm.ClassFile.FieldType.object "java/lang/StringBuilder"))).before args0 about1 = true := code_word (m := ⟨10, 1⟩) (meth := k10m1) (c := k10c1) (by decide +kernel) rfl rfl rfl (by decide +kernel)
set_option maxRecDepth 65536 in
theorem w_c16 : (Jvm.Cond.code ({ cls := "java/lang/AbstractStringBuilder", name := "append", desc := "(Ljava/lang/String;)Ljava/lang/AbstractStringBuilder;" } : Jvm.MethodName) jdk_68_method_22_code (3 : Nat) (Option.some (Jvm.ClassFile.FieldType.object "java/lang/AbstractStringBuilder"))).before args0 about1 = true := code_word (m := ⟨7, 5⟩) (meth := k7m5) (c := k7c5) (by decide +kernel) rfl rfl rfl (by decide +kernel)
set_option maxRecDepth 65536 in
theorem w_c17 : (Jvm.Cond.code ({ cls := "java/lang/String", name := "length", desc := "()I" } : Jvm.MethodName) jdk_42_method_54_code (1 : Nat) (Option.some Jvm.ClassFile.FieldType.int)).before args0 about1 = true := code_word (m := ⟨13, 2⟩) (meth := k13m2) (c := k13c2) (by decide +kernel) rfl rfl rfl (by decide +kernel)
set_option maxRecDepth 65536 in
theorem w_c18 : (Jvm.Cond.code ({ cls := "java/lang/String", name := "coder", desc := "()B" } : Jvm.MethodName) jdk_42_method_152_code (1 : Nat) (Option.some Jvm.ClassFile.FieldType.byte)).before args0 about1 = true := code_word (m := ⟨13, 6⟩) (meth := k13m6) (c := k13c6) (by decide +kernel) rfl rfl rfl (by decide +kernel)
set_option maxRecDepth 65536 in
theorem w_c19 : (Jvm.Cond.code ({ cls := "java/lang/AbstractStringBuilder", name := "putStringAt", desc := "(ILjava/lang/String;)V" } : Jvm.MethodName) jdk_68_method_73_code (3 : Nat) (Option.none : Option Jvm.ClassFile.FieldType)).before args0 about1 = true := code_word (m := ⟨7, 10⟩) (meth := k7m10) (c := k7c10) (by decide +kernel) rfl rfl rfl (by decide +kernel)
set_option maxRecDepth 65536 in
theorem w_c20 : (Jvm.Cond.code ({ cls := "java/lang/AbstractStringBuilder", name := "inflateIfNeededFor", desc := "(Ljava/lang/String;)V" } : Jvm.MethodName) jdk_68_method_71_code (2 : Nat) (Option.none : Option Jvm.ClassFile.FieldType)).before args0 about1 = true := code_word (m := ⟨7, 9⟩) (meth := k7m9) (c := k7c9) (by decide +kernel) rfl rfl rfl (by decide +kernel)
set_option maxRecDepth 65536 in
theorem w_c21 : (Jvm.Cond.code ({ cls := "java/lang/String", name := "getBytes", desc := "([BIB)V" } : Jvm.MethodName) jdk_42_method_147_code (4 : Nat) (Option.none : Option Jvm.ClassFile.FieldType)).before args0 about1 = true := code_word (m := ⟨13, 4⟩) (meth := k13m4) (c := k13c4) (by decide +kernel) rfl rfl rfl (by decide +kernel)
set_option maxRecDepth 65536 in
theorem w_c22 : (Jvm.Cond.code ({ cls := "java/lang/StringBuilder", name := "toString", desc := "()Ljava/lang/String;" } : Jvm.MethodName) jdk_67_method_42_code (1 : Nat) (Option.some (Jvm.ClassFile.FieldType.object "java/lang/String"))).before args0 about1 = true := code_word (m := ⟨10, 3⟩) (meth := k10m3) (c := k10c3) (by decide +kernel) rfl rfl rfl (by decide +kernel)
set_option maxRecDepth 65536 in
theorem w_c23 : (Jvm.Cond.code ({ cls := "java/lang/String", name := "<init>", desc := "(Ljava/lang/StringBuilder;)V" } : Jvm.MethodName) jdk_42_method_53_code (2 : Nat) (Option.none : Option Jvm.ClassFile.FieldType)).before args0 about1 = true := code_word (m := ⟨13, 1⟩) (meth := k13m1) (c := k13c1) (by decide +kernel) rfl rfl rfl (by decide +kernel)
set_option maxRecDepth 65536 in
theorem w_c24 : (Jvm.Cond.code ({ cls := "java/lang/String", name := "<init>", desc := "(Ljava/lang/AbstractStringBuilder;Ljava/lang/Void;)V" } : Jvm.MethodName) jdk_42_method_150_code (5 : Nat) (Option.none : Option Jvm.ClassFile.FieldType)).before args0 about1 = true := code_word (m := ⟨13, 5⟩) (meth := k13m5) (c := k13c5) (by decide +kernel) rfl rfl rfl (by decide +kernel)
set_option maxRecDepth 65536 in
theorem w_c25 : (Jvm.Cond.code ({ cls := "java/lang/AbstractStringBuilder", name := "getValue", desc := "()[B" } : Jvm.MethodName) jdk_68_method_64_code (1 : Nat) (Option.some (Jvm.ClassFile.FieldType.array Jvm.ClassFile.FieldType.byte))).before args0 about1 = true := code_word (m := ⟨7, 7⟩) (meth := k7m7) (c := k7c7) (by decide +kernel) rfl rfl rfl (by decide +kernel)
set_option maxRecDepth 65536 in
theorem w_c26 : (Jvm.Cond.code ({ cls := "java/lang/StringBuilder", name := "length", desc := "()I" } : Jvm.MethodName) jdk_67_method_93_code (1 : Nat) (Option.some Jvm.ClassFile.FieldType.int)).before args0 about1 = true := code_word (m := ⟨10, 4⟩) (meth := k10m4) (c := k10c4) (by decide +kernel) rfl rfl rfl (by decide +kernel)
set_option maxRecDepth 65536 in
theorem w_c27 : (Jvm.Cond.code ({ cls := "java/lang/AbstractStringBuilder", name := "length", desc := "()I" } : Jvm.MethodName) jdk_68_method_6_code (1 : Nat) (Option.some Jvm.ClassFile.FieldType.int)).before args0 about1 = true := code_word (m := ⟨7, 2⟩) (meth := k7m2) (c := k7c2) (by decide +kernel) rfl rfl rfl (by decide +kernel)
set_option maxRecDepth 65536 in
theorem w_c28 : (Jvm.Cond.code ({ cls := "java/util/Arrays", name := "copyOfRange", desc := "([BII)[B" } : Jvm.MethodName) jdk_65_method_132_code (3 : Nat) (Option.some (Jvm.ClassFile.FieldType.array Jvm.ClassFile.FieldType.byte))).before args0 about1 = true := code_word (m := ⟨18, 3⟩) (meth := k18m3) (c := k18c3) (by decide +kernel) rfl rfl rfl (by decide +kernel)
set_option maxRecDepth 65536 in
theorem w_c29 : (Jvm.Cond.code ({ cls := "java/util/Arrays", name := "copyOfRangeByte", desc := "([BII)[B" } : Jvm.MethodName) jdk_65_method_133_code (5 : Nat) (Option.some (Jvm.ClassFile.FieldType.array Jvm.ClassFile.FieldType.byte))).before args0 about1 = true := code_word (m := ⟨18, 4⟩) (meth := k18m4) (c := k18c4) (by decide +kernel) rfl rfl rfl (by decide +kernel)
set_option maxRecDepth 65536 in
theorem w_c30 : (Jvm.Cond.code ({ cls := "java/util/Arrays", name := "checkLength", desc := "(II)V" } : Jvm.MethodName) jdk_65_method_131_code (2 : Nat) (Option.none : Option Jvm.ClassFile.FieldType)).before args0 about1 = true := code_word (m := ⟨18, 2⟩) (meth := k18m2) (c := k18c2) (by decide +kernel) rfl rfl rfl (by decide +kernel)
set_option maxRecDepth 65536 in
theorem w_c31 : (Jvm.Cond.code ({ cls := "java/lang/Math", name := "min", desc := "(II)I" } : Jvm.MethodName) jdk_29_method_69_code (2 : Nat) (Option.some Jvm.ClassFile.FieldType.int)).before args0 about1 = true := code_word (m := ⟨2, 3⟩) (meth := k2m3) (c := k2c3) (by decide +kernel) rfl rfl rfl (by decide +kernel)
set_option maxRecDepth 65536 in
theorem w_c32 : (Jvm.Cond.code ({ cls := "com/example/uraniborg/uraniborg/model/PriorityRangeToStringPinLaw", name := "num", desc := "(Ljava/lang/String;IJ)I" } : Jvm.MethodName) method_4_code (8 : Nat) (Option.some Jvm.ClassFile.FieldType.int)).before args0 about1 = true := code_word (m := ⟨1, 3⟩) (meth := k1m3) (c := k1c3) (by decide +kernel) rfl rfl rfl (by decide +kernel)
set_option maxRecDepth 65536 in
theorem w_c33 : (Jvm.Cond.code ({ cls := "com/example/uraniborg/uraniborg/model/PriorityRangeToStringPinLaw", name := "dig", desc := "(Ljava/lang/String;IJJ)Z" } : Jvm.MethodName) method_3_code (8 : Nat) (Option.some Jvm.ClassFile.FieldType.boolean)).before args0 about1 = true := code_word (m := ⟨1, 2⟩) (meth := k1m2) (c := k1c2) (by decide +kernel) rfl rfl rfl (by decide +kernel)
set_option maxRecDepth 65536 in
theorem w_c34 : (Jvm.Cond.code ({ cls := "java/lang/String", name := "charAt", desc := "(I)C" } : Jvm.MethodName) jdk_42_method_56_code (2 : Nat) (Option.some Jvm.ClassFile.FieldType.char)).before args0 about1 = true := code_word (m := ⟨13, 3⟩) (meth := k13m3) (c := k13c3) (by decide +kernel) rfl rfl rfl (by decide +kernel)
set_option maxRecDepth 65536 in
theorem w_c35 : (Jvm.Cond.code ({ cls := "java/lang/String", name := "isLatin1", desc := "()Z" } : Jvm.MethodName) jdk_42_method_154_code (1 : Nat) (Option.some Jvm.ClassFile.FieldType.boolean)).before args0 about1 = true := code_word (m := ⟨13, 7⟩) (meth := k13m7) (c := k13c7) (by decide +kernel) rfl rfl rfl (by decide +kernel)
set_option maxRecDepth 65536 in
theorem w_c36 : (Jvm.Cond.code ({ cls := "java/lang/StringLatin1", name := "charAt", desc := "([BI)C" } : Jvm.MethodName) jdk_43_method_2_code (2 : Nat) (Option.some Jvm.ClassFile.FieldType.char)).before args0 about1 = true := code_word (m := ⟨19, 1⟩) (meth := k19m1) (c := k19c1) (by decide +kernel) rfl rfl rfl (by decide +kernel)
set_option maxRecDepth 65536 in
theorem w_c37 : (Jvm.Cond.code ({ cls := "java/lang/String", name := "checkIndex", desc := "(II)V" } : Jvm.MethodName) jdk_42_method_155_code (2 : Nat) (Option.none : Option Jvm.ClassFile.FieldType)).before args0 about1 = true := code_word (m := ⟨13, 8⟩) (meth := k13m8) (c := k13c8) (by decide +kernel) rfl rfl rfl (by decide +kernel)
set_option maxRecDepth 65536 in
theorem w_c38 : (Jvm.Cond.code ({ cls := "jdk/internal/util/Preconditions", name := "checkIndex", desc := "(IILjava/util/function/BiFunction;)I" } : Jvm.MethodName) jdk_41_method_11_code (3 : Nat) (Option.some Jvm.ClassFile.FieldType.int)).before args0 about1 = true := code_word (m := ⟨20, 1⟩) (meth := k20m1) (c := k20c1) (by decide +kernel) rfl rfl rfl (by decide +kernel)
set_option maxRecDepth 65536 in
theorem w_c39 : (Jvm.Cond.code ({ cls := "java/lang/AbstractStringBuilder", name := "newCapacity", desc := "(I)I" } : Jvm.MethodName) jdk_68_method_10_code (6 : Nat) (Option.some Jvm.ClassFile.FieldType.int)).before args0 about1 = true := code_word (m := ⟨7, 4⟩) (meth := k7m4) (c := k7c4) (by decide +kernel) rfl rfl rfl (by decide +kernel)
set_option maxRecDepth 65536 in
theorem w_c40 : (Jvm.Cond.code ({ cls := "jdk/internal/util/ArraysSupport", name := "newLength", desc := "(III)I" } : Jvm.MethodName) jdk_48_method_27_code (4 : Nat) (Option.some Jvm.ClassFile.FieldType.int)).before args0 about1 = true := code_word (m := ⟨21, 1⟩) (meth := k21m1) (c := k21c1) (by decide +kernel) rfl rfl rfl (by decide +kernel)
set_option maxRecDepth 65536 in
theorem w_c41 : (Jvm.Cond.code ({ cls := "java/lang/Math", name := "max", desc := "(II)I" } : Jvm.MethodName) jdk_29_method_65_code (2 : Nat) (Option.some Jvm.ClassFile.FieldType.int)).before args0 about1 = true := code_word (m := ⟨2, 1⟩) (meth := k2m1) (c := k2c1) (by decide +kernel) rfl rfl rfl (by decide +kernel)
set_option maxRecDepth 65536 in
theorem w_c42 : (Jvm.Cond.code ({ cls := "java/util/Arrays", name := "copyOf", desc := "([BI)[B" } : Jvm.MethodName) jdk_65_method_121_code (3 : Nat) (Option.some (Jvm.ClassFile.FieldType.array Jvm.ClassFile.FieldType.byte))).before args0 about1 = true := code_word (m := ⟨18, 1⟩) (meth := k18m1) (c := k18c1) (by decide +kernel) rfl rfl rfl (by decide +kernel)
def codes1 : List Jvm.Cond := [Jvm.Cond.code x code maxLocals ret, Jvm.Cond.code ({ cls := "java/lang/Math", name := "min", desc := "(JJ)J" } : Jvm.MethodName) jdk_29_method_70_code (4 : Nat) (Option.some Jvm.ClassFile.FieldType.long), Jvm.Cond.code ({ cls := "java/lang/Math", name := "max", desc := "(JJ)J" } : Jvm.MethodName) jdk_29_method_66_code (4 : Nat) (Option.some Jvm.ClassFile.FieldType.long), Jvm.Cond.code ({ cls := "com/example/uraniborg/uraniborg/model/PriorityRange", name := "<init>", desc := "(JJ)V" } : Jvm.MethodName) prog_12_method_1_code (5 : Nat) (Option.none : Option Jvm.ClassFile.FieldType), Jvm.Cond.code ({ cls := "java/lang/Record", name := "<init>", desc := "()V" } : Jvm.MethodName) jdk_30_method_1_code (1 : Nat) (Option.none : Option Jvm.ClassFile.FieldType), Jvm.Cond.code ({ cls := "java/lang/Object", name := "<init>", desc := "()V" } : Jvm.MethodName) object_method_1_code (1 : Nat) (Option.none : Option Jvm.ClassFile.FieldType), Jvm.Cond.code ({ cls := "com/example/uraniborg/uraniborg/model/PriorityRange", name := "toString", desc := "()Ljava/lang/String;" } : Jvm.MethodName) prog_12_method_2_code (1 : Nat) (Option.some (Jvm.ClassFile.FieldType.object "java/lang/String")), Jvm.Cond.code ({ cls := "java/lang/StringBuilder", name := "<init>", desc := "()V" } : Jvm.MethodName) jdk_67_method_1_code (1 : Nat) (Option.none : Option Jvm.ClassFile.FieldType), Jvm.Cond.code ({ cls := "java/lang/AbstractStringBuilder", name := "<init>", desc := "(I)V" } : Jvm.MethodName) jdk_68_method_2_code (2 : Nat) (Option.none : Option Jvm.ClassFile.FieldType), Jvm.Cond.code ({ cls := "java/lang/StringBuilder", name := "append", desc := "(J)Ljava/lang/StringBuilder;" } : Jvm.MethodName) jdk_67_method_16_code (3 : Nat) (Option.some (Jvm.ClassFile.FieldType.object "java/lang/StringBuilder")), Jvm.Cond.code ({ cls := "java/lang/AbstractStringBuilder", name := "append", desc := "(J)Ljava/lang/AbstractStringBuilder;" } : Jvm.MethodName) jdk_68_method_33_code (5 : Nat) (Option.some (Jvm.ClassFile.FieldType.object "java/lang/AbstractStringBuilder")), Jvm.Cond.code ({ cls := "java/lang/Long", name := "stringSize", desc := "(J)I" } : Jvm.MethodName) jdk_35_method_15_code (6 : Nat) (Option.some Jvm.ClassFile.FieldType.int), Jvm.Cond.code ({ cls := "java/lang/AbstractStringBuilder", name := "ensureCapacityInternal", desc := "(I)V" } : Jvm.MethodName) jdk_68_method_9_code (3 : Nat) (Option.none : Option Jvm.ClassFile.FieldType), Jvm.Cond.code ({ cls := "java/lang/AbstractStringBuilder", name := "isLatin1", desc := "()Z" } : Jvm.MethodName) jdk_68_method_68_code (1 : Nat) (Option.some Jvm.ClassFile.FieldType.boolean), Jvm.Cond.code ({ cls := "java/lang/Long", name := "getChars", desc := "(JI[B)I" } : Jvm.MethodName) jdk_35_method_14_code (11 : Nat) (Option.some Jvm.ClassFile.FieldType.int), Jvm.Cond.code ({ cls := "java/lang/StringBuilder", name := "append", desc := "(Ljava/lang/String;)Ljava/lang/StringBuilder;" } : Jvm.MethodName) jdk_67_method_7_code (2 : Nat) (Option.some (Jvm.ClassFile.FieldType.object "java/lang/StringBuilder")), Jvm.Cond.code ({ cls := "java/lang/AbstractStringBuilder", name := "append", desc := "(Ljava/lang/String;)Ljava/lang/AbstractStringBuilder;" } : Jvm.MethodName) jdk_68_method_22_code (3 : Nat) (Option.some (Jvm.ClassFile.FieldType.object "java/lang/AbstractStringBuilder")), Jvm.Cond.code ({ cls := "java/lang/String", name := "length", desc := "()I" } : Jvm.MethodName) jdk_42_method_54_code (1 : Nat) (Option.some Jvm.ClassFile.FieldType.int), Jvm.Cond.code ({ cls := "java/lang/String", name := "coder", desc := "()B" } : Jvm.MethodName) jdk_42_method_152_code (1 : Nat) (Option.some Jvm.ClassFile.FieldType.byte), Jvm.Cond.code ({ cls := "java/lang/AbstractStringBuilder", name := "putStringAt", desc := "(ILjava/lang/String;)V" } : Jvm.MethodName) jdk_68_method_73_code (3 : Nat) (Option.none : Option Jvm.ClassFile.FieldType), Jvm.Cond.code ({ cls := "java/lang/AbstractStringBuilder", name := "inflateIfNeededFor", desc := "(Ljava/lang/String;)V" } : Jvm.MethodName) jdk_68_method_71_code (2 : Nat) (Option.none : Option Jvm.ClassFile.FieldType), Jvm.Cond.code ({ cls := "java/lang/String", name := "getBytes", desc := "([BIB)V" } : Jvm.MethodName) jdk_42_method_147_code (4 : Nat) (Option.none : Option Jvm.ClassFile.FieldType), Jvm.Cond.code ({ cls := "java/lang/StringBuilder", name := "toString", desc := "()Ljava/lang/String;" } : Jvm.MethodName) jdk_67_method_42_code (1 : Nat) (Option.some (Jvm.ClassFile.FieldType.object "java/lang/String")), Jvm.Cond.code ({ cls := "java/lang/String", name := "<init>", desc := "(Ljava/lang/StringBuilder;)V" } : Jvm.MethodName) jdk_42_method_53_code (2 : Nat) (Option.none : Option Jvm.ClassFile.FieldType), Jvm.Cond.code ({ cls := "java/lang/String", name := "<init>", desc := "(Ljava/lang/AbstractStringBuilder;Ljava/lang/Void;)V" } : Jvm.MethodName) jdk_42_method_150_code (5 : Nat) (Option.none : Option Jvm.ClassFile.FieldType), Jvm.Cond.code ({ cls := "java/lang/AbstractStringBuilder", name := "getValue", desc := "()[B" } : Jvm.MethodName) jdk_68_method_64_code (1 : Nat) (Option.some (Jvm.ClassFile.FieldType.array Jvm.ClassFile.FieldType.byte)), Jvm.Cond.code ({ cls := "java/lang/StringBuilder", name := "length", desc := "()I" } : Jvm.MethodName) jdk_67_method_93_code (1 : Nat) (Option.some Jvm.ClassFile.FieldType.int), Jvm.Cond.code ({ cls := "java/lang/AbstractStringBuilder", name := "length", desc := "()I" } : Jvm.MethodName) jdk_68_method_6_code (1 : Nat) (Option.some Jvm.ClassFile.FieldType.int), Jvm.Cond.code ({ cls := "java/util/Arrays", name := "copyOfRange", desc := "([BII)[B" } : Jvm.MethodName) jdk_65_method_132_code (3 : Nat) (Option.some (Jvm.ClassFile.FieldType.array Jvm.ClassFile.FieldType.byte)), Jvm.Cond.code ({ cls := "java/util/Arrays", name := "copyOfRangeByte", desc := "([BII)[B" } : Jvm.MethodName) jdk_65_method_133_code (5 : Nat) (Option.some (Jvm.ClassFile.FieldType.array Jvm.ClassFile.FieldType.byte)), Jvm.Cond.code ({ cls := "java/util/Arrays", name := "checkLength", desc := "(II)V" } : Jvm.MethodName) jdk_65_method_131_code (2 : Nat) (Option.none : Option Jvm.ClassFile.FieldType), Jvm.Cond.code ({ cls := "java/lang/Math", name := "min", desc := "(II)I" } : Jvm.MethodName) jdk_29_method_69_code (2 : Nat) (Option.some Jvm.ClassFile.FieldType.int), Jvm.Cond.code ({ cls := "com/example/uraniborg/uraniborg/model/PriorityRangeToStringPinLaw", name := "num", desc := "(Ljava/lang/String;IJ)I" } : Jvm.MethodName) method_4_code (8 : Nat) (Option.some Jvm.ClassFile.FieldType.int), Jvm.Cond.code ({ cls := "com/example/uraniborg/uraniborg/model/PriorityRangeToStringPinLaw", name := "dig", desc := "(Ljava/lang/String;IJJ)Z" } : Jvm.MethodName) method_3_code (8 : Nat) (Option.some Jvm.ClassFile.FieldType.boolean), Jvm.Cond.code ({ cls := "java/lang/String", name := "charAt", desc := "(I)C" } : Jvm.MethodName) jdk_42_method_56_code (2 : Nat) (Option.some Jvm.ClassFile.FieldType.char), Jvm.Cond.code ({ cls := "java/lang/String", name := "isLatin1", desc := "()Z" } : Jvm.MethodName) jdk_42_method_154_code (1 : Nat) (Option.some Jvm.ClassFile.FieldType.boolean), Jvm.Cond.code ({ cls := "java/lang/StringLatin1", name := "charAt", desc := "([BI)C" } : Jvm.MethodName) jdk_43_method_2_code (2 : Nat) (Option.some Jvm.ClassFile.FieldType.char), Jvm.Cond.code ({ cls := "java/lang/String", name := "checkIndex", desc := "(II)V" } : Jvm.MethodName) jdk_42_method_155_code (2 : Nat) (Option.none : Option Jvm.ClassFile.FieldType), Jvm.Cond.code ({ cls := "jdk/internal/util/Preconditions", name := "checkIndex", desc := "(IILjava/util/function/BiFunction;)I" } : Jvm.MethodName) jdk_41_method_11_code (3 : Nat) (Option.some Jvm.ClassFile.FieldType.int), Jvm.Cond.code ({ cls := "java/lang/AbstractStringBuilder", name := "newCapacity", desc := "(I)I" } : Jvm.MethodName) jdk_68_method_10_code (6 : Nat) (Option.some Jvm.ClassFile.FieldType.int), Jvm.Cond.code ({ cls := "jdk/internal/util/ArraysSupport", name := "newLength", desc := "(III)I" } : Jvm.MethodName) jdk_48_method_27_code (4 : Nat) (Option.some Jvm.ClassFile.FieldType.int), Jvm.Cond.code ({ cls := "java/lang/Math", name := "max", desc := "(II)I" } : Jvm.MethodName) jdk_29_method_65_code (2 : Nat) (Option.some Jvm.ClassFile.FieldType.int), Jvm.Cond.code ({ cls := "java/util/Arrays", name := "copyOf", desc := "([BI)[B" } : Jvm.MethodName) jdk_65_method_121_code (3 : Nat) (Option.some (Jvm.ClassFile.FieldType.array Jvm.ClassFile.FieldType.byte))]
set_option maxRecDepth 65536 in
theorem codes_eq : words1.filter isCode = codes1 := rfl
theorem w_codes : ∀ c ∈ words1.filter isCode, c.before args0 about1 = true := by
  rw [codes_eq]
  intro c hc
  simp only [codes1, List.mem_cons, List.not_mem_nil, or_false] at hc
  rcases hc with rfl | rfl | rfl | rfl | rfl | rfl | rfl | rfl | rfl | rfl | rfl | rfl | rfl | rfl | rfl | rfl | rfl | rfl | rfl | rfl | rfl | rfl | rfl | rfl | rfl | rfl | rfl | rfl | rfl | rfl | rfl | rfl | rfl | rfl | rfl | rfl | rfl | rfl | rfl | rfl | rfl | rfl | rfl
  · exact w_c0
  · exact w_c1
  · exact w_c2
  · exact w_c3
  · exact w_c4
  · exact w_c5
  · exact w_c6
  · exact w_c7
  · exact w_c8
  · exact w_c9
  · exact w_c10
  · exact w_c11
  · exact w_c12
  · exact w_c13
  · exact w_c14
  · exact w_c15
  · exact w_c16
  · exact w_c17
  · exact w_c18
  · exact w_c19
  · exact w_c20
  · exact w_c21
  · exact w_c22
  · exact w_c23
  · exact w_c24
  · exact w_c25
  · exact w_c26
  · exact w_c27
  · exact w_c28
  · exact w_c29
  · exact w_c30
  · exact w_c31
  · exact w_c32
  · exact w_c33
  · exact w_c34
  · exact w_c35
  · exact w_c36
  · exact w_c37
  · exact w_c38
  · exact w_c39
  · exact w_c40
  · exact w_c41
  · exact w_c42
set_option maxRecDepth 65536 in
theorem w_t1 : (words1.take 24).all (fun c => isCode c || c.before args0 about1) = true := by decide +kernel
set_option maxRecDepth 65536 in
theorem w_t2 : ((words1.drop 24).take 24).all (fun c => isCode c || c.before args0 about1) = true := by decide +kernel
set_option maxRecDepth 65536 in
theorem w_t3 : (((words1.drop 24).drop 24).take 24).all (fun c => isCode c || c.before args0 about1) = true := by decide +kernel
set_option maxRecDepth 65536 in
theorem w_t4 : ((((words1.drop 24).drop 24).drop 24).take 24).all (fun c => isCode c || c.before args0 about1) = true := by decide +kernel
set_option maxRecDepth 65536 in
theorem w_t5 : (((((words1.drop 24).drop 24).drop 24).drop 24).take 24).all (fun c => isCode c || c.before args0 about1) = true := by decide +kernel
set_option maxRecDepth 65536 in
theorem w_t6 : ((((((words1.drop 24).drop 24).drop 24).drop 24).drop 24).take 24).all (fun c => isCode c || c.before args0 about1) = true := by decide +kernel
set_option maxRecDepth 65536 in
theorem w_t7 : (((((((words1.drop 24).drop 24).drop 24).drop 24).drop 24).drop 24).take 24).all (fun c => isCode c || c.before args0 about1) = true := by decide +kernel
set_option maxRecDepth 65536 in
theorem w_t8 : ((((((((words1.drop 24).drop 24).drop 24).drop 24).drop 24).drop 24).drop 24).take 24).all (fun c => isCode c || c.before args0 about1) = true := by decide +kernel
set_option maxRecDepth 65536 in
theorem w_t9 : (((((((((words1.drop 24).drop 24).drop 24).drop 24).drop 24).drop 24).drop 24).drop 24).take 24).all (fun c => isCode c || c.before args0 about1) = true := by decide +kernel
set_option maxRecDepth 65536 in
theorem w_t10 : ((((((((((words1.drop 24).drop 24).drop 24).drop 24).drop 24).drop 24).drop 24).drop 24).drop 24).take 24).all (fun c => isCode c || c.before args0 about1) = true := by decide +kernel
set_option maxRecDepth 65536 in
theorem w_t11 : (((((((((((words1.drop 24).drop 24).drop 24).drop 24).drop 24).drop 24).drop 24).drop 24).drop 24).drop 24).take 24).all (fun c => isCode c || c.before args0 about1) = true := by decide +kernel
set_option maxRecDepth 65536 in
theorem w_t12 : (((((((((((words1.drop 24).drop 24).drop 24).drop 24).drop 24).drop 24).drop 24).drop 24).drop 24).drop 24).drop 24).all (fun c => isCode c || c.before args0 about1) = true := by decide +kernel
theorem w_tables : (allAtoms (Jvm.Cond.code x code maxLocals ret :: tables_1)).before args0 about1 = true := by
  rw [allAtoms_all]
  show words1.all (fun c => c.before args0 about1) = true
  refine all_split ?_ w_codes
  rw [← List.take_append_drop 24 words1, List.all_append, w_t1, ← List.take_append_drop 24 (words1.drop 24), List.all_append, w_t2, ← List.take_append_drop 24 ((words1.drop 24).drop 24), List.all_append, w_t3, ← List.take_append_drop 24 (((words1.drop 24).drop 24).drop 24), List.all_append, w_t4, ← List.take_append_drop 24 ((((words1.drop 24).drop 24).drop 24).drop 24), List.all_append, w_t5, ← List.take_append_drop 24 (((((words1.drop 24).drop 24).drop 24).drop 24).drop 24), List.all_append, w_t6, ← List.take_append_drop 24 ((((((words1.drop 24).drop 24).drop 24).drop 24).drop 24).drop 24), List.all_append, w_t7, ← List.take_append_drop 24 (((((((words1.drop 24).drop 24).drop 24).drop 24).drop 24).drop 24).drop 24), List.all_append, w_t8, ← List.take_append_drop 24 ((((((((words1.drop 24).drop 24).drop 24).drop 24).drop 24).drop 24).drop 24).drop 24), List.all_append, w_t9, ← List.take_append_drop 24 (((((((((words1.drop 24).drop 24).drop 24).drop 24).drop 24).drop 24).drop 24).drop 24).drop 24), List.all_append, w_t10, ← List.take_append_drop 24 ((((((((((words1.drop 24).drop 24).drop 24).drop 24).drop 24).drop 24).drop 24).drop 24).drop 24).drop 24), List.all_append, w_t11, w_t12]
  rfl
set_option maxRecDepth 65536 in
theorem w_rest : rest_1_c.before args0 about1 = true := by decide +kernel
set_option maxRecDepth 65536 in
theorem w_case : (Jvm.Cond.and given_1 narrow_1).before args0 about1 = true := by decide +kernel
set_option maxRecDepth 65536 in
theorem w_consts : constsHeld consts_1 about1 := Jvm.Lit.constsHeldB_iff.mp (by decide +kernel)
theorem w_applies : (headSpec (Jvm.Cond.code x code maxLocals ret :: tables_1) room_1).applies x e0.platform about1 = true :=
  (Spec.applies_iff w_frames).mpr ⟨w_running, w_runnable, w_alone, w_named, w_hears, w_ripe, w_room, w_tables⟩
set_option maxRecDepth 65536 in
theorem atStart : AtStart classFile x code maxLocals ret World_1 tables_1 room_1 Calls_1 rest_1 Pre_1 launch0 p0 e0 about1 theMethod args0 below0 :=
  ⟨lists_1, trivial, launch0.admits_env _ _ _, launch0.least_env, fairChoices_fair.cas, fairChoices_fair.clock, w_frames, w_args, w_heap, w_applies, ⟨w_consts, trivial⟩, w_rest, w_case⟩
end start1
theorem witness_1 : WitnessClaimed_1 := ⟨start1.p0, start1.e0, start1.about1, start1.theMethod, start1.args0, start1.below0, start1.atStart⟩
end Jvm.Pilot.@@N@@
