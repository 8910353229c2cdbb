import JvmDerived
import JvmDerived.Pilot.@@N@@Statement
import JvmDerived.Pilot.@@N@@Code
set_option linter.unusedVariables false
set_option linter.unusedSimpArgs false
namespace Jvm.RoadKit
open Sem ClassFile Op Lib Jvm.Stand Jvm.Free Jvm.LawKit
section New
variable {p : Program} {l : Launch} {e : Env} {R : Room} {s : State} {m : MethodId} {args : Array Value} {below : List Frame} {meth : Method} {c : Code} {T : State} {locs : List Loc} {cells slots : Nat}
theorem retI (X : Stand p l e R s m args below meth c T locs cells slots) (hx : p.tables.exec = Jvm.exec) {pc : Nat} {Ls : Array Slot} {z : Int32} {rest : List Value} (hret : meth.sig.returnType = some .int) (hd : decode c.code pc = .ok (.ireturn, 1)) {fs : List Frame}
    (hl : ∀ (f : JFrame) (acts : List Action), f.method = m → f.locked = none → f.entered = [] → (doReturn e (T.setTop f) acts (some (.int z))).1 = T.setFrames fs) : Steps p.tables e below (T.setTop (mkF m pc Ls (.int z :: rest))) (T.setFrames fs) := by
  have hm' : T.vm.method? m = some meth := X.method'
  have hn : narrow .int (.int z) = .int z := rfl
  show Steps p.tables e below (T.setTop { method := m, pc := pc, locals := Ls, stack := _ :: rest, locked := none }) _
  jvm_step X.here [X.here.top, hx, hd, hm', hret, hn]
  first | (intro acts; rw [hl _ acts rfl rfl rfl]) | rw [hl _ _ rfl rfl rfl]
  exact Steps.refl _
theorem retJ (X : Stand p l e R s m args below meth c T locs cells slots) (hx : p.tables.exec = Jvm.exec) {pc : Nat} {Ls : Array Slot} {z : Int64} {rest : List Value} (hret : meth.sig.returnType = some .long) (hd : decode c.code pc = .ok (.lreturn, 1)) {fs : List Frame}
    (hl : ∀ (f : JFrame) (acts : List Action), f.method = m → f.locked = none → f.entered = [] → (doReturn e (T.setTop f) acts (some (.long z))).1 = T.setFrames fs) : Steps p.tables e below (T.setTop (mkF m pc Ls (.long z :: rest))) (T.setFrames fs) := by
  have hm' : T.vm.method? m = some meth := X.method'
  have hn : narrow .long (.long z) = .long z := rfl
  show Steps p.tables e below (T.setTop { method := m, pc := pc, locals := Ls, stack := _ :: rest, locked := none }) _
  jvm_step X.here [X.here.top, hx, hd, hm', hret, hn]
  first | (intro acts; rw [hl _ acts rfl rfl rfl]) | rw [hl _ _ rfl rfl rfl]
  exact Steps.refl _
/-- from S the run comes to an end of which P holds -/
def Goes (p : Program) (e : Env) (below : List Frame) (P : State → Outcome → Prop) (S : State) : Prop := ∃ t o, Steps p.tables e below S t ∧ t.status = .running ∧ Ended t below o ∧ P t o
theorem Goes.step {P : State → Outcome → Prop} {S S' : State} (h : ∀ t, Steps p.tables e below S' t → Steps p.tables e below S t) (k : Goes p e below P S') : Goes p e below P S := by
  obtain ⟨t, o, h1, h2⟩ := k
  exact ⟨t, o, h t h1, h2⟩
/-- what a contract says of its end -/
def Pq (Q : Option Value → Heap → List Loc → Prop) (s : State) (kc ks : Nat) (t : State) (o : Outcome) : Prop := ∃ v L, o = .returned v ∧ Q v t.heap L ∧ FrameEnd s o t L kc ks
theorem Goes.leave {Q : Option Value → Heap → List Loc → Prop} {kc ks : Nat} {g : JFrame} {v : Option Value} {h : Heap} (X : Stand p l e R s m args below meth c T locs cells slots) (hlk : meth.locks = false) (hv : meth.sig.returnType = none → v = none)
    (st : ∀ fs, (∀ (f : JFrame) (acts : List Action), f.method = m → f.locked = none → f.entered = [] → (doReturn e (T.setTop f) acts v).1 = T.setFrames fs) → Steps p.tables e below (T.setTop g) (T.setFrames fs))
    (eT : T.heap = h) (hQ : Q v h locs) (hc : cells ≤ kc) (hs : slots ≤ ks) : Goes p e below (Pq Q s kc ks) (T.setTop g) := by
  obtain ⟨fs, hr, hrun, hended, hW, hsame⟩ := X.leave (v := v) hv hlk
  exact ⟨_, _, st fs hr, hrun, hended, v, locs, rfl, eT ▸ hQ, ⟨_, rfl⟩, hW, hsame.mono hc hs⟩
theorem own_eqI {args : Array Value} {first s : State} {o : Option Outcome} {idx : List Nat} {t : Term} {k : Int32} (h : (Cond.eq t (.int k)).value args first o s idx = some true) : t.eval args first o idx s = some (.int k) := by
  simp only [Cond.value, Term.eval] at h
  cases ht : t.eval args first o idx s with
  | none => simp [ht] at h
  | some x => cases x <;> simp [ht] at h ⊢; exact h
theorem own_stakeep {Z : State} {h h' : Heap} {ws : List Addr} {C n d : String} {w : Value} (F : Sta Z h C n d w) (K : Keep h h' ws) (q : ∀ x ∈ ws, ∀ cell : Cell, h[x]? = some cell → cell.vm.isStatics = false) : Sta Z h' C n d w := by
  obtain ⟨cf, i, k, f, st, cell, h1, h2, h3, h4, h5, h6, h7⟩ := F
  exact ⟨cf, i, k, f, st, cell, h1, h2, h3, h4, K.2.1 st cell h5 (fun hm => by rw [q st hm cell h5] at h6; cases h6), h6, h7⟩
theorem own_selP {s : State} {args : Array Value} {y : MethodName} {k : Nat} (w1 : (Cond.instanceMethod y).before args s = true) (w2 : (Cond.privateMethod y).before args s = true) (w3 : (Cond.instantiable y.cls k).before args s = true)
    (hy : y.cls ≠ "java/lang/invoke/MethodHandle" ∧ y.cls ≠ "java/lang/invoke/VarHandle") : (Cond.selects y.cls y y).before args s = true := by
  obtain ⟨mk, meth, hn, hm, -, -⟩ := Cond.instanceMethod_spec w1
  have hp := Cond.privateMethod_at w2 mk meth hn hm
  have hf := State.methodFound?_of_named hn hy
  have hc := findClass_of_methodNamed hn
  obtain ⟨c2, k2, i1, i2, -, i4, -⟩ := Cond.instantiable_spec w3
  cases hc.symm.trans i1
  simp only [Bool.or_eq_false_iff] at i4
  simp [Cond.before, Cond.holds, Cond.value, hc, hf, hn, selectMethod_private hm hp, i2, i4.1]
theorem own_neVV {Z : State} {h : Heap} {a b : Addr} {k1 k2 : ClassId} {t1 t2 : FieldType} {z1 z2 : Int32} {v1 v2 : List Value} {d1 d2 : Value} (A : Arv Z h a k1 t1 z1 v1 d1) (B : Arv Z h b k2 t2 z2 v2 d2) (q : t1 ≠ t2) : a ≠ b := fun e => by
  subst e
  obtain ⟨c1, A1, -⟩ := A
  obtain ⟨c2, B1, -⟩ := B
  cases A1.1.symm.trans B1.1
  obtain ⟨-, k, g1, comp, g2⟩ := A1.2.1
  obtain ⟨-, k', g1', comp', g2'⟩ := B1.2.1
  cases g1.symm.trans g1'
  rw [g2] at g2'
  cases g2'
  exact q rfl
end New
end Jvm.RoadKit
namespace Jvm.RoadKit
open Sem ClassFile Op Lib Jvm.Stand Jvm.Free Jvm.LawKit
section NewS
variable {p : Program} {l : Launch} {e : Env} {R : Room} {s : State} {m : MethodId} {args : Array Value} {below : List Frame} {meth : Method} {c : Code} {T : State} {locs : List Loc} {cells slots : Nat} {Z : State} {a0 : Array Value} {h : Heap}
/-- what a contract says of its end, where it may intern -/
def Pw (Q : Option Value → Heap → List Loc → Prop) (s : State) (kc ks : Nat) (t : State) (o : Outcome) : Prop := ∃ v L, o = .returned v ∧ Q v t.heap L ∧ ReturnedEndW s o t L kc ks
theorem Goes.leaveW {Q : Option Value → Heap → List Loc → Prop} {kc ks : Nat} {g : JFrame} {v : Option Value} {h : Heap} {vm₁ : Vm} (X : Stand p l e R (s.setVm vm₁) m args below meth c T locs cells slots) {k0 : Nat} (hS : s.Since vm₁ k0) (hk : k0 ≤ h.size) (hlk : meth.locks = false) (hv : meth.sig.returnType = none → v = none)
    (st : ∀ fs, (∀ (f : JFrame) (acts : List Action), f.method = m → f.locked = none → f.entered = [] → (doReturn e (T.setTop f) acts v).1 = T.setFrames fs) → Steps p.tables e below (T.setTop g) (T.setFrames fs))
    (eT : T.heap = h) (hQ : Q v h locs) (hc : cells ≤ kc) (hs : slots ≤ ks) : Goes p e below (Pw Q s kc ks) (T.setTop g) := by
  subst eT
  obtain ⟨fs, hr, hrun, hended, h1, h2, h3, h4⟩ := X.leaveW hS hk (v := v) hv hlk
  exact ⟨_, _, st fs hr, hrun, hended, v, locs, rfl, hQ, h1, h2, h3, h4.mono hc hs⟩
theorem own_fold {vm₁ vm₂ : Vm} (X : Stand p l e R ((s.setVm vm₁).setVm vm₂) m args below meth c T locs cells slots) : Stand p l e R (s.setVm vm₂) m args below meth c T locs cells slots := X
theorem own_since {own : String} {vm : Vm} {k : Nat} {cid : ClassId} (hZ0 : Z.Warmed39 s.vm) (ho : s.vm.findClass own = some cid) (hS : s.Since vm k) : Z.Warmed39 (s.setVm vm).vm ∧ (s.setVm vm).vm.findClass own = some cid :=
  ⟨State.Warmed39.trans (t := s) hZ0 hS.1, by rw [show (s.setVm vm).vm = vm from rfl, hS.1.alike.findClass]; exact ho⟩
theorem own_s0 (s : State) (k : Nat) : s.Since s.vm k := State.WarmedH.since (State.WarmedH.refl s) k
theorem own_neI {args : Array Value} {first s : State} {o : Option Outcome} {idx : List Nat} {t : Term} {k x : Int32} (h : (Cond.not (Cond.eq t (.int k))).value args first o s idx = some true) (e : t.eval args first o idx s = some (.int x)) : ¬ x = k := by
  intro z; subst z; simp only [Cond.value, e, Term.eval] at h; simp at h
def own_lv : Cond → List Cond
  | .and a b => own_lv a ++ own_lv b
  | .tt => []
  | c => [c]
theorem own_of_lv {args : Array Value} {s : State} (c : Cond) (h : ∀ w ∈ own_lv c, w.before args s = true) : c.before args s = true := by
  induction c with
  | and a b iha ihb => rw [Cond.before_and, Bool.and_eq_true]; exact ⟨iha fun w hw => h w (List.mem_append_left _ hw), ihb fun w hw => h w (List.mem_append_right _ hw)⟩
  | tt => rfl
  | _ => exact h _ (List.mem_singleton.mpr rfl)
end NewS
end Jvm.RoadKit
@@BLOCK:TracedD.lean.txt@@
namespace Jvm.RoadKit
open Sem ClassFile Op Lib Jvm.Stand Jvm.Free Jvm.LawKit Bundle Jvm.Free.Exc Jvm.Free.Str
section OwnThr
variable {p : Program} {l : Launch} {e : Env} {R : Room} {s : State} {m : MethodId} {args : Array Value} {below : List Frame} {meth : Method} {c : Code} {T : State} {locs : List Loc} {cells slots : Nat} {Z : State} {a0 : Array Value} {h : Heap}
/-- the words on Throwable, and on the exception rc, of which the filling in of a stack trace is told here (no word on how Throwable itself lays its fields) -/
def own_ta (rc : String) : List Cond := [
  .initialized tN, .superclass tN "java/lang/Object", .instanceMethod tFill, .codeSync tFill LibCode.Throwable.Fill.code 1 (some (.object tN)), .instanceMethod tFill0, .native tFill0,
  .instanceMethod oInit, .code oInit ⟨#[0xb1]⟩ 1 none, .methodLink tN 1 oInit, .methodLink tN 27 tFill, .methodLink tN 202 tFill0,
  .fieldLink tN 7 tN "cause" thD, .fieldLink tN 17 tN "stackTrace" steD, .fieldLink tN 24 tN "suppressedExceptions" listD, .fieldLink tN 198 tN "backtrace" obD,
  .fieldLink tN 13 tN "UNASSIGNED_STACK" steD, .laysStatic tN "UNASSIGNED_STACK" steD, .fieldLink tN 20 tN "SUPPRESSED_SENTINEL" listD, .laysStatic tN "SUPPRESSED_SENTINEL" listD,
  .lays rc tN "cause" thD, .lays rc tN "stackTrace" steD, .lays rc tN "suppressedExceptions" listD, .lays rc tN "detailMessage" msgD, .lays rc tN "backtrace" obD, .lays rc tN "depth" "I",
  .selects rc tFill0 tFill0, .soleField tN "backtrace", .soleField tN "depth", .arrayOver (.object "java/lang/Object")]
/-- what a method's descriptor says of its parameters -/
theorem own_par {d : String} {sg sg' : MethodDescriptor} (h : parseMethodDescriptor d = some sg') (k : parseMethodDescriptor d = some sg) : sg'.parameters = sg.parameters := by
  rw [h] at k; cases k; rfl
theorem own_thr {pl : Platform} (howns : pl.frameOwnsMonitors = true) (hfin : pl.finalization = false) (hpl : pl.magicAccessors = ({} : Platform).magicAccessors) {rc : String} (w : ∀ d ∈ own_ta rc, d.before args s = true) :
    ∃ T : ThrowableC, T.Links pl s ∧ s.vm.findClass tN = some T.cT ∧ s.methodNamed? tFill = some T.fill ∧ s.methodNamed? tFill0 = some T.fill0 ∧
      s.fieldFound? tN "stackTrace" steD = some (T.cT, T.kT, T.i17, T.fStack) ∧ s.fieldFound? tN "UNASSIGNED_STACK" steD = some (T.cT, T.kT, T.i13, T.fUnassigned) ∧
      T.fStack.name = "stackTrace" ∧ T.fStack.type = .array (.object "java/lang/StackTraceElement") ∧ ∃ cell, s.heap[T.aS]? = some cell ∧ cell.vm.isStatics = true := by
  have g : ∀ (i : Nat) (d : Cond), (own_ta rc)[i]? = some d → d.holds args s none s [] = true := fun i d q => w d (List.mem_of_getElem? q)
  -- Throwable itself
  obtain ⟨⟨cT, j0⟩, mN, fN, gN, nat1, nat2, nat3, sgN⟩ := Cond.native_spec (g 5 _ rfl)
  have fT : s.vm.findClass tN = some cT := findClass_of_methodNamed fN
  obtain ⟨kT, kq, kn⟩ := Vm.findClass_spec fT
  obtain ⟨_, kT', _, _, kq', _, _, _, _, nif⟩ := Cond.superclass_spec fT (g 1 _ rfl)
  cases kq.symm.trans kq'
  -- its two methods
  obtain ⟨jF, mF, fF, gF, aF, sF, bF, -, -⟩ := Cond.ownMethod (x := tFill) fT kq (g 2 _ rfl)
  obtain ⟨_, cF, gF', yF1, yF2, yF3, yF4, yF5, -, sgF⟩ := Cond.codeSync_spec fF (g 3 _ rfl)
  cases gF.symm.trans gF'
  obtain ⟨_, _, fN', gN', aN, sN, bN, nmN, dsN⟩ := Cond.ownMethod (x := tFill0) fT kq (g 4 _ rfl)
  cases fN.symm.trans fN'
  cases gN.symm.trans gN'
  -- Object's constructor
  obtain ⟨mo, mO, fO, gO, sO, bO⟩ := Cond.instanceMethod_spec (g 6 _ rfl)
  obtain ⟨_, cO, gO', yO1, yO2, -, -, yO5, -, sgO⟩ := Cond.code_spec fO (g 7 _ rfl)
  cases gO.symm.trans gO'
  obtain ⟨kO, kqO, knO⟩ := Vm.findClass_spec (findClass_of_methodNamed fO)
  obtain ⟨nmO, dsO⟩ := name_of_methodNamed fO gO
  -- the links
  obtain ⟨x1, y1, cf, l1, r1, cfq, p1⟩ := Cond.linkedMethod fT kq fO (g 8 _ rfl) pl hpl
  obtain ⟨x2, y2, _, l2, r2, cfq2, p2⟩ := Cond.linkedMethod fT kq fF (g 9 _ rfl) pl hpl
  obtain ⟨x3, y3, _, l3, r3, cfq3, p3⟩ := Cond.linkedMethod fT kq fN (g 10 _ rfl) pl hpl
  cases cfq.symm.trans cfq2
  cases cfq.symm.trans cfq3
  obtain ⟨u1, i1, f1, v1, z1, t1, o1, d1, -, -, -⟩ := Cond.ownField (t := .object tN) fT kq (by decide +kernel) (g 11 _ rfl) (g 19 _ rfl) pl hpl
  obtain ⟨u2, i2, f2, v2, z2, t2, o2, d2, n2, ty2, ff2⟩ := Cond.ownField (t := .array (.object "java/lang/StackTraceElement")) fT kq (by decide +kernel) (g 12 _ rfl) (g 20 _ rfl) pl hpl
  obtain ⟨u3, i3, f3, v3, z3, t3, o3, d3, n3, -, ff3⟩ := Cond.ownField (t := .object "java/util/List") fT kq (by decide +kernel) (g 13 _ rfl) (g 21 _ rfl) pl hpl
  obtain ⟨u4, i4, f4, aS, cS, v4, z4, t4, o4, -, -, sta, hcS, isS, -, -, ff4⟩ := Cond.ownStatic (t := .array (.object "java/lang/StackTraceElement")) fT kq (by decide +kernel) (g 15 _ rfl) (g 16 _ rfl) pl hpl
  obtain ⟨u5, i5, f5, _, _, v5, z5, t5, o5, -⟩ := Cond.ownStatic (t := .object "java/util/List") fT kq (by decide +kernel) (g 17 _ rfl) (g 18 _ rfl) pl hpl
  obtain ⟨_, _, _, _, _, f6, _, _, _, o6, d6, _⟩ := Cond.lays_spec (g 22 _ rfl)
  have ne23 : f2.slot ≠ f3.slot := Cond.lays_apart (g 20 _ rfl) (g 21 _ rfl) ff2 ff3 (by rw [n2, n3]; decide)
  let T : ThrowableC := { cT := cT, kT := kT, cO := cT, aS := aS, fillIdx := jF, fill0Idx := j0, initSIdx := jF, obj := mo, kObj := kO, methFill := mF, methFill0 := mN, methInitS := mF, methObj := mO, codeFill := cF, codeInitS := cF, codeObj := cO, fBack := f1, fDepth := f1, fStack := f2, fCause := f1, fSupp := f3, fMsg := f6, fUnassigned := f4, fSentinel := f5, cfT := cf, ci1 := x1, n1 := y1, ci27 := x2, n27 := y2, ci202 := x3, n202 := y3, ci7 := u1, i7 := i1, ci13 := u4, i13 := i4, ci17 := u2, i17 := i2, ci20 := u5, i20 := i5, ci24 := u3, i24 := i3 }
  refine ⟨T, ?_, fT, fF, fN, ff2, ff4, n2, ty2, cS, hcS, isS⟩
  constructor
  case owns => exact howns
  case noFinalization => exact hfin
  case cls => exact kq
  case name => exact kn
  case boot => exact Vm.findClass_boot fT kq
  case notInterface => exact nif
  case initialized => exact Cond.initialized_spec fT kq (g 0 _ rfl)
  case fillParams => exact own_par (sg := ⟨[], some (.object tN)⟩) sgF (by decide +kernel)
  case fill0Params => exact own_par (sg := ⟨[.int], some (.object tN)⟩) sgN (by decide +kernel)
  case objParams => exact congrArg List.length (own_par (sg := ⟨[], none⟩) sgO (by decide +kernel))
  case objFound => show lookupSpecial s.vm mo.cls "<init>" mO.desc = .method mo; rw [dsO]; exact lookupSpecial_of_named fO gO sO
  all_goals assumption
/-- what a heap keeps where a cell is laid behind it and one of its cells is written -/
theorem own_keepFill {h : Heap} {a : Addr} {cl cl' x : Cell} (q : h[a]? = some cl) (q1 : cl'.cls = cl.cls) (q2 : cl'.vm = cl.vm) (q3 : cl'.slots.size = cl.slots.size) :
    ((h.push x).setIfInBounds a cl')[a]? = some cl' ∧ Keep h ((h.push x).setIfInBounds a cl') [a] := by
  have lt : a < h.size := (Array.getElem?_eq_some_iff.mp q).1
  have at_ : ((h.push x).setIfInBounds a cl')[a]? = some cl' := by
    rw [Array.getElem?_setIfInBounds]; simp [Nat.lt_succ_of_lt lt]
  have off : ∀ (y : Addr) (cy : Cell), h[y]? = some cy → y ≠ a → ((h.push x).setIfInBounds a cl')[y]? = some cy := fun y cy hy ne => by
    have ly : y < h.size := (Array.getElem?_eq_some_iff.mp hy).1
    rw [Array.getElem?_setIfInBounds_ne (Ne.symm ne), Array.getElem?_push_lt ly, ← hy, Array.getElem?_eq_getElem ly]
  refine ⟨at_, by simp, fun y cy hy hn => off y cy hy (fun z => hn (by rw [z]; exact List.mem_singleton.mpr rfl)), fun y cy hy => ?_⟩
  by_cases z : y = a
  · subst z; cases q.symm.trans hy; exact ⟨cl', at_, q1, q2, q3⟩
  · exact ⟨cy, off y cy hy z, rfl, rfl, rfl⟩
set_option maxHeartbeats 4000000 in
/-- Throwable.fillInStackTrace() on an exception rc that the walk made, in the walk's facts -/
theorem own_fill (X : Stand p l e R s m args below meth c T locs cells slots) (hx : p.tables.exec = Jvm.exec) (hl : l.stackTraces = true) (hZ : Z.Warmed39 s.vm) {rc : String} (w : ∀ d ∈ own_ta rc, d.before a0 Z = true) {k : Nat} (wi : (Cond.instantiable rc k).before a0 Z = true)
    (hT0 : ThS Z s.heap) (hTK : s.vm.MethodsKnown) (hBl : s.vm.FramesKnown below) {n0 : Nat} {a u : Addr} (hn : n0 ≤ a) (TH : ThS Z h) (E : Exa Z h a rc) (N : Unt h a) (B : Fld Z h a tN "backtrace" obD .null) (M : Fld Z h a tN "detailMessage" msgD .null) (F : Fld Z h a tN "stackTrace" steD (.ref u)) (SU : Sta Z h tN "UNASSIGNED_STACK" steD (.ref u))
    {len W : Nat} (hf : 2 < R.frames) (hlo : W + 42 ≤ R.locals) :
    Back l R p e below s args tFill len W (fun A as => as = #[.ref a] ∧ A.U.heap = h ∧ A.cells + 1 ≤ R.cells ∧ A.slots + 2752 ≤ R.slots)
      (fun A _ v B => ∃ L, (v = some (.ref a) ∧ Fr n0 L ∧ Keep h B.U.heap [a] ∧ Exa Z B.U.heap a rc ∧ Unt B.U.heap a ∧ ThS Z B.U.heap ∧ Fld Z B.U.heap a tN "detailMessage" msgD .null) ∧ B.locs = A.locs ++ L ∧ B.cells = A.cells + 1 ∧ B.slots = A.slots + 2752) := by
  have Ws : ∀ d ∈ own_ta rc, d.before args s = true := fun d hd => mvX hT0 hZ (List.all_eq_true.mp (show (own_ta rc).all xOk = true from rfl) d hd) (w d hd)
  have g : ∀ (i : Nat) (d : Cond), (own_ta rc)[i]? = some d → d.holds args s none s [] = true := fun i d q => Ws d (List.mem_of_getElem? q)
  have hpl : e.platform.magicAccessors = ({} : Platform).magicAccessors := by rw [X.admits.platform]
  obtain ⟨Th, LK, fT, fF, fN, ff2, ff4, nm2, ty2, cS, hcS, isS⟩ := own_thr (pl := e.platform) (by rw [X.admits.platform]) (by rw [X.admits.platform]) hpl Ws
  -- the receiver's cell and its class
  obtain ⟨cl, kc, e1, e2, e3, e4, e5⟩ := E
  obtain ⟨_, n1, n2, n3⟩ := N
  cases e1.symm.trans n1
  obtain ⟨_, _, j1, j2, j3, -⟩ := Cond.instantiable_spec wi
  cases e2.symm.trans j1
  cases e3.symm.trans j2
  have hfnd : s.vm.findClass rc = some cl.cls := by rw [hZ.alike.findClass]; exact e2
  obtain ⟨kX, hkX, hek⟩ := hZ.alike.2.2 _ _ e3
  have hord : kX.kind = .ordinary := by rw [hek]; exact j3
  have hsz : cl.slots.size = kX.instanceTypes.size := by rw [hek]; exact e5 j3
  -- its fields
  obtain ⟨ub, ib, fB, vb, zb, tb, ob, -, nb, tyb, ffB⟩ := Cond.ownField (t := .object "java/lang/Object") fT LK.cls (by decide +kernel) (g 14 _ rfl) (g 23 _ rfl) e.platform hpl
  obtain ⟨_, _, cD, kD, iD, fD, -, -, ffD, od, -⟩ := Cond.lays_spec (g 24 _ rfl)
  cases (Cond.lays_declared (g 24 _ rfl) ffD).symm.trans fT
  obtain ⟨kqD, tD⟩ := State.fieldFound?_spec ffD
  cases kqD.symm.trans LK.cls
  obtain ⟨nD, tyD⟩ := State.fieldFound?_type ffD (t := .int) (by decide +kernel)
  have hfb := Cond.soleField_find fT LK.cls (g 26 _ rfl) tb nb ob
  have hfd := Cond.soleField_find fT LK.cls (g 27 _ rfl) tD nD od
  obtain ⟨comp, cO, kO, -, -, hkO, hkindO, hO⟩ := Cond.arrayOver_spec (Ws _ (List.mem_of_getElem? (i := 28) rfl))
  obtain ⟨tS, dS, qS, qS'⟩ := Cond.laysAt hfnd hkX ff2 (g 20 _ rfl)
  obtain ⟨tB, dB, qB, qB'⟩ := Cond.laysAt hfnd hkX ffB (g 23 _ rfl)
  obtain ⟨tDp, dD, qD, qD'⟩ := Cond.laysAt hfnd hkX ffD (g 24 _ rfl)
  have tk : ∀ {f : Field} {v : Value}, kX.instanceTypes[f.slot]? = some f.type → fits f.type v = true → Jvm.Takes s cl f v := fun {f v} h1 h2 => by
    obtain ⟨q1, q2⟩ := Takes.of_laid (v := v) hkX hord h1 h2
    exact ⟨by rw [hsz]; simpa using q1, by rw [n2]; exact q2⟩
  -- what its fields hold
  obtain ⟨_, _, _, _, fb', b1, b2, -, -, -, -, b7⟩ := B
  cases e1.symm.trans b1
  obtain ⟨_, b2', -⟩ := State.fieldFound?_setVm hZ.alike b2
  cases (show s.fieldFound? tN "backtrace" obD = _ from b2').symm.trans ffB
  obtain ⟨_, _, _, _, fs', c1, c2, -, -, -, -, c7⟩ := F
  cases e1.symm.trans c1
  obtain ⟨_, c2', -⟩ := State.fieldFound?_setVm hZ.alike c2
  cases (show s.fieldFound? tN "stackTrace" steD = _ from c2').symm.trans ff2
  obtain ⟨_, cf, kf, iM, fM, m1, m2, m3, m4, m5, m6, m7⟩ := M
  cases e1.symm.trans m1
  obtain ⟨_, m2', -⟩ := State.fieldFound?_setVm hZ.alike m2
  have ffM : s.fieldFound? tN "detailMessage" msgD = _ := m2'
  have nM := (State.fieldFound?_type ffM (t := .object "java/lang/String") (by decide +kernel)).1
  obtain ⟨tM, dM, qM, qM'⟩ := Cond.laysAt hfnd hkX ffM (g 22 _ rfl)
  have mB := Cond.laysApart qM qB qM' qB' (by rw [nM, nb]; decide)
  have mD := Cond.laysApart qM qD qM' qD' (by rw [nM, nD]; decide)
  have mS := Cond.laysApart qM qS qM' qS' (by rw [nM, nm2]; decide)
  -- Throwable's statics
  obtain ⟨_, _, _, fu', st, cst, s1, s2, -, s4, s5, s6, s7⟩ := SU
  obtain ⟨kU, s1', hekU⟩ := State.fieldFound?_setVm hZ.alike s1
  cases (show s.fieldFound? tN "UNASSIGNED_STACK" steD = _ from s1').symm.trans ff4
  have hst : st = Th.aS := by
    have q := LK.statics
    rw [hekU] at q
    exact Option.some.inj (s4.symm.trans q)
  subst hst
  have hneS : Th.aS ≠ a := fun z => by
    rw [z, e1] at s5; cases s5; rw [n2] at s6; cases s6
  have hsel0 : selectMethod e.platform s.vm cl.cls Th.fill0 = .method Th.fill0 := by
    obtain ⟨_, _, _, q1, q2, q3, q4, -⟩ := Cond.selects_spec (g 25 _ rfl)
    cases q1.symm.trans hfnd
    cases q2.symm.trans (State.methodFound?_of_named fN (by decide))
    cases q3.symm.trans fN
    rw [Launch.admits_selectMethod X.admits]; exact q4
  have K := fillPays (l := l) (R := R) (p := p) (e := e) (below := below) (s := s) (sargs := args) (len := len) (W := W) hx (by rw [X.admits.platform]; exact hl) Th LK fF (u0 := ⟨.ref u, rfl⟩) (by show Value.ref u ≠ .null; simp) (self := a) (cell := cl) (cellS := cst)
    (fun _ => by rw [n2]; simp) (by rw [n2]; simp) (by rw [n3]) (by rw [n3]) c7 hsel0 hneS (by intro z; rw [z] at s6; cases s6) s7 (tk tS (by rw [ty2]; rfl))
    ⟨{ ci198 := ub, i198 := ib, fBack := fB }, ⟨vb, zb, tb, ob⟩, b7⟩ hTK hBl fT hO hkO hkindO hfb hfd (fun x => tk tB (by rw [tyb]; rfl)) (fun x => tk tDp (by rw [tyD]; rfl)) hf hlo
  intro m' meth' c' A fr ig mk as X' hg hsize hdg hWd hmk hPre
  obtain ⟨has, hA, hce, hsl⟩ := hPre
  obtain ⟨v, Bp, Y, ⟨hv, vm', lines, hli, hW, hU, hLo, hcB, hsB⟩, stp⟩ := K m' meth' c' A fr ig mk as X' hg hsize hdg hWd hmk ⟨has, hce, hsl, by rw [hA]; exact e1, by rw [hA]; exact s5⟩
  have hheap : Bp.U.heap = (h.push (traceHolder cO lines)).setIfInBounds a (filledOn Th.toThrowableT fB fD cl ⟨.ref u, rfl⟩ h.size lines.length.toInt32) := by
    rw [hU, ← hA]; rfl
  obtain ⟨K1, K2⟩ := own_keepFill (x := traceHolder cO lines) (cl' := filledOn Th.toThrowableT fB fD cl ⟨.ref u, rfl⟩ h.size lines.length.toInt32) e1 rfl rfl (by simp [filledOn, Cell.setSlot])
  rw [← hheap] at K1 K2
  refine ⟨v, ⟨Bp.U, Bp.locs, Bp.cells, A.slots + 2752⟩, ?_, ⟨_, ⟨hv, ?_, K2, ⟨_, kc, K1, e2, e3, e4, fun z => ?_⟩, ⟨_, K1, n2, n3⟩, TH.keep K2 ?_, ?_⟩, hLo, hcB, rfl⟩, stp⟩
  · exact Y.more (Nat.le_refl _) (by rw [hsB]; exact Nat.add_le_add_left (traceHolder_size_le cO hli) _)
  · intro y hy
    simp only [List.mem_cons, List.not_mem_nil, or_false] at hy
    rcases hy with rfl | rfl | rfl <;> exact hn
  · simp only [filledOn, Cell.setSlot, Array.size_setIfInBounds]; exact e5 z
  · intro x hx' cell q
    cases List.mem_singleton.mp hx'
    cases q.symm.trans e1
    rw [n2]; rfl
  · exact ⟨_, cf, kf, iM, fM, K1, m2, m3, m4, m5, m6, by simp [filledOn, Cell.setSlot, Array.getElem?_setIfInBounds, Ne.symm mB, Ne.symm mD, Ne.symm mS, m7]⟩
end OwnThr
end Jvm.RoadKit
namespace Jvm.Pilot.@@N@@
open Jvm Jvm.ClassFile Sem Op Lib Jvm.Free Jvm.Stand Jvm.LawKit Jvm.RoadKit Bundle Jvm.Pilot.@@N@@.Jvm.D
abbrev rom0 : Room := { frames := 0, cells := 0, slots := 0, locals := 0 }
abbrev rom1 : Room := { frames := 1, cells := 1, slots := 2, locals := 18 }
abbrev rom2 : Room := { frames := 2, cells := 1, slots := 2, locals := 35 }
abbrev rom3 : Room := { frames := 3, cells := 1, slots := 2, locals := 52 }
abbrev rom4 : Room := { frames := 1, cells := 0, slots := 0, locals := 12 }
abbrev rom5 : Room := { frames := 3, cells := 1, slots := 2752, locals := 42 }
abbrev rom6 : Room := { frames := 4, cells := 1, slots := 2752, locals := 55 }
abbrev rom7 : Room := { frames := 5, cells := 1, slots := 2752, locals := 68 }
abbrev rom8 : Room := { frames := 6, cells := 3, slots := 2772, locals := 81 }
abbrev rom9 : Room := { frames := 1, cells := 2, slots := 28, locals := 14 }
set_option maxRecDepth 65536 in
theorem pnm0 : plainName "com/example/rerouted/rerouted/engine/MigrationOutcomeIsMigratedPinLaw" = true := by first | (simp [plainName, overriddenIn]; done) | decide +kernel
set_option maxRecDepth 65536 in
theorem pnm1 : plainName "java/lang/StringUTF16" = true := by first | (simp [plainName, overriddenIn]; done) | decide +kernel
set_option maxRecDepth 65536 in
theorem pnm2 : plainName "java/lang/String" = true := by first | (simp [plainName, overriddenIn]; done) | decide +kernel
set_option maxRecDepth 65536 in
theorem pnm3 : plainName "com/example/rerouted/rerouted/engine/MigrationOutcome" = true := by first | (simp [plainName, overriddenIn]; done) | decide +kernel
set_option maxRecDepth 65536 in
theorem pnm4 : plainName "java/util/Objects" = true := by first | (simp [plainName, overriddenIn]; done) | decide +kernel
set_option maxRecDepth 65536 in
theorem pnm5 : plainName "java/lang/Throwable" = true := by first | (simp [plainName, overriddenIn]; done) | decide +kernel
set_option maxRecDepth 65536 in
theorem pnm6 : plainName "java/lang/Exception" = true := by first | (simp [plainName, overriddenIn]; done) | decide +kernel
set_option maxRecDepth 65536 in
theorem pnm7 : plainName "java/lang/RuntimeException" = true := by first | (simp [plainName, overriddenIn]; done) | decide +kernel
set_option maxRecDepth 65536 in
theorem pnm8 : plainName "com/example/rerouted/rerouted/engine/RejectedException" = true := by first | (simp [plainName, overriddenIn]; done) | decide +kernel
abbrev mth0 : MethodName := ⟨"com/example/rerouted/rerouted/engine/MigrationOutcomeIsMigratedPinLaw", "pick", "(I)Lcom/example/rerouted/rerouted/engine/Rule;"⟩
abbrev mth1 : MethodName := ⟨"java/lang/StringUTF16", "compress", "([CI[BII)I"⟩
abbrev mth2 : MethodName := ⟨"java/lang/StringUTF16", "compress", "([CII)[B"⟩
abbrev mth3 : MethodName := ⟨"java/lang/StringUTF16", "coderFromArrayLen", "([BI)B"⟩
abbrev mth4 : MethodName := ⟨"java/lang/String", "<init>", "([CIILjava/lang/Void;)V"⟩
abbrev mth5 : MethodName := ⟨"java/lang/String", "<init>", "([C)V"⟩
abbrev mth6 : MethodName := ⟨"com/example/rerouted/rerouted/engine/MigrationOutcome", "<init>", "(I)V"⟩
abbrev mth7 : MethodName := ⟨"java/util/Objects", "requireNonNull", "(Ljava/lang/Object;Ljava/lang/String;)Ljava/lang/Object;"⟩
abbrev mth8 : MethodName := ⟨"java/lang/Throwable", "fillInStackTrace", "()Ljava/lang/Throwable;"⟩
abbrev mth9 : MethodName := ⟨"java/lang/Throwable", "<init>", "(Ljava/lang/String;)V"⟩
abbrev mth10 : MethodName := ⟨"java/lang/Exception", "<init>", "(Ljava/lang/String;)V"⟩
abbrev mth11 : MethodName := ⟨"java/lang/RuntimeException", "<init>", "(Ljava/lang/String;)V"⟩
abbrev mth12 : MethodName := ⟨"com/example/rerouted/rerouted/engine/RejectedException", "<init>", "(Lcom/example/rerouted/rerouted/engine/Rule;Ljava/lang/String;)V"⟩
abbrev mth13 : MethodName := ⟨"com/example/rerouted/rerouted/engine/RejectedException", "rule", "()Lcom/example/rerouted/rerouted/engine/Rule;"⟩
abbrev mth14 : MethodName := ⟨"java/lang/Throwable", "getMessage", "()Ljava/lang/String;"⟩
abbrev mth15 : MethodName := ⟨"com/example/rerouted/rerouted/engine/RejectedException", "getMessage", "()Ljava/lang/String;"⟩
abbrev mth16 : MethodName := ⟨"com/example/rerouted/rerouted/engine/MigrationOutcome", "<init>", "(ILcom/example/rerouted/rerouted/engine/RejectedException;)V"⟩
abbrev mth17 : MethodName := ⟨"com/example/rerouted/rerouted/engine/MigrationOutcome", "isMigrated", "()Z"⟩
abbrev mth18 : MethodName := ⟨"com/example/rerouted/rerouted/engine/MigrationOutcome", "rule", "()Lcom/example/rerouted/rerouted/engine/Rule;"⟩
abbrev mth19 : MethodName := ⟨"com/example/rerouted/rerouted/engine/MigrationOutcome", "instance", "()I"⟩
theorem d_method_2_code_0 : decode method_2_code 0 = .ok (.iload_n 0, 1) := by decide +kernel
theorem d_method_2_code_1 : decode method_2_code 1 = .ok (.ldc 7, 2) := by decide +kernel
theorem d_method_2_code_3 : decode method_2_code 3 = .ok (.iand, 1) := by decide +kernel
theorem d_method_2_code_4 : decode method_2_code 4 = .ok (.iconst 5, 1) := by decide +kernel
theorem d_method_2_code_5 : decode method_2_code 5 = .ok (.irem, 1) := by decide +kernel
theorem d_method_2_code_6 : decode method_2_code 6 = .ok (.istore_n 1, 1) := by decide +kernel
theorem d_method_2_code_7 : decode method_2_code 7 = .ok (.iload_n 1, 1) := by decide +kernel
theorem d_method_2_code_8 : decode method_2_code 8 = .ok (.ifCond .ne 7, 3) := by decide +kernel
theorem d_method_2_code_11 : decode method_2_code 11 = .ok (.getstatic 8, 3) := by decide +kernel
theorem d_method_2_code_14 : decode method_2_code 14 = .ok (.areturn, 1) := by decide +kernel
theorem d_method_2_code_15 : decode method_2_code 15 = .ok (.iload_n 1, 1) := by decide +kernel
theorem d_method_2_code_16 : decode method_2_code 16 = .ok (.iconst 1, 1) := by decide +kernel
theorem d_method_2_code_17 : decode method_2_code 17 = .ok (.if_icmp .ne 7, 3) := by decide +kernel
theorem d_method_2_code_20 : decode method_2_code 20 = .ok (.getstatic 14, 3) := by decide +kernel
theorem d_method_2_code_23 : decode method_2_code 23 = .ok (.areturn, 1) := by decide +kernel
theorem d_method_2_code_24 : decode method_2_code 24 = .ok (.iload_n 1, 1) := by decide +kernel
theorem d_method_2_code_25 : decode method_2_code 25 = .ok (.iconst 2, 1) := by decide +kernel
theorem d_method_2_code_26 : decode method_2_code 26 = .ok (.if_icmp .ne 7, 3) := by decide +kernel
theorem d_method_2_code_29 : decode method_2_code 29 = .ok (.getstatic 17, 3) := by decide +kernel
theorem d_method_2_code_32 : decode method_2_code 32 = .ok (.areturn, 1) := by decide +kernel
theorem d_method_2_code_33 : decode method_2_code 33 = .ok (.iload_n 1, 1) := by decide +kernel
theorem d_method_2_code_34 : decode method_2_code 34 = .ok (.iconst 3, 1) := by decide +kernel
theorem d_method_2_code_35 : decode method_2_code 35 = .ok (.if_icmp .ne 7, 3) := by decide +kernel
theorem d_method_2_code_38 : decode method_2_code 38 = .ok (.getstatic 20, 3) := by decide +kernel
theorem d_method_2_code_41 : decode method_2_code 41 = .ok (.areturn, 1) := by decide +kernel
theorem d_method_2_code_42 : decode method_2_code 42 = .ok (.getstatic 23, 3) := by decide +kernel
theorem d_method_2_code_45 : decode method_2_code 45 = .ok (.areturn, 1) := by decide +kernel
theorem d_jdk_52_method_21_code_0 : decode jdk_52_method_21_code 0 = .ok (.iconst 0, 1) := by decide +kernel
theorem d_jdk_52_method_21_code_1 : decode jdk_52_method_21_code 1 = .ok (.istore 5, 2) := by decide +kernel
theorem d_jdk_52_method_21_code_3 : decode jdk_52_method_21_code 3 = .ok (.iload 5, 2) := by decide +kernel
theorem d_jdk_52_method_21_code_5 : decode jdk_52_method_21_code 5 = .ok (.iload 4, 2) := by decide +kernel
theorem d_jdk_52_method_21_code_7 : decode jdk_52_method_21_code 7 = .ok (.if_icmp .ge 37, 3) := by decide +kernel
theorem d_jdk_52_method_21_code_10 : decode jdk_52_method_21_code 10 = .ok (.aload_n 0, 1) := by decide +kernel
theorem d_jdk_52_method_21_code_11 : decode jdk_52_method_21_code 11 = .ok (.iload_n 1, 1) := by decide +kernel
theorem d_jdk_52_method_21_code_12 : decode jdk_52_method_21_code 12 = .ok (.caload, 1) := by decide +kernel
theorem d_jdk_52_method_21_code_13 : decode jdk_52_method_21_code 13 = .ok (.istore 6, 2) := by decide +kernel
theorem d_jdk_52_method_21_code_15 : decode jdk_52_method_21_code 15 = .ok (.iload 6, 2) := by decide +kernel
theorem d_jdk_52_method_21_code_17 : decode jdk_52_method_21_code 17 = .ok (.sipush 255, 3) := by decide +kernel
theorem d_jdk_52_method_21_code_20 : decode jdk_52_method_21_code 20 = .ok (.if_icmp .le 6, 3) := by decide +kernel
theorem d_jdk_52_method_21_code_26 : decode jdk_52_method_21_code 26 = .ok (.aload_n 2, 1) := by decide +kernel
theorem d_jdk_52_method_21_code_27 : decode jdk_52_method_21_code 27 = .ok (.iload_n 3, 1) := by decide +kernel
theorem d_jdk_52_method_21_code_28 : decode jdk_52_method_21_code 28 = .ok (.iload 6, 2) := by decide +kernel
theorem d_jdk_52_method_21_code_30 : decode jdk_52_method_21_code 30 = .ok (.i2b, 1) := by decide +kernel
theorem d_jdk_52_method_21_code_31 : decode jdk_52_method_21_code 31 = .ok (.bastore, 1) := by decide +kernel
theorem d_jdk_52_method_21_code_32 : decode jdk_52_method_21_code 32 = .ok (.iinc 1 1, 3) := by decide +kernel
theorem d_jdk_52_method_21_code_35 : decode jdk_52_method_21_code 35 = .ok (.iinc 3 1, 3) := by decide +kernel
theorem d_jdk_52_method_21_code_38 : decode jdk_52_method_21_code 38 = .ok (.iinc 5 1, 3) := by decide +kernel
theorem d_jdk_52_method_21_code_41 : decode jdk_52_method_21_code 41 = .ok (.goto (-38), 3) := by decide +kernel
theorem d_jdk_52_method_21_code_44 : decode jdk_52_method_21_code 44 = .ok (.iload 4, 2) := by decide +kernel
theorem d_jdk_52_method_21_code_46 : decode jdk_52_method_21_code 46 = .ok (.ireturn, 1) := by decide +kernel
theorem d_jdk_52_method_16_code_0 : decode jdk_52_method_16_code 0 = .ok (.iload_n 2, 1) := by decide +kernel
theorem d_jdk_52_method_16_code_1 : decode jdk_52_method_16_code 1 = .ok (.newarray .byte, 2) := by decide +kernel
theorem d_jdk_52_method_16_code_3 : decode jdk_52_method_16_code 3 = .ok (.astore_n 3, 1) := by decide +kernel
theorem d_jdk_52_method_16_code_4 : decode jdk_52_method_16_code 4 = .ok (.aload_n 0, 1) := by decide +kernel
theorem d_jdk_52_method_16_code_5 : decode jdk_52_method_16_code 5 = .ok (.iload_n 1, 1) := by decide +kernel
theorem d_jdk_52_method_16_code_6 : decode jdk_52_method_16_code 6 = .ok (.aload_n 3, 1) := by decide +kernel
theorem d_jdk_52_method_16_code_7 : decode jdk_52_method_16_code 7 = .ok (.iconst 0, 1) := by decide +kernel
theorem d_jdk_52_method_16_code_8 : decode jdk_52_method_16_code 8 = .ok (.iload_n 2, 1) := by decide +kernel
theorem d_jdk_52_method_16_code_9 : decode jdk_52_method_16_code 9 = .ok (.invokestatic 115, 3) := by decide +kernel
theorem d_jdk_52_method_16_code_12 : decode jdk_52_method_16_code 12 = .ok (.istore 4, 2) := by decide +kernel
theorem d_jdk_52_method_16_code_14 : decode jdk_52_method_16_code 14 = .ok (.iload 4, 2) := by decide +kernel
theorem d_jdk_52_method_16_code_16 : decode jdk_52_method_16_code 16 = .ok (.iload_n 2, 1) := by decide +kernel
theorem d_jdk_52_method_16_code_17 : decode jdk_52_method_16_code 17 = .ok (.if_icmp .eq 40, 3) := by decide +kernel
theorem d_jdk_52_method_16_code_57 : decode jdk_52_method_16_code 57 = .ok (.aload_n 3, 1) := by decide +kernel
theorem d_jdk_52_method_16_code_58 : decode jdk_52_method_16_code 58 = .ok (.areturn, 1) := by decide +kernel
theorem d_jdk_52_method_15_code_0 : decode jdk_52_method_15_code 0 = .ok (.iload_n 1, 1) := by decide +kernel
theorem d_jdk_52_method_15_code_1 : decode jdk_52_method_15_code 1 = .ok (.aload_n 0, 1) := by decide +kernel
theorem d_jdk_52_method_15_code_2 : decode jdk_52_method_15_code 2 = .ok (.arraylength, 1) := by decide +kernel
theorem d_jdk_52_method_15_code_3 : decode jdk_52_method_15_code 3 = .ok (.isub, 1) := by decide +kernel
theorem d_jdk_52_method_15_code_4 : decode jdk_52_method_15_code 4 = .ok (.bipush 31, 2) := by decide +kernel
theorem d_jdk_52_method_15_code_6 : decode jdk_52_method_15_code 6 = .ok (.iushr, 1) := by decide +kernel
theorem d_jdk_52_method_15_code_7 : decode jdk_52_method_15_code 7 = .ok (.i2b, 1) := by decide +kernel
theorem d_jdk_52_method_15_code_8 : decode jdk_52_method_15_code 8 = .ok (.ireturn, 1) := by decide +kernel
theorem d_jdk_42_method_149_code_0 : decode jdk_42_method_149_code 0 = .ok (.aload_n 0, 1) := by decide +kernel
theorem d_jdk_42_method_149_code_1 : decode jdk_42_method_149_code 1 = .ok (.invokespecial 1, 3) := by decide +kernel
theorem d_jdk_42_method_149_code_4 : decode jdk_42_method_149_code 4 = .ok (.iload_n 3, 1) := by decide +kernel
theorem d_jdk_42_method_149_code_5 : decode jdk_42_method_149_code 5 = .ok (.ifCond .ne 22, 3) := by decide +kernel
theorem d_jdk_42_method_149_code_27 : decode jdk_42_method_149_code 27 = .ok (.getstatic 38, 3) := by decide +kernel
theorem d_jdk_42_method_149_code_30 : decode jdk_42_method_149_code 30 = .ok (.ifCond .eq 28, 3) := by decide +kernel
theorem d_jdk_42_method_149_code_33 : decode jdk_42_method_149_code 33 = .ok (.aload_n 1, 1) := by decide +kernel
theorem d_jdk_42_method_149_code_34 : decode jdk_42_method_149_code 34 = .ok (.iload_n 2, 1) := by decide +kernel
theorem d_jdk_42_method_149_code_35 : decode jdk_42_method_149_code 35 = .ok (.iload_n 3, 1) := by decide +kernel
theorem d_jdk_42_method_149_code_36 : decode jdk_42_method_149_code 36 = .ok (.invokestatic 177, 3) := by decide +kernel
theorem d_jdk_42_method_149_code_39 : decode jdk_42_method_149_code 39 = .ok (.astore 5, 2) := by decide +kernel
theorem d_jdk_42_method_149_code_41 : decode jdk_42_method_149_code 41 = .ok (.aload_n 0, 1) := by decide +kernel
theorem d_jdk_42_method_149_code_42 : decode jdk_42_method_149_code 42 = .ok (.aload 5, 2) := by decide +kernel
theorem d_jdk_42_method_149_code_44 : decode jdk_42_method_149_code 44 = .ok (.iload_n 3, 1) := by decide +kernel
theorem d_jdk_42_method_149_code_45 : decode jdk_42_method_149_code 45 = .ok (.invokestatic 47, 3) := by decide +kernel
theorem d_jdk_42_method_149_code_48 : decode jdk_42_method_149_code 48 = .ok (.putfield 15, 3) := by decide +kernel
theorem d_jdk_42_method_149_code_51 : decode jdk_42_method_149_code 51 = .ok (.aload_n 0, 1) := by decide +kernel
theorem d_jdk_42_method_149_code_52 : decode jdk_42_method_149_code 52 = .ok (.aload 5, 2) := by decide +kernel
theorem d_jdk_42_method_149_code_54 : decode jdk_42_method_149_code 54 = .ok (.putfield 9, 3) := by decide +kernel
theorem d_jdk_42_method_149_code_57 : decode jdk_42_method_149_code 57 = .ok (.return_, 1) := by decide +kernel
theorem d_jdk_42_method_3_code_0 : decode jdk_42_method_3_code 0 = .ok (.aload_n 0, 1) := by decide +kernel
theorem d_jdk_42_method_3_code_1 : decode jdk_42_method_3_code 1 = .ok (.aload_n 1, 1) := by decide +kernel
theorem d_jdk_42_method_3_code_2 : decode jdk_42_method_3_code 2 = .ok (.iconst 0, 1) := by decide +kernel
theorem d_jdk_42_method_3_code_3 : decode jdk_42_method_3_code 3 = .ok (.aload_n 1, 1) := by decide +kernel
theorem d_jdk_42_method_3_code_4 : decode jdk_42_method_3_code 4 = .ok (.arraylength, 1) := by decide +kernel
theorem d_jdk_42_method_3_code_5 : decode jdk_42_method_3_code 5 = .ok (.aconst_null, 1) := by decide +kernel
theorem d_jdk_42_method_3_code_6 : decode jdk_42_method_3_code 6 = .ok (.invokespecial 27, 3) := by decide +kernel
theorem d_jdk_42_method_3_code_9 : decode jdk_42_method_3_code 9 = .ok (.return_, 1) := by decide +kernel
theorem d_prog_29_method_1_code_0 : decode prog_29_method_1_code 0 = .ok (.aload_n 0, 1) := by decide +kernel
theorem d_prog_29_method_1_code_1 : decode prog_29_method_1_code 1 = .ok (.invokespecial 1, 3) := by decide +kernel
theorem d_prog_29_method_1_code_4 : decode prog_29_method_1_code 4 = .ok (.aload_n 0, 1) := by decide +kernel
theorem d_prog_29_method_1_code_5 : decode prog_29_method_1_code 5 = .ok (.iload_n 1, 1) := by decide +kernel
theorem d_prog_29_method_1_code_6 : decode prog_29_method_1_code 6 = .ok (.putfield 7, 3) := by decide +kernel
theorem d_prog_29_method_1_code_9 : decode prog_29_method_1_code 9 = .ok (.aload_n 0, 1) := by decide +kernel
theorem d_prog_29_method_1_code_10 : decode prog_29_method_1_code 10 = .ok (.aconst_null, 1) := by decide +kernel
theorem d_prog_29_method_1_code_11 : decode prog_29_method_1_code 11 = .ok (.putfield 13, 3) := by decide +kernel
theorem d_prog_29_method_1_code_14 : decode prog_29_method_1_code 14 = .ok (.aload_n 0, 1) := by decide +kernel
theorem d_prog_29_method_1_code_15 : decode prog_29_method_1_code 15 = .ok (.aconst_null, 1) := by decide +kernel
theorem d_prog_29_method_1_code_16 : decode prog_29_method_1_code 16 = .ok (.putfield 17, 3) := by decide +kernel
theorem d_prog_29_method_1_code_19 : decode prog_29_method_1_code 19 = .ok (.return_, 1) := by decide +kernel
theorem d_jdk_31_method_11_code_0 : decode jdk_31_method_11_code 0 = .ok (.aload_n 0, 1) := by decide +kernel
theorem d_jdk_31_method_11_code_1 : decode jdk_31_method_11_code 1 = .ok (.ifnonnull 12, 3) := by decide +kernel
theorem d_jdk_31_method_11_code_13 : decode jdk_31_method_11_code 13 = .ok (.aload_n 0, 1) := by decide +kernel
theorem d_jdk_31_method_11_code_14 : decode jdk_31_method_11_code 14 = .ok (.areturn, 1) := by decide +kernel
theorem d_jdk_78_method_2_code_0 : decode jdk_78_method_2_code 0 = .ok (.aload_n 0, 1) := by decide +kernel
theorem d_jdk_78_method_2_code_1 : decode jdk_78_method_2_code 1 = .ok (.invokespecial 1, 3) := by decide +kernel
theorem d_jdk_78_method_2_code_4 : decode jdk_78_method_2_code 4 = .ok (.aload_n 0, 1) := by decide +kernel
theorem d_jdk_78_method_2_code_5 : decode jdk_78_method_2_code 5 = .ok (.aload_n 0, 1) := by decide +kernel
theorem d_jdk_78_method_2_code_6 : decode jdk_78_method_2_code 6 = .ok (.putfield 7, 3) := by decide +kernel
theorem d_jdk_78_method_2_code_9 : decode jdk_78_method_2_code 9 = .ok (.aload_n 0, 1) := by decide +kernel
theorem d_jdk_78_method_2_code_10 : decode jdk_78_method_2_code 10 = .ok (.getstatic 13, 3) := by decide +kernel
theorem d_jdk_78_method_2_code_13 : decode jdk_78_method_2_code 13 = .ok (.putfield 17, 3) := by decide +kernel
theorem d_jdk_78_method_2_code_16 : decode jdk_78_method_2_code 16 = .ok (.aload_n 0, 1) := by decide +kernel
theorem d_jdk_78_method_2_code_17 : decode jdk_78_method_2_code 17 = .ok (.getstatic 20, 3) := by decide +kernel
theorem d_jdk_78_method_2_code_20 : decode jdk_78_method_2_code 20 = .ok (.putfield 24, 3) := by decide +kernel
theorem d_jdk_78_method_2_code_23 : decode jdk_78_method_2_code 23 = .ok (.aload_n 0, 1) := by decide +kernel
theorem d_jdk_78_method_2_code_24 : decode jdk_78_method_2_code 24 = .ok (.invokevirtual 27, 3) := by decide +kernel
theorem d_jdk_78_method_2_code_27 : decode jdk_78_method_2_code 27 = .ok (.pop, 1) := by decide +kernel
theorem d_jdk_78_method_2_code_28 : decode jdk_78_method_2_code 28 = .ok (.aload_n 0, 1) := by decide +kernel
theorem d_jdk_78_method_2_code_29 : decode jdk_78_method_2_code 29 = .ok (.aload_n 1, 1) := by decide +kernel
theorem d_jdk_78_method_2_code_30 : decode jdk_78_method_2_code 30 = .ok (.putfield 31, 3) := by decide +kernel
theorem d_jdk_78_method_2_code_33 : decode jdk_78_method_2_code 33 = .ok (.return_, 1) := by decide +kernel
theorem d_jdk_59_method_2_code_0 : decode jdk_59_method_2_code 0 = .ok (.aload_n 0, 1) := by decide +kernel
theorem d_jdk_59_method_2_code_1 : decode jdk_59_method_2_code 1 = .ok (.aload_n 1, 1) := by decide +kernel
theorem d_jdk_59_method_2_code_2 : decode jdk_59_method_2_code 2 = .ok (.invokespecial 7, 3) := by decide +kernel
theorem d_jdk_59_method_2_code_5 : decode jdk_59_method_2_code 5 = .ok (.return_, 1) := by decide +kernel
theorem d_jdk_58_method_2_code_0 : decode jdk_58_method_2_code 0 = .ok (.aload_n 0, 1) := by decide +kernel
theorem d_jdk_58_method_2_code_1 : decode jdk_58_method_2_code 1 = .ok (.aload_n 1, 1) := by decide +kernel
theorem d_jdk_58_method_2_code_2 : decode jdk_58_method_2_code 2 = .ok (.invokespecial 7, 3) := by decide +kernel
theorem d_jdk_58_method_2_code_5 : decode jdk_58_method_2_code 5 = .ok (.return_, 1) := by decide +kernel
theorem d_prog_35_method_1_code_0 : decode prog_35_method_1_code 0 = .ok (.aload_n 0, 1) := by decide +kernel
theorem d_prog_35_method_1_code_1 : decode prog_35_method_1_code 1 = .ok (.aload_n 2, 1) := by decide +kernel
theorem d_prog_35_method_1_code_2 : decode prog_35_method_1_code 2 = .ok (.invokespecial 1, 3) := by decide +kernel
theorem d_prog_35_method_1_code_5 : decode prog_35_method_1_code 5 = .ok (.aload_n 0, 1) := by decide +kernel
theorem d_prog_35_method_1_code_6 : decode prog_35_method_1_code 6 = .ok (.aload_n 1, 1) := by decide +kernel
theorem d_prog_35_method_1_code_7 : decode prog_35_method_1_code 7 = .ok (.ldc 7, 2) := by decide +kernel
theorem d_prog_35_method_1_code_9 : decode prog_35_method_1_code 9 = .ok (.invokestatic 9, 3) := by decide +kernel
theorem d_prog_35_method_1_code_12 : decode prog_35_method_1_code 12 = .ok (.checkcast 15, 3) := by decide +kernel
theorem d_prog_35_method_1_code_15 : decode prog_35_method_1_code 15 = .ok (.putfield 17, 3) := by decide +kernel
theorem d_prog_35_method_1_code_18 : decode prog_35_method_1_code 18 = .ok (.return_, 1) := by decide +kernel
theorem d_prog_35_method_2_code_0 : decode prog_35_method_2_code 0 = .ok (.aload_n 0, 1) := by decide +kernel
theorem d_prog_35_method_2_code_1 : decode prog_35_method_2_code 1 = .ok (.getfield 17, 3) := by decide +kernel
theorem d_prog_35_method_2_code_4 : decode prog_35_method_2_code 4 = .ok (.areturn, 1) := by decide +kernel
theorem d_jdk_78_method_6_code_0 : decode jdk_78_method_6_code 0 = .ok (.aload_n 0, 1) := by decide +kernel
theorem d_jdk_78_method_6_code_1 : decode jdk_78_method_6_code 1 = .ok (.getfield 31, 3) := by decide +kernel
theorem d_jdk_78_method_6_code_4 : decode jdk_78_method_6_code 4 = .ok (.areturn, 1) := by decide +kernel
theorem d_prog_29_method_2_code_0 : decode prog_29_method_2_code 0 = .ok (.aload_n 0, 1) := by decide +kernel
theorem d_prog_29_method_2_code_1 : decode prog_29_method_2_code 1 = .ok (.invokespecial 1, 3) := by decide +kernel
theorem d_prog_29_method_2_code_4 : decode prog_29_method_2_code 4 = .ok (.aload_n 0, 1) := by decide +kernel
theorem d_prog_29_method_2_code_5 : decode prog_29_method_2_code 5 = .ok (.iload_n 1, 1) := by decide +kernel
theorem d_prog_29_method_2_code_6 : decode prog_29_method_2_code 6 = .ok (.putfield 7, 3) := by decide +kernel
theorem d_prog_29_method_2_code_9 : decode prog_29_method_2_code 9 = .ok (.aload_n 0, 1) := by decide +kernel
theorem d_prog_29_method_2_code_10 : decode prog_29_method_2_code 10 = .ok (.aload_n 2, 1) := by decide +kernel
theorem d_prog_29_method_2_code_11 : decode prog_29_method_2_code 11 = .ok (.invokevirtual 21, 3) := by decide +kernel
theorem d_prog_29_method_2_code_14 : decode prog_29_method_2_code 14 = .ok (.putfield 13, 3) := by decide +kernel
theorem d_prog_29_method_2_code_17 : decode prog_29_method_2_code 17 = .ok (.aload_n 0, 1) := by decide +kernel
theorem d_prog_29_method_2_code_18 : decode prog_29_method_2_code 18 = .ok (.aload_n 2, 1) := by decide +kernel
theorem d_prog_29_method_2_code_19 : decode prog_29_method_2_code 19 = .ok (.invokevirtual 26, 3) := by decide +kernel
theorem d_prog_29_method_2_code_22 : decode prog_29_method_2_code 22 = .ok (.ldc 30, 2) := by decide +kernel
theorem d_prog_29_method_2_code_24 : decode prog_29_method_2_code 24 = .ok (.invokestatic 31, 3) := by decide +kernel
theorem d_prog_29_method_2_code_27 : decode prog_29_method_2_code 27 = .ok (.checkcast 37, 3) := by decide +kernel
theorem d_prog_29_method_2_code_30 : decode prog_29_method_2_code 30 = .ok (.putfield 17, 3) := by decide +kernel
theorem d_prog_29_method_2_code_33 : decode prog_29_method_2_code 33 = .ok (.return_, 1) := by decide +kernel
theorem d_prog_29_method_4_code_0 : decode prog_29_method_4_code 0 = .ok (.aload_n 0, 1) := by decide +kernel
theorem d_prog_29_method_4_code_1 : decode prog_29_method_4_code 1 = .ok (.getfield 13, 3) := by decide +kernel
theorem d_prog_29_method_4_code_4 : decode prog_29_method_4_code 4 = .ok (.ifnonnull 7, 3) := by decide +kernel
theorem d_prog_29_method_4_code_7 : decode prog_29_method_4_code 7 = .ok (.iconst 1, 1) := by decide +kernel
theorem d_prog_29_method_4_code_8 : decode prog_29_method_4_code 8 = .ok (.goto 4, 3) := by decide +kernel
theorem d_prog_29_method_4_code_12 : decode prog_29_method_4_code 12 = .ok (.ireturn, 1) := by decide +kernel
theorem d_prog_29_method_5_code_0 : decode prog_29_method_5_code 0 = .ok (.aload_n 0, 1) := by decide +kernel
theorem d_prog_29_method_5_code_1 : decode prog_29_method_5_code 1 = .ok (.getfield 13, 3) := by decide +kernel
theorem d_prog_29_method_5_code_4 : decode prog_29_method_5_code 4 = .ok (.areturn, 1) := by decide +kernel
theorem d_prog_29_method_4_code_11 : decode prog_29_method_4_code 11 = .ok (.iconst 0, 1) := by decide +kernel
theorem d_prog_29_method_3_code_0 : decode prog_29_method_3_code 0 = .ok (.aload_n 0, 1) := by decide +kernel
theorem d_prog_29_method_3_code_1 : decode prog_29_method_3_code 1 = .ok (.getfield 7, 3) := by decide +kernel
theorem d_prog_29_method_3_code_4 : decode prog_29_method_3_code 4 = .ok (.ireturn, 1) := by decide +kernel
theorem pd_CI_BII_I : parseMethodDescriptor "([CI[BII)I" = some ⟨[(.array .char), .int, (.array .byte), .int, .int], some .int⟩ := by decide +kernel
theorem pd_CII__B : parseMethodDescriptor "([CII)[B" = some ⟨[(.array .char), .int, .int], some (.array .byte)⟩ := by decide +kernel
theorem pd_BI_B : parseMethodDescriptor "([BI)B" = some ⟨[(.array .byte), .int], some .byte⟩ := by decide +kernel
theorem pd_CIILjava_lang_Void__V : parseMethodDescriptor "([CIILjava/lang/Void;)V" = some ⟨[(.array .char), .int, .int, (.object "java/lang/Void")], none⟩ := by decide +kernel
theorem pd_Ljava_lang_Throwable : parseMethodDescriptor "()Ljava/lang/Throwable;" = some ⟨[], some (.object "java/lang/Throwable")⟩ := by decide +kernel
theorem pd_Ljava_lang_String__V : parseMethodDescriptor "(Ljava/lang/String;)V" = some ⟨[(.object "java/lang/String")], none⟩ := by decide +kernel
theorem pd_Ljava_lang_Object_Ljava_lang_String__Ljava_lang_Object : parseMethodDescriptor "(Ljava/lang/Object;Ljava/lang/String;)Ljava/lang/Object;" = some ⟨[(.object "java/lang/Object"), (.object "java/lang/String")], some (.object "java/lang/Object")⟩ := by decide +kernel
theorem pd_Lcom_example_rerouted_rerouted_engine_Rule : parseMethodDescriptor "()Lcom/example/rerouted/rerouted/engine/Rule;" = some ⟨[], some (.object "com/example/rerouted/rerouted/engine/Rule")⟩ := by decide +kernel
theorem pd_Ljava_lang_String : parseMethodDescriptor "()Ljava/lang/String;" = some ⟨[], some (.object "java/lang/String")⟩ := by decide +kernel
theorem pd_I_Lcom_example_rerouted_rerouted_engine_Rule : parseMethodDescriptor "(I)Lcom/example/rerouted/rerouted/engine/Rule;" = some ⟨[.int], some (.object "com/example/rerouted/rerouted/engine/Rule")⟩ := by decide +kernel
theorem pd_C_V : parseMethodDescriptor "([C)V" = some ⟨[(.array .char)], none⟩ := by decide +kernel
theorem pd_I_V : parseMethodDescriptor "(I)V" = some ⟨[.int], none⟩ := by decide +kernel
theorem pd_Lcom_example_rerouted_rerouted_engine_Rule_Ljava_lang_String__V : parseMethodDescriptor "(Lcom/example/rerouted/rerouted/engine/Rule;Ljava/lang/String;)V" = some ⟨[(.object "com/example/rerouted/rerouted/engine/Rule"), (.object "java/lang/String")], none⟩ := by decide +kernel
theorem pd_ILcom_example_rerouted_rerouted_engine_RejectedException__V : parseMethodDescriptor "(ILcom/example/rerouted/rerouted/engine/RejectedException;)V" = some ⟨[.int, (.object "com/example/rerouted/rerouted/engine/RejectedException")], none⟩ := by decide +kernel
theorem pd_Z : parseMethodDescriptor "()Z" = some ⟨[], some .boolean⟩ := by decide +kernel
theorem pd_I : parseMethodDescriptor "()I" = some ⟨[], some .int⟩ := by decide +kernel
open Bundle Jvm.Free.Exc
theorem own_nc (y : Int32) : ¬ ((255 : Int32) < nar .char ((y &&& (255 : Int32)).toUInt32.toUInt16.toUInt32.toInt32)) := by
  show ¬ ((255 : Int32) < ((y &&& (255 : Int32)).toUInt32.toUInt16.toUInt32.toInt32).toUInt32.toUInt16.toUInt32.toInt32)
  have a := c_i2c (y &&& (255 : Int32))
  have b := c_mask y (255 : Int32) 8 (by decide) (by decide)
  have c := c_i2c ((y &&& (255 : Int32)).toUInt32.toUInt16.toUInt32.toInt32)
  have d := rng32 (y &&& (255 : Int32))
  simp only [Int32.lt_iff_toInt_lt, Int32.reduceToInt] at a b c d ⊢
  omega
theorem own_sin : ∀ w ∈ Bundle.stringAtoms, w ∈ tables_1 := by decide +kernel
theorem own_arrRef {args : Array Value} {s : State} {t : Term} {ty : FieldType} (h : (Cond.arrayOf t ty).before args s = true) : ∃ a, t.eval args s none [] s = some (.ref a) := by
  simp only [Cond.before, Cond.holds, Cond.value] at h
  cases ht : t.eval args s none [] s with
  | none => simp [ht] at h
  | some v => cases v with
    | ref a => exact ⟨a, rfl⟩
    | _ => simp [ht] at h

open Bundle Jvm.Free.Exc
theorem own_tin : ∀ w ∈ own_ta "com/example/rerouted/rerouted/engine/RejectedException", w ∈ tables_1 := by decide +kernel

theorem ef_pick (m : MethodId) (x0 : Int32) : entryFrame m #[(.int x0)] 2 = mkF m 0 #[.val (.int x0), .unset] [] := by first | (simp [entryFrame, mkF, argsToLocals, Value.category]; done) | rfl
def Q_pick (Z : State) (p0 : Int32) (w_DATA : Addr) (w_CHANGED : Addr) (w_STATE : Addr) (w_ORDER : Addr) (w_STRUCTURE : Addr) (h0 : Heap) (n0 : Nat) (v : Option Value) (h : Heap) (L : List Loc) : Prop := ∃ (b : Addr), v = some (.ref b) ∧ Fr n0 L ∧ h = h0 ∧ Exa Z h b "com/example/rerouted/rerouted/engine/Rule"
set_option maxRecDepth 65536 in
set_option maxHeartbeats 40000000 in
theorem pick (l : Launch) (Z : State) (a0 : Array Value) (hw : ∀ d ∈ tables_1, d.before a0 Z = true) (ws : List Jvm.Cond) (p0 : Int32) (w_DATA : Addr) (w_CHANGED : Addr) (w_STATE : Addr) (w_ORDER : Addr) (w_STRUCTURE : Addr) (h0 : Heap) (n0 : Nat) (Z0 : n0 ≤ h0.size) (S_DATA : Sta Z h0 "com/example/rerouted/rerouted/engine/Rule" "DATA" "Lcom/example/rerouted/rerouted/engine/Rule;" (.ref w_DATA)) (S_CHANGED : Sta Z h0 "com/example/rerouted/rerouted/engine/Rule" "CHANGED" "Lcom/example/rerouted/rerouted/engine/Rule;" (.ref w_CHANGED)) (S_STATE : Sta Z h0 "com/example/rerouted/rerouted/engine/Rule" "STATE" "Lcom/example/rerouted/rerouted/engine/Rule;" (.ref w_STATE)) (S_ORDER : Sta Z h0 "com/example/rerouted/rerouted/engine/Rule" "ORDER" "Lcom/example/rerouted/rerouted/engine/Rule;" (.ref w_ORDER)) (S_STRUCTURE : Sta Z h0 "com/example/rerouted/rerouted/engine/Rule" "STRUCTURE" "Lcom/example/rerouted/rerouted/engine/Rule;" (.ref w_STRUCTURE)) (E_DATA : Exa Z h0 w_DATA "com/example/rerouted/rerouted/engine/Rule") (E_CHANGED : Exa Z h0 w_CHANGED "com/example/rerouted/rerouted/engine/Rule") (E_STATE : Exa Z h0 w_STATE "com/example/rerouted/rerouted/engine/Rule") (E_ORDER : Exa Z h0 w_ORDER "com/example/rerouted/rerouted/engine/Rule") (E_STRUCTURE : Exa Z h0 w_STRUCTURE "com/example/rerouted/rerouted/engine/Rule") :
    MetFree l mth0 (head1 (Jvm.Cond.code mth0 method_2_code 2 (some (.object "com/example/rerouted/rerouted/engine/Rule")) :: ws) rom0) (fun a U => a = #[(.int p0)] ∧ Z.Warmed39 U.vm ∧ U.heap = h0) (fun _ _ _ _ _ => True) (fun _ U o U' => ∃ v L, o = .returned v ∧ Q_pick Z p0 w_DATA w_CHANGED w_STATE w_ORDER w_STRUCTURE h0 n0 v U'.heap L ∧ FrameEnd U o U' L rom0.cells rom0.slots) := by
  refine MetFree.of_bodySF (plainFor_of_name pnm0) hisR ?_
  intro p e s m args below meth c s₁ Bd hml0 hP hK
  obtain ⟨rfl, hZ, hh⟩ := hP
  have hx := Bd.exec
  have hby := Bd.bytes
  have hml : c.maxLocals = 2 := hml0
  have hown : s.vm.findClass "com/example/rerouted/rerouted/engine/MigrationOutcomeIsMigratedPinLaw" = some m.cls := findClass_of_methodNamed Bd.named
  have hnm := (name_of_methodNamed Bd.named Bd.method).1
  have X0 : Stand p l e rom0 s m #[(.int p0)] below meth c s₁ [] 0 0 := Stand.of_body Bd
  have eh0 : s₁.heap = h0 := by rw [← hh, Bd.state]; rfl
  have N0 := Fr.nil n0
  have tw4 := hw _ (List.mem_of_getElem? (i := 4) rfl)
  have tw5 := hw _ (List.mem_of_getElem? (i := 5) rfl)
  have tw154 := hw _ (List.mem_of_getElem? (i := 154) rfl)
  have tw156 := hw _ (List.mem_of_getElem? (i := 156) rfl)
  have tw158 := hw _ (List.mem_of_getElem? (i := 158) rfl)
  have tw160 := hw _ (List.mem_of_getElem? (i := 160) rfl)
  show Goes p e below (Pq (Q_pick Z p0 w_DATA w_CHANGED w_STATE w_ORDER w_STRUCTURE h0 n0) s rom0.cells rom0.slots) (s₁.setTop (entryFrame m #[(.int p0)] 2))
  refine Goes.step (S' := s₁.setTop (mkF m 0 #[.val (.int p0), .unset] [])) (fun t k => castTop (ef_pick m p0) k) ?_
  refine Goes.step (S' := s₁.setTop (mkF m 8 #[.val (.int p0), .val (.int ((p0 &&& (2147483647 : Int32)) % (5 : Int32)))] [(.int ((p0 &&& (2147483647 : Int32)) % (5 : Int32)))])) (fun t k => XS.iloadN X0.here hx rfl (hb hby d_method_2_code_0) rfl (X0.ldcInt hx hown (mvT hZ tw4) (g := (mkF m 1 #[.val (.int p0), .unset] [(.int p0)])) rfl (hb hby d_method_2_code_1) _ (XS.iand X0.here hx rfl (hb hby d_method_2_code_3) rfl (XS.iconst X0.here hx rfl (hb hby d_method_2_code_4) (iremM X0 hx rfl (hb hby d_method_2_code_5) rfl (by decide) (XS.istoreN X0.here hx rfl (hb hby d_method_2_code_6) rfl (l' := #[.val (.int p0), .val (.int ((p0 &&& (2147483647 : Int32)) % (5 : Int32)))]) rfl (XS.iloadN X0.here hx rfl (hb hby d_method_2_code_7) rfl k))))))) ?_
  by_cases hc101 : ((p0 &&& (2147483647 : Int32)) % (5 : Int32)) = (0 : Int32)
  case pos =>
    refine Goes.step (S' := s₁.setTop (mkF m 11 #[.val (.int p0), .val (.int ((p0 &&& (2147483647 : Int32)) % (5 : Int32)))] [])) (fun t k => XS.ifNo X0.here hx rfl (hb hby d_method_2_code_8) rfl ((if0 _ _).trans (teq hc101).2) k) ?_
    obtain ⟨T102, X102, e102, st102⟩ := getS2 X0 hx hZ hown (host := "") (Or.inl tw156) Via.refl eh0 S_STATE (g := (mkF m 11 #[.val (.int p0), .val (.int ((p0 &&& (2147483647 : Int32)) % (5 : Int32)))] [])) rfl (hb hby d_method_2_code_11)
    refine Goes.step (S' := T102.setTop (mkF m 14 #[.val (.int p0), .val (.int ((p0 &&& (2147483647 : Int32)) % (5 : Int32)))] [(.ref w_STATE)])) (fun t k => st102 _ k) ?_
    refine Goes.leave (g := (mkF m 14 #[.val (.int p0), .val (.int ((p0 &&& (2147483647 : Int32)) % (5 : Int32)))] [(.ref w_STATE)])) X102 Bd.notSynchronized (v := (some (.ref w_STATE))) (fun h => by rw [Bd.returns] at h; cases h) (fun fs hr => by jvm_step X102.here [X102.here.top, hx, (hb hby d_method_2_code_14), X102.method', Bd.returns, Value.isRef, FieldType.isReference]; (first | (intro acts; rw [hr _ acts rfl rfl rfl]) | rw [hr _ _ rfl rfl rfl]); exact Steps.refl _) e102 ?_ (by decide) (by decide)
    exact ⟨w_STATE, rfl, N0, rfl, E_STATE⟩
  case neg =>
    refine Goes.step (S' := s₁.setTop (mkF m 17 #[.val (.int p0), .val (.int ((p0 &&& (2147483647 : Int32)) % (5 : Int32)))] [(.int (1 : Int32)), (.int ((p0 &&& (2147483647 : Int32)) % (5 : Int32)))])) (fun t k => XS.ifYes X0.here hx rfl (pc0 := 8) (pc' := 15) rfl (hb hby d_method_2_code_8) rfl ((if0 _ _).trans (feq hc101).2) (by decide) (by decide) (XS.iloadN X0.here hx rfl (hb hby d_method_2_code_15) rfl (XS.iconst X0.here hx rfl (hb hby d_method_2_code_16) k))) ?_
    by_cases hc103 : ((p0 &&& (2147483647 : Int32)) % (5 : Int32)) = (1 : Int32)
    case pos =>
      refine Goes.step (S' := s₁.setTop (mkF m 20 #[.val (.int p0), .val (.int ((p0 &&& (2147483647 : Int32)) % (5 : Int32)))] [])) (fun t k => XS.icmpNo X0.here hx rfl (hb hby d_method_2_code_17) rfl (teq hc103).2 k) ?_
      obtain ⟨T104, X104, e104, st104⟩ := getS2 X0 hx hZ hown (host := "") (Or.inl tw158) Via.refl eh0 S_ORDER (g := (mkF m 20 #[.val (.int p0), .val (.int ((p0 &&& (2147483647 : Int32)) % (5 : Int32)))] [])) rfl (hb hby d_method_2_code_20)
      refine Goes.step (S' := T104.setTop (mkF m 23 #[.val (.int p0), .val (.int ((p0 &&& (2147483647 : Int32)) % (5 : Int32)))] [(.ref w_ORDER)])) (fun t k => st104 _ k) ?_
      refine Goes.leave (g := (mkF m 23 #[.val (.int p0), .val (.int ((p0 &&& (2147483647 : Int32)) % (5 : Int32)))] [(.ref w_ORDER)])) X104 Bd.notSynchronized (v := (some (.ref w_ORDER))) (fun h => by rw [Bd.returns] at h; cases h) (fun fs hr => by jvm_step X104.here [X104.here.top, hx, (hb hby d_method_2_code_23), X104.method', Bd.returns, Value.isRef, FieldType.isReference]; (first | (intro acts; rw [hr _ acts rfl rfl rfl]) | rw [hr _ _ rfl rfl rfl]); exact Steps.refl _) e104 ?_ (by decide) (by decide)
      exact ⟨w_ORDER, rfl, N0, rfl, E_ORDER⟩
    case neg =>
      refine Goes.step (S' := s₁.setTop (mkF m 26 #[.val (.int p0), .val (.int ((p0 &&& (2147483647 : Int32)) % (5 : Int32)))] [(.int (2 : Int32)), (.int ((p0 &&& (2147483647 : Int32)) % (5 : Int32)))])) (fun t k => XS.icmpYes X0.here hx rfl (pc0 := 17) (pc' := 24) rfl (hb hby d_method_2_code_17) rfl (feq hc103).2 (by decide) (by decide) (XS.iloadN X0.here hx rfl (hb hby d_method_2_code_24) rfl (XS.iconst X0.here hx rfl (hb hby d_method_2_code_25) k))) ?_
      by_cases hc105 : ((p0 &&& (2147483647 : Int32)) % (5 : Int32)) = (2 : Int32)
      case pos =>
        refine Goes.step (S' := s₁.setTop (mkF m 29 #[.val (.int p0), .val (.int ((p0 &&& (2147483647 : Int32)) % (5 : Int32)))] [])) (fun t k => XS.icmpNo X0.here hx rfl (hb hby d_method_2_code_26) rfl (teq hc105).2 k) ?_
        obtain ⟨T106, X106, e106, st106⟩ := getS2 X0 hx hZ hown (host := "") (Or.inl tw160) Via.refl eh0 S_STRUCTURE (g := (mkF m 29 #[.val (.int p0), .val (.int ((p0 &&& (2147483647 : Int32)) % (5 : Int32)))] [])) rfl (hb hby d_method_2_code_29)
        refine Goes.step (S' := T106.setTop (mkF m 32 #[.val (.int p0), .val (.int ((p0 &&& (2147483647 : Int32)) % (5 : Int32)))] [(.ref w_STRUCTURE)])) (fun t k => st106 _ k) ?_
        refine Goes.leave (g := (mkF m 32 #[.val (.int p0), .val (.int ((p0 &&& (2147483647 : Int32)) % (5 : Int32)))] [(.ref w_STRUCTURE)])) X106 Bd.notSynchronized (v := (some (.ref w_STRUCTURE))) (fun h => by rw [Bd.returns] at h; cases h) (fun fs hr => by jvm_step X106.here [X106.here.top, hx, (hb hby d_method_2_code_32), X106.method', Bd.returns, Value.isRef, FieldType.isReference]; (first | (intro acts; rw [hr _ acts rfl rfl rfl]) | rw [hr _ _ rfl rfl rfl]); exact Steps.refl _) e106 ?_ (by decide) (by decide)
        exact ⟨w_STRUCTURE, rfl, N0, rfl, E_STRUCTURE⟩
      case neg =>
        refine Goes.step (S' := s₁.setTop (mkF m 35 #[.val (.int p0), .val (.int ((p0 &&& (2147483647 : Int32)) % (5 : Int32)))] [(.int (3 : Int32)), (.int ((p0 &&& (2147483647 : Int32)) % (5 : Int32)))])) (fun t k => XS.icmpYes X0.here hx rfl (pc0 := 26) (pc' := 33) rfl (hb hby d_method_2_code_26) rfl (feq hc105).2 (by decide) (by decide) (XS.iloadN X0.here hx rfl (hb hby d_method_2_code_33) rfl (XS.iconst X0.here hx rfl (hb hby d_method_2_code_34) k))) ?_
        by_cases hc107 : ((p0 &&& (2147483647 : Int32)) % (5 : Int32)) = (3 : Int32)
        case pos =>
          refine Goes.step (S' := s₁.setTop (mkF m 38 #[.val (.int p0), .val (.int ((p0 &&& (2147483647 : Int32)) % (5 : Int32)))] [])) (fun t k => XS.icmpNo X0.here hx rfl (hb hby d_method_2_code_35) rfl (teq hc107).2 k) ?_
          obtain ⟨T108, X108, e108, st108⟩ := getS2 X0 hx hZ hown (host := "") (Or.inl tw5) Via.refl eh0 S_DATA (g := (mkF m 38 #[.val (.int p0), .val (.int ((p0 &&& (2147483647 : Int32)) % (5 : Int32)))] [])) rfl (hb hby d_method_2_code_38)
          refine Goes.step (S' := T108.setTop (mkF m 41 #[.val (.int p0), .val (.int ((p0 &&& (2147483647 : Int32)) % (5 : Int32)))] [(.ref w_DATA)])) (fun t k => st108 _ k) ?_
          refine Goes.leave (g := (mkF m 41 #[.val (.int p0), .val (.int ((p0 &&& (2147483647 : Int32)) % (5 : Int32)))] [(.ref w_DATA)])) X108 Bd.notSynchronized (v := (some (.ref w_DATA))) (fun h => by rw [Bd.returns] at h; cases h) (fun fs hr => by jvm_step X108.here [X108.here.top, hx, (hb hby d_method_2_code_41), X108.method', Bd.returns, Value.isRef, FieldType.isReference]; (first | (intro acts; rw [hr _ acts rfl rfl rfl]) | rw [hr _ _ rfl rfl rfl]); exact Steps.refl _) e108 ?_ (by decide) (by decide)
          exact ⟨w_DATA, rfl, N0, rfl, E_DATA⟩
        case neg =>
          refine Goes.step (S' := s₁.setTop (mkF m 42 #[.val (.int p0), .val (.int ((p0 &&& (2147483647 : Int32)) % (5 : Int32)))] [])) (fun t k => XS.icmpYes X0.here hx rfl (pc0 := 35) (pc' := 42) rfl (hb hby d_method_2_code_35) rfl (feq hc107).2 (by decide) (by decide) k) ?_
          obtain ⟨T109, X109, e109, st109⟩ := getS2 X0 hx hZ hown (host := "") (Or.inl tw154) Via.refl eh0 S_CHANGED (g := (mkF m 42 #[.val (.int p0), .val (.int ((p0 &&& (2147483647 : Int32)) % (5 : Int32)))] [])) rfl (hb hby d_method_2_code_42)
          refine Goes.step (S' := T109.setTop (mkF m 45 #[.val (.int p0), .val (.int ((p0 &&& (2147483647 : Int32)) % (5 : Int32)))] [(.ref w_CHANGED)])) (fun t k => st109 _ k) ?_
          refine Goes.leave (g := (mkF m 45 #[.val (.int p0), .val (.int ((p0 &&& (2147483647 : Int32)) % (5 : Int32)))] [(.ref w_CHANGED)])) X109 Bd.notSynchronized (v := (some (.ref w_CHANGED))) (fun h => by rw [Bd.returns] at h; cases h) (fun fs hr => by jvm_step X109.here [X109.here.top, hx, (hb hby d_method_2_code_45), X109.method', Bd.returns, Value.isRef, FieldType.isReference]; (first | (intro acts; rw [hr _ acts rfl rfl rfl]) | rw [hr _ _ rfl rfl rfl]); exact Steps.refl _) e109 ?_ (by decide) (by decide)
          exact ⟨w_CHANGED, rfl, N0, rfl, E_CHANGED⟩

theorem ef_cmp (m : MethodId) (x0 : Addr) (x1 : Int32) (x2 : Addr) (x3 : Int32) (x4 : Int32) : entryFrame m #[(.ref x0), (.int x1), (.ref x2), (.int x3), (.int x4)] 7 = mkF m 0 #[.val (.ref x0), .val (.int x1), .val (.ref x2), .val (.int x3), .val (.int x4), .unset, .unset] [] := by first | (simp [entryFrame, mkF, argsToLocals, Value.category]; done) | rfl
def Q_cmp (Z : State) (a1 : Addr) (k1 : ClassId) (a3 : Addr) (k3 : ClassId) (x0 : Int32) (x1 : Int32) (h0 : Heap) (n0 : Nat) (v : Option Value) (h : Heap) (L : List Loc) : Prop := ∃ (y0 : Value) (y1 : Value), v = some (.int (2 : Int32)) ∧ Fr n0 L ∧ Keep h0 h [a3] ∧ Arv Z h a3 k3 .byte (2 : Int32) [y0, y1] (.int (0 : Int32))
set_option maxRecDepth 65536 in
set_option maxHeartbeats 40000000 in
theorem cmp (l : Launch) (Z : State) (a0 : Array Value) (hw : ∀ d ∈ tables_1, d.before a0 Z = true) (ws : List Jvm.Cond) (a1 : Addr) (k1 : ClassId) (a3 : Addr) (k3 : ClassId) (x0 : Int32) (x1 : Int32) (h0 : Heap) (n0 : Nat) (Z0 : n0 ≤ h0.size) (V1 : Arv Z h0 a1 k1 .char (2 : Int32) [(.int x0), (.int x1)] (.int (0 : Int32))) (V3 : Arv Z h0 a3 k3 .byte (2 : Int32) [(.int (0 : Int32)), (.int (0 : Int32))] (.int (0 : Int32))) (G3 : n0 ≤ a3) (NE : a1 ≠ a3) (P0 : ¬ ((255 : Int32) < x0)) (P1 : ¬ ((255 : Int32) < x1)) :
    MetFree l mth1 (head1 (Jvm.Cond.code mth1 jdk_52_method_21_code 7 (some .int) :: ws) rom0) (fun a U => a = #[(.ref a1), (.int (0 : Int32)), (.ref a3), (.int (0 : Int32)), (.int (2 : Int32))] ∧ Z.Warmed39 U.vm ∧ U.heap = h0) (fun _ _ _ _ _ => True) (fun _ U o U' => ∃ v L, o = .returned v ∧ Q_cmp Z a1 k1 a3 k3 x0 x1 h0 n0 v U'.heap L ∧ FrameEnd U o U' L rom0.cells rom0.slots) := by
  refine MetFree.of_bodySF (plainFor_of_name pnm1) hisR ?_
  intro p e s m args below meth c s₁ Bd hml0 hP hK
  obtain ⟨rfl, hZ, hh⟩ := hP
  have hx := Bd.exec
  have hby := Bd.bytes
  have hml : c.maxLocals = 7 := hml0
  have hown : s.vm.findClass "java/lang/StringUTF16" = some m.cls := findClass_of_methodNamed Bd.named
  have hnm := (name_of_methodNamed Bd.named Bd.method).1
  have X0 : Stand p l e rom0 s m #[(.ref a1), (.int (0 : Int32)), (.ref a3), (.int (0 : Int32)), (.int (2 : Int32))] below meth c s₁ [] 0 0 := Stand.of_body Bd
  have eh0 : s₁.heap = h0 := by rw [← hh, Bd.state]; rfl
  have N0 := Fr.nil n0
  show Goes p e below (Pq (Q_cmp Z a1 k1 a3 k3 x0 x1 h0 n0) s rom0.cells rom0.slots) (s₁.setTop (entryFrame m #[(.ref a1), (.int (0 : Int32)), (.ref a3), (.int (0 : Int32)), (.int (2 : Int32))] 7))
  refine Goes.step (S' := s₁.setTop (mkF m 0 #[.val (.ref a1), .val (.int (0 : Int32)), .val (.ref a3), .val (.int (0 : Int32)), .val (.int (2 : Int32)), .unset, .unset] [])) (fun t k => castTop (ef_cmp m a1 (0 : Int32) a3 (0 : Int32) (2 : Int32)) k) ?_
  refine Goes.step (S' := s₁.setTop (mkF m 12 #[.val (.ref a1), .val (.int (0 : Int32)), .val (.ref a3), .val (.int (0 : Int32)), .val (.int (2 : Int32)), .val (.int (0 : Int32)), .unset] [(.int (0 : Int32)), (.ref a1)])) (fun t k => XS.iconst X0.here hx rfl (hb hby d_jdk_52_method_21_code_0) (XS.istore X0.here hx rfl (hb hby d_jdk_52_method_21_code_1) rfl (l' := #[.val (.ref a1), .val (.int (0 : Int32)), .val (.ref a3), .val (.int (0 : Int32)), .val (.int (2 : Int32)), .val (.int (0 : Int32)), .unset]) rfl (XS.iload X0.here hx rfl (hb hby d_jdk_52_method_21_code_3) rfl (XS.iload X0.here hx rfl (hb hby d_jdk_52_method_21_code_5) rfl (XS.icmpNo X0.here hx rfl (hb hby d_jdk_52_method_21_code_7) rfl (tlt ((by decide) : (0 : Int32) < (2 : Int32))).2.1 (XS.aloadN X0.here hx rfl (hb hby d_jdk_52_method_21_code_10) rfl rfl (XS.iloadN X0.here hx rfl (hb hby d_jdk_52_method_21_code_11) rfl k))))))) ?_
  obtain ⟨cl101, Ar101, qk101, Sz101, Nn101, Hs101, Gs101⟩ := id V1
  have hin101 := (inb_of (j := (0 : Int32)) Sz101 ⟨by decide, by decide⟩)
  refine Goes.step (S' := s₁.setTop (mkF m 30 #[.val (.ref a1), .val (.int (0 : Int32)), .val (.ref a3), .val (.int (0 : Int32)), .val (.int (2 : Int32)), .val (.int (0 : Int32)), .val (.int x0)] [(.int x0), (.int (0 : Int32)), (.ref a3)])) (fun t k => X0.caload hx (j := (0 : Int32)) (v := (.int x0)) (by rw [eh0]; exact Ar101.1) (State.isArrayOf_alike hZ.alike Ar101.2.1) Ar101.2.2 hin101 (Has.at Hs101 hin101 rfl) (g := (mkF m 12 #[.val (.ref a1), .val (.int (0 : Int32)), .val (.ref a3), .val (.int (0 : Int32)), .val (.int (2 : Int32)), .val (.int (0 : Int32)), .unset] [(.int (0 : Int32)), (.ref a1)])) rfl rfl (hb hby d_jdk_52_method_21_code_12) _ (XS.istore X0.here hx rfl (hb hby d_jdk_52_method_21_code_13) rfl (l' := #[.val (.ref a1), .val (.int (0 : Int32)), .val (.ref a3), .val (.int (0 : Int32)), .val (.int (2 : Int32)), .val (.int (0 : Int32)), .val (.int x0)]) rfl (XS.iload X0.here hx rfl (hb hby d_jdk_52_method_21_code_15) rfl (XS.sipush X0.here hx rfl (hb hby d_jdk_52_method_21_code_17) (XS.icmpYes X0.here hx rfl (pc0 := 20) (pc' := 26) rfl (hb hby d_jdk_52_method_21_code_20) rfl (flt (P0 : ¬ ((255 : Int32) < x0))).2.2.2 (by decide) (by decide) (XS.aloadN X0.here hx rfl (hb hby d_jdk_52_method_21_code_26) rfl rfl (XS.iloadN X0.here hx rfl (hb hby d_jdk_52_method_21_code_27) rfl (XS.iload X0.here hx rfl (hb hby d_jdk_52_method_21_code_28) rfl k)))))))) ?_
  refine Goes.step (S' := s₁.setTop (mkF m 31 #[.val (.ref a1), .val (.int (0 : Int32)), .val (.ref a3), .val (.int (0 : Int32)), .val (.int (2 : Int32)), .val (.int (0 : Int32)), .val (.int x0)] [(.int (x0.toInt8.toInt32)), (.int (0 : Int32)), (.ref a3)])) (fun t k => XS.i2b X0.here hx rfl (hb hby d_jdk_52_method_21_code_30) rfl k) ?_
  obtain ⟨cl102, Ar102, qk102, Sz102, Nn102, Hs102, Gs102⟩ := id V3
  obtain ⟨T102, h102, X102, e102, W102, st102⟩ := stB X0 hx hZ eh0 Ar102 (j := (0 : Int32)) (inb_of (j := (0 : Int32)) Sz102 ⟨by decide, by decide⟩) (g := (mkF m 31 #[.val (.ref a1), .val (.int (0 : Int32)), .val (.ref a3), .val (.int (0 : Int32)), .val (.int (2 : Int32)), .val (.int (0 : Int32)), .val (.int x0)] [(.int (x0.toInt8.toInt32)), (.int (0 : Int32)), (.ref a3)])) rfl rfl (hb hby d_jdk_52_method_21_code_31)
  have V102 : Arv Z h102 a3 k3 .byte (2 : Int32) [(.int (x0.toInt8.toInt32).toInt8.toInt32), (.int (0 : Int32))] (.int (0 : Int32)) := Arv.set Ar102 qk102 Sz102 Nn102 Hs102 Gs102 (fits_nar_byte _) W102 0 rfl (Nat.le_of_ble_eq_true rfl)
  have N102 := Fr.snoc X102 N0 G3
  refine Goes.step (S' := T102.setTop (mkF m 35 #[.val (.ref a1), .val (.int ((0 : Int32) + (1 : Int32))), .val (.ref a3), .val (.int (0 : Int32)), .val (.int (2 : Int32)), .val (.int (0 : Int32)), .val (.int x0)] [])) (fun t k => st102 _ (XS.iinc X102.here hx rfl (hb hby d_jdk_52_method_21_code_32) rfl (l' := #[.val (.ref a1), .val (.int ((0 : Int32) + (1 : Int32))), .val (.ref a3), .val (.int (0 : Int32)), .val (.int (2 : Int32)), .val (.int (0 : Int32)), .val (.int x0)]) rfl k)) ?_
  rw [show ((0 : Int32) + (1 : Int32)) = (1 : Int32) from by decide]
  refine Goes.step (S' := T102.setTop (mkF m 38 #[.val (.ref a1), .val (.int (1 : Int32)), .val (.ref a3), .val (.int ((0 : Int32) + (1 : Int32))), .val (.int (2 : Int32)), .val (.int (0 : Int32)), .val (.int x0)] [])) (fun t k => XS.iinc X102.here hx rfl (hb hby d_jdk_52_method_21_code_35) rfl (l' := #[.val (.ref a1), .val (.int (1 : Int32)), .val (.ref a3), .val (.int ((0 : Int32) + (1 : Int32))), .val (.int (2 : Int32)), .val (.int (0 : Int32)), .val (.int x0)]) rfl k) ?_
  rw [show ((0 : Int32) + (1 : Int32)) = (1 : Int32) from by decide]
  refine Goes.step (S' := T102.setTop (mkF m 41 #[.val (.ref a1), .val (.int (1 : Int32)), .val (.ref a3), .val (.int (1 : Int32)), .val (.int (2 : Int32)), .val (.int ((0 : Int32) + (1 : Int32))), .val (.int x0)] [])) (fun t k => XS.iinc X102.here hx rfl (hb hby d_jdk_52_method_21_code_38) rfl (l' := #[.val (.ref a1), .val (.int (1 : Int32)), .val (.ref a3), .val (.int (1 : Int32)), .val (.int (2 : Int32)), .val (.int ((0 : Int32) + (1 : Int32))), .val (.int x0)]) rfl k) ?_
  rw [show ((0 : Int32) + (1 : Int32)) = (1 : Int32) from by decide]
  refine Goes.step (S' := T102.setTop (mkF m 12 #[.val (.ref a1), .val (.int (1 : Int32)), .val (.ref a3), .val (.int (1 : Int32)), .val (.int (2 : Int32)), .val (.int (1 : Int32)), .val (.int x0)] [(.int (1 : Int32)), (.ref a1)])) (fun t k => XS.goto X102.here hx rfl (pc0 := 41) (pc' := 3) rfl (hb hby d_jdk_52_method_21_code_41) (by decide) (by decide) (XS.iload X102.here hx rfl (hb hby d_jdk_52_method_21_code_3) rfl (XS.iload X102.here hx rfl (hb hby d_jdk_52_method_21_code_5) rfl (XS.icmpNo X102.here hx rfl (hb hby d_jdk_52_method_21_code_7) rfl (tlt ((by decide) : (1 : Int32) < (2 : Int32))).2.1 (XS.aloadN X102.here hx rfl (hb hby d_jdk_52_method_21_code_10) rfl rfl (XS.iloadN X102.here hx rfl (hb hby d_jdk_52_method_21_code_11) rfl k)))))) ?_
  obtain ⟨cl103, Ar103, qk103, Sz103, Nn103, Hs103, Gs103⟩ := id (V1.other W102 NE)
  have hin103 := (inb_of (j := (1 : Int32)) Sz103 ⟨by decide, by decide⟩)
  refine Goes.step (S' := T102.setTop (mkF m 30 #[.val (.ref a1), .val (.int (1 : Int32)), .val (.ref a3), .val (.int (1 : Int32)), .val (.int (2 : Int32)), .val (.int (1 : Int32)), .val (.int x1)] [(.int x1), (.int (1 : Int32)), (.ref a3)])) (fun t k => X102.caload hx (j := (1 : Int32)) (v := (.int x1)) (by rw [e102]; exact Ar103.1) (State.isArrayOf_alike hZ.alike Ar103.2.1) Ar103.2.2 hin103 (Has.at Hs103 hin103 rfl) (g := (mkF m 12 #[.val (.ref a1), .val (.int (1 : Int32)), .val (.ref a3), .val (.int (1 : Int32)), .val (.int (2 : Int32)), .val (.int (1 : Int32)), .val (.int x0)] [(.int (1 : Int32)), (.ref a1)])) rfl rfl (hb hby d_jdk_52_method_21_code_12) _ (XS.istore X102.here hx rfl (hb hby d_jdk_52_method_21_code_13) rfl (l' := #[.val (.ref a1), .val (.int (1 : Int32)), .val (.ref a3), .val (.int (1 : Int32)), .val (.int (2 : Int32)), .val (.int (1 : Int32)), .val (.int x1)]) rfl (XS.iload X102.here hx rfl (hb hby d_jdk_52_method_21_code_15) rfl (XS.sipush X102.here hx rfl (hb hby d_jdk_52_method_21_code_17) (XS.icmpYes X102.here hx rfl (pc0 := 20) (pc' := 26) rfl (hb hby d_jdk_52_method_21_code_20) rfl (flt (P1 : ¬ ((255 : Int32) < x1))).2.2.2 (by decide) (by decide) (XS.aloadN X102.here hx rfl (hb hby d_jdk_52_method_21_code_26) rfl rfl (XS.iloadN X102.here hx rfl (hb hby d_jdk_52_method_21_code_27) rfl (XS.iload X102.here hx rfl (hb hby d_jdk_52_method_21_code_28) rfl k)))))))) ?_
  refine Goes.step (S' := T102.setTop (mkF m 31 #[.val (.ref a1), .val (.int (1 : Int32)), .val (.ref a3), .val (.int (1 : Int32)), .val (.int (2 : Int32)), .val (.int (1 : Int32)), .val (.int x1)] [(.int (x1.toInt8.toInt32)), (.int (1 : Int32)), (.ref a3)])) (fun t k => XS.i2b X102.here hx rfl (hb hby d_jdk_52_method_21_code_30) rfl k) ?_
  obtain ⟨cl104, Ar104, qk104, Sz104, Nn104, Hs104, Gs104⟩ := id V102
  obtain ⟨T104, h104, X104, e104, W104, st104⟩ := stB X102 hx hZ e102 Ar104 (j := (1 : Int32)) (inb_of (j := (1 : Int32)) Sz104 ⟨by decide, by decide⟩) (g := (mkF m 31 #[.val (.ref a1), .val (.int (1 : Int32)), .val (.ref a3), .val (.int (1 : Int32)), .val (.int (2 : Int32)), .val (.int (1 : Int32)), .val (.int x1)] [(.int (x1.toInt8.toInt32)), (.int (1 : Int32)), (.ref a3)])) rfl rfl (hb hby d_jdk_52_method_21_code_31)
  have V104 : Arv Z h104 a3 k3 .byte (2 : Int32) [(.int (x0.toInt8.toInt32).toInt8.toInt32), (.int (x1.toInt8.toInt32).toInt8.toInt32)] (.int (0 : Int32)) := Arv.set Ar104 qk104 Sz104 Nn104 Hs104 Gs104 (fits_nar_byte _) W104 1 rfl (Nat.le_of_ble_eq_true rfl)
  have N104 := Fr.snoc X104 N102 G3
  refine Goes.step (S' := T104.setTop (mkF m 35 #[.val (.ref a1), .val (.int ((1 : Int32) + (1 : Int32))), .val (.ref a3), .val (.int (1 : Int32)), .val (.int (2 : Int32)), .val (.int (1 : Int32)), .val (.int x1)] [])) (fun t k => st104 _ (XS.iinc X104.here hx rfl (hb hby d_jdk_52_method_21_code_32) rfl (l' := #[.val (.ref a1), .val (.int ((1 : Int32) + (1 : Int32))), .val (.ref a3), .val (.int (1 : Int32)), .val (.int (2 : Int32)), .val (.int (1 : Int32)), .val (.int x1)]) rfl k)) ?_
  rw [show ((1 : Int32) + (1 : Int32)) = (2 : Int32) from by decide]
  refine Goes.step (S' := T104.setTop (mkF m 38 #[.val (.ref a1), .val (.int (2 : Int32)), .val (.ref a3), .val (.int ((1 : Int32) + (1 : Int32))), .val (.int (2 : Int32)), .val (.int (1 : Int32)), .val (.int x1)] [])) (fun t k => XS.iinc X104.here hx rfl (hb hby d_jdk_52_method_21_code_35) rfl (l' := #[.val (.ref a1), .val (.int (2 : Int32)), .val (.ref a3), .val (.int ((1 : Int32) + (1 : Int32))), .val (.int (2 : Int32)), .val (.int (1 : Int32)), .val (.int x1)]) rfl k) ?_
  rw [show ((1 : Int32) + (1 : Int32)) = (2 : Int32) from by decide]
  refine Goes.step (S' := T104.setTop (mkF m 41 #[.val (.ref a1), .val (.int (2 : Int32)), .val (.ref a3), .val (.int (2 : Int32)), .val (.int (2 : Int32)), .val (.int ((1 : Int32) + (1 : Int32))), .val (.int x1)] [])) (fun t k => XS.iinc X104.here hx rfl (hb hby d_jdk_52_method_21_code_38) rfl (l' := #[.val (.ref a1), .val (.int (2 : Int32)), .val (.ref a3), .val (.int (2 : Int32)), .val (.int (2 : Int32)), .val (.int ((1 : Int32) + (1 : Int32))), .val (.int x1)]) rfl k) ?_
  rw [show ((1 : Int32) + (1 : Int32)) = (2 : Int32) from by decide]
  refine Goes.step (S' := T104.setTop (mkF m 46 #[.val (.ref a1), .val (.int (2 : Int32)), .val (.ref a3), .val (.int (2 : Int32)), .val (.int (2 : Int32)), .val (.int (2 : Int32)), .val (.int x1)] [(.int (2 : Int32))])) (fun t k => XS.goto X104.here hx rfl (pc0 := 41) (pc' := 3) rfl (hb hby d_jdk_52_method_21_code_41) (by decide) (by decide) (XS.iload X104.here hx rfl (hb hby d_jdk_52_method_21_code_3) rfl (XS.iload X104.here hx rfl (hb hby d_jdk_52_method_21_code_5) rfl (XS.icmpYes X104.here hx rfl (pc0 := 7) (pc' := 44) rfl (hb hby d_jdk_52_method_21_code_7) rfl (flt ((by decide) : ¬ ((2 : Int32) < (2 : Int32)))).2.1 (by decide) (by decide) (XS.iload X104.here hx rfl (hb hby d_jdk_52_method_21_code_44) rfl k))))) ?_
  refine Goes.leave (g := (mkF m 46 #[.val (.ref a1), .val (.int (2 : Int32)), .val (.ref a3), .val (.int (2 : Int32)), .val (.int (2 : Int32)), .val (.int (2 : Int32)), .val (.int x1)] [(.int (2 : Int32))])) X104 Bd.notSynchronized (v := (some (.int (2 : Int32)))) (fun h => by rw [Bd.returns] at h; cases h) (fun fs hr => retI X104 hx Bd.returns (hb hby d_jdk_52_method_21_code_46) hr) e104 ?_ (by decide) (by decide)
  exact ⟨(.int (x0.toInt8.toInt32).toInt8.toInt32), (.int (x1.toInt8.toInt32).toInt8.toInt32), rfl, N104, (((Keep.refl _ [a3]).wr W102 (Or.inl (List.mem_of_getElem? (i := 0) rfl))).wr W104 (Or.inl (List.mem_of_getElem? (i := 0) rfl))), V104⟩

theorem ef_cmp2 (m : MethodId) (x0 : Addr) (x1 : Int32) (x2 : Int32) : entryFrame m #[(.ref x0), (.int x1), (.int x2)] 6 = mkF m 0 #[.val (.ref x0), .val (.int x1), .val (.int x2), .unset, .unset, .unset] [] := by first | (simp [entryFrame, mkF, argsToLocals, Value.category]; done) | rfl
def Q_cmp2 (Z : State) (a1 : Addr) (k1 : ClassId) (x0 : Int32) (x1 : Int32) (h0 : Heap) (n0 : Nat) (v : Option Value) (h : Heap) (L : List Loc) : Prop := ∃ (b : Addr) (kb : ClassId) (y0 : Value) (y1 : Value), v = some (.ref b) ∧ Fr n0 L ∧ Keep h0 h [] ∧ h0.size ≤ b ∧ Exa Z h b "[B" ∧ Arv Z h b kb .byte (2 : Int32) [y0, y1] (.int (0 : Int32))
set_option maxRecDepth 65536 in
set_option maxHeartbeats 40000000 in
theorem cmp2 (l : Launch) (Z : State) (a0 : Array Value) (hw : ∀ d ∈ tables_1, d.before a0 Z = true) (ws : List Jvm.Cond) (a1 : Addr) (k1 : ClassId) (x0 : Int32) (x1 : Int32) (h0 : Heap) (n0 : Nat) (Z0 : n0 ≤ h0.size) (V1 : Arv Z h0 a1 k1 .char (2 : Int32) [(.int x0), (.int x1)] (.int (0 : Int32))) (P0 : ¬ ((255 : Int32) < x0)) (P1 : ¬ ((255 : Int32) < x1)) :
    MetFree l mth2 (head1 (Jvm.Cond.code mth2 jdk_52_method_16_code 6 (some (.array .byte)) :: ws) rom1) (fun a U => a = #[(.ref a1), (.int (0 : Int32)), (.int (2 : Int32))] ∧ Z.Warmed39 U.vm ∧ U.heap = h0) (fun _ _ _ _ _ => True) (fun _ U o U' => ∃ v L, o = .returned v ∧ Q_cmp2 Z a1 k1 x0 x1 h0 n0 v U'.heap L ∧ FrameEnd U o U' L rom1.cells rom1.slots) := by
  refine MetFree.of_bodySF (plainFor_of_name pnm1) hisR ?_
  intro p e s m args below meth c s₁ Bd hml0 hP hK
  obtain ⟨rfl, hZ, hh⟩ := hP
  have hx := Bd.exec
  have hby := Bd.bytes
  have hml : c.maxLocals = 6 := hml0
  have hown : s.vm.findClass "java/lang/StringUTF16" = some m.cls := findClass_of_methodNamed Bd.named
  have hnm := (name_of_methodNamed Bd.named Bd.method).1
  have X0 : Stand p l e rom1 s m #[(.ref a1), (.int (0 : Int32)), (.int (2 : Int32))] below meth c s₁ [] 0 0 := Stand.of_body Bd
  have eh0 : s₁.heap = h0 := by rw [← hh, Bd.state]; rfl
  have N0 := Fr.nil n0
  have tw25 := hw _ (List.mem_of_getElem? (i := 25) rfl)
  have tw27 := hw _ (List.mem_of_getElem? (i := 27) rfl)
  have tw28 := hw _ (List.mem_of_getElem? (i := 28) rfl)
  have tw29 := hw _ (List.mem_of_getElem? (i := 29) rfl)
  have tw30 := hw _ (List.mem_of_getElem? (i := 30) rfl)
  show Goes p e below (Pq (Q_cmp2 Z a1 k1 x0 x1 h0 n0) s rom1.cells rom1.slots) (s₁.setTop (entryFrame m #[(.ref a1), (.int (0 : Int32)), (.int (2 : Int32))] 6))
  refine Goes.step (S' := s₁.setTop (mkF m 0 #[.val (.ref a1), .val (.int (0 : Int32)), .val (.int (2 : Int32)), .unset, .unset, .unset] [])) (fun t k => castTop (ef_cmp2 m a1 (0 : Int32) (2 : Int32)) k) ?_
  refine Goes.step (S' := s₁.setTop (mkF m 1 #[.val (.ref a1), .val (.int (0 : Int32)), .val (.int (2 : Int32)), .unset, .unset, .unset] [(.int (2 : Int32))])) (fun t k => XS.iloadN X0.here hx rfl (hb hby d_jdk_52_method_16_code_0) rfl k) ?_
  obtain ⟨T101, h101, k101, X101, e101, E101, A101, AE101, st101⟩ := newPE (aty := .byte) X0 hx hZ tw27 eh0 (g := (mkF m 1 #[.val (.ref a1), .val (.int (0 : Int32)), .val (.int (2 : Int32)), .unset, .unset, .unset] [(.int (2 : Int32))])) rfl (hb hby d_jdk_52_method_16_code_1) rfl (by decide) (cap := 2) (by decide) (by decide) (by decide) (by decide) (ad := "[B") rfl
  obtain ⟨b101, g101⟩ : ∃ z, z = h0.size := ⟨_, rfl⟩
  rw [← g101] at A101 AE101 st101
  have V101 : Arv Z h101 b101 k101 .byte (2 : Int32) [(.int (0 : Int32)), (.int (0 : Int32))] (.int (0 : Int32)) := (Arv.new A101 (by decide)).pad (pad_rep [] (.int (0 : Int32)) 2)
  refine Goes.step (S' := T101.setTop (mkF m 9 #[.val (.ref a1), .val (.int (0 : Int32)), .val (.int (2 : Int32)), .val (.ref b101), .unset, .unset] [(.int (2 : Int32)), (.int (0 : Int32)), (.ref b101), (.int (0 : Int32)), (.ref a1)])) (fun t k => st101 _ (XS.astoreN X101.here hx rfl (hb hby d_jdk_52_method_16_code_3) rfl rfl (l' := #[.val (.ref a1), .val (.int (0 : Int32)), .val (.int (2 : Int32)), .val (.ref b101), .unset, .unset]) rfl (XS.aloadN X101.here hx rfl (hb hby d_jdk_52_method_16_code_4) rfl rfl (XS.iloadN X101.here hx rfl (hb hby d_jdk_52_method_16_code_5) rfl (XS.aloadN X101.here hx rfl (hb hby d_jdk_52_method_16_code_6) rfl rfl (XS.iconst X101.here hx rfl (hb hby d_jdk_52_method_16_code_7) (XS.iloadN X101.here hx rfl (hb hby d_jdk_52_method_16_code_8) rfl k))))))) ?_
  obtain ⟨_, _, ⟨T102, L102, k102, n102⟩, -, X102, ⟨Lc102, hQ102, l102, y102, z102⟩, st102⟩ := Jvm.LawKit.callS X101 hx (y := mth1) hown (mvT hZ tw28) (mvT hZ tw29) (mvT hZ tw25) (mvT hZ tw30) (by decide) (backOf (W := 0) (cmp l Z a0 hw [] a1 k1 b101 k101 x0 x1 h101 n0 (Nat.le_trans Z0 E101.1) (V1.ext E101) V101 (Nat.le_trans Z0 (Nat.le_of_eq g101.symm)) (Nat.ne_of_lt (Nat.lt_of_lt_of_le V1.lt (Nat.le_of_eq g101.symm))) (P0 : ¬ ((255 : Int32) < x0)) (P1 : ¬ ((255 : Int32) < x1))) hZ tw30 tw25 (by decide) (by decide)) (g := (mkF m 9 #[.val (.ref a1), .val (.int (0 : Int32)), .val (.int (2 : Int32)), .val (.ref b101), .unset, .unset] [(.int (2 : Int32)), (.int (0 : Int32)), (.ref b101), (.int (0 : Int32)), (.ref a1)])) rfl (by rw [hml]; rfl) (argsL := [(.ref a1), (.int (0 : Int32)), (.ref b101), (.int (0 : Int32)), (.int (2 : Int32))]) (rest := []) (lenOf pd_CI_BII_I rfl) rfl (Nat.le_of_eq rfl) (hb hby d_jdk_52_method_16_code_9) (fun _ _ => ⟨rfl, e101, (by decide : 1 + 0 ≤ _), (by decide : 2 + 0 ≤ _)⟩)
  dsimp only [Pt.U, Pt.locs, Pt.cells, Pt.slots] at X102 l102 y102 z102 st102 hQ102
  subst y102 z102
  obtain ⟨y0_102, y1_102, rfl, Nq102, q102_0, q102_1⟩ := hQ102
  have N102 : Fr n0 L102 := by rw [l102]; exact Fr.app N0 Nq102
  refine Goes.step (S' := T102.setTop (mkF m 58 #[.val (.ref a1), .val (.int (0 : Int32)), .val (.int (2 : Int32)), .val (.ref b101), .val (.int (2 : Int32)), .unset] [(.ref b101)])) (fun t k => st102 _ (XS.istore X102.here hx rfl (hb hby d_jdk_52_method_16_code_12) rfl (l' := #[.val (.ref a1), .val (.int (0 : Int32)), .val (.int (2 : Int32)), .val (.ref b101), .val (.int (2 : Int32)), .unset]) rfl (XS.iload X102.here hx rfl (hb hby d_jdk_52_method_16_code_14) rfl (XS.iloadN X102.here hx rfl (hb hby d_jdk_52_method_16_code_16) rfl (XS.icmpYes X102.here hx rfl (pc0 := 17) (pc' := 57) rfl (hb hby d_jdk_52_method_16_code_17) rfl (teq ((by decide) : (2 : Int32) = (2 : Int32))).1 (by decide) (by decide) (XS.aloadN X102.here hx rfl (hb hby d_jdk_52_method_16_code_57) rfl rfl k)))))) ?_
  refine Goes.leave (g := (mkF m 58 #[.val (.ref a1), .val (.int (0 : Int32)), .val (.int (2 : Int32)), .val (.ref b101), .val (.int (2 : Int32)), .unset] [(.ref b101)])) X102 Bd.notSynchronized (v := (some (.ref b101))) (fun h => by rw [Bd.returns] at h; cases h) (fun fs hr => by jvm_step X102.here [X102.here.top, hx, (hb hby d_jdk_52_method_16_code_58), X102.method', Bd.returns, Value.isRef, FieldType.isReference]; (first | (intro acts; rw [hr _ acts rfl rfl rfl]) | rw [hr _ _ rfl rfl rfl]); exact Steps.refl _) rfl ?_ (by decide) (by decide)
  exact ⟨b101, k101, y0_102, y1_102, rfl, N102, (((Keep.refl _ []).ext E101).trans q102_0 (allS (Or.inr (Nat.le_of_eq g101.symm)) all0)), (Nat.le_of_eq g101.symm), (AE101.keep q102_0), q102_1⟩

theorem ef_cfa (m : MethodId) (x0 : Addr) (x1 : Int32) : entryFrame m #[(.ref x0), (.int x1)] 2 = mkF m 0 #[.val (.ref x0), .val (.int x1)] [] := by first | (simp [entryFrame, mkF, argsToLocals, Value.category]; done) | rfl
def Q_cfa (Z : State) (a1 : Addr) (k1 : ClassId) (y0 : Value) (y1 : Value) (h0 : Heap) (n0 : Nat) (v : Option Value) (h : Heap) (L : List Loc) : Prop := v = some (.int (0 : Int32)) ∧ Fr n0 L ∧ h = h0
set_option maxRecDepth 65536 in
set_option maxHeartbeats 40000000 in
theorem cfa (l : Launch) (Z : State) (a0 : Array Value) (hw : ∀ d ∈ tables_1, d.before a0 Z = true) (ws : List Jvm.Cond) (a1 : Addr) (k1 : ClassId) (y0 : Value) (y1 : Value) (h0 : Heap) (n0 : Nat) (Z0 : n0 ≤ h0.size) (V1 : Arv Z h0 a1 k1 .byte (2 : Int32) [y0, y1] (.int (0 : Int32))) :
    MetFree l mth3 (head1 (Jvm.Cond.code mth3 jdk_52_method_15_code 2 (some .byte) :: ws) rom0) (fun a U => a = #[(.ref a1), (.int (2 : Int32))] ∧ Z.Warmed39 U.vm ∧ U.heap = h0) (fun _ _ _ _ _ => True) (fun _ U o U' => ∃ v L, o = .returned v ∧ Q_cfa Z a1 k1 y0 y1 h0 n0 v U'.heap L ∧ FrameEnd U o U' L rom0.cells rom0.slots) := by
  refine MetFree.of_bodySF (plainFor_of_name pnm1) hisR ?_
  intro p e s m args below meth c s₁ Bd hml0 hP hK
  obtain ⟨rfl, hZ, hh⟩ := hP
  have hx := Bd.exec
  have hby := Bd.bytes
  have hml : c.maxLocals = 2 := hml0
  have hown : s.vm.findClass "java/lang/StringUTF16" = some m.cls := findClass_of_methodNamed Bd.named
  have hnm := (name_of_methodNamed Bd.named Bd.method).1
  have X0 : Stand p l e rom0 s m #[(.ref a1), (.int (2 : Int32))] below meth c s₁ [] 0 0 := Stand.of_body Bd
  have eh0 : s₁.heap = h0 := by rw [← hh, Bd.state]; rfl
  have N0 := Fr.nil n0
  show Goes p e below (Pq (Q_cfa Z a1 k1 y0 y1 h0 n0) s rom0.cells rom0.slots) (s₁.setTop (entryFrame m #[(.ref a1), (.int (2 : Int32))] 2))
  refine Goes.step (S' := s₁.setTop (mkF m 0 #[.val (.ref a1), .val (.int (2 : Int32))] [])) (fun t k => castTop (ef_cfa m a1 (2 : Int32)) k) ?_
  refine Goes.step (S' := s₁.setTop (mkF m 2 #[.val (.ref a1), .val (.int (2 : Int32))] [(.ref a1), (.int (2 : Int32))])) (fun t k => XS.iloadN X0.here hx rfl (hb hby d_jdk_52_method_15_code_0) rfl (XS.aloadN X0.here hx rfl (hb hby d_jdk_52_method_15_code_1) rfl rfl k)) ?_
  obtain ⟨cl101, Ar101, qk101, Sz101, Nn101, Hs101, Gs101⟩ := id V1
  refine Goes.step (S' := s₁.setTop (mkF m 3 #[.val (.ref a1), .val (.int (2 : Int32))] [(.int (2 : Int32)), (.int (2 : Int32))])) (fun t k => X0.arraylength hx (by rw [eh0]; exact Ar101.1) (State.isArrayOf_alike hZ.alike Ar101.2.1) (g := (mkF m 2 #[.val (.ref a1), .val (.int (2 : Int32))] [(.ref a1), (.int (2 : Int32))])) rfl rfl (hb hby d_jdk_52_method_15_code_2) _ (by rw [len_of Sz101 Nn101]; exact k)) ?_
  refine Goes.step (S' := s₁.setTop (mkF m 4 #[.val (.ref a1), .val (.int (2 : Int32))] [(.int ((2 : Int32) - (2 : Int32)))])) (fun t k => XS.isub X0.here hx rfl (hb hby d_jdk_52_method_15_code_3) rfl k) ?_
  rw [show ((2 : Int32) - (2 : Int32)) = (0 : Int32) from by decide]
  refine Goes.step (S' := s₁.setTop (mkF m 7 #[.val (.ref a1), .val (.int (2 : Int32))] [(.int (((0 : Int32).toUInt32 >>> ((31 : Int32) &&& 31).toUInt32).toInt32))])) (fun t k => XS.bipush X0.here hx rfl (hb hby d_jdk_52_method_15_code_4) (XS.iushr X0.here hx rfl (hb hby d_jdk_52_method_15_code_6) rfl k)) ?_
  rw [show (((0 : Int32).toUInt32 >>> ((31 : Int32) &&& 31).toUInt32).toInt32) = (0 : Int32) from by decide]
  refine Goes.step (S' := s₁.setTop (mkF m 8 #[.val (.ref a1), .val (.int (2 : Int32))] [(.int ((0 : Int32).toInt8.toInt32))])) (fun t k => XS.i2b X0.here hx rfl (hb hby d_jdk_52_method_15_code_7) rfl k) ?_
  rw [show ((0 : Int32).toInt8.toInt32) = (0 : Int32) from by decide]
  refine Goes.leave (g := (mkF m 8 #[.val (.ref a1), .val (.int (2 : Int32))] [(.int (0 : Int32))])) X0 Bd.notSynchronized (v := (some (.int (0 : Int32)))) (fun h => by rw [Bd.returns] at h; cases h) (fun fs hr => retN X0 hx (t := .byte) Bd.returns (by simp) (hb hby d_jdk_52_method_15_code_8) hr) eh0 ?_ (by decide) (by decide)
  exact ⟨rfl, N0, rfl⟩

theorem ef_si4 (m : MethodId) (x0 : Addr) (x1 : Addr) (x2 : Int32) (x3 : Int32) : entryFrame m #[(.ref x0), (.ref x1), (.int x2), (.int x3), .null] 6 = mkF m 0 #[.val (.ref x0), .val (.ref x1), .val (.int x2), .val (.int x3), .val .null, .unset] [] := by first | (simp [entryFrame, mkF, argsToLocals, Value.category]; done) | rfl
def Q_si4 (Z : State) (a1 : Addr) (a2 : Addr) (k1 : ClassId) (cs : Int32) (x0 : Int32) (x1 : Int32) (h0 : Heap) (n0 : Nat) (v : Option Value) (h : Heap) (L : List Loc) : Prop := v = none ∧ Fr n0 L ∧ Keep h0 h [a1]
set_option maxRecDepth 65536 in
set_option maxHeartbeats 40000000 in
theorem si4 (l : Launch) (Z : State) (a0 : Array Value) (hw : ∀ d ∈ tables_1, d.before a0 Z = true) (ws : List Jvm.Cond) (a1 : Addr) (a2 : Addr) (k1 : ClassId) (cs : Int32) (x0 : Int32) (x1 : Int32) (h0 : Heap) (n0 : Nat) (Z0 : n0 ≤ h0.size) (E1 : Exa Z h0 a1 "java/lang/String") (Fv : Fld Z h0 a1 "java/lang/String" "value" "[B" .null) (Fc : Fld Z h0 a1 "java/lang/String" "coder" "B" (.int (0 : Int32))) (G1 : n0 ≤ a1) (SC : Sta Z h0 "java/lang/String" "COMPACT_STRINGS" "Z" (.int cs)) (PC : ¬ (cs = (0 : Int32))) (V1 : Arv Z h0 a2 k1 .char (2 : Int32) [(.int x0), (.int x1)] (.int (0 : Int32))) (P0 : ¬ ((255 : Int32) < x0)) (P1 : ¬ ((255 : Int32) < x1)) :
    MetFree l mth4 (head1 (Jvm.Cond.code mth4 jdk_42_method_149_code 6 none :: ws) rom2) (fun a U => a = #[(.ref a1), (.ref a2), (.int (0 : Int32)), (.int (2 : Int32)), .null] ∧ Z.Warmed39 U.vm ∧ U.heap = h0) (fun _ _ _ _ _ => True) (fun _ U o U' => ∃ v L, o = .returned v ∧ Q_si4 Z a1 a2 k1 cs x0 x1 h0 n0 v U'.heap L ∧ FrameEnd U o U' L rom2.cells rom2.slots) := by
  refine MetFree.of_bodySF (plainFor_of_name pnm2) hisR ?_
  intro p e s m args below meth c s₁ Bd hml0 hP hK
  obtain ⟨rfl, hZ, hh⟩ := hP
  have hx := Bd.exec
  have hby := Bd.bytes
  have hml : c.maxLocals = 6 := hml0
  have hown : s.vm.findClass "java/lang/String" = some m.cls := findClass_of_methodNamed Bd.named
  have hnm := (name_of_methodNamed Bd.named Bd.method).1
  have X0 : Stand p l e rom2 s m #[(.ref a1), (.ref a2), (.int (0 : Int32)), (.int (2 : Int32)), .null] below meth c s₁ [] 0 0 := Stand.of_body Bd
  have eh0 : s₁.heap = h0 := by rw [← hh, Bd.state]; rfl
  have N0 := Fr.nil n0
  have tw10 := hw _ (List.mem_of_getElem? (i := 10) rfl)
  have tw19 := hw _ (List.mem_of_getElem? (i := 19) rfl)
  have tw20 := hw _ (List.mem_of_getElem? (i := 20) rfl)
  have tw21 := hw _ (List.mem_of_getElem? (i := 21) rfl)
  have tw22 := hw _ (List.mem_of_getElem? (i := 22) rfl)
  have tw23 := hw _ (List.mem_of_getElem? (i := 23) rfl)
  have tw24 := hw _ (List.mem_of_getElem? (i := 24) rfl)
  have tw25 := hw _ (List.mem_of_getElem? (i := 25) rfl)
  have tw26 := hw _ (List.mem_of_getElem? (i := 26) rfl)
  have tw31 := hw _ (List.mem_of_getElem? (i := 31) rfl)
  have tw32 := hw _ (List.mem_of_getElem? (i := 32) rfl)
  have tw33 := hw _ (List.mem_of_getElem? (i := 33) rfl)
  have tw34 := hw _ (List.mem_of_getElem? (i := 34) rfl)
  have tw35 := hw _ (List.mem_of_getElem? (i := 35) rfl)
  have tw36 := hw _ (List.mem_of_getElem? (i := 36) rfl)
  have tw37 := hw _ (List.mem_of_getElem? (i := 37) rfl)
  show Goes p e below (Pq (Q_si4 Z a1 a2 k1 cs x0 x1 h0 n0) s rom2.cells rom2.slots) (s₁.setTop (entryFrame m #[(.ref a1), (.ref a2), (.int (0 : Int32)), (.int (2 : Int32)), .null] 6))
  refine Goes.step (S' := s₁.setTop (mkF m 0 #[.val (.ref a1), .val (.ref a2), .val (.int (0 : Int32)), .val (.int (2 : Int32)), .val .null, .unset] [])) (fun t k => castTop (ef_si4 m a1 a2 (0 : Int32) (2 : Int32)) k) ?_
  refine Goes.step (S' := s₁.setTop (mkF m 1 #[.val (.ref a1), .val (.ref a2), .val (.int (0 : Int32)), .val (.int (2 : Int32)), .val .null, .unset] [(.ref a1)])) (fun t k => XS.aloadN X0.here hx rfl (hb hby d_jdk_42_method_149_code_0) rfl rfl k) ?_
  obtain ⟨T101, X101, e101, st101⟩ := initO X0 hx hZ hown tw19 tw20 tw21 eh0 (g := (mkF m 1 #[.val (.ref a1), .val (.ref a2), .val (.int (0 : Int32)), .val (.int (2 : Int32)), .val .null, .unset] [(.ref a1)])) rfl (by rw [hml]; rfl) rfl (hb hby d_jdk_42_method_149_code_1) (by decide) (W := 0) (Nat.le_of_eq rfl) (by decide)
  refine Goes.step (S' := T101.setTop (mkF m 27 #[.val (.ref a1), .val (.ref a2), .val (.int (0 : Int32)), .val (.int (2 : Int32)), .val .null, .unset] [])) (fun t k => st101 _ (XS.iloadN X101.here hx rfl (hb hby d_jdk_42_method_149_code_4) rfl (XS.ifYes X101.here hx rfl (pc0 := 5) (pc' := 27) rfl (hb hby d_jdk_42_method_149_code_5) rfl ((if0 _ _).trans (feq ((by decide) : ¬ ((2 : Int32) = (0 : Int32)))).2) (by decide) (by decide) k))) ?_
  obtain ⟨T102, X102, e102, st102⟩ := getS2 X101 hx hZ hown (host := "") (Or.inl tw22) Via.refl e101 SC (g := (mkF m 27 #[.val (.ref a1), .val (.ref a2), .val (.int (0 : Int32)), .val (.int (2 : Int32)), .val .null, .unset] [])) rfl (hb hby d_jdk_42_method_149_code_27)
  refine Goes.step (S' := T102.setTop (mkF m 36 #[.val (.ref a1), .val (.ref a2), .val (.int (0 : Int32)), .val (.int (2 : Int32)), .val .null, .unset] [(.int (2 : Int32)), (.int (0 : Int32)), (.ref a2)])) (fun t k => st102 _ (XS.ifNo X102.here hx rfl (hb hby d_jdk_42_method_149_code_30) rfl ((if0 _ _).trans (feq (PC : ¬ (cs = (0 : Int32)))).1) (XS.aloadN X102.here hx rfl (hb hby d_jdk_42_method_149_code_33) rfl rfl (XS.iloadN X102.here hx rfl (hb hby d_jdk_42_method_149_code_34) rfl (XS.iloadN X102.here hx rfl (hb hby d_jdk_42_method_149_code_35) rfl k))))) ?_
  obtain ⟨_, _, ⟨T103, L103, k103, n103⟩, -, X103, ⟨Lc103, hQ103, l103, y103, z103⟩, st103⟩ := Jvm.LawKit.callS X102 hx (y := mth2) hown (mvT hZ tw23) (mvT hZ tw24) (mvT hZ tw25) (mvT hZ tw26) (by decide) (backOf (W := 0) (cmp2 l Z a0 hw [] a2 k1 x0 x1 h0 n0 Z0 V1 (P0 : ¬ ((255 : Int32) < x0)) (P1 : ¬ ((255 : Int32) < x1))) hZ tw26 tw25 (by decide) (by decide)) (g := (mkF m 36 #[.val (.ref a1), .val (.ref a2), .val (.int (0 : Int32)), .val (.int (2 : Int32)), .val .null, .unset] [(.int (2 : Int32)), (.int (0 : Int32)), (.ref a2)])) rfl (by rw [hml]; rfl) (argsL := [(.ref a2), (.int (0 : Int32)), (.int (2 : Int32))]) (rest := []) (lenOf pd_CII__B rfl) rfl (Nat.le_of_eq rfl) (hb hby d_jdk_42_method_149_code_36) (fun _ _ => ⟨rfl, e102, (by decide : 0 + 1 ≤ _), (by decide : 0 + 2 ≤ _)⟩)
  dsimp only [Pt.U, Pt.locs, Pt.cells, Pt.slots] at X103 l103 y103 z103 st103 hQ103
  subst y103 z103
  obtain ⟨b_103, kb_103, y0_103, y1_103, rfl, Nq103, q103_0, q103_1, q103_2, q103_3⟩ := hQ103
  have N103 : Fr n0 L103 := by rw [l103]; exact Fr.app N0 Nq103
  refine Goes.step (S' := T103.setTop (mkF m 45 #[.val (.ref a1), .val (.ref a2), .val (.int (0 : Int32)), .val (.int (2 : Int32)), .val .null, .val (.ref b_103)] [(.int (2 : Int32)), (.ref b_103), (.ref a1)])) (fun t k => st103 _ (XS.astore X103.here hx rfl (hb hby d_jdk_42_method_149_code_39) rfl rfl (l' := #[.val (.ref a1), .val (.ref a2), .val (.int (0 : Int32)), .val (.int (2 : Int32)), .val .null, .val (.ref b_103)]) rfl (XS.aloadN X103.here hx rfl (hb hby d_jdk_42_method_149_code_41) rfl rfl (XS.aload X103.here hx rfl (hb hby d_jdk_42_method_149_code_42) rfl rfl (XS.iloadN X103.here hx rfl (hb hby d_jdk_42_method_149_code_44) rfl k))))) ?_
  obtain ⟨_, _, ⟨T104, L104, k104, n104⟩, -, X104, ⟨Lc104, hQ104, l104, y104, z104⟩, st104⟩ := Jvm.LawKit.callS X103 hx (y := mth3) hown (mvT hZ tw31) (mvT hZ tw32) (mvT hZ tw25) (mvT hZ tw33) (by decide) (backOf (W := 1) (cfa l Z a0 hw [] b_103 kb_103 y0_103 y1_103 T103.heap n0 (Nat.le_trans Z0 q103_0.1) q103_3) hZ tw33 tw25 (by decide) (by decide)) (g := (mkF m 45 #[.val (.ref a1), .val (.ref a2), .val (.int (0 : Int32)), .val (.int (2 : Int32)), .val .null, .val (.ref b_103)] [(.int (2 : Int32)), (.ref b_103), (.ref a1)])) rfl (by rw [hml]; rfl) (argsL := [(.ref b_103), (.int (2 : Int32))]) (rest := [(.ref a1)]) (lenOf pd_BI_B rfl) rfl (Nat.le_of_eq rfl) (hb hby d_jdk_42_method_149_code_45) (fun _ _ => ⟨rfl, rfl, (by decide : 1 + 0 ≤ _), (by decide : 2 + 0 ≤ _)⟩)
  dsimp only [Pt.U, Pt.locs, Pt.cells, Pt.slots] at X104 l104 y104 z104 st104 hQ104
  subst y104 z104
  obtain ⟨rfl, Nq104, q104_0⟩ := hQ104
  have N104 : Fr n0 L104 := by rw [l104]; exact Fr.app N103 Nq104
  refine Goes.step (S' := T104.setTop (mkF m 48 #[.val (.ref a1), .val (.ref a2), .val (.int (0 : Int32)), .val (.int (2 : Int32)), .val .null, .val (.ref b_103)] [(.int (0 : Int32)), (.ref a1)])) (fun t k => st104 _ k) ?_
  obtain ⟨T105, h105, X105, e105, W105, st105⟩ := putFN X104 hx hZ hown tw34 Via.refl q104_0 (Fc.keep q103_0 nin0) (E1.keep q103_0) (Or.inr ⟨tw35, rfl, hnm⟩) tw10 (ty := .byte) (v' := (.int (0 : Int32))) (by decide) rfl (by decide) (g := (mkF m 48 #[.val (.ref a1), .val (.ref a2), .val (.int (0 : Int32)), .val (.int (2 : Int32)), .val .null, .val (.ref b_103)] [(.int (0 : Int32)), (.ref a1)])) rfl rfl (hb hby d_jdk_42_method_149_code_48)
  have Fw105 : Fld Z h105 a1 "java/lang/String" "coder" "B" (.int (0 : Int32)) := Fld.same W105 (Fc.keep q103_0 nin0)
  have N105 := Fr.snoc X105 N104 G1
  refine Goes.step (S' := T105.setTop (mkF m 54 #[.val (.ref a1), .val (.ref a2), .val (.int (0 : Int32)), .val (.int (2 : Int32)), .val .null, .val (.ref b_103)] [(.ref b_103), (.ref a1)])) (fun t k => st105 _ (XS.aloadN X105.here hx rfl (hb hby d_jdk_42_method_149_code_51) rfl rfl (XS.aload X105.here hx rfl (hb hby d_jdk_42_method_149_code_52) rfl rfl k))) ?_
  obtain ⟨T106, h106, X106, e106, W106, st106⟩ := putF X105 hx hZ hown (host := "") (Or.inl tw36) Via.refl e105 (Fld.other W105 (Fv.keep q103_0 nin0) (Or.inr (slot_ne (Or.inr tw37) (Or.inr tw35) (by decide) (t := (.array .byte)) (t' := .byte) (by decide) (by decide)))) (Exa.wr W105 (E1.keep q103_0)) (Or.inr ⟨tw37, rfl, hnm⟩) tw10 (ty := (.array .byte)) (by decide) rfl rfl (g := (mkF m 54 #[.val (.ref a1), .val (.ref a2), .val (.int (0 : Int32)), .val (.int (2 : Int32)), .val .null, .val (.ref b_103)] [(.ref b_103), (.ref a1)])) rfl rfl (hb hby d_jdk_42_method_149_code_54)
  have Fw106 : Fld Z h106 a1 "java/lang/String" "value" "[B" (.ref b_103) := Fld.same W106 (Fld.other W105 (Fv.keep q103_0 nin0) (Or.inr (slot_ne (Or.inr tw37) (Or.inr tw35) (by decide) (t := (.array .byte)) (t' := .byte) (by decide) (by decide))))
  have N106 := Fr.snoc X106 N105 G1
  refine Goes.step (S' := T106.setTop (mkF m 57 #[.val (.ref a1), .val (.ref a2), .val (.int (0 : Int32)), .val (.int (2 : Int32)), .val .null, .val (.ref b_103)] [])) (fun t k => st106 _ k) ?_
  refine Goes.leave (g := (mkF m 57 #[.val (.ref a1), .val (.ref a2), .val (.int (0 : Int32)), .val (.int (2 : Int32)), .val .null, .val (.ref b_103)] [])) X106 Bd.notSynchronized (v := none) (fun _ => rfl) (fun fs hr => X106.returnOut hx Bd.returns (hb hby d_jdk_42_method_149_code_57) hr) e106 ?_ (by decide) (by decide)
  exact ⟨rfl, N106, ((((Keep.refl _ [a1]).trans q103_0 all0).wr W105 (Or.inl (List.mem_of_getElem? (i := 0) rfl))).wr W106 (Or.inl (List.mem_of_getElem? (i := 0) rfl)))⟩

theorem ef_si1 (m : MethodId) (x0 : Addr) (x1 : Addr) : entryFrame m #[(.ref x0), (.ref x1)] 2 = mkF m 0 #[.val (.ref x0), .val (.ref x1)] [] := by first | (simp [entryFrame, mkF, argsToLocals, Value.category]; done) | rfl
def Q_si1 (Z : State) (a1 : Addr) (a2 : Addr) (k1 : ClassId) (cs : Int32) (x0 : Int32) (x1 : Int32) (h0 : Heap) (n0 : Nat) (v : Option Value) (h : Heap) (L : List Loc) : Prop := v = none ∧ Fr n0 L ∧ Keep h0 h [a1]
set_option maxRecDepth 65536 in
set_option maxHeartbeats 40000000 in
theorem si1 (l : Launch) (Z : State) (a0 : Array Value) (hw : ∀ d ∈ tables_1, d.before a0 Z = true) (ws : List Jvm.Cond) (a1 : Addr) (a2 : Addr) (k1 : ClassId) (cs : Int32) (x0 : Int32) (x1 : Int32) (h0 : Heap) (n0 : Nat) (Z0 : n0 ≤ h0.size) (E1 : Exa Z h0 a1 "java/lang/String") (Fv : Fld Z h0 a1 "java/lang/String" "value" "[B" .null) (Fc : Fld Z h0 a1 "java/lang/String" "coder" "B" (.int (0 : Int32))) (G1 : n0 ≤ a1) (SC : Sta Z h0 "java/lang/String" "COMPACT_STRINGS" "Z" (.int cs)) (PC : ¬ (cs = (0 : Int32))) (V1 : Arv Z h0 a2 k1 .char (2 : Int32) [(.int x0), (.int x1)] (.int (0 : Int32))) (P0 : ¬ ((255 : Int32) < x0)) (P1 : ¬ ((255 : Int32) < x1)) :
    MetFree l mth5 (head1 (Jvm.Cond.code mth5 jdk_42_method_3_code 2 none :: ws) rom3) (fun a U => a = #[(.ref a1), (.ref a2)] ∧ Z.Warmed39 U.vm ∧ U.heap = h0) (fun _ _ _ _ _ => True) (fun _ U o U' => ∃ v L, o = .returned v ∧ Q_si1 Z a1 a2 k1 cs x0 x1 h0 n0 v U'.heap L ∧ FrameEnd U o U' L rom3.cells rom3.slots) := by
  refine MetFree.of_bodySF (plainFor_of_name pnm2) hisR ?_
  intro p e s m args below meth c s₁ Bd hml0 hP hK
  obtain ⟨rfl, hZ, hh⟩ := hP
  have hx := Bd.exec
  have hby := Bd.bytes
  have hml : c.maxLocals = 2 := hml0
  have hown : s.vm.findClass "java/lang/String" = some m.cls := findClass_of_methodNamed Bd.named
  have hnm := (name_of_methodNamed Bd.named Bd.method).1
  have X0 : Stand p l e rom3 s m #[(.ref a1), (.ref a2)] below meth c s₁ [] 0 0 := Stand.of_body Bd
  have eh0 : s₁.heap = h0 := by rw [← hh, Bd.state]; rfl
  have N0 := Fr.nil n0
  have tw11 := hw _ (List.mem_of_getElem? (i := 11) rfl)
  have tw15 := hw _ (List.mem_of_getElem? (i := 15) rfl)
  have tw16 := hw _ (List.mem_of_getElem? (i := 16) rfl)
  have tw18 := hw _ (List.mem_of_getElem? (i := 18) rfl)
  show Goes p e below (Pq (Q_si1 Z a1 a2 k1 cs x0 x1 h0 n0) s rom3.cells rom3.slots) (s₁.setTop (entryFrame m #[(.ref a1), (.ref a2)] 2))
  refine Goes.step (S' := s₁.setTop (mkF m 0 #[.val (.ref a1), .val (.ref a2)] [])) (fun t k => castTop (ef_si1 m a1 a2) k) ?_
  refine Goes.step (S' := s₁.setTop (mkF m 4 #[.val (.ref a1), .val (.ref a2)] [(.ref a2), (.int (0 : Int32)), (.ref a2), (.ref a1)])) (fun t k => XS.aloadN X0.here hx rfl (hb hby d_jdk_42_method_3_code_0) rfl rfl (XS.aloadN X0.here hx rfl (hb hby d_jdk_42_method_3_code_1) rfl rfl (XS.iconst X0.here hx rfl (hb hby d_jdk_42_method_3_code_2) (XS.aloadN X0.here hx rfl (hb hby d_jdk_42_method_3_code_3) rfl rfl k)))) ?_
  obtain ⟨cl101, Ar101, qk101, Sz101, Nn101, Hs101, Gs101⟩ := id V1
  refine Goes.step (S' := s₁.setTop (mkF m 5 #[.val (.ref a1), .val (.ref a2)] [(.int (2 : Int32)), (.int (0 : Int32)), (.ref a2), (.ref a1)])) (fun t k => X0.arraylength hx (by rw [eh0]; exact Ar101.1) (State.isArrayOf_alike hZ.alike Ar101.2.1) (g := (mkF m 4 #[.val (.ref a1), .val (.ref a2)] [(.ref a2), (.int (0 : Int32)), (.ref a2), (.ref a1)])) rfl rfl (hb hby d_jdk_42_method_3_code_4) _ (by rw [len_of Sz101 Nn101]; exact k)) ?_
  refine Goes.step (S' := s₁.setTop (mkF m 6 #[.val (.ref a1), .val (.ref a2)] [.null, (.int (2 : Int32)), (.int (0 : Int32)), (.ref a2), (.ref a1)])) (fun t k => XS.aconstNull X0.here hx rfl (hb hby d_jdk_42_method_3_code_5) k) ?_
  obtain ⟨_, _, ⟨T102, L102, k102, n102⟩, -, X102, ⟨Lc102, hQ102, l102, y102, z102⟩, st102⟩ := X0.specialBack hx (y := mth4) rfl hown (mvT hZ tw15) (mvT hZ tw16) (mvT hZ tw18) (by decide) (backOf (W := 0) (si4 l Z a0 hw [] a1 a2 k1 cs x0 x1 h0 n0 Z0 E1 Fv Fc G1 SC (PC : ¬ (cs = (0 : Int32))) V1 (P0 : ¬ ((255 : Int32) < x0)) (P1 : ¬ ((255 : Int32) < x1))) hZ tw18 tw11 (by decide) (by decide)) (g := (mkF m 6 #[.val (.ref a1), .val (.ref a2)] [.null, (.int (2 : Int32)), (.int (0 : Int32)), (.ref a2), (.ref a1)])) rfl (by rw [hml]; rfl) (Steps.refl _) (a := a1) (argsL := [(.ref a2), (.int (0 : Int32)), (.int (2 : Int32)), .null]) (rest := []) (lenOf pd_CIILjava_lang_Void__V rfl) rfl (Nat.le_of_eq rfl) (hb hby d_jdk_42_method_3_code_6) (fun _ _ => ⟨rfl, eh0, (by decide : 0 + 1 ≤ _), (by decide : 0 + 2 ≤ _)⟩)
  dsimp only [Pt.U, Pt.locs, Pt.cells, Pt.slots] at X102 l102 y102 z102 st102 hQ102
  subst y102 z102
  obtain ⟨rfl, Nq102, q102_0⟩ := hQ102
  have N102 : Fr n0 L102 := by rw [l102]; exact Fr.app N0 Nq102
  refine Goes.step (S' := T102.setTop (mkF m 9 #[.val (.ref a1), .val (.ref a2)] [])) (fun t k => st102.trans k) ?_
  refine Goes.leave (g := (mkF m 9 #[.val (.ref a1), .val (.ref a2)] [])) X102 Bd.notSynchronized (v := none) (fun _ => rfl) (fun fs hr => X102.returnOut hx Bd.returns (hb hby d_jdk_42_method_3_code_9) hr) rfl ?_ (by decide) (by decide)
  exact ⟨rfl, N102, ((Keep.refl _ [a1]).trans q102_0 (allS (Or.inl (List.mem_of_getElem? (i := 0) rfl)) all0))⟩

theorem ef_mo1 (m : MethodId) (x0 : Addr) (x1 : Int32) : entryFrame m #[(.ref x0), (.int x1)] 2 = mkF m 0 #[.val (.ref x0), .val (.int x1)] [] := by first | (simp [entryFrame, mkF, argsToLocals, Value.category]; done) | rfl
def Q_mo1 (Z : State) (a1 : Addr) (p1 : Int32) (h0 : Heap) (n0 : Nat) (v : Option Value) (h : Heap) (L : List Loc) : Prop := v = none ∧ Fr n0 L ∧ Keep h0 h [a1] ∧ Fld Z h a1 "com/example/rerouted/rerouted/engine/MigrationOutcome" "instance" "I" (.int p1) ∧ Fld Z h a1 "com/example/rerouted/rerouted/engine/MigrationOutcome" "rule" "Lcom/example/rerouted/rerouted/engine/Rule;" .null
set_option maxRecDepth 65536 in
set_option maxHeartbeats 40000000 in
theorem mo1 (l : Launch) (Z : State) (a0 : Array Value) (hw : ∀ d ∈ tables_1, d.before a0 Z = true) (ws : List Jvm.Cond) (a1 : Addr) (p1 : Int32) (h0 : Heap) (n0 : Nat) (Z0 : n0 ≤ h0.size) (E1 : Exa Z h0 a1 "com/example/rerouted/rerouted/engine/MigrationOutcome") (Fi : Fld Z h0 a1 "com/example/rerouted/rerouted/engine/MigrationOutcome" "instance" "I" (.int (0 : Int32))) (Fu : Fld Z h0 a1 "com/example/rerouted/rerouted/engine/MigrationOutcome" "rule" "Lcom/example/rerouted/rerouted/engine/Rule;" .null) (Fs : Fld Z h0 a1 "com/example/rerouted/rerouted/engine/MigrationOutcome" "reason" "Ljava/lang/String;" .null) (G1 : n0 ≤ a1) :
    MetFree l mth6 (head1 (Jvm.Cond.code mth6 prog_29_method_1_code 2 none :: ws) rom4) (fun a U => a = #[(.ref a1), (.int p1)] ∧ Z.Warmed39 U.vm ∧ U.heap = h0) (fun _ _ _ _ _ => True) (fun _ U o U' => ∃ v L, o = .returned v ∧ Q_mo1 Z a1 p1 h0 n0 v U'.heap L ∧ FrameEnd U o U' L rom4.cells rom4.slots) := by
  refine MetFree.of_bodySF (plainFor_of_name pnm3) hisR ?_
  intro p e s m args below meth c s₁ Bd hml0 hP hK
  obtain ⟨rfl, hZ, hh⟩ := hP
  have hx := Bd.exec
  have hby := Bd.bytes
  have hml : c.maxLocals = 2 := hml0
  have hown : s.vm.findClass "com/example/rerouted/rerouted/engine/MigrationOutcome" = some m.cls := findClass_of_methodNamed Bd.named
  have hnm := (name_of_methodNamed Bd.named Bd.method).1
  have X0 : Stand p l e rom4 s m #[(.ref a1), (.int p1)] below meth c s₁ [] 0 0 := Stand.of_body Bd
  have eh0 : s₁.heap = h0 := by rw [← hh, Bd.state]; rfl
  have N0 := Fr.nil n0
  have tw20 := hw _ (List.mem_of_getElem? (i := 20) rfl)
  have tw21 := hw _ (List.mem_of_getElem? (i := 21) rfl)
  have tw39 := hw _ (List.mem_of_getElem? (i := 39) rfl)
  have tw44 := hw _ (List.mem_of_getElem? (i := 44) rfl)
  have tw45 := hw _ (List.mem_of_getElem? (i := 45) rfl)
  have tw46 := hw _ (List.mem_of_getElem? (i := 46) rfl)
  have tw47 := hw _ (List.mem_of_getElem? (i := 47) rfl)
  have tw48 := hw _ (List.mem_of_getElem? (i := 48) rfl)
  have tw49 := hw _ (List.mem_of_getElem? (i := 49) rfl)
  have tw50 := hw _ (List.mem_of_getElem? (i := 50) rfl)
  show Goes p e below (Pq (Q_mo1 Z a1 p1 h0 n0) s rom4.cells rom4.slots) (s₁.setTop (entryFrame m #[(.ref a1), (.int p1)] 2))
  refine Goes.step (S' := s₁.setTop (mkF m 0 #[.val (.ref a1), .val (.int p1)] [])) (fun t k => castTop (ef_mo1 m a1 p1) k) ?_
  refine Goes.step (S' := s₁.setTop (mkF m 1 #[.val (.ref a1), .val (.int p1)] [(.ref a1)])) (fun t k => XS.aloadN X0.here hx rfl (hb hby d_prog_29_method_1_code_0) rfl rfl k) ?_
  obtain ⟨T101, X101, e101, st101⟩ := initO X0 hx hZ hown tw44 tw20 tw21 eh0 (g := (mkF m 1 #[.val (.ref a1), .val (.int p1)] [(.ref a1)])) rfl (by rw [hml]; rfl) rfl (hb hby d_prog_29_method_1_code_1) (by decide) (W := 0) (Nat.le_of_eq rfl) (by decide)
  refine Goes.step (S' := T101.setTop (mkF m 6 #[.val (.ref a1), .val (.int p1)] [(.int p1), (.ref a1)])) (fun t k => st101 _ (XS.aloadN X101.here hx rfl (hb hby d_prog_29_method_1_code_4) rfl rfl (XS.iloadN X101.here hx rfl (hb hby d_prog_29_method_1_code_5) rfl k))) ?_
  obtain ⟨T102, h102, X102, e102, W102, st102⟩ := putF X101 hx hZ hown (host := "") (Or.inl tw45) Via.refl e101 Fi E1 (Or.inr ⟨tw46, rfl, hnm⟩) tw39 (ty := .int) (by decide) rfl rfl (g := (mkF m 6 #[.val (.ref a1), .val (.int p1)] [(.int p1), (.ref a1)])) rfl rfl (hb hby d_prog_29_method_1_code_6)
  have Fw102 : Fld Z h102 a1 "com/example/rerouted/rerouted/engine/MigrationOutcome" "instance" "I" (.int p1) := Fld.same W102 Fi
  have N102 := Fr.snoc X102 N0 G1
  refine Goes.step (S' := T102.setTop (mkF m 11 #[.val (.ref a1), .val (.int p1)] [.null, (.ref a1)])) (fun t k => st102 _ (XS.aloadN X102.here hx rfl (hb hby d_prog_29_method_1_code_9) rfl rfl (XS.aconstNull X102.here hx rfl (hb hby d_prog_29_method_1_code_10) k))) ?_
  obtain ⟨T103, h103, X103, e103, W103, st103⟩ := putF X102 hx hZ hown (host := "") (Or.inl tw47) Via.refl e102 (Fld.other W102 Fu (Or.inr (slot_ne (Or.inr tw48) (Or.inr tw46) (by decide) (t := (.object "com/example/rerouted/rerouted/engine/Rule")) (t' := .int) (by decide) (by decide)))) (Exa.wr W102 E1) (Or.inr ⟨tw48, rfl, hnm⟩) tw39 (ty := (.object "com/example/rerouted/rerouted/engine/Rule")) (by decide) rfl rfl (g := (mkF m 11 #[.val (.ref a1), .val (.int p1)] [.null, (.ref a1)])) rfl rfl (hb hby d_prog_29_method_1_code_11)
  have Fw103 : Fld Z h103 a1 "com/example/rerouted/rerouted/engine/MigrationOutcome" "rule" "Lcom/example/rerouted/rerouted/engine/Rule;" .null := Fld.same W103 (Fld.other W102 Fu (Or.inr (slot_ne (Or.inr tw48) (Or.inr tw46) (by decide) (t := (.object "com/example/rerouted/rerouted/engine/Rule")) (t' := .int) (by decide) (by decide))))
  have N103 := Fr.snoc X103 N102 G1
  refine Goes.step (S' := T103.setTop (mkF m 16 #[.val (.ref a1), .val (.int p1)] [.null, (.ref a1)])) (fun t k => st103 _ (XS.aloadN X103.here hx rfl (hb hby d_prog_29_method_1_code_14) rfl rfl (XS.aconstNull X103.here hx rfl (hb hby d_prog_29_method_1_code_15) k))) ?_
  obtain ⟨T104, h104, X104, e104, W104, st104⟩ := putF X103 hx hZ hown (host := "") (Or.inl tw49) Via.refl e103 (Fld.other W103 (Fld.other W102 Fs (Or.inr (slot_ne (Or.inr tw50) (Or.inr tw46) (by decide) (t := (.object "java/lang/String")) (t' := .int) (by decide) (by decide)))) (Or.inr (slot_ne (Or.inr tw50) (Or.inr tw48) (by decide) (t := (.object "java/lang/String")) (t' := (.object "com/example/rerouted/rerouted/engine/Rule")) (by decide) (by decide)))) (Exa.wr W103 (Exa.wr W102 E1)) (Or.inr ⟨tw50, rfl, hnm⟩) tw39 (ty := (.object "java/lang/String")) (by decide) rfl rfl (g := (mkF m 16 #[.val (.ref a1), .val (.int p1)] [.null, (.ref a1)])) rfl rfl (hb hby d_prog_29_method_1_code_16)
  have Fw104 : Fld Z h104 a1 "com/example/rerouted/rerouted/engine/MigrationOutcome" "reason" "Ljava/lang/String;" .null := Fld.same W104 (Fld.other W103 (Fld.other W102 Fs (Or.inr (slot_ne (Or.inr tw50) (Or.inr tw46) (by decide) (t := (.object "java/lang/String")) (t' := .int) (by decide) (by decide)))) (Or.inr (slot_ne (Or.inr tw50) (Or.inr tw48) (by decide) (t := (.object "java/lang/String")) (t' := (.object "com/example/rerouted/rerouted/engine/Rule")) (by decide) (by decide))))
  have N104 := Fr.snoc X104 N103 G1
  refine Goes.step (S' := T104.setTop (mkF m 19 #[.val (.ref a1), .val (.int p1)] [])) (fun t k => st104 _ k) ?_
  refine Goes.leave (g := (mkF m 19 #[.val (.ref a1), .val (.int p1)] [])) X104 Bd.notSynchronized (v := none) (fun _ => rfl) (fun fs hr => X104.returnOut hx Bd.returns (hb hby d_prog_29_method_1_code_19) hr) e104 ?_ (by decide) (by decide)
  exact ⟨rfl, N104, ((((Keep.refl _ [a1]).wr W102 (Or.inl (List.mem_of_getElem? (i := 0) rfl))).wr W103 (Or.inl (List.mem_of_getElem? (i := 0) rfl))).wr W104 (Or.inl (List.mem_of_getElem? (i := 0) rfl))), (Fld.other W104 (Fld.other W103 Fw102 (Or.inr (slot_ne (Or.inr tw46) (Or.inr tw48) (by decide) (t := .int) (t' := (.object "com/example/rerouted/rerouted/engine/Rule")) (by decide) (by decide)))) (Or.inr (slot_ne (Or.inr tw46) (Or.inr tw50) (by decide) (t := .int) (t' := (.object "java/lang/String")) (by decide) (by decide)))), (Fld.other W104 Fw103 (Or.inr (slot_ne (Or.inr tw48) (Or.inr tw50) (by decide) (t := (.object "com/example/rerouted/rerouted/engine/Rule")) (t' := (.object "java/lang/String")) (by decide) (by decide))))⟩

theorem ef_rnn (m : MethodId) (x0 : Addr) (x1 : Addr) : entryFrame m #[(.ref x0), (.ref x1)] 2 = mkF m 0 #[.val (.ref x0), .val (.ref x1)] [] := by first | (simp [entryFrame, mkF, argsToLocals, Value.category]; done) | rfl
def Q_rnn (Z : State) (a1 : Addr) (a2 : Addr) (h0 : Heap) (n0 : Nat) (v : Option Value) (h : Heap) (L : List Loc) : Prop := v = some (.ref a1) ∧ Fr n0 L ∧ h = h0
set_option maxRecDepth 65536 in
set_option maxHeartbeats 40000000 in
theorem rnn (l : Launch) (Z : State) (a0 : Array Value) (hw : ∀ d ∈ tables_1, d.before a0 Z = true) (ws : List Jvm.Cond) (a1 : Addr) (a2 : Addr) (h0 : Heap) (n0 : Nat) (Z0 : n0 ≤ h0.size) :
    MetFree l mth7 (head1 (Jvm.Cond.code mth7 jdk_31_method_11_code 2 (some (.object "java/lang/Object")) :: ws) rom0) (fun a U => a = #[(.ref a1), (.ref a2)] ∧ Z.Warmed39 U.vm ∧ U.heap = h0) (fun _ _ _ _ _ => True) (fun _ U o U' => ∃ v L, o = .returned v ∧ Q_rnn Z a1 a2 h0 n0 v U'.heap L ∧ FrameEnd U o U' L rom0.cells rom0.slots) := by
  refine MetFree.of_bodySF (plainFor_of_name pnm4) hisR ?_
  intro p e s m args below meth c s₁ Bd hml0 hP hK
  obtain ⟨rfl, hZ, hh⟩ := hP
  have hx := Bd.exec
  have hby := Bd.bytes
  have hml : c.maxLocals = 2 := hml0
  have hown : s.vm.findClass "java/util/Objects" = some m.cls := findClass_of_methodNamed Bd.named
  have hnm := (name_of_methodNamed Bd.named Bd.method).1
  have X0 : Stand p l e rom0 s m #[(.ref a1), (.ref a2)] below meth c s₁ [] 0 0 := Stand.of_body Bd
  have eh0 : s₁.heap = h0 := by rw [← hh, Bd.state]; rfl
  have N0 := Fr.nil n0
  show Goes p e below (Pq (Q_rnn Z a1 a2 h0 n0) s rom0.cells rom0.slots) (s₁.setTop (entryFrame m #[(.ref a1), (.ref a2)] 2))
  refine Goes.step (S' := s₁.setTop (mkF m 0 #[.val (.ref a1), .val (.ref a2)] [])) (fun t k => castTop (ef_rnn m a1 a2) k) ?_
  refine Goes.step (S' := s₁.setTop (mkF m 14 #[.val (.ref a1), .val (.ref a2)] [(.ref a1)])) (fun t k => XS.aloadN X0.here hx rfl (hb hby d_jdk_31_method_11_code_0) rfl rfl (XS.ifnonnullYes X0.here hx rfl (pc0 := 1) (pc' := 13) rfl (hb hby d_jdk_31_method_11_code_1) rfl (by decide) (by decide) (XS.aloadN X0.here hx rfl (hb hby d_jdk_31_method_11_code_13) rfl rfl k))) ?_
  refine Goes.leave (g := (mkF m 14 #[.val (.ref a1), .val (.ref a2)] [(.ref a1)])) X0 Bd.notSynchronized (v := (some (.ref a1))) (fun h => by rw [Bd.returns] at h; cases h) (fun fs hr => by jvm_step X0.here [X0.here.top, hx, (hb hby d_jdk_31_method_11_code_14), X0.method', Bd.returns, Value.isRef, FieldType.isReference]; (first | (intro acts; rw [hr _ acts rfl rfl rfl]) | rw [hr _ _ rfl rfl rfl]); exact Steps.refl _) eh0 ?_ (by decide) (by decide)
  exact ⟨rfl, N0, rfl⟩

theorem ef_thr (m : MethodId) (x0 : Addr) (x1 : Addr) : entryFrame m #[(.ref x0), (.ref x1)] 2 = mkF m 0 #[.val (.ref x0), .val (.ref x1)] [] := by first | (simp [entryFrame, mkF, argsToLocals, Value.category]; done) | rfl
def Q_thr (Z : State) (a1 : Addr) (us : Addr) (ss : Addr) (s1 : Addr) (h0 : Heap) (n0 : Nat) (v : Option Value) (h : Heap) (L : List Loc) : Prop := v = none ∧ Fr n0 L ∧ Keep h0 h [a1] ∧ Unt h a1 ∧ Fld Z h a1 "java/lang/Throwable" "detailMessage" "Ljava/lang/String;" (.ref s1)
set_option maxRecDepth 65536 in
set_option maxHeartbeats 40000000 in
theorem thr (l : Launch) (Z : State) (a0 : Array Value) (hw : ∀ d ∈ tables_1, d.before a0 Z = true) (ws : List Jvm.Cond) (a1 : Addr) (us : Addr) (ss : Addr) (s1 : Addr) (h0 : Heap) (n0 : Nat) (Z0 : n0 ≤ h0.size) (HL : l.stackTraces = true) (TH : ThS Z h0) (SU : Sta Z h0 "java/lang/Throwable" "UNASSIGNED_STACK" "[Ljava/lang/StackTraceElement;" (.ref us)) (SP : Sta Z h0 "java/lang/Throwable" "SUPPRESSED_SENTINEL" "Ljava/util/List;" (.ref ss)) (E1 : Exa Z h0 a1 "com/example/rerouted/rerouted/engine/RejectedException") (U1 : Unt h0 a1) (Fb : Fld Z h0 a1 "java/lang/Throwable" "backtrace" "Ljava/lang/Object;" .null) (Fd : Fld Z h0 a1 "java/lang/Throwable" "detailMessage" "Ljava/lang/String;" .null) (Fc : Fld Z h0 a1 "java/lang/Throwable" "cause" "Ljava/lang/Throwable;" .null) (Fs : Fld Z h0 a1 "java/lang/Throwable" "stackTrace" "[Ljava/lang/StackTraceElement;" .null) (Fp : Fld Z h0 a1 "java/lang/Throwable" "suppressedExceptions" "Ljava/util/List;" .null) (G1 : n0 ≤ a1) :
    MetFree l mth9 (head1 (Jvm.Cond.code mth9 jdk_78_method_2_code 2 none :: ws) rom5) (fun a U => a = #[(.ref a1), (.ref s1)] ∧ Z.Warmed39 U.vm ∧ U.heap = h0) (fun _ _ bl s _ => s.vm.MethodsKnown ∧ s.vm.FramesKnown bl) (fun _ U o U' => ∃ v L, o = .returned v ∧ Q_thr Z a1 us ss s1 h0 n0 v U'.heap L ∧ FrameEnd U o U' L rom5.cells rom5.slots) := by
  refine MetFree.of_bodySF (plainFor_of_name pnm5) hisR ?_
  intro p e s m args below meth c s₁ Bd hml0 hP hK
  obtain ⟨rfl, hZ, hh⟩ := hP
  have hx := Bd.exec
  have hby := Bd.bytes
  have hml : c.maxLocals = 2 := hml0
  have hown : s.vm.findClass "java/lang/Throwable" = some m.cls := findClass_of_methodNamed Bd.named
  have hnm := (name_of_methodNamed Bd.named Bd.method).1
  have X0 : Stand p l e rom5 s m #[(.ref a1), (.ref s1)] below meth c s₁ [] 0 0 := Stand.of_body Bd
  obtain ⟨hTK, hBl⟩ := hK
  have eh0 : s₁.heap = h0 := by rw [← hh, Bd.state]; rfl
  have N0 := Fr.nil n0
  have tw20 := hw _ (List.mem_of_getElem? (i := 20) rfl)
  have tw21 := hw _ (List.mem_of_getElem? (i := 21) rfl)
  have tw52 := hw _ (List.mem_of_getElem? (i := 52) rfl)
  have tw74 := hw _ (List.mem_of_getElem? (i := 74) rfl)
  have tw75 := hw _ (List.mem_of_getElem? (i := 75) rfl)
  have tw76 := hw _ (List.mem_of_getElem? (i := 76) rfl)
  have tw77 := hw _ (List.mem_of_getElem? (i := 77) rfl)
  have tw78 := hw _ (List.mem_of_getElem? (i := 78) rfl)
  have tw79 := hw _ (List.mem_of_getElem? (i := 79) rfl)
  have tw80 := hw _ (List.mem_of_getElem? (i := 80) rfl)
  have tw81 := hw _ (List.mem_of_getElem? (i := 81) rfl)
  have tw82 := hw _ (List.mem_of_getElem? (i := 82) rfl)
  have tw83 := hw _ (List.mem_of_getElem? (i := 83) rfl)
  have tw84 := hw _ (List.mem_of_getElem? (i := 84) rfl)
  have tw85 := hw _ (List.mem_of_getElem? (i := 85) rfl)
  have tw86 := hw _ (List.mem_of_getElem? (i := 86) rfl)
  have tw106 := hw _ (List.mem_of_getElem? (i := 106) rfl)
  have tw107 := hw _ (List.mem_of_getElem? (i := 107) rfl)
  have tw110 := hw _ (List.mem_of_getElem? (i := 110) rfl)
  show Goes p e below (Pq (Q_thr Z a1 us ss s1 h0 n0) s rom5.cells rom5.slots) (s₁.setTop (entryFrame m #[(.ref a1), (.ref s1)] 2))
  refine Goes.step (S' := s₁.setTop (mkF m 0 #[.val (.ref a1), .val (.ref s1)] [])) (fun t k => castTop (ef_thr m a1 s1) k) ?_
  refine Goes.step (S' := s₁.setTop (mkF m 1 #[.val (.ref a1), .val (.ref s1)] [(.ref a1)])) (fun t k => XS.aloadN X0.here hx rfl (hb hby d_jdk_78_method_2_code_0) rfl rfl k) ?_
  obtain ⟨T101, X101, e101, st101⟩ := initO X0 hx hZ hown tw74 tw20 tw21 eh0 (g := (mkF m 1 #[.val (.ref a1), .val (.ref s1)] [(.ref a1)])) rfl (by rw [hml]; rfl) rfl (hb hby d_jdk_78_method_2_code_1) (by decide) (W := 0) (Nat.le_of_eq rfl) (by decide)
  refine Goes.step (S' := T101.setTop (mkF m 6 #[.val (.ref a1), .val (.ref s1)] [(.ref a1), (.ref a1)])) (fun t k => st101 _ (XS.aloadN X101.here hx rfl (hb hby d_jdk_78_method_2_code_4) rfl rfl (XS.aloadN X101.here hx rfl (hb hby d_jdk_78_method_2_code_5) rfl rfl k))) ?_
  obtain ⟨T102, h102, X102, e102, W102, st102⟩ := putF X101 hx hZ hown (host := "") (Or.inl tw75) Via.refl e101 Fc E1 (Or.inl tw76) tw52 (ty := (.object "java/lang/Throwable")) (by decide) rfl rfl (g := (mkF m 6 #[.val (.ref a1), .val (.ref s1)] [(.ref a1), (.ref a1)])) rfl rfl (hb hby d_jdk_78_method_2_code_6)
  have Fw102 : Fld Z h102 a1 "java/lang/Throwable" "cause" "Ljava/lang/Throwable;" (.ref a1) := Fld.same W102 Fc
  have N102 := Fr.snoc X102 N0 G1
  refine Goes.step (S' := T102.setTop (mkF m 10 #[.val (.ref a1), .val (.ref s1)] [(.ref a1)])) (fun t k => st102 _ (XS.aloadN X102.here hx rfl (hb hby d_jdk_78_method_2_code_9) rfl rfl k)) ?_
  obtain ⟨T103, X103, e103, st103⟩ := getS2 X102 hx hZ hown (host := "") (Or.inl tw77) Via.refl e102 (Sta.wr W102 SU) (g := (mkF m 10 #[.val (.ref a1), .val (.ref s1)] [(.ref a1)])) rfl (hb hby d_jdk_78_method_2_code_10)
  refine Goes.step (S' := T103.setTop (mkF m 13 #[.val (.ref a1), .val (.ref s1)] [(.ref us), (.ref a1)])) (fun t k => st103 _ k) ?_
  obtain ⟨T104, h104, X104, e104, W104, st104⟩ := putF X103 hx hZ hown (host := "") (Or.inl tw78) Via.refl e103 (Fld.other W102 Fs (Or.inr (slot_ne (Or.inl tw79) (Or.inl tw76) (by decide) (t := (.array (.object "java/lang/StackTraceElement"))) (t' := (.object "java/lang/Throwable")) (by decide) (by decide)))) (Exa.wr W102 E1) (Or.inl tw79) tw52 (ty := (.array (.object "java/lang/StackTraceElement"))) (by decide) rfl rfl (g := (mkF m 13 #[.val (.ref a1), .val (.ref s1)] [(.ref us), (.ref a1)])) rfl rfl (hb hby d_jdk_78_method_2_code_13)
  have Fw104 : Fld Z h104 a1 "java/lang/Throwable" "stackTrace" "[Ljava/lang/StackTraceElement;" (.ref us) := Fld.same W104 (Fld.other W102 Fs (Or.inr (slot_ne (Or.inl tw79) (Or.inl tw76) (by decide) (t := (.array (.object "java/lang/StackTraceElement"))) (t' := (.object "java/lang/Throwable")) (by decide) (by decide))))
  have N104 := Fr.snoc X104 N102 G1
  refine Goes.step (S' := T104.setTop (mkF m 17 #[.val (.ref a1), .val (.ref s1)] [(.ref a1)])) (fun t k => st104 _ (XS.aloadN X104.here hx rfl (hb hby d_jdk_78_method_2_code_16) rfl rfl k)) ?_
  obtain ⟨T105, X105, e105, st105⟩ := getS2 X104 hx hZ hown (host := "") (Or.inl tw80) Via.refl e104 (Sta.wr W104 (Sta.wr W102 SP)) (g := (mkF m 17 #[.val (.ref a1), .val (.ref s1)] [(.ref a1)])) rfl (hb hby d_jdk_78_method_2_code_17)
  refine Goes.step (S' := T105.setTop (mkF m 20 #[.val (.ref a1), .val (.ref s1)] [(.ref ss), (.ref a1)])) (fun t k => st105 _ k) ?_
  obtain ⟨T106, h106, X106, e106, W106, st106⟩ := putF X105 hx hZ hown (host := "") (Or.inl tw81) Via.refl e105 (Fld.other W104 (Fld.other W102 Fp (Or.inr (slot_ne (Or.inl tw82) (Or.inl tw76) (by decide) (t := (.object "java/util/List")) (t' := (.object "java/lang/Throwable")) (by decide) (by decide)))) (Or.inr (slot_ne (Or.inl tw82) (Or.inl tw79) (by decide) (t := (.object "java/util/List")) (t' := (.array (.object "java/lang/StackTraceElement"))) (by decide) (by decide)))) (Exa.wr W104 (Exa.wr W102 E1)) (Or.inl tw82) tw52 (ty := (.object "java/util/List")) (by decide) rfl rfl (g := (mkF m 20 #[.val (.ref a1), .val (.ref s1)] [(.ref ss), (.ref a1)])) rfl rfl (hb hby d_jdk_78_method_2_code_20)
  have Fw106 : Fld Z h106 a1 "java/lang/Throwable" "suppressedExceptions" "Ljava/util/List;" (.ref ss) := Fld.same W106 (Fld.other W104 (Fld.other W102 Fp (Or.inr (slot_ne (Or.inl tw82) (Or.inl tw76) (by decide) (t := (.object "java/util/List")) (t' := (.object "java/lang/Throwable")) (by decide) (by decide)))) (Or.inr (slot_ne (Or.inl tw82) (Or.inl tw79) (by decide) (t := (.object "java/util/List")) (t' := (.array (.object "java/lang/StackTraceElement"))) (by decide) (by decide))))
  have N106 := Fr.snoc X106 N104 G1
  refine Goes.step (S' := T106.setTop (mkF m 24 #[.val (.ref a1), .val (.ref s1)] [(.ref a1)])) (fun t k => st106 _ (XS.aloadN X106.here hx rfl (hb hby d_jdk_78_method_2_code_23) rfl rfl k)) ?_
  obtain ⟨cq107, kq107, q107a, q107b, q107c⟩ := isOf hZ e106 (Exa.wr W106 (Exa.wr W104 (Exa.wr W102 E1)))
  obtain ⟨_, _, ⟨T107, L107, k107, n107⟩, -, X107, ⟨Lc107, hQ107, l107, y107, z107⟩, st107⟩ := X106.virtualBack hx (y := mth8) (z := mth8) hown (mvT hZ tw83) (mvT hZ tw84) (notFace_of_selects (args := #[]) (mvT hZ tw86)) (mvT hZ tw86) (mvT hZ tw85) (by decide) (own_fill (len := 3) (W := 0) X106 hx HL hZ (rc := "com/example/rerouted/rerouted/engine/RejectedException") (fun d hd => hw d (own_tin d hd)) tw52 (by have q := TH; rw [← hh] at q; exact q) hTK hBl G1 (ThS.wr W106 (ThS.wr W104 (ThS.wr W102 TH))) (Exa.wr W106 (Exa.wr W104 (Exa.wr W102 E1))) (Unt.wr W106 (Unt.wr W104 (Unt.wr W102 U1))) (Fld.other W106 (Fld.other W104 (Fld.other W102 Fb (Or.inr (slot_ne (Or.inl tw107) (Or.inl tw76) (by decide) (t := (.object "java/lang/Object")) (t' := (.object "java/lang/Throwable")) (by decide) (by decide)))) (Or.inr (slot_ne (Or.inl tw107) (Or.inl tw79) (by decide) (t := (.object "java/lang/Object")) (t' := (.array (.object "java/lang/StackTraceElement"))) (by decide) (by decide)))) (Or.inr (slot_ne (Or.inl tw107) (Or.inl tw82) (by decide) (t := (.object "java/lang/Object")) (t' := (.object "java/util/List")) (by decide) (by decide)))) (Fld.other W106 (Fld.other W104 (Fld.other W102 Fd (Or.inr (slot_ne (Or.inl tw106) (Or.inl tw76) (by decide) (t := (.object "java/lang/String")) (t' := (.object "java/lang/Throwable")) (by decide) (by decide)))) (Or.inr (slot_ne (Or.inl tw106) (Or.inl tw79) (by decide) (t := (.object "java/lang/String")) (t' := (.array (.object "java/lang/StackTraceElement"))) (by decide) (by decide)))) (Or.inr (slot_ne (Or.inl tw106) (Or.inl tw82) (by decide) (t := (.object "java/lang/String")) (t' := (.object "java/util/List")) (by decide) (by decide)))) (Fld.other W106 Fw104 (Or.inr (slot_ne (Or.inl tw79) (Or.inl tw82) (by decide) (t := (.array (.object "java/lang/StackTraceElement"))) (t' := (.object "java/util/List")) (by decide) (by decide)))) (Sta.wr W106 (Sta.wr W104 (Sta.wr W102 SU))) (by decide) (by decide)) q107a q107c (g := (mkF m 24 #[.val (.ref a1), .val (.ref s1)] [(.ref a1)])) rfl (by rw [hml]; rfl) (Steps.refl _) (argsL := []) (rest := []) (lenOf pd_Ljava_lang_Throwable rfl) rfl (Nat.le_of_eq rfl) (hb hby d_jdk_78_method_2_code_24) (fun _ _ => ⟨rfl, e106, (by decide : 0 + 1 ≤ _), (by decide : 0 + 2752 ≤ _)⟩)
  dsimp only [Pt.U, Pt.locs, Pt.cells, Pt.slots] at X107 l107 y107 z107 st107 hQ107
  subst y107 z107
  obtain ⟨rfl, Nq107, q107_0, q107_1, q107_2, q107_3, q107_4⟩ := hQ107
  have N107 : Fr n0 L107 := by rw [l107]; exact Fr.app N106 Nq107
  refine Goes.step (S' := T107.setTop (mkF m 30 #[.val (.ref a1), .val (.ref s1)] [(.ref s1), (.ref a1)])) (fun t k => st107.trans (XS.pop X107.here hx rfl (hb hby d_jdk_78_method_2_code_27) rfl rfl (XS.aloadN X107.here hx rfl (hb hby d_jdk_78_method_2_code_28) rfl rfl (XS.aloadN X107.here hx rfl (hb hby d_jdk_78_method_2_code_29) rfl rfl k)))) ?_
  obtain ⟨T108, h108, X108, e108, W108, st108⟩ := putF X107 hx hZ hown (host := "") (Or.inl tw110) Via.refl rfl q107_4 q107_1 (Or.inl tw106) tw52 (ty := (.object "java/lang/String")) (by decide) rfl rfl (g := (mkF m 30 #[.val (.ref a1), .val (.ref s1)] [(.ref s1), (.ref a1)])) rfl rfl (hb hby d_jdk_78_method_2_code_30)
  have Fw108 : Fld Z h108 a1 "java/lang/Throwable" "detailMessage" "Ljava/lang/String;" (.ref s1) := Fld.same W108 q107_4
  have N108 := Fr.snoc X108 N107 G1
  refine Goes.step (S' := T108.setTop (mkF m 33 #[.val (.ref a1), .val (.ref s1)] [])) (fun t k => st108 _ k) ?_
  refine Goes.leave (g := (mkF m 33 #[.val (.ref a1), .val (.ref s1)] [])) X108 Bd.notSynchronized (v := none) (fun _ => rfl) (fun fs hr => X108.returnOut hx Bd.returns (hb hby d_jdk_78_method_2_code_33) hr) e108 ?_ (by decide) (by decide)
  exact ⟨rfl, N108, ((((((Keep.refl _ [a1]).wr W102 (Or.inl (List.mem_of_getElem? (i := 0) rfl))).wr W104 (Or.inl (List.mem_of_getElem? (i := 0) rfl))).wr W106 (Or.inl (List.mem_of_getElem? (i := 0) rfl))).trans q107_0 (allS (Or.inl (List.mem_of_getElem? (i := 0) rfl)) all0)).wr W108 (Or.inl (List.mem_of_getElem? (i := 0) rfl))), (Unt.wr W108 q107_2), Fw108⟩

theorem ef_ex0 (m : MethodId) (x0 : Addr) (x1 : Addr) : entryFrame m #[(.ref x0), (.ref x1)] 2 = mkF m 0 #[.val (.ref x0), .val (.ref x1)] [] := by first | (simp [entryFrame, mkF, argsToLocals, Value.category]; done) | rfl
def Q_ex0 (Z : State) (a1 : Addr) (us : Addr) (ss : Addr) (s1 : Addr) (h0 : Heap) (n0 : Nat) (v : Option Value) (h : Heap) (L : List Loc) : Prop := v = none ∧ Fr n0 L ∧ Keep h0 h [a1] ∧ Unt h a1 ∧ Fld Z h a1 "java/lang/Throwable" "detailMessage" "Ljava/lang/String;" (.ref s1)
set_option maxRecDepth 65536 in
set_option maxHeartbeats 40000000 in
theorem ex0 (l : Launch) (Z : State) (a0 : Array Value) (hw : ∀ d ∈ tables_1, d.before a0 Z = true) (ws : List Jvm.Cond) (a1 : Addr) (us : Addr) (ss : Addr) (s1 : Addr) (h0 : Heap) (n0 : Nat) (Z0 : n0 ≤ h0.size) (HL : l.stackTraces = true) (TH : ThS Z h0) (SU : Sta Z h0 "java/lang/Throwable" "UNASSIGNED_STACK" "[Ljava/lang/StackTraceElement;" (.ref us)) (SP : Sta Z h0 "java/lang/Throwable" "SUPPRESSED_SENTINEL" "Ljava/util/List;" (.ref ss)) (E1 : Exa Z h0 a1 "com/example/rerouted/rerouted/engine/RejectedException") (U1 : Unt h0 a1) (Fb : Fld Z h0 a1 "java/lang/Throwable" "backtrace" "Ljava/lang/Object;" .null) (Fd : Fld Z h0 a1 "java/lang/Throwable" "detailMessage" "Ljava/lang/String;" .null) (Fc : Fld Z h0 a1 "java/lang/Throwable" "cause" "Ljava/lang/Throwable;" .null) (Fs : Fld Z h0 a1 "java/lang/Throwable" "stackTrace" "[Ljava/lang/StackTraceElement;" .null) (Fp : Fld Z h0 a1 "java/lang/Throwable" "suppressedExceptions" "Ljava/util/List;" .null) (G1 : n0 ≤ a1) :
    MetFree l mth10 (head1 (Jvm.Cond.code mth10 jdk_59_method_2_code 2 none :: ws) rom6) (fun a U => a = #[(.ref a1), (.ref s1)] ∧ Z.Warmed39 U.vm ∧ U.heap = h0) (fun _ _ bl s _ => s.vm.MethodsKnown ∧ s.vm.FramesKnown bl) (fun _ U o U' => ∃ v L, o = .returned v ∧ Q_ex0 Z a1 us ss s1 h0 n0 v U'.heap L ∧ FrameEnd U o U' L rom6.cells rom6.slots) := by
  refine MetFree.of_bodySF (plainFor_of_name pnm6) hisR ?_
  intro p e s m args below meth c s₁ Bd hml0 hP hK
  obtain ⟨rfl, hZ, hh⟩ := hP
  have hx := Bd.exec
  have hby := Bd.bytes
  have hml : c.maxLocals = 2 := hml0
  have hown : s.vm.findClass "java/lang/Exception" = some m.cls := findClass_of_methodNamed Bd.named
  have hnm := (name_of_methodNamed Bd.named Bd.method).1
  have X0 : Stand p l e rom6 s m #[(.ref a1), (.ref s1)] below meth c s₁ [] 0 0 := Stand.of_body Bd
  obtain ⟨hTK, hBl⟩ := hK
  have eh0 : s₁.heap = h0 := by rw [← hh, Bd.state]; rfl
  have N0 := Fr.nil n0
  have tw68 := hw _ (List.mem_of_getElem? (i := 68) rfl)
  have tw69 := hw _ (List.mem_of_getElem? (i := 69) rfl)
  have tw72 := hw _ (List.mem_of_getElem? (i := 72) rfl)
  have tw73 := hw _ (List.mem_of_getElem? (i := 73) rfl)
  show Goes p e below (Pq (Q_ex0 Z a1 us ss s1 h0 n0) s rom6.cells rom6.slots) (s₁.setTop (entryFrame m #[(.ref a1), (.ref s1)] 2))
  refine Goes.step (S' := s₁.setTop (mkF m 0 #[.val (.ref a1), .val (.ref s1)] [])) (fun t k => castTop (ef_ex0 m a1 s1) k) ?_
  refine Goes.step (S' := s₁.setTop (mkF m 2 #[.val (.ref a1), .val (.ref s1)] [(.ref s1), (.ref a1)])) (fun t k => XS.aloadN X0.here hx rfl (hb hby d_jdk_59_method_2_code_0) rfl rfl (XS.aloadN X0.here hx rfl (hb hby d_jdk_59_method_2_code_1) rfl rfl k)) ?_
  obtain ⟨_, _, ⟨T101, L101, k101, n101⟩, -, X101, ⟨Lc101, hQ101, l101, y101, z101⟩, st101⟩ := X0.specialBack hx (y := mth9) rfl hown (mvT hZ tw68) (mvT hZ tw69) (mvT hZ tw73) (by decide) (backOfKL (W := 0) (thr l Z a0 hw [] a1 us ss s1 h0 n0 Z0 (HL : l.stackTraces = true) TH SU SP E1 U1 Fb Fd Fc Fs Fp G1) hZ tw73 tw72 (by decide) (by decide) hTK hBl) (g := (mkF m 2 #[.val (.ref a1), .val (.ref s1)] [(.ref s1), (.ref a1)])) rfl (by rw [hml]; rfl) (Steps.refl _) (a := a1) (argsL := [(.ref s1)]) (rest := []) (lenOf pd_Ljava_lang_String__V rfl) rfl (Nat.le_of_eq rfl) (hb hby d_jdk_59_method_2_code_2) (fun _ _ => ⟨rfl, eh0, (by decide : 0 + 1 ≤ _), (by decide : 0 + 2752 ≤ _)⟩)
  dsimp only [Pt.U, Pt.locs, Pt.cells, Pt.slots] at X101 l101 y101 z101 st101 hQ101
  subst y101 z101
  obtain ⟨rfl, Nq101, q101_0, q101_1, q101_2⟩ := hQ101
  have N101 : Fr n0 L101 := by rw [l101]; exact Fr.app N0 Nq101
  refine Goes.step (S' := T101.setTop (mkF m 5 #[.val (.ref a1), .val (.ref s1)] [])) (fun t k => st101.trans k) ?_
  refine Goes.leave (g := (mkF m 5 #[.val (.ref a1), .val (.ref s1)] [])) X101 Bd.notSynchronized (v := none) (fun _ => rfl) (fun fs hr => X101.returnOut hx Bd.returns (hb hby d_jdk_59_method_2_code_5) hr) rfl ?_ (by decide) (by decide)
  exact ⟨rfl, N101, ((Keep.refl _ [a1]).trans q101_0 (allS (Or.inl (List.mem_of_getElem? (i := 0) rfl)) all0)), q101_1, q101_2⟩

theorem ef_ex1 (m : MethodId) (x0 : Addr) (x1 : Addr) : entryFrame m #[(.ref x0), (.ref x1)] 2 = mkF m 0 #[.val (.ref x0), .val (.ref x1)] [] := by first | (simp [entryFrame, mkF, argsToLocals, Value.category]; done) | rfl
def Q_ex1 (Z : State) (a1 : Addr) (us : Addr) (ss : Addr) (s1 : Addr) (h0 : Heap) (n0 : Nat) (v : Option Value) (h : Heap) (L : List Loc) : Prop := v = none ∧ Fr n0 L ∧ Keep h0 h [a1] ∧ Unt h a1 ∧ Fld Z h a1 "java/lang/Throwable" "detailMessage" "Ljava/lang/String;" (.ref s1)
set_option maxRecDepth 65536 in
set_option maxHeartbeats 40000000 in
theorem ex1 (l : Launch) (Z : State) (a0 : Array Value) (hw : ∀ d ∈ tables_1, d.before a0 Z = true) (ws : List Jvm.Cond) (a1 : Addr) (us : Addr) (ss : Addr) (s1 : Addr) (h0 : Heap) (n0 : Nat) (Z0 : n0 ≤ h0.size) (HL : l.stackTraces = true) (TH : ThS Z h0) (SU : Sta Z h0 "java/lang/Throwable" "UNASSIGNED_STACK" "[Ljava/lang/StackTraceElement;" (.ref us)) (SP : Sta Z h0 "java/lang/Throwable" "SUPPRESSED_SENTINEL" "Ljava/util/List;" (.ref ss)) (E1 : Exa Z h0 a1 "com/example/rerouted/rerouted/engine/RejectedException") (U1 : Unt h0 a1) (Fb : Fld Z h0 a1 "java/lang/Throwable" "backtrace" "Ljava/lang/Object;" .null) (Fd : Fld Z h0 a1 "java/lang/Throwable" "detailMessage" "Ljava/lang/String;" .null) (Fc : Fld Z h0 a1 "java/lang/Throwable" "cause" "Ljava/lang/Throwable;" .null) (Fs : Fld Z h0 a1 "java/lang/Throwable" "stackTrace" "[Ljava/lang/StackTraceElement;" .null) (Fp : Fld Z h0 a1 "java/lang/Throwable" "suppressedExceptions" "Ljava/util/List;" .null) (G1 : n0 ≤ a1) :
    MetFree l mth11 (head1 (Jvm.Cond.code mth11 jdk_58_method_2_code 2 none :: ws) rom7) (fun a U => a = #[(.ref a1), (.ref s1)] ∧ Z.Warmed39 U.vm ∧ U.heap = h0) (fun _ _ bl s _ => s.vm.MethodsKnown ∧ s.vm.FramesKnown bl) (fun _ U o U' => ∃ v L, o = .returned v ∧ Q_ex1 Z a1 us ss s1 h0 n0 v U'.heap L ∧ FrameEnd U o U' L rom7.cells rom7.slots) := by
  refine MetFree.of_bodySF (plainFor_of_name pnm7) hisR ?_
  intro p e s m args below meth c s₁ Bd hml0 hP hK
  obtain ⟨rfl, hZ, hh⟩ := hP
  have hx := Bd.exec
  have hby := Bd.bytes
  have hml : c.maxLocals = 2 := hml0
  have hown : s.vm.findClass "java/lang/RuntimeException" = some m.cls := findClass_of_methodNamed Bd.named
  have hnm := (name_of_methodNamed Bd.named Bd.method).1
  have X0 : Stand p l e rom7 s m #[(.ref a1), (.ref s1)] below meth c s₁ [] 0 0 := Stand.of_body Bd
  obtain ⟨hTK, hBl⟩ := hK
  have eh0 : s₁.heap = h0 := by rw [← hh, Bd.state]; rfl
  have N0 := Fr.nil n0
  have tw62 := hw _ (List.mem_of_getElem? (i := 62) rfl)
  have tw63 := hw _ (List.mem_of_getElem? (i := 63) rfl)
  have tw66 := hw _ (List.mem_of_getElem? (i := 66) rfl)
  have tw67 := hw _ (List.mem_of_getElem? (i := 67) rfl)
  show Goes p e below (Pq (Q_ex1 Z a1 us ss s1 h0 n0) s rom7.cells rom7.slots) (s₁.setTop (entryFrame m #[(.ref a1), (.ref s1)] 2))
  refine Goes.step (S' := s₁.setTop (mkF m 0 #[.val (.ref a1), .val (.ref s1)] [])) (fun t k => castTop (ef_ex1 m a1 s1) k) ?_
  refine Goes.step (S' := s₁.setTop (mkF m 2 #[.val (.ref a1), .val (.ref s1)] [(.ref s1), (.ref a1)])) (fun t k => XS.aloadN X0.here hx rfl (hb hby d_jdk_58_method_2_code_0) rfl rfl (XS.aloadN X0.here hx rfl (hb hby d_jdk_58_method_2_code_1) rfl rfl k)) ?_
  obtain ⟨_, _, ⟨T101, L101, k101, n101⟩, -, X101, ⟨Lc101, hQ101, l101, y101, z101⟩, st101⟩ := X0.specialBack hx (y := mth10) rfl hown (mvT hZ tw62) (mvT hZ tw63) (mvT hZ tw67) (by decide) (backOfKL (W := 0) (ex0 l Z a0 hw [] a1 us ss s1 h0 n0 Z0 (HL : l.stackTraces = true) TH SU SP E1 U1 Fb Fd Fc Fs Fp G1) hZ tw67 tw66 (by decide) (by decide) hTK hBl) (g := (mkF m 2 #[.val (.ref a1), .val (.ref s1)] [(.ref s1), (.ref a1)])) rfl (by rw [hml]; rfl) (Steps.refl _) (a := a1) (argsL := [(.ref s1)]) (rest := []) (lenOf pd_Ljava_lang_String__V rfl) rfl (Nat.le_of_eq rfl) (hb hby d_jdk_58_method_2_code_2) (fun _ _ => ⟨rfl, eh0, (by decide : 0 + 1 ≤ _), (by decide : 0 + 2752 ≤ _)⟩)
  dsimp only [Pt.U, Pt.locs, Pt.cells, Pt.slots] at X101 l101 y101 z101 st101 hQ101
  subst y101 z101
  obtain ⟨rfl, Nq101, q101_0, q101_1, q101_2⟩ := hQ101
  have N101 : Fr n0 L101 := by rw [l101]; exact Fr.app N0 Nq101
  refine Goes.step (S' := T101.setTop (mkF m 5 #[.val (.ref a1), .val (.ref s1)] [])) (fun t k => st101.trans k) ?_
  refine Goes.leave (g := (mkF m 5 #[.val (.ref a1), .val (.ref s1)] [])) X101 Bd.notSynchronized (v := none) (fun _ => rfl) (fun fs hr => X101.returnOut hx Bd.returns (hb hby d_jdk_58_method_2_code_5) hr) rfl ?_ (by decide) (by decide)
  exact ⟨rfl, N101, ((Keep.refl _ [a1]).trans q101_0 (allS (Or.inl (List.mem_of_getElem? (i := 0) rfl)) all0)), q101_1, q101_2⟩

theorem ef_rej (m : MethodId) (x0 : Addr) (x1 : Addr) (x2 : Addr) : entryFrame m #[(.ref x0), (.ref x1), (.ref x2)] 3 = mkF m 0 #[.val (.ref x0), .val (.ref x1), .val (.ref x2)] [] := by first | (simp [entryFrame, mkF, argsToLocals, Value.category]; done) | rfl
def Q_rej (Z : State) (a1 : Addr) (r1 : Addr) (s1 : Addr) (us : Addr) (ss : Addr) (h0 : Heap) (n0 : Nat) (v : Option Value) (h : Heap) (L : List Loc) : Prop := v = none ∧ Fr n0 L ∧ Keep h0 h [a1] ∧ Fld Z h a1 "com/example/rerouted/rerouted/engine/RejectedException" "rule" "Lcom/example/rerouted/rerouted/engine/Rule;" (.ref r1) ∧ Fld Z h a1 "java/lang/Throwable" "detailMessage" "Ljava/lang/String;" (.ref s1)
set_option maxRecDepth 65536 in
set_option maxHeartbeats 40000000 in
theorem rej (l : Launch) (Z : State) (a0 : Array Value) (hw : ∀ d ∈ tables_1, d.before a0 Z = true) (ws : List Jvm.Cond) (a1 : Addr) (r1 : Addr) (s1 : Addr) (us : Addr) (ss : Addr) (h0 : Heap) (n0 : Nat) (Z0 : n0 ≤ h0.size) (HL : l.stackTraces = true) (TH : ThS Z h0) (SU : Sta Z h0 "java/lang/Throwable" "UNASSIGNED_STACK" "[Ljava/lang/StackTraceElement;" (.ref us)) (SP : Sta Z h0 "java/lang/Throwable" "SUPPRESSED_SENTINEL" "Ljava/util/List;" (.ref ss)) (E1 : Exa Z h0 a1 "com/example/rerouted/rerouted/engine/RejectedException") (U1 : Unt h0 a1) (Fb : Fld Z h0 a1 "java/lang/Throwable" "backtrace" "Ljava/lang/Object;" .null) (Fd : Fld Z h0 a1 "java/lang/Throwable" "detailMessage" "Ljava/lang/String;" .null) (Fc : Fld Z h0 a1 "java/lang/Throwable" "cause" "Ljava/lang/Throwable;" .null) (Fs : Fld Z h0 a1 "java/lang/Throwable" "stackTrace" "[Ljava/lang/StackTraceElement;" .null) (Fp : Fld Z h0 a1 "java/lang/Throwable" "suppressedExceptions" "Ljava/util/List;" .null) (Fru : Fld Z h0 a1 "com/example/rerouted/rerouted/engine/RejectedException" "rule" "Lcom/example/rerouted/rerouted/engine/Rule;" .null) (Er : Exa Z h0 r1 "com/example/rerouted/rerouted/engine/Rule") (G1 : n0 ≤ a1) :
    MetFree l mth12 (head1 (Jvm.Cond.code mth12 prog_35_method_1_code 3 none :: ws) rom8) (fun a U => a = #[(.ref a1), (.ref r1), (.ref s1)] ∧ Z.Warmed39 U.vm ∧ U.heap = h0) (fun _ _ bl s _ => s.vm.MethodsKnown ∧ s.vm.FramesKnown bl) (fun _ U o U' => ∃ v L, o = .returned v ∧ Q_rej Z a1 r1 s1 us ss h0 n0 v U'.heap L ∧ ReturnedEndW U o U' L rom8.cells rom8.slots) := by
  refine MetFree.of_bodySF (plainFor_of_name pnm8) hisR ?_
  intro p e s m args below meth c s₁ Bd hml0 hP hK
  obtain ⟨rfl, hZ, hh⟩ := hP
  have hx := Bd.exec
  have hby := Bd.bytes
  have hml : c.maxLocals = 3 := hml0
  have hown : s.vm.findClass "com/example/rerouted/rerouted/engine/RejectedException" = some m.cls := findClass_of_methodNamed Bd.named
  have hnm := (name_of_methodNamed Bd.named Bd.method).1
  have X0 : Stand p l e rom8 s m #[(.ref a1), (.ref r1), (.ref s1)] below meth c s₁ [] 0 0 := Stand.of_body Bd
  obtain ⟨hTK, hBl⟩ := hK
  replace X0 : Stand p l e rom8 (s.setVm s.vm) m #[(.ref a1), (.ref r1), (.ref s1)] below meth c s₁ [] 0 0 := X0
  have hZ0 := hZ
  have hown0 := hown
  have hS0 := own_s0 s h0.size
  have hTK0 := hTK
  have hBl0 := hBl
  have eh0 : s₁.heap = h0 := by rw [← hh, Bd.state]; rfl
  have N0 := Fr.nil n0
  have tw52 := hw _ (List.mem_of_getElem? (i := 52) rfl)
  have tw57 := hw _ (List.mem_of_getElem? (i := 57) rfl)
  have tw58 := hw _ (List.mem_of_getElem? (i := 58) rfl)
  have tw60 := hw _ (List.mem_of_getElem? (i := 60) rfl)
  have tw61 := hw _ (List.mem_of_getElem? (i := 61) rfl)
  have tw106 := hw _ (List.mem_of_getElem? (i := 106) rfl)
  have tw111 := hw _ (List.mem_of_getElem? (i := 111) rfl)
  have tw114 := hw _ (List.mem_of_getElem? (i := 114) rfl)
  have tw115 := hw _ (List.mem_of_getElem? (i := 115) rfl)
  have tw116 := hw _ (List.mem_of_getElem? (i := 116) rfl)
  have tw117 := hw _ (List.mem_of_getElem? (i := 117) rfl)
  have tw118 := hw _ (List.mem_of_getElem? (i := 118) rfl)
  have tw120 := hw _ (List.mem_of_getElem? (i := 120) rfl)
  have tw121 := hw _ (List.mem_of_getElem? (i := 121) rfl)
  show Goes p e below (Pw (Q_rej Z a1 r1 s1 us ss h0 n0) s rom8.cells rom8.slots) (s₁.setTop (entryFrame m #[(.ref a1), (.ref r1), (.ref s1)] 3))
  refine Goes.step (S' := s₁.setTop (mkF m 0 #[.val (.ref a1), .val (.ref r1), .val (.ref s1)] [])) (fun t k => castTop (ef_rej m a1 r1 s1) k) ?_
  refine Goes.step (S' := s₁.setTop (mkF m 2 #[.val (.ref a1), .val (.ref r1), .val (.ref s1)] [(.ref s1), (.ref a1)])) (fun t k => XS.aloadN X0.here hx rfl (hb hby d_prog_35_method_1_code_0) rfl rfl (XS.aloadN X0.here hx rfl (hb hby d_prog_35_method_1_code_1) rfl rfl k)) ?_
  obtain ⟨_, _, ⟨T101, L101, k101, n101⟩, -, X101, ⟨Lc101, hQ101, l101, y101, z101⟩, st101⟩ := X0.specialBack hx (y := mth11) rfl hown (mvT hZ tw57) (mvT hZ tw58) (mvT hZ tw61) (by decide) (backOfKL (W := 0) (ex1 l Z a0 hw [] a1 us ss s1 h0 n0 Z0 (HL : l.stackTraces = true) TH SU SP E1 U1 Fb Fd Fc Fs Fp G1) hZ tw61 tw60 (by decide) (by decide) hTK hBl) (g := (mkF m 2 #[.val (.ref a1), .val (.ref r1), .val (.ref s1)] [(.ref s1), (.ref a1)])) rfl (by rw [hml]; rfl) (Steps.refl _) (a := a1) (argsL := [(.ref s1)]) (rest := []) (lenOf pd_Ljava_lang_String__V rfl) rfl (Nat.le_of_eq rfl) (hb hby d_prog_35_method_1_code_2) (fun _ _ => ⟨rfl, eh0, (by decide : 0 + 1 ≤ _), (by decide : 0 + 2752 ≤ _)⟩)
  dsimp only [Pt.U, Pt.locs, Pt.cells, Pt.slots] at X101 l101 y101 z101 st101 hQ101
  subst y101 z101
  obtain ⟨rfl, Nq101, q101_0, q101_1, q101_2⟩ := hQ101
  have N101 : Fr n0 L101 := by rw [l101]; exact Fr.app N0 Nq101
  obtain ⟨ur101, Fr101⟩ := fld_laid (E1.keep q101_0) (Unt.known q101_1) tw52 (Or.inr tw121)
  refine Goes.step (S' := T101.setTop (mkF m 7 #[.val (.ref a1), .val (.ref r1), .val (.ref s1)] [(.ref r1), (.ref a1)])) (fun t k => st101.trans (XS.aloadN X101.here hx rfl (hb hby d_prog_35_method_1_code_5) rfl rfl (XS.aloadN X101.here hx rfl (hb hby d_prog_35_method_1_code_6) rfl rfl k))) ?_
  obtain ⟨b102, T102, h102, k102, X102, e102, E102, hS102, hk102, hZ, hown, st102⟩ := ldcS (s := s) X101 hx hZ hown tw111 (fun d hd => hw d (own_sin d hd)) rfl hS0 (Nat.le_trans (Nat.le_refl _) q101_0.1) (g := (mkF m 7 #[.val (.ref a1), .val (.ref r1), .val (.ref s1)] [(.ref r1), (.ref a1)])) rfl (hb hby d_prog_35_method_1_code_7) (n := 16) (by decide +kernel) (by decide) (by decide) (by decide)
  have hTK := Vm.MethodsKnown.alikeC hS102.1.alike hTK0
  have hBl := Vm.FramesKnown.alikeC hS102.1.alike hBl0
  refine Goes.step (S' := T102.setTop (mkF m 9 #[.val (.ref a1), .val (.ref r1), .val (.ref s1)] [(.ref b102), (.ref r1), (.ref a1)])) (fun t k => st102 _ k) ?_
  obtain ⟨_, _, ⟨T103, L103, k103, n103⟩, -, X103, ⟨Lc103, hQ103, l103, y103, z103⟩, st103⟩ := Jvm.LawKit.callS X102 hx (y := mth7) hown (mvT hZ tw114) (mvT hZ tw115) (mvT hZ tw116) (mvT hZ tw117) (by decide) (backOf (W := 1) (rnn l Z a0 hw [] r1 b102 h102 n0 (Nat.le_trans Z0 (Nat.le_trans q101_0.1 E102.1)) ) hZ tw117 tw116 (by decide) (by decide)) (g := (mkF m 9 #[.val (.ref a1), .val (.ref r1), .val (.ref s1)] [(.ref b102), (.ref r1), (.ref a1)])) rfl (by rw [hml]; rfl) (argsL := [(.ref r1), (.ref b102)]) (rest := [(.ref a1)]) (lenOf pd_Ljava_lang_Object_Ljava_lang_String__Ljava_lang_Object rfl) rfl (Nat.le_of_eq rfl) (hb hby d_prog_35_method_1_code_9) (fun _ _ => ⟨rfl, e102, (by decide : 3 + 0 ≤ _), (by decide : 2772 + 0 ≤ _)⟩)
  dsimp only [Pt.U, Pt.locs, Pt.cells, Pt.slots] at X103 l103 y103 z103 st103 hQ103
  subst y103 z103
  obtain ⟨rfl, Nq103, q103_0⟩ := hQ103
  have N103 : Fr n0 L103 := by rw [l103]; exact Fr.app N101 Nq103
  refine Goes.step (S' := T103.setTop (mkF m 12 #[.val (.ref a1), .val (.ref r1), .val (.ref s1)] [(.ref r1), (.ref a1)])) (fun t k => st103 _ k) ?_
  obtain ⟨T104, X104, e104, st104⟩ := castY X103 hx hZ hown tw118 q103_0 (Ins.self (Exa.ext E102 (Er.keep q101_0))) (g := (mkF m 12 #[.val (.ref a1), .val (.ref r1), .val (.ref s1)] [(.ref r1), (.ref a1)])) rfl rfl (hb hby d_prog_35_method_1_code_12)
  refine Goes.step (S' := T104.setTop (mkF m 15 #[.val (.ref a1), .val (.ref r1), .val (.ref s1)] [(.ref r1), (.ref a1)])) (fun t k => st104 _ k) ?_
  obtain ⟨T105, h105, X105, e105, W105, st105⟩ := putF X104 hx hZ hown (host := "") (Or.inl tw120) Via.refl e104 (Fld.ext E102 Fr101) (Exa.ext E102 (E1.keep q101_0)) (Or.inr ⟨tw121, rfl, hnm⟩) tw52 (ty := (.object "com/example/rerouted/rerouted/engine/Rule")) (by decide) rfl rfl (g := (mkF m 15 #[.val (.ref a1), .val (.ref r1), .val (.ref s1)] [(.ref r1), (.ref a1)])) rfl rfl (hb hby d_prog_35_method_1_code_15)
  have Fw105 : Fld Z h105 a1 "com/example/rerouted/rerouted/engine/RejectedException" "rule" "Lcom/example/rerouted/rerouted/engine/Rule;" (.ref r1) := Fld.same W105 (Fld.ext E102 Fr101)
  have N105 := Fr.snoc X105 N103 G1
  refine Goes.step (S' := T105.setTop (mkF m 18 #[.val (.ref a1), .val (.ref r1), .val (.ref s1)] [])) (fun t k => st105 _ k) ?_
  refine Goes.leaveW (g := (mkF m 18 #[.val (.ref a1), .val (.ref r1), .val (.ref s1)] [])) X105 hS102 (Nat.le_trans hk102 (Nat.le_of_eq W105.size.symm)) Bd.notSynchronized (v := none) (fun _ => rfl) (fun fs hr => X105.returnOut hx Bd.returns (hb hby d_prog_35_method_1_code_18) hr) e105 ?_ (by decide) (by decide)
  exact ⟨rfl, N105, ((((Keep.refl _ [a1]).trans q101_0 (allS (Or.inl (List.mem_of_getElem? (i := 0) rfl)) all0)).ext E102).wr W105 (Or.inl (List.mem_of_getElem? (i := 0) rfl))), Fw105, (Fld.other W105 (Fld.ext E102 q101_2) (Or.inr (slot_ne (Or.inl tw106) (Or.inr tw121) (by decide) (t := (.object "java/lang/String")) (t' := (.object "com/example/rerouted/rerouted/engine/Rule")) (by decide) (by decide))))⟩

theorem ef_rrule (m : MethodId) (x0 : Addr) : entryFrame m #[(.ref x0)] 1 = mkF m 0 #[.val (.ref x0)] [] := by first | (simp [entryFrame, mkF, argsToLocals, Value.category]; done) | rfl
def Q_rrule (Z : State) (a1 : Addr) (r1 : Addr) (h0 : Heap) (n0 : Nat) (v : Option Value) (h : Heap) (L : List Loc) : Prop := v = some (.ref r1) ∧ Fr n0 L ∧ h = h0
set_option maxRecDepth 65536 in
set_option maxHeartbeats 40000000 in
theorem rrule (l : Launch) (Z : State) (a0 : Array Value) (hw : ∀ d ∈ tables_1, d.before a0 Z = true) (ws : List Jvm.Cond) (a1 : Addr) (r1 : Addr) (h0 : Heap) (n0 : Nat) (Z0 : n0 ≤ h0.size) (Fru : Fld Z h0 a1 "com/example/rerouted/rerouted/engine/RejectedException" "rule" "Lcom/example/rerouted/rerouted/engine/Rule;" (.ref r1)) :
    MetFree l mth13 (head1 (Jvm.Cond.code mth13 prog_35_method_2_code 1 (some (.object "com/example/rerouted/rerouted/engine/Rule")) :: ws) rom0) (fun a U => a = #[(.ref a1)] ∧ Z.Warmed39 U.vm ∧ U.heap = h0) (fun _ _ _ _ _ => True) (fun _ U o U' => ∃ v L, o = .returned v ∧ Q_rrule Z a1 r1 h0 n0 v U'.heap L ∧ FrameEnd U o U' L rom0.cells rom0.slots) := by
  refine MetFree.of_bodySF (plainFor_of_name pnm8) hisR ?_
  intro p e s m args below meth c s₁ Bd hml0 hP hK
  obtain ⟨rfl, hZ, hh⟩ := hP
  have hx := Bd.exec
  have hby := Bd.bytes
  have hml : c.maxLocals = 1 := hml0
  have hown : s.vm.findClass "com/example/rerouted/rerouted/engine/RejectedException" = some m.cls := findClass_of_methodNamed Bd.named
  have hnm := (name_of_methodNamed Bd.named Bd.method).1
  have X0 : Stand p l e rom0 s m #[(.ref a1)] below meth c s₁ [] 0 0 := Stand.of_body Bd
  have eh0 : s₁.heap = h0 := by rw [← hh, Bd.state]; rfl
  have N0 := Fr.nil n0
  have tw120 := hw _ (List.mem_of_getElem? (i := 120) rfl)
  show Goes p e below (Pq (Q_rrule Z a1 r1 h0 n0) s rom0.cells rom0.slots) (s₁.setTop (entryFrame m #[(.ref a1)] 1))
  refine Goes.step (S' := s₁.setTop (mkF m 0 #[.val (.ref a1)] [])) (fun t k => castTop (ef_rrule m a1) k) ?_
  refine Goes.step (S' := s₁.setTop (mkF m 1 #[.val (.ref a1)] [(.ref a1)])) (fun t k => XS.aloadN X0.here hx rfl (hb hby d_prog_35_method_2_code_0) rfl rfl k) ?_
  obtain ⟨T101, X101, e101, st101⟩ := getF X0 hx hZ hown (host := "") (Or.inl tw120) Via.refl eh0 Fru (g := (mkF m 1 #[.val (.ref a1)] [(.ref a1)])) rfl rfl (hb hby d_prog_35_method_2_code_1)
  refine Goes.step (S' := T101.setTop (mkF m 4 #[.val (.ref a1)] [(.ref r1)])) (fun t k => st101 _ k) ?_
  refine Goes.leave (g := (mkF m 4 #[.val (.ref a1)] [(.ref r1)])) X101 Bd.notSynchronized (v := (some (.ref r1))) (fun h => by rw [Bd.returns] at h; cases h) (fun fs hr => by jvm_step X101.here [X101.here.top, hx, (hb hby d_prog_35_method_2_code_4), X101.method', Bd.returns, Value.isRef, FieldType.isReference]; (first | (intro acts; rw [hr _ acts rfl rfl rfl]) | rw [hr _ _ rfl rfl rfl]); exact Steps.refl _) e101 ?_ (by decide) (by decide)
  exact ⟨rfl, N0, rfl⟩

theorem ef_gmsg (m : MethodId) (x0 : Addr) : entryFrame m #[(.ref x0)] 1 = mkF m 0 #[.val (.ref x0)] [] := by first | (simp [entryFrame, mkF, argsToLocals, Value.category]; done) | rfl
def Q_gmsg (Z : State) (a1 : Addr) (s1 : Addr) (h0 : Heap) (n0 : Nat) (v : Option Value) (h : Heap) (L : List Loc) : Prop := v = some (.ref s1) ∧ Fr n0 L ∧ h = h0
set_option maxRecDepth 65536 in
set_option maxHeartbeats 40000000 in
theorem gmsg (l : Launch) (Z : State) (a0 : Array Value) (hw : ∀ d ∈ tables_1, d.before a0 Z = true) (ws : List Jvm.Cond) (a1 : Addr) (s1 : Addr) (h0 : Heap) (n0 : Nat) (Z0 : n0 ≤ h0.size) (Fd : Fld Z h0 a1 "java/lang/Throwable" "detailMessage" "Ljava/lang/String;" (.ref s1)) :
    MetFree l mth14 (head1 (Jvm.Cond.code mth14 jdk_78_method_6_code 1 (some (.object "java/lang/String")) :: ws) rom0) (fun a U => a = #[(.ref a1)] ∧ Z.Warmed39 U.vm ∧ U.heap = h0) (fun _ _ _ _ _ => True) (fun _ U o U' => ∃ v L, o = .returned v ∧ Q_gmsg Z a1 s1 h0 n0 v U'.heap L ∧ FrameEnd U o U' L rom0.cells rom0.slots) := by
  refine MetFree.of_bodySF (plainFor_of_name pnm5) hisR ?_
  intro p e s m args below meth c s₁ Bd hml0 hP hK
  obtain ⟨rfl, hZ, hh⟩ := hP
  have hx := Bd.exec
  have hby := Bd.bytes
  have hml : c.maxLocals = 1 := hml0
  have hown : s.vm.findClass "java/lang/Throwable" = some m.cls := findClass_of_methodNamed Bd.named
  have hnm := (name_of_methodNamed Bd.named Bd.method).1
  have X0 : Stand p l e rom0 s m #[(.ref a1)] below meth c s₁ [] 0 0 := Stand.of_body Bd
  have eh0 : s₁.heap = h0 := by rw [← hh, Bd.state]; rfl
  have N0 := Fr.nil n0
  have tw110 := hw _ (List.mem_of_getElem? (i := 110) rfl)
  show Goes p e below (Pq (Q_gmsg Z a1 s1 h0 n0) s rom0.cells rom0.slots) (s₁.setTop (entryFrame m #[(.ref a1)] 1))
  refine Goes.step (S' := s₁.setTop (mkF m 0 #[.val (.ref a1)] [])) (fun t k => castTop (ef_gmsg m a1) k) ?_
  refine Goes.step (S' := s₁.setTop (mkF m 1 #[.val (.ref a1)] [(.ref a1)])) (fun t k => XS.aloadN X0.here hx rfl (hb hby d_jdk_78_method_6_code_0) rfl rfl k) ?_
  obtain ⟨T101, X101, e101, st101⟩ := getF X0 hx hZ hown (host := "") (Or.inl tw110) Via.refl eh0 Fd (g := (mkF m 1 #[.val (.ref a1)] [(.ref a1)])) rfl rfl (hb hby d_jdk_78_method_6_code_1)
  refine Goes.step (S' := T101.setTop (mkF m 4 #[.val (.ref a1)] [(.ref s1)])) (fun t k => st101 _ k) ?_
  refine Goes.leave (g := (mkF m 4 #[.val (.ref a1)] [(.ref s1)])) X101 Bd.notSynchronized (v := (some (.ref s1))) (fun h => by rw [Bd.returns] at h; cases h) (fun fs hr => by jvm_step X101.here [X101.here.top, hx, (hb hby d_jdk_78_method_6_code_4), X101.method', Bd.returns, Value.isRef, FieldType.isReference]; (first | (intro acts; rw [hr _ acts rfl rfl rfl]) | rw [hr _ _ rfl rfl rfl]); exact Steps.refl _) e101 ?_ (by decide) (by decide)
  exact ⟨rfl, N0, rfl⟩

theorem ef_mo2 (m : MethodId) (x0 : Addr) (x1 : Int32) (x2 : Addr) : entryFrame m #[(.ref x0), (.int x1), (.ref x2)] 3 = mkF m 0 #[.val (.ref x0), .val (.int x1), .val (.ref x2)] [] := by first | (simp [entryFrame, mkF, argsToLocals, Value.category]; done) | rfl
def Q_mo2 (Z : State) (a1 : Addr) (p1 : Int32) (a2 : Addr) (r1 : Addr) (s1 : Addr) (h0 : Heap) (n0 : Nat) (v : Option Value) (h : Heap) (L : List Loc) : Prop := v = none ∧ Fr n0 L ∧ Keep h0 h [a1] ∧ Fld Z h a1 "com/example/rerouted/rerouted/engine/MigrationOutcome" "instance" "I" (.int p1) ∧ Fld Z h a1 "com/example/rerouted/rerouted/engine/MigrationOutcome" "rule" "Lcom/example/rerouted/rerouted/engine/Rule;" (.ref r1)
set_option maxRecDepth 65536 in
set_option maxHeartbeats 40000000 in
theorem mo2 (l : Launch) (Z : State) (a0 : Array Value) (hw : ∀ d ∈ tables_1, d.before a0 Z = true) (ws : List Jvm.Cond) (a1 : Addr) (p1 : Int32) (a2 : Addr) (r1 : Addr) (s1 : Addr) (h0 : Heap) (n0 : Nat) (Z0 : n0 ≤ h0.size) (E1 : Exa Z h0 a1 "com/example/rerouted/rerouted/engine/MigrationOutcome") (Fi : Fld Z h0 a1 "com/example/rerouted/rerouted/engine/MigrationOutcome" "instance" "I" (.int (0 : Int32))) (Fu : Fld Z h0 a1 "com/example/rerouted/rerouted/engine/MigrationOutcome" "rule" "Lcom/example/rerouted/rerouted/engine/Rule;" .null) (Fs : Fld Z h0 a1 "com/example/rerouted/rerouted/engine/MigrationOutcome" "reason" "Ljava/lang/String;" .null) (G1 : n0 ≤ a1) (E2 : Exa Z h0 a2 "com/example/rerouted/rerouted/engine/RejectedException") (F2 : Fld Z h0 a2 "com/example/rerouted/rerouted/engine/RejectedException" "rule" "Lcom/example/rerouted/rerouted/engine/Rule;" (.ref r1)) (F3 : Fld Z h0 a2 "java/lang/Throwable" "detailMessage" "Ljava/lang/String;" (.ref s1)) (Es : Exa Z h0 s1 "java/lang/String") (Er : Exa Z h0 r1 "com/example/rerouted/rerouted/engine/Rule") :
    MetFree l mth16 (head1 (Jvm.Cond.code mth16 prog_29_method_2_code 3 none :: ws) rom9) (fun a U => a = #[(.ref a1), (.int p1), (.ref a2)] ∧ Z.Warmed39 U.vm ∧ U.heap = h0) (fun _ _ _ _ _ => True) (fun _ U o U' => ∃ v L, o = .returned v ∧ Q_mo2 Z a1 p1 a2 r1 s1 h0 n0 v U'.heap L ∧ ReturnedEndW U o U' L rom9.cells rom9.slots) := by
  refine MetFree.of_bodySF (plainFor_of_name pnm3) hisR ?_
  intro p e s m args below meth c s₁ Bd hml0 hP hK
  obtain ⟨rfl, hZ, hh⟩ := hP
  have hx := Bd.exec
  have hby := Bd.bytes
  have hml : c.maxLocals = 3 := hml0
  have hown : s.vm.findClass "com/example/rerouted/rerouted/engine/MigrationOutcome" = some m.cls := findClass_of_methodNamed Bd.named
  have hnm := (name_of_methodNamed Bd.named Bd.method).1
  have X0 : Stand p l e rom9 s m #[(.ref a1), (.int p1), (.ref a2)] below meth c s₁ [] 0 0 := Stand.of_body Bd
  replace X0 : Stand p l e rom9 (s.setVm s.vm) m #[(.ref a1), (.int p1), (.ref a2)] below meth c s₁ [] 0 0 := X0
  have hZ0 := hZ
  have hown0 := hown
  have hS0 := own_s0 s h0.size
  have eh0 : s₁.heap = h0 := by rw [← hh, Bd.state]; rfl
  have N0 := Fr.nil n0
  have tw20 := hw _ (List.mem_of_getElem? (i := 20) rfl)
  have tw21 := hw _ (List.mem_of_getElem? (i := 21) rfl)
  have tw39 := hw _ (List.mem_of_getElem? (i := 39) rfl)
  have tw44 := hw _ (List.mem_of_getElem? (i := 44) rfl)
  have tw45 := hw _ (List.mem_of_getElem? (i := 45) rfl)
  have tw46 := hw _ (List.mem_of_getElem? (i := 46) rfl)
  have tw47 := hw _ (List.mem_of_getElem? (i := 47) rfl)
  have tw48 := hw _ (List.mem_of_getElem? (i := 48) rfl)
  have tw49 := hw _ (List.mem_of_getElem? (i := 49) rfl)
  have tw50 := hw _ (List.mem_of_getElem? (i := 50) rfl)
  have tw53 := hw _ (List.mem_of_getElem? (i := 53) rfl)
  have tw72 := hw _ (List.mem_of_getElem? (i := 72) rfl)
  have tw115 := hw _ (List.mem_of_getElem? (i := 115) rfl)
  have tw116 := hw _ (List.mem_of_getElem? (i := 116) rfl)
  have tw117 := hw _ (List.mem_of_getElem? (i := 117) rfl)
  have tw125 := hw _ (List.mem_of_getElem? (i := 125) rfl)
  have tw126 := hw _ (List.mem_of_getElem? (i := 126) rfl)
  have tw127 := hw _ (List.mem_of_getElem? (i := 127) rfl)
  have tw128 := hw _ (List.mem_of_getElem? (i := 128) rfl)
  have tw129 := hw _ (List.mem_of_getElem? (i := 129) rfl)
  have tw130 := hw _ (List.mem_of_getElem? (i := 130) rfl)
  have tw131 := hw _ (List.mem_of_getElem? (i := 131) rfl)
  have tw132 := hw _ (List.mem_of_getElem? (i := 132) rfl)
  have tw133 := hw _ (List.mem_of_getElem? (i := 133) rfl)
  have tw134 := hw _ (List.mem_of_getElem? (i := 134) rfl)
  have tw135 := hw _ (List.mem_of_getElem? (i := 135) rfl)
  have tw136 := hw _ (List.mem_of_getElem? (i := 136) rfl)
  have tw137 := hw _ (List.mem_of_getElem? (i := 137) rfl)
  have tw138 := hw _ (List.mem_of_getElem? (i := 138) rfl)
  show Goes p e below (Pw (Q_mo2 Z a1 p1 a2 r1 s1 h0 n0) s rom9.cells rom9.slots) (s₁.setTop (entryFrame m #[(.ref a1), (.int p1), (.ref a2)] 3))
  refine Goes.step (S' := s₁.setTop (mkF m 0 #[.val (.ref a1), .val (.int p1), .val (.ref a2)] [])) (fun t k => castTop (ef_mo2 m a1 p1 a2) k) ?_
  refine Goes.step (S' := s₁.setTop (mkF m 1 #[.val (.ref a1), .val (.int p1), .val (.ref a2)] [(.ref a1)])) (fun t k => XS.aloadN X0.here hx rfl (hb hby d_prog_29_method_2_code_0) rfl rfl k) ?_
  obtain ⟨T101, X101, e101, st101⟩ := initO X0 hx hZ hown tw44 tw20 tw21 eh0 (g := (mkF m 1 #[.val (.ref a1), .val (.int p1), .val (.ref a2)] [(.ref a1)])) rfl (by rw [hml]; rfl) rfl (hb hby d_prog_29_method_2_code_1) (by decide) (W := 0) (Nat.le_of_eq rfl) (by decide)
  refine Goes.step (S' := T101.setTop (mkF m 6 #[.val (.ref a1), .val (.int p1), .val (.ref a2)] [(.int p1), (.ref a1)])) (fun t k => st101 _ (XS.aloadN X101.here hx rfl (hb hby d_prog_29_method_2_code_4) rfl rfl (XS.iloadN X101.here hx rfl (hb hby d_prog_29_method_2_code_5) rfl k))) ?_
  obtain ⟨T102, h102, X102, e102, W102, st102⟩ := putF X101 hx hZ hown (host := "") (Or.inl tw45) Via.refl e101 Fi E1 (Or.inr ⟨tw46, rfl, hnm⟩) tw39 (ty := .int) (by decide) rfl rfl (g := (mkF m 6 #[.val (.ref a1), .val (.int p1), .val (.ref a2)] [(.int p1), (.ref a1)])) rfl rfl (hb hby d_prog_29_method_2_code_6)
  have Fw102 : Fld Z h102 a1 "com/example/rerouted/rerouted/engine/MigrationOutcome" "instance" "I" (.int p1) := Fld.same W102 Fi
  have N102 := Fr.snoc X102 N0 G1
  refine Goes.step (S' := T102.setTop (mkF m 11 #[.val (.ref a1), .val (.int p1), .val (.ref a2)] [(.ref a2), (.ref a1)])) (fun t k => st102 _ (XS.aloadN X102.here hx rfl (hb hby d_prog_29_method_2_code_9) rfl rfl (XS.aloadN X102.here hx rfl (hb hby d_prog_29_method_2_code_10) rfl rfl k))) ?_
  obtain ⟨cq103, kq103, q103a, q103b, q103c⟩ := isOf hZ e102 (Exa.wr W102 E2)
  obtain ⟨_, _, ⟨T103, L103, k103, n103⟩, -, X103, ⟨Lc103, hQ103, l103, y103, z103⟩, st103⟩ := X102.virtualBack hx (y := mth13) (z := mth13) hown (mvT hZ tw125) (mvT hZ tw126) (notFace_of_selects (args := #[]) (mvT hZ tw128)) (mvT hZ tw128) (mvT hZ tw127) (by decide) (backOf (W := 1) (rrule l Z a0 hw [] a2 r1 h102 n0 (Nat.le_trans Z0 (Nat.le_of_eq W102.size.symm)) (Fld.other W102 F2 (Or.inl (Exa.ne E2 E1 (by decide))))) hZ tw129 tw53 (by decide) (by decide)) q103a q103c (g := (mkF m 11 #[.val (.ref a1), .val (.int p1), .val (.ref a2)] [(.ref a2), (.ref a1)])) rfl (by rw [hml]; rfl) (Steps.refl _) (argsL := []) (rest := [(.ref a1)]) (lenOf pd_Lcom_example_rerouted_rerouted_engine_Rule rfl) rfl (Nat.le_of_eq rfl) (hb hby d_prog_29_method_2_code_11) (fun _ _ => ⟨rfl, e102, (by decide : 0 + 0 ≤ _), (by decide : 0 + 0 ≤ _)⟩)
  dsimp only [Pt.U, Pt.locs, Pt.cells, Pt.slots] at X103 l103 y103 z103 st103 hQ103
  subst y103 z103
  obtain ⟨rfl, Nq103, q103_0⟩ := hQ103
  have N103 : Fr n0 L103 := by rw [l103]; exact Fr.app N102 Nq103
  refine Goes.step (S' := T103.setTop (mkF m 14 #[.val (.ref a1), .val (.int p1), .val (.ref a2)] [(.ref r1), (.ref a1)])) (fun t k => st103.trans k) ?_
  obtain ⟨T104, h104, X104, e104, W104, st104⟩ := putF X103 hx hZ hown (host := "") (Or.inl tw47) Via.refl q103_0 (Fld.other W102 Fu (Or.inr (slot_ne (Or.inr tw48) (Or.inr tw46) (by decide) (t := (.object "com/example/rerouted/rerouted/engine/Rule")) (t' := .int) (by decide) (by decide)))) (Exa.wr W102 E1) (Or.inr ⟨tw48, rfl, hnm⟩) tw39 (ty := (.object "com/example/rerouted/rerouted/engine/Rule")) (by decide) rfl rfl (g := (mkF m 14 #[.val (.ref a1), .val (.int p1), .val (.ref a2)] [(.ref r1), (.ref a1)])) rfl rfl (hb hby d_prog_29_method_2_code_14)
  have Fw104 : Fld Z h104 a1 "com/example/rerouted/rerouted/engine/MigrationOutcome" "rule" "Lcom/example/rerouted/rerouted/engine/Rule;" (.ref r1) := Fld.same W104 (Fld.other W102 Fu (Or.inr (slot_ne (Or.inr tw48) (Or.inr tw46) (by decide) (t := (.object "com/example/rerouted/rerouted/engine/Rule")) (t' := .int) (by decide) (by decide))))
  have N104 := Fr.snoc X104 N103 G1
  refine Goes.step (S' := T104.setTop (mkF m 19 #[.val (.ref a1), .val (.int p1), .val (.ref a2)] [(.ref a2), (.ref a1)])) (fun t k => st104 _ (XS.aloadN X104.here hx rfl (hb hby d_prog_29_method_2_code_17) rfl rfl (XS.aloadN X104.here hx rfl (hb hby d_prog_29_method_2_code_18) rfl rfl k))) ?_
  obtain ⟨cq105, kq105, q105a, q105b, q105c⟩ := isOf hZ e104 (Exa.wr W104 (Exa.wr W102 E2))
  obtain ⟨_, _, ⟨T105, L105, k105, n105⟩, -, X105, ⟨Lc105, hQ105, l105, y105, z105⟩, st105⟩ := X104.virtualBackUp hx (x := mth15) (y := mth14) hown (mvT hZ tw130) (mvT hZ tw131) (mvT hZ tw132) (by decide) (mvT hZ tw134) (mvT hZ tw133) (backOf (W := 1) (gmsg l Z a0 hw [] a2 s1 h104 n0 (Nat.le_trans Z0 (Nat.le_trans (Nat.le_of_eq W102.size.symm) (Nat.le_of_eq W104.size.symm))) (Fld.other W104 (Fld.other W102 F3 (Or.inl (Exa.ne E2 E1 (by decide)))) (Or.inl (Exa.ne (Exa.wr W102 E2) (Exa.wr W102 E1) (by decide))))) hZ tw135 tw72 (by decide) (by decide)) q105a q105c (g := (mkF m 19 #[.val (.ref a1), .val (.int p1), .val (.ref a2)] [(.ref a2), (.ref a1)])) rfl (by rw [hml]; rfl) (Steps.refl _) (argsL := []) (rest := [(.ref a1)]) (lenOf pd_Ljava_lang_String rfl) rfl (Nat.le_of_eq rfl) (hb hby d_prog_29_method_2_code_19) (fun _ _ => ⟨rfl, e104, (by decide : 0 + 0 ≤ _), (by decide : 0 + 0 ≤ _)⟩)
  dsimp only [Pt.U, Pt.locs, Pt.cells, Pt.slots] at X105 l105 y105 z105 st105 hQ105
  subst y105 z105
  obtain ⟨rfl, Nq105, q105_0⟩ := hQ105
  have N105 : Fr n0 L105 := by rw [l105]; exact Fr.app N104 Nq105
  refine Goes.step (S' := T105.setTop (mkF m 22 #[.val (.ref a1), .val (.int p1), .val (.ref a2)] [(.ref s1), (.ref a1)])) (fun t k => st105.trans k) ?_
  obtain ⟨b106, T106, h106, k106, X106, e106, E106, hS106, hk106, hZ, hown, st106⟩ := ldcS (s := s) X105 hx hZ hown tw136 (fun d hd => hw d (own_sin d hd)) q105_0 hS0 (Nat.le_trans (Nat.le_refl _) (Nat.le_trans (Nat.le_of_eq W102.size.symm) (Nat.le_of_eq W104.size.symm))) (g := (mkF m 22 #[.val (.ref a1), .val (.int p1), .val (.ref a2)] [(.ref s1), (.ref a1)])) rfl (hb hby d_prog_29_method_2_code_22) (n := 24) (by decide +kernel) (by decide) (by decide) (by decide)
  refine Goes.step (S' := T106.setTop (mkF m 24 #[.val (.ref a1), .val (.int p1), .val (.ref a2)] [(.ref b106), (.ref s1), (.ref a1)])) (fun t k => st106 _ k) ?_
  obtain ⟨_, _, ⟨T107, L107, k107, n107⟩, -, X107, ⟨Lc107, hQ107, l107, y107, z107⟩, st107⟩ := Jvm.LawKit.callS X106 hx (y := mth7) hown (mvT hZ tw137) (mvT hZ tw115) (mvT hZ tw116) (mvT hZ tw117) (by decide) (backOf (W := 1) (rnn l Z a0 hw [] s1 b106 h106 n0 (Nat.le_trans Z0 (Nat.le_trans (Nat.le_trans (Nat.le_of_eq W102.size.symm) (Nat.le_of_eq W104.size.symm)) E106.1)) ) hZ tw117 tw116 (by decide) (by decide)) (g := (mkF m 24 #[.val (.ref a1), .val (.int p1), .val (.ref a2)] [(.ref b106), (.ref s1), (.ref a1)])) rfl (by rw [hml]; rfl) (argsL := [(.ref s1), (.ref b106)]) (rest := [(.ref a1)]) (lenOf pd_Ljava_lang_Object_Ljava_lang_String__Ljava_lang_Object rfl) rfl (Nat.le_of_eq rfl) (hb hby d_prog_29_method_2_code_24) (fun _ _ => ⟨rfl, e106, (by decide : 2 + 0 ≤ _), (by decide : 28 + 0 ≤ _)⟩)
  dsimp only [Pt.U, Pt.locs, Pt.cells, Pt.slots] at X107 l107 y107 z107 st107 hQ107
  subst y107 z107
  obtain ⟨rfl, Nq107, q107_0⟩ := hQ107
  have N107 : Fr n0 L107 := by rw [l107]; exact Fr.app N105 Nq107
  refine Goes.step (S' := T107.setTop (mkF m 27 #[.val (.ref a1), .val (.int p1), .val (.ref a2)] [(.ref s1), (.ref a1)])) (fun t k => st107 _ k) ?_
  obtain ⟨T108, X108, e108, st108⟩ := castY X107 hx hZ hown tw138 q107_0 (Ins.self (Exa.ext E106 (Exa.wr W104 (Exa.wr W102 Es)))) (g := (mkF m 27 #[.val (.ref a1), .val (.int p1), .val (.ref a2)] [(.ref s1), (.ref a1)])) rfl rfl (hb hby d_prog_29_method_2_code_27)
  refine Goes.step (S' := T108.setTop (mkF m 30 #[.val (.ref a1), .val (.int p1), .val (.ref a2)] [(.ref s1), (.ref a1)])) (fun t k => st108 _ k) ?_
  obtain ⟨T109, h109, X109, e109, W109, st109⟩ := putF X108 hx hZ hown (host := "") (Or.inl tw49) Via.refl e108 (Fld.ext E106 (Fld.other W104 (Fld.other W102 Fs (Or.inr (slot_ne (Or.inr tw50) (Or.inr tw46) (by decide) (t := (.object "java/lang/String")) (t' := .int) (by decide) (by decide)))) (Or.inr (slot_ne (Or.inr tw50) (Or.inr tw48) (by decide) (t := (.object "java/lang/String")) (t' := (.object "com/example/rerouted/rerouted/engine/Rule")) (by decide) (by decide))))) (Exa.ext E106 (Exa.wr W104 (Exa.wr W102 E1))) (Or.inr ⟨tw50, rfl, hnm⟩) tw39 (ty := (.object "java/lang/String")) (by decide) rfl rfl (g := (mkF m 30 #[.val (.ref a1), .val (.int p1), .val (.ref a2)] [(.ref s1), (.ref a1)])) rfl rfl (hb hby d_prog_29_method_2_code_30)
  have Fw109 : Fld Z h109 a1 "com/example/rerouted/rerouted/engine/MigrationOutcome" "reason" "Ljava/lang/String;" (.ref s1) := Fld.same W109 (Fld.ext E106 (Fld.other W104 (Fld.other W102 Fs (Or.inr (slot_ne (Or.inr tw50) (Or.inr tw46) (by decide) (t := (.object "java/lang/String")) (t' := .int) (by decide) (by decide)))) (Or.inr (slot_ne (Or.inr tw50) (Or.inr tw48) (by decide) (t := (.object "java/lang/String")) (t' := (.object "com/example/rerouted/rerouted/engine/Rule")) (by decide) (by decide)))))
  have N109 := Fr.snoc X109 N107 G1
  refine Goes.step (S' := T109.setTop (mkF m 33 #[.val (.ref a1), .val (.int p1), .val (.ref a2)] [])) (fun t k => st109 _ k) ?_
  refine Goes.leaveW (g := (mkF m 33 #[.val (.ref a1), .val (.int p1), .val (.ref a2)] [])) X109 hS106 (Nat.le_trans hk106 (Nat.le_of_eq W109.size.symm)) Bd.notSynchronized (v := none) (fun _ => rfl) (fun fs hr => X109.returnOut hx Bd.returns (hb hby d_prog_29_method_2_code_33) hr) e109 ?_ (by decide) (by decide)
  exact ⟨rfl, N109, (((((Keep.refl _ [a1]).wr W102 (Or.inl (List.mem_of_getElem? (i := 0) rfl))).wr W104 (Or.inl (List.mem_of_getElem? (i := 0) rfl))).ext E106).wr W109 (Or.inl (List.mem_of_getElem? (i := 0) rfl))), (Fld.other W109 (Fld.ext E106 (Fld.other W104 Fw102 (Or.inr (slot_ne (Or.inr tw46) (Or.inr tw48) (by decide) (t := .int) (t' := (.object "com/example/rerouted/rerouted/engine/Rule")) (by decide) (by decide))))) (Or.inr (slot_ne (Or.inr tw46) (Or.inr tw50) (by decide) (t := .int) (t' := (.object "java/lang/String")) (by decide) (by decide)))), (Fld.other W109 (Fld.ext E106 Fw104) (Or.inr (slot_ne (Or.inr tw48) (Or.inr tw50) (by decide) (t := (.object "com/example/rerouted/rerouted/engine/Rule")) (t' := (.object "java/lang/String")) (by decide) (by decide))))⟩

theorem ef_ism_n (m : MethodId) (x0 : Addr) : entryFrame m #[(.ref x0)] 1 = mkF m 0 #[.val (.ref x0)] [] := by first | (simp [entryFrame, mkF, argsToLocals, Value.category]; done) | rfl
def Q_ism_n (Z : State) (a1 : Addr) (h0 : Heap) (n0 : Nat) (v : Option Value) (h : Heap) (L : List Loc) : Prop := v = some (.int (1 : Int32)) ∧ Fr n0 L ∧ h = h0
set_option maxRecDepth 65536 in
set_option maxHeartbeats 40000000 in
theorem ism_n (l : Launch) (Z : State) (a0 : Array Value) (hw : ∀ d ∈ tables_1, d.before a0 Z = true) (ws : List Jvm.Cond) (a1 : Addr) (h0 : Heap) (n0 : Nat) (Z0 : n0 ≤ h0.size) (Fu : Fld Z h0 a1 "com/example/rerouted/rerouted/engine/MigrationOutcome" "rule" "Lcom/example/rerouted/rerouted/engine/Rule;" .null) :
    MetFree l mth17 (head1 (Jvm.Cond.code mth17 prog_29_method_4_code 1 (some .boolean) :: ws) rom0) (fun a U => a = #[(.ref a1)] ∧ Z.Warmed39 U.vm ∧ U.heap = h0) (fun _ _ _ _ _ => True) (fun _ U o U' => ∃ v L, o = .returned v ∧ Q_ism_n Z a1 h0 n0 v U'.heap L ∧ FrameEnd U o U' L rom0.cells rom0.slots) := by
  refine MetFree.of_bodySF (plainFor_of_name pnm3) hisR ?_
  intro p e s m args below meth c s₁ Bd hml0 hP hK
  obtain ⟨rfl, hZ, hh⟩ := hP
  have hx := Bd.exec
  have hby := Bd.bytes
  have hml : c.maxLocals = 1 := hml0
  have hown : s.vm.findClass "com/example/rerouted/rerouted/engine/MigrationOutcome" = some m.cls := findClass_of_methodNamed Bd.named
  have hnm := (name_of_methodNamed Bd.named Bd.method).1
  have X0 : Stand p l e rom0 s m #[(.ref a1)] below meth c s₁ [] 0 0 := Stand.of_body Bd
  have eh0 : s₁.heap = h0 := by rw [← hh, Bd.state]; rfl
  have N0 := Fr.nil n0
  have tw47 := hw _ (List.mem_of_getElem? (i := 47) rfl)
  show Goes p e below (Pq (Q_ism_n Z a1 h0 n0) s rom0.cells rom0.slots) (s₁.setTop (entryFrame m #[(.ref a1)] 1))
  refine Goes.step (S' := s₁.setTop (mkF m 0 #[.val (.ref a1)] [])) (fun t k => castTop (ef_ism_n m a1) k) ?_
  refine Goes.step (S' := s₁.setTop (mkF m 1 #[.val (.ref a1)] [(.ref a1)])) (fun t k => XS.aloadN X0.here hx rfl (hb hby d_prog_29_method_4_code_0) rfl rfl k) ?_
  obtain ⟨T101, X101, e101, st101⟩ := getF X0 hx hZ hown (host := "") (Or.inl tw47) Via.refl eh0 Fu (g := (mkF m 1 #[.val (.ref a1)] [(.ref a1)])) rfl rfl (hb hby d_prog_29_method_4_code_1)
  refine Goes.step (S' := T101.setTop (mkF m 12 #[.val (.ref a1)] [(.int (1 : Int32))])) (fun t k => st101 _ (XS.ifnonnullNo X101.here hx rfl (hb hby d_prog_29_method_4_code_4) rfl (XS.iconst X101.here hx rfl (hb hby d_prog_29_method_4_code_7) (XS.goto X101.here hx rfl (pc0 := 8) (pc' := 12) rfl (hb hby d_prog_29_method_4_code_8) (by decide) (by decide) k)))) ?_
  refine Goes.leave (g := (mkF m 12 #[.val (.ref a1)] [(.int (1 : Int32))])) X101 Bd.notSynchronized (v := (some (.int (1 : Int32)))) (fun h => by rw [Bd.returns] at h; cases h) (fun fs hr => retN X101 hx (t := .boolean) Bd.returns (by simp) (hb hby d_prog_29_method_4_code_12) hr) e101 ?_ (by decide) (by decide)
  exact ⟨rfl, N0, rfl⟩

theorem ef_mru_n (m : MethodId) (x0 : Addr) : entryFrame m #[(.ref x0)] 1 = mkF m 0 #[.val (.ref x0)] [] := by first | (simp [entryFrame, mkF, argsToLocals, Value.category]; done) | rfl
def Q_mru_n (Z : State) (a1 : Addr) (h0 : Heap) (n0 : Nat) (v : Option Value) (h : Heap) (L : List Loc) : Prop := v = some .null ∧ Fr n0 L ∧ h = h0
set_option maxRecDepth 65536 in
set_option maxHeartbeats 40000000 in
theorem mru_n (l : Launch) (Z : State) (a0 : Array Value) (hw : ∀ d ∈ tables_1, d.before a0 Z = true) (ws : List Jvm.Cond) (a1 : Addr) (h0 : Heap) (n0 : Nat) (Z0 : n0 ≤ h0.size) (Fu : Fld Z h0 a1 "com/example/rerouted/rerouted/engine/MigrationOutcome" "rule" "Lcom/example/rerouted/rerouted/engine/Rule;" .null) :
    MetFree l mth18 (head1 (Jvm.Cond.code mth18 prog_29_method_5_code 1 (some (.object "com/example/rerouted/rerouted/engine/Rule")) :: ws) rom0) (fun a U => a = #[(.ref a1)] ∧ Z.Warmed39 U.vm ∧ U.heap = h0) (fun _ _ _ _ _ => True) (fun _ U o U' => ∃ v L, o = .returned v ∧ Q_mru_n Z a1 h0 n0 v U'.heap L ∧ FrameEnd U o U' L rom0.cells rom0.slots) := by
  refine MetFree.of_bodySF (plainFor_of_name pnm3) hisR ?_
  intro p e s m args below meth c s₁ Bd hml0 hP hK
  obtain ⟨rfl, hZ, hh⟩ := hP
  have hx := Bd.exec
  have hby := Bd.bytes
  have hml : c.maxLocals = 1 := hml0
  have hown : s.vm.findClass "com/example/rerouted/rerouted/engine/MigrationOutcome" = some m.cls := findClass_of_methodNamed Bd.named
  have hnm := (name_of_methodNamed Bd.named Bd.method).1
  have X0 : Stand p l e rom0 s m #[(.ref a1)] below meth c s₁ [] 0 0 := Stand.of_body Bd
  have eh0 : s₁.heap = h0 := by rw [← hh, Bd.state]; rfl
  have N0 := Fr.nil n0
  have tw47 := hw _ (List.mem_of_getElem? (i := 47) rfl)
  show Goes p e below (Pq (Q_mru_n Z a1 h0 n0) s rom0.cells rom0.slots) (s₁.setTop (entryFrame m #[(.ref a1)] 1))
  refine Goes.step (S' := s₁.setTop (mkF m 0 #[.val (.ref a1)] [])) (fun t k => castTop (ef_mru_n m a1) k) ?_
  refine Goes.step (S' := s₁.setTop (mkF m 1 #[.val (.ref a1)] [(.ref a1)])) (fun t k => XS.aloadN X0.here hx rfl (hb hby d_prog_29_method_5_code_0) rfl rfl k) ?_
  obtain ⟨T101, X101, e101, st101⟩ := getF X0 hx hZ hown (host := "") (Or.inl tw47) Via.refl eh0 Fu (g := (mkF m 1 #[.val (.ref a1)] [(.ref a1)])) rfl rfl (hb hby d_prog_29_method_5_code_1)
  refine Goes.step (S' := T101.setTop (mkF m 4 #[.val (.ref a1)] [.null])) (fun t k => st101 _ k) ?_
  refine Goes.leave (g := (mkF m 4 #[.val (.ref a1)] [.null])) X101 Bd.notSynchronized (v := (some .null)) (fun h => by rw [Bd.returns] at h; cases h) (fun fs hr => by jvm_step X101.here [X101.here.top, hx, (hb hby d_prog_29_method_5_code_4), X101.method', Bd.returns, Value.isRef, FieldType.isReference]; (first | (intro acts; rw [hr _ acts rfl rfl rfl]) | rw [hr _ _ rfl rfl rfl]); exact Steps.refl _) e101 ?_ (by decide) (by decide)
  exact ⟨rfl, N0, rfl⟩

theorem ef_ism_r (m : MethodId) (x0 : Addr) : entryFrame m #[(.ref x0)] 1 = mkF m 0 #[.val (.ref x0)] [] := by first | (simp [entryFrame, mkF, argsToLocals, Value.category]; done) | rfl
def Q_ism_r (Z : State) (a1 : Addr) (r1 : Addr) (h0 : Heap) (n0 : Nat) (v : Option Value) (h : Heap) (L : List Loc) : Prop := v = some (.int (0 : Int32)) ∧ Fr n0 L ∧ h = h0
set_option maxRecDepth 65536 in
set_option maxHeartbeats 40000000 in
theorem ism_r (l : Launch) (Z : State) (a0 : Array Value) (hw : ∀ d ∈ tables_1, d.before a0 Z = true) (ws : List Jvm.Cond) (a1 : Addr) (r1 : Addr) (h0 : Heap) (n0 : Nat) (Z0 : n0 ≤ h0.size) (Fu : Fld Z h0 a1 "com/example/rerouted/rerouted/engine/MigrationOutcome" "rule" "Lcom/example/rerouted/rerouted/engine/Rule;" (.ref r1)) :
    MetFree l mth17 (head1 (Jvm.Cond.code mth17 prog_29_method_4_code 1 (some .boolean) :: ws) rom0) (fun a U => a = #[(.ref a1)] ∧ Z.Warmed39 U.vm ∧ U.heap = h0) (fun _ _ _ _ _ => True) (fun _ U o U' => ∃ v L, o = .returned v ∧ Q_ism_r Z a1 r1 h0 n0 v U'.heap L ∧ FrameEnd U o U' L rom0.cells rom0.slots) := by
  refine MetFree.of_bodySF (plainFor_of_name pnm3) hisR ?_
  intro p e s m args below meth c s₁ Bd hml0 hP hK
  obtain ⟨rfl, hZ, hh⟩ := hP
  have hx := Bd.exec
  have hby := Bd.bytes
  have hml : c.maxLocals = 1 := hml0
  have hown : s.vm.findClass "com/example/rerouted/rerouted/engine/MigrationOutcome" = some m.cls := findClass_of_methodNamed Bd.named
  have hnm := (name_of_methodNamed Bd.named Bd.method).1
  have X0 : Stand p l e rom0 s m #[(.ref a1)] below meth c s₁ [] 0 0 := Stand.of_body Bd
  have eh0 : s₁.heap = h0 := by rw [← hh, Bd.state]; rfl
  have N0 := Fr.nil n0
  have tw47 := hw _ (List.mem_of_getElem? (i := 47) rfl)
  show Goes p e below (Pq (Q_ism_r Z a1 r1 h0 n0) s rom0.cells rom0.slots) (s₁.setTop (entryFrame m #[(.ref a1)] 1))
  refine Goes.step (S' := s₁.setTop (mkF m 0 #[.val (.ref a1)] [])) (fun t k => castTop (ef_ism_r m a1) k) ?_
  refine Goes.step (S' := s₁.setTop (mkF m 1 #[.val (.ref a1)] [(.ref a1)])) (fun t k => XS.aloadN X0.here hx rfl (hb hby d_prog_29_method_4_code_0) rfl rfl k) ?_
  obtain ⟨T101, X101, e101, st101⟩ := getF X0 hx hZ hown (host := "") (Or.inl tw47) Via.refl eh0 Fu (g := (mkF m 1 #[.val (.ref a1)] [(.ref a1)])) rfl rfl (hb hby d_prog_29_method_4_code_1)
  refine Goes.step (S' := T101.setTop (mkF m 12 #[.val (.ref a1)] [(.int (0 : Int32))])) (fun t k => st101 _ (XS.ifnonnullYes X101.here hx rfl (pc0 := 4) (pc' := 11) rfl (hb hby d_prog_29_method_4_code_4) rfl (by decide) (by decide) (XS.iconst X101.here hx rfl (hb hby d_prog_29_method_4_code_11) k))) ?_
  refine Goes.leave (g := (mkF m 12 #[.val (.ref a1)] [(.int (0 : Int32))])) X101 Bd.notSynchronized (v := (some (.int (0 : Int32)))) (fun h => by rw [Bd.returns] at h; cases h) (fun fs hr => retN X101 hx (t := .boolean) Bd.returns (by simp) (hb hby d_prog_29_method_4_code_12) hr) e101 ?_ (by decide) (by decide)
  exact ⟨rfl, N0, rfl⟩

theorem ef_mru_r (m : MethodId) (x0 : Addr) : entryFrame m #[(.ref x0)] 1 = mkF m 0 #[.val (.ref x0)] [] := by first | (simp [entryFrame, mkF, argsToLocals, Value.category]; done) | rfl
def Q_mru_r (Z : State) (a1 : Addr) (r1 : Addr) (h0 : Heap) (n0 : Nat) (v : Option Value) (h : Heap) (L : List Loc) : Prop := v = some (.ref r1) ∧ Fr n0 L ∧ h = h0
set_option maxRecDepth 65536 in
set_option maxHeartbeats 40000000 in
theorem mru_r (l : Launch) (Z : State) (a0 : Array Value) (hw : ∀ d ∈ tables_1, d.before a0 Z = true) (ws : List Jvm.Cond) (a1 : Addr) (r1 : Addr) (h0 : Heap) (n0 : Nat) (Z0 : n0 ≤ h0.size) (Fu : Fld Z h0 a1 "com/example/rerouted/rerouted/engine/MigrationOutcome" "rule" "Lcom/example/rerouted/rerouted/engine/Rule;" (.ref r1)) :
    MetFree l mth18 (head1 (Jvm.Cond.code mth18 prog_29_method_5_code 1 (some (.object "com/example/rerouted/rerouted/engine/Rule")) :: ws) rom0) (fun a U => a = #[(.ref a1)] ∧ Z.Warmed39 U.vm ∧ U.heap = h0) (fun _ _ _ _ _ => True) (fun _ U o U' => ∃ v L, o = .returned v ∧ Q_mru_r Z a1 r1 h0 n0 v U'.heap L ∧ FrameEnd U o U' L rom0.cells rom0.slots) := by
  refine MetFree.of_bodySF (plainFor_of_name pnm3) hisR ?_
  intro p e s m args below meth c s₁ Bd hml0 hP hK
  obtain ⟨rfl, hZ, hh⟩ := hP
  have hx := Bd.exec
  have hby := Bd.bytes
  have hml : c.maxLocals = 1 := hml0
  have hown : s.vm.findClass "com/example/rerouted/rerouted/engine/MigrationOutcome" = some m.cls := findClass_of_methodNamed Bd.named
  have hnm := (name_of_methodNamed Bd.named Bd.method).1
  have X0 : Stand p l e rom0 s m #[(.ref a1)] below meth c s₁ [] 0 0 := Stand.of_body Bd
  have eh0 : s₁.heap = h0 := by rw [← hh, Bd.state]; rfl
  have N0 := Fr.nil n0
  have tw47 := hw _ (List.mem_of_getElem? (i := 47) rfl)
  show Goes p e below (Pq (Q_mru_r Z a1 r1 h0 n0) s rom0.cells rom0.slots) (s₁.setTop (entryFrame m #[(.ref a1)] 1))
  refine Goes.step (S' := s₁.setTop (mkF m 0 #[.val (.ref a1)] [])) (fun t k => castTop (ef_mru_r m a1) k) ?_
  refine Goes.step (S' := s₁.setTop (mkF m 1 #[.val (.ref a1)] [(.ref a1)])) (fun t k => XS.aloadN X0.here hx rfl (hb hby d_prog_29_method_5_code_0) rfl rfl k) ?_
  obtain ⟨T101, X101, e101, st101⟩ := getF X0 hx hZ hown (host := "") (Or.inl tw47) Via.refl eh0 Fu (g := (mkF m 1 #[.val (.ref a1)] [(.ref a1)])) rfl rfl (hb hby d_prog_29_method_5_code_1)
  refine Goes.step (S' := T101.setTop (mkF m 4 #[.val (.ref a1)] [(.ref r1)])) (fun t k => st101 _ k) ?_
  refine Goes.leave (g := (mkF m 4 #[.val (.ref a1)] [(.ref r1)])) X101 Bd.notSynchronized (v := (some (.ref r1))) (fun h => by rw [Bd.returns] at h; cases h) (fun fs hr => by jvm_step X101.here [X101.here.top, hx, (hb hby d_prog_29_method_5_code_4), X101.method', Bd.returns, Value.isRef, FieldType.isReference]; (first | (intro acts; rw [hr _ acts rfl rfl rfl]) | rw [hr _ _ rfl rfl rfl]); exact Steps.refl _) e101 ?_ (by decide) (by decide)
  exact ⟨rfl, N0, rfl⟩

theorem ef_mins (m : MethodId) (x0 : Addr) : entryFrame m #[(.ref x0)] 1 = mkF m 0 #[.val (.ref x0)] [] := by first | (simp [entryFrame, mkF, argsToLocals, Value.category]; done) | rfl
def Q_mins (Z : State) (a1 : Addr) (p1 : Int32) (h0 : Heap) (n0 : Nat) (v : Option Value) (h : Heap) (L : List Loc) : Prop := v = some (.int p1) ∧ Fr n0 L ∧ h = h0
set_option maxRecDepth 65536 in
set_option maxHeartbeats 40000000 in
theorem mins (l : Launch) (Z : State) (a0 : Array Value) (hw : ∀ d ∈ tables_1, d.before a0 Z = true) (ws : List Jvm.Cond) (a1 : Addr) (p1 : Int32) (h0 : Heap) (n0 : Nat) (Z0 : n0 ≤ h0.size) (Fi : Fld Z h0 a1 "com/example/rerouted/rerouted/engine/MigrationOutcome" "instance" "I" (.int p1)) :
    MetFree l mth19 (head1 (Jvm.Cond.code mth19 prog_29_method_3_code 1 (some .int) :: ws) rom0) (fun a U => a = #[(.ref a1)] ∧ Z.Warmed39 U.vm ∧ U.heap = h0) (fun _ _ _ _ _ => True) (fun _ U o U' => ∃ v L, o = .returned v ∧ Q_mins Z a1 p1 h0 n0 v U'.heap L ∧ FrameEnd U o U' L rom0.cells rom0.slots) := by
  refine MetFree.of_bodySF (plainFor_of_name pnm3) hisR ?_
  intro p e s m args below meth c s₁ Bd hml0 hP hK
  obtain ⟨rfl, hZ, hh⟩ := hP
  have hx := Bd.exec
  have hby := Bd.bytes
  have hml : c.maxLocals = 1 := hml0
  have hown : s.vm.findClass "com/example/rerouted/rerouted/engine/MigrationOutcome" = some m.cls := findClass_of_methodNamed Bd.named
  have hnm := (name_of_methodNamed Bd.named Bd.method).1
  have X0 : Stand p l e rom0 s m #[(.ref a1)] below meth c s₁ [] 0 0 := Stand.of_body Bd
  have eh0 : s₁.heap = h0 := by rw [← hh, Bd.state]; rfl
  have N0 := Fr.nil n0
  have tw45 := hw _ (List.mem_of_getElem? (i := 45) rfl)
  show Goes p e below (Pq (Q_mins Z a1 p1 h0 n0) s rom0.cells rom0.slots) (s₁.setTop (entryFrame m #[(.ref a1)] 1))
  refine Goes.step (S' := s₁.setTop (mkF m 0 #[.val (.ref a1)] [])) (fun t k => castTop (ef_mins m a1) k) ?_
  refine Goes.step (S' := s₁.setTop (mkF m 1 #[.val (.ref a1)] [(.ref a1)])) (fun t k => XS.aloadN X0.here hx rfl (hb hby d_prog_29_method_3_code_0) rfl rfl k) ?_
  obtain ⟨T101, X101, e101, st101⟩ := getF X0 hx hZ hown (host := "") (Or.inl tw45) Via.refl eh0 Fi (g := (mkF m 1 #[.val (.ref a1)] [(.ref a1)])) rfl rfl (hb hby d_prog_29_method_3_code_1)
  refine Goes.step (S' := T101.setTop (mkF m 4 #[.val (.ref a1)] [(.int p1)])) (fun t k => st101 _ k) ?_
  refine Goes.leave (g := (mkF m 4 #[.val (.ref a1)] [(.int p1)])) X101 Bd.notSynchronized (v := (some (.int p1))) (fun h => by rw [Bd.returns] at h; cases h) (fun fs hr => retI X101 hx Bd.returns (hb hby d_prog_29_method_3_code_4) hr) e101 ?_ (by decide) (by decide)
  exact ⟨rfl, N0, rfl⟩

theorem ef_law (m : MethodId) (x0 : Int32) (x1 : Int32) (x2 : Int32) (x3 : Int32) : entryFrame m #[(.int x0), (.int x1), (.int x2), (.int x3)] maxLocals = mkF m 0 #[.val (.int x0), .val (.int x1), .val (.int x2), .val (.int x3), .unset, .unset, .unset, .unset, .unset, .unset, .unset, .unset, .unset, .unset, .unset, .unset] [] := by first | (simp [entryFrame, mkF, argsToLocals, Value.category, maxLocals]; done) | rfl
def Q_law (Z : State) (p0 : Int32) (p1 : Int32) (p2 : Int32) (p3 : Int32) (w_DATA : Addr) (w_CHANGED : Addr) (w_STATE : Addr) (w_ORDER : Addr) (w_STRUCTURE : Addr) (cs : Int32) (us : Addr) (ss : Addr) (h0 : Heap) (n0 : Nat) (v : Option Value) (h : Heap) (L : List Loc) : Prop := v = some (.int (1 : Int32)) ∧ Fr n0 L
set_option maxRecDepth 65536 in
set_option maxHeartbeats 40000000 in
theorem law (l : Launch) (Z : State) (a0 : Array Value) (hw : ∀ d ∈ tables_1, d.before a0 Z = true) (ws : List Jvm.Cond) (p0 : Int32) (p1 : Int32) (p2 : Int32) (p3 : Int32) (w_DATA : Addr) (w_CHANGED : Addr) (w_STATE : Addr) (w_ORDER : Addr) (w_STRUCTURE : Addr) (cs : Int32) (us : Addr) (ss : Addr) (h0 : Heap) (n0 : Nat) (Z0 : n0 ≤ h0.size) (S_DATA : Sta Z h0 "com/example/rerouted/rerouted/engine/Rule" "DATA" "Lcom/example/rerouted/rerouted/engine/Rule;" (.ref w_DATA)) (S_CHANGED : Sta Z h0 "com/example/rerouted/rerouted/engine/Rule" "CHANGED" "Lcom/example/rerouted/rerouted/engine/Rule;" (.ref w_CHANGED)) (S_STATE : Sta Z h0 "com/example/rerouted/rerouted/engine/Rule" "STATE" "Lcom/example/rerouted/rerouted/engine/Rule;" (.ref w_STATE)) (S_ORDER : Sta Z h0 "com/example/rerouted/rerouted/engine/Rule" "ORDER" "Lcom/example/rerouted/rerouted/engine/Rule;" (.ref w_ORDER)) (S_STRUCTURE : Sta Z h0 "com/example/rerouted/rerouted/engine/Rule" "STRUCTURE" "Lcom/example/rerouted/rerouted/engine/Rule;" (.ref w_STRUCTURE)) (E_DATA : Exa Z h0 w_DATA "com/example/rerouted/rerouted/engine/Rule") (E_CHANGED : Exa Z h0 w_CHANGED "com/example/rerouted/rerouted/engine/Rule") (E_STATE : Exa Z h0 w_STATE "com/example/rerouted/rerouted/engine/Rule") (E_ORDER : Exa Z h0 w_ORDER "com/example/rerouted/rerouted/engine/Rule") (E_STRUCTURE : Exa Z h0 w_STRUCTURE "com/example/rerouted/rerouted/engine/Rule") (SC : Sta Z h0 "java/lang/String" "COMPACT_STRINGS" "Z" (.int cs)) (PC : ¬ (cs = (0 : Int32))) (HL : l.stackTraces = true) (TH : ThS Z h0) (SU : Sta Z h0 "java/lang/Throwable" "UNASSIGNED_STACK" "[Ljava/lang/StackTraceElement;" (.ref us)) (SP : Sta Z h0 "java/lang/Throwable" "SUPPRESSED_SENTINEL" "Ljava/util/List;" (.ref ss)) :
    MetFree l x (head1 (Jvm.Cond.code x code maxLocals ret :: ws) room_1) (fun a U => a = #[(.int p0), (.int p1), (.int p2), (.int p3)] ∧ Z.Warmed39 U.vm ∧ U.heap = h0) (fun _ _ _ s _ => framesKnown s = true ∧ tablesKnown s = true) (fun _ U o U' => ∃ v L, o = .returned v ∧ Q_law Z p0 p1 p2 p3 w_DATA w_CHANGED w_STATE w_ORDER w_STRUCTURE cs us ss h0 n0 v U'.heap L ∧ ReturnedEndW U o U' L room_1.cells room_1.slots) := by
  refine MetFree.of_bodySF (plainFor_of_name pnm0) hisR ?_
  intro p e s m args below meth c s₁ Bd hml0 hP hK
  obtain ⟨rfl, hZ, hh⟩ := hP
  have hx := Bd.exec
  have hby := Bd.bytes
  have hml : c.maxLocals = 16 := hml0
  have hown : s.vm.findClass "com/example/rerouted/rerouted/engine/MigrationOutcomeIsMigratedPinLaw" = some m.cls := findClass_of_methodNamed Bd.named
  have hnm := (name_of_methodNamed Bd.named Bd.method).1
  have X0 : Stand p l e room_1 s m #[(.int p0), (.int p1), (.int p2), (.int p3)] below meth c s₁ [] 0 0 := Stand.of_body Bd
  obtain ⟨hTK, hBl⟩ := X0.known hK.2 hK.1
  replace X0 : Stand p l e room_1 (s.setVm s.vm) m #[(.int p0), (.int p1), (.int p2), (.int p3)] below meth c s₁ [] 0 0 := X0
  have hZ0 := hZ
  have hown0 := hown
  have hS0 := own_s0 s h0.size
  have hTK0 := hTK
  have hBl0 := hBl
  have eh0 : s₁.heap = h0 := by rw [← hh, Bd.state]; rfl
  have N0 := Fr.nil n0
  have tw0 := hw _ (List.mem_of_getElem? (i := 0) rfl)
  have tw1 := hw _ (List.mem_of_getElem? (i := 1) rfl)
  have tw2 := hw _ (List.mem_of_getElem? (i := 2) rfl)
  have tw3 := hw _ (List.mem_of_getElem? (i := 3) rfl)
  have tw8 := hw _ (List.mem_of_getElem? (i := 8) rfl)
  have tw9 := hw _ (List.mem_of_getElem? (i := 9) rfl)
  have tw10 := hw _ (List.mem_of_getElem? (i := 10) rfl)
  have tw11 := hw _ (List.mem_of_getElem? (i := 11) rfl)
  have tw12 := hw _ (List.mem_of_getElem? (i := 12) rfl)
  have tw13 := hw _ (List.mem_of_getElem? (i := 13) rfl)
  have tw14 := hw _ (List.mem_of_getElem? (i := 14) rfl)
  have tw35 := hw _ (List.mem_of_getElem? (i := 35) rfl)
  have tw37 := hw _ (List.mem_of_getElem? (i := 37) rfl)
  have tw38 := hw _ (List.mem_of_getElem? (i := 38) rfl)
  have tw39 := hw _ (List.mem_of_getElem? (i := 39) rfl)
  have tw40 := hw _ (List.mem_of_getElem? (i := 40) rfl)
  have tw41 := hw _ (List.mem_of_getElem? (i := 41) rfl)
  have tw42 := hw _ (List.mem_of_getElem? (i := 42) rfl)
  have tw43 := hw _ (List.mem_of_getElem? (i := 43) rfl)
  have tw46 := hw _ (List.mem_of_getElem? (i := 46) rfl)
  have tw48 := hw _ (List.mem_of_getElem? (i := 48) rfl)
  have tw50 := hw _ (List.mem_of_getElem? (i := 50) rfl)
  have tw51 := hw _ (List.mem_of_getElem? (i := 51) rfl)
  have tw52 := hw _ (List.mem_of_getElem? (i := 52) rfl)
  have tw53 := hw _ (List.mem_of_getElem? (i := 53) rfl)
  have tw54 := hw _ (List.mem_of_getElem? (i := 54) rfl)
  have tw55 := hw _ (List.mem_of_getElem? (i := 55) rfl)
  have tw56 := hw _ (List.mem_of_getElem? (i := 56) rfl)
  have tw76 := hw _ (List.mem_of_getElem? (i := 76) rfl)
  have tw79 := hw _ (List.mem_of_getElem? (i := 79) rfl)
  have tw82 := hw _ (List.mem_of_getElem? (i := 82) rfl)
  have tw106 := hw _ (List.mem_of_getElem? (i := 106) rfl)
  have tw107 := hw _ (List.mem_of_getElem? (i := 107) rfl)
  have tw108 := hw _ (List.mem_of_getElem? (i := 108) rfl)
  have tw121 := hw _ (List.mem_of_getElem? (i := 121) rfl)
  have tw122 := hw _ (List.mem_of_getElem? (i := 122) rfl)
  have tw123 := hw _ (List.mem_of_getElem? (i := 123) rfl)
  have tw124 := hw _ (List.mem_of_getElem? (i := 124) rfl)
  have tw139 := hw _ (List.mem_of_getElem? (i := 139) rfl)
  have tw140 := hw _ (List.mem_of_getElem? (i := 140) rfl)
  have tw141 := hw _ (List.mem_of_getElem? (i := 141) rfl)
  have tw142 := hw _ (List.mem_of_getElem? (i := 142) rfl)
  have tw143 := hw _ (List.mem_of_getElem? (i := 143) rfl)
  have tw144 := hw _ (List.mem_of_getElem? (i := 144) rfl)
  have tw145 := hw _ (List.mem_of_getElem? (i := 145) rfl)
  have tw146 := hw _ (List.mem_of_getElem? (i := 146) rfl)
  have tw147 := hw _ (List.mem_of_getElem? (i := 147) rfl)
  have tw148 := hw _ (List.mem_of_getElem? (i := 148) rfl)
  have tw149 := hw _ (List.mem_of_getElem? (i := 149) rfl)
  have tw150 := hw _ (List.mem_of_getElem? (i := 150) rfl)
  have tw151 := hw _ (List.mem_of_getElem? (i := 151) rfl)
  have tw152 := hw _ (List.mem_of_getElem? (i := 152) rfl)
  have tw153 := hw _ (List.mem_of_getElem? (i := 153) rfl)
  show Goes p e below (Pw (Q_law Z p0 p1 p2 p3 w_DATA w_CHANGED w_STATE w_ORDER w_STRUCTURE cs us ss h0 n0) s room_1.cells room_1.slots) (s₁.setTop (entryFrame m #[(.int p0), (.int p1), (.int p2), (.int p3)] maxLocals))
  refine Goes.step (S' := s₁.setTop (mkF m 0 #[.val (.int p0), .val (.int p1), .val (.int p2), .val (.int p3), .unset, .unset, .unset, .unset, .unset, .unset, .unset, .unset, .unset, .unset, .unset, .unset] [])) (fun t k => castTop (ef_law m p0 p1 p2 p3) k) ?_
  refine Goes.step (S' := s₁.setTop (mkF m 1 #[.val (.int p0), .val (.int p1), .val (.int p2), .val (.int p3), .unset, .unset, .unset, .unset, .unset, .unset, .unset, .unset, .unset, .unset, .unset, .unset] [(.int p1)])) (fun t k => XS.iloadN X0.here hx rfl (hb hby at_0) rfl k) ?_
  obtain ⟨_, _, ⟨T101, L101, k101, n101⟩, -, X101, ⟨Lc101, hQ101, l101, y101, z101⟩, st101⟩ := Jvm.LawKit.callS X0 hx (y := mth0) hown (mvT hZ tw0) (mvT hZ tw1) (mvT hZ tw2) (mvT hZ tw3) (by decide) (backOf (W := 0) (pick l Z a0 hw [] p1 w_DATA w_CHANGED w_STATE w_ORDER w_STRUCTURE h0 n0 Z0 S_DATA S_CHANGED S_STATE S_ORDER S_STRUCTURE E_DATA E_CHANGED E_STATE E_ORDER E_STRUCTURE) hZ tw3 tw2 (by decide) (by decide)) (g := (mkF m 1 #[.val (.int p0), .val (.int p1), .val (.int p2), .val (.int p3), .unset, .unset, .unset, .unset, .unset, .unset, .unset, .unset, .unset, .unset, .unset, .unset] [(.int p1)])) rfl (by rw [hml]; rfl) (argsL := [(.int p1)]) (rest := []) (lenOf pd_I_Lcom_example_rerouted_rerouted_engine_Rule rfl) rfl (Nat.le_of_eq rfl) (hb hby at_1) (fun _ _ => ⟨rfl, eh0, (by decide : 0 + 0 ≤ _), (by decide : 0 + 0 ≤ _)⟩)
  dsimp only [Pt.U, Pt.locs, Pt.cells, Pt.slots] at X101 l101 y101 z101 st101 hQ101
  subst y101 z101
  obtain ⟨b_101, rfl, Nq101, q101_0, q101_1⟩ := hQ101
  have N101 : Fr n0 L101 := by rw [l101]; exact Fr.app N0 Nq101
  rw [q101_0] at q101_1
  refine Goes.step (S' := T101.setTop (mkF m 7 #[.val (.int p0), .val (.int p1), .val (.int p2), .val (.int p3), .val (.ref b_101), .unset, .unset, .unset, .unset, .unset, .unset, .unset, .unset, .unset, .unset, .unset] [(.int (2 : Int32))])) (fun t k => st101 _ (XS.astore X101.here hx rfl (hb hby at_4) rfl rfl (l' := #[.val (.int p0), .val (.int p1), .val (.int p2), .val (.int p3), .val (.ref b_101), .unset, .unset, .unset, .unset, .unset, .unset, .unset, .unset, .unset, .unset, .unset]) rfl (XS.iconst X101.here hx rfl (hb hby at_6) k))) ?_
  obtain ⟨T102, h102, k102, X102, e102, E102, A102, AE102, st102⟩ := newPE (aty := .char) X101 hx hZ tw8 q101_0 (g := (mkF m 7 #[.val (.int p0), .val (.int p1), .val (.int p2), .val (.int p3), .val (.ref b_101), .unset, .unset, .unset, .unset, .unset, .unset, .unset, .unset, .unset, .unset, .unset] [(.int (2 : Int32))])) rfl (hb hby at_7) rfl (by decide) (cap := 2) (by decide) (by decide) (by decide) (by decide) (ad := "[C") rfl
  obtain ⟨b102, g102⟩ : ∃ z, z = h0.size := ⟨_, rfl⟩
  rw [← g102] at A102 AE102 st102
  have V102 : Arv Z h102 b102 k102 .char (2 : Int32) [(.int (0 : Int32)), (.int (0 : Int32))] (.int (0 : Int32)) := (Arv.new A102 (by decide)).pad (pad_rep [] (.int (0 : Int32)) 2)
  refine Goes.step (S' := T102.setTop (mkF m 20 #[.val (.int p0), .val (.int p1), .val (.int p2), .val (.int p3), .val (.ref b_101), .val (.ref b102), .unset, .unset, .unset, .unset, .unset, .unset, .unset, .unset, .unset, .unset] [(.int ((p2 &&& (255 : Int32)).toUInt32.toUInt16.toUInt32.toInt32)), (.int (0 : Int32)), (.ref b102)])) (fun t k => st102 _ (XS.astore X102.here hx rfl (hb hby at_9) rfl rfl (l' := #[.val (.int p0), .val (.int p1), .val (.int p2), .val (.int p3), .val (.ref b_101), .val (.ref b102), .unset, .unset, .unset, .unset, .unset, .unset, .unset, .unset, .unset, .unset]) rfl (XS.aload X102.here hx rfl (hb hby at_11) rfl rfl (XS.iconst X102.here hx rfl (hb hby at_13) (XS.iloadN X102.here hx rfl (hb hby at_14) rfl (XS.sipush X102.here hx rfl (hb hby at_15) (XS.iand X102.here hx rfl (hb hby at_18) rfl (XS.i2c X102.here hx rfl (hb hby at_19) rfl k)))))))) ?_
  obtain ⟨cl103, Ar103, qk103, Sz103, Nn103, Hs103, Gs103⟩ := id V102
  obtain ⟨T103, h103, X103, e103, W103, st103⟩ := stC X102 hx hZ e102 Ar103 (j := (0 : Int32)) (inb_of (j := (0 : Int32)) Sz103 ⟨by decide, by decide⟩) (g := (mkF m 20 #[.val (.int p0), .val (.int p1), .val (.int p2), .val (.int p3), .val (.ref b_101), .val (.ref b102), .unset, .unset, .unset, .unset, .unset, .unset, .unset, .unset, .unset, .unset] [(.int ((p2 &&& (255 : Int32)).toUInt32.toUInt16.toUInt32.toInt32)), (.int (0 : Int32)), (.ref b102)])) rfl rfl (hb hby at_20)
  have V103 : Arv Z h103 b102 k102 .char (2 : Int32) [(.int (nar .char ((p2 &&& (255 : Int32)).toUInt32.toUInt16.toUInt32.toInt32))), (.int (0 : Int32))] (.int (0 : Int32)) := Arv.set Ar103 qk103 Sz103 Nn103 Hs103 Gs103 (fits_nar_char _) W103 0 rfl (Nat.le_of_ble_eq_true rfl)
  have N103 := Fr.snoc X103 N101 (Nat.le_trans Z0 (Nat.le_of_eq g102.symm))
  refine Goes.step (S' := T103.setTop (mkF m 30 #[.val (.int p0), .val (.int p1), .val (.int p2), .val (.int p3), .val (.ref b_101), .val (.ref b102), .unset, .unset, .unset, .unset, .unset, .unset, .unset, .unset, .unset, .unset] [(.int ((p3 &&& (255 : Int32)).toUInt32.toUInt16.toUInt32.toInt32)), (.int (1 : Int32)), (.ref b102)])) (fun t k => st103 _ (XS.aload X103.here hx rfl (hb hby at_21) rfl rfl (XS.iconst X103.here hx rfl (hb hby at_23) (XS.iloadN X103.here hx rfl (hb hby at_24) rfl (XS.sipush X103.here hx rfl (hb hby at_25) (XS.iand X103.here hx rfl (hb hby at_28) rfl (XS.i2c X103.here hx rfl (hb hby at_29) rfl k))))))) ?_
  obtain ⟨cl104, Ar104, qk104, Sz104, Nn104, Hs104, Gs104⟩ := id V103
  obtain ⟨T104, h104, X104, e104, W104, st104⟩ := stC X103 hx hZ e103 Ar104 (j := (1 : Int32)) (inb_of (j := (1 : Int32)) Sz104 ⟨by decide, by decide⟩) (g := (mkF m 30 #[.val (.int p0), .val (.int p1), .val (.int p2), .val (.int p3), .val (.ref b_101), .val (.ref b102), .unset, .unset, .unset, .unset, .unset, .unset, .unset, .unset, .unset, .unset] [(.int ((p3 &&& (255 : Int32)).toUInt32.toUInt16.toUInt32.toInt32)), (.int (1 : Int32)), (.ref b102)])) rfl rfl (hb hby at_30)
  have V104 : Arv Z h104 b102 k102 .char (2 : Int32) [(.int (nar .char ((p2 &&& (255 : Int32)).toUInt32.toUInt16.toUInt32.toInt32))), (.int (nar .char ((p3 &&& (255 : Int32)).toUInt32.toUInt16.toUInt32.toInt32)))] (.int (0 : Int32)) := Arv.set Ar104 qk104 Sz104 Nn104 Hs104 Gs104 (fits_nar_char _) W104 1 rfl (Nat.le_of_ble_eq_true rfl)
  have N104 := Fr.snoc X104 N103 (Nat.le_trans Z0 (Nat.le_of_eq g102.symm))
  refine Goes.step (S' := T104.setTop (mkF m 31 #[.val (.int p0), .val (.int p1), .val (.int p2), .val (.int p3), .val (.ref b_101), .val (.ref b102), .unset, .unset, .unset, .unset, .unset, .unset, .unset, .unset, .unset, .unset] [])) (fun t k => st104 _ k) ?_
  obtain ⟨T105, h105, X105, e105, E105, A105, D105, U105, st105⟩ := newO X104 hx hZ hown tw9 tw10 tw11 e104 (g := (mkF m 31 #[.val (.int p0), .val (.int p1), .val (.int p2), .val (.int p3), .val (.ref b_101), .val (.ref b102), .unset, .unset, .unset, .unset, .unset, .unset, .unset, .unset, .unset, .unset] [])) rfl (hb hby at_31) (by decide) (by decide)
  obtain ⟨b105, g105⟩ : ∃ z, z = h104.size := ⟨_, rfl⟩
  rw [← g105] at A105 D105 U105 st105
  have F105_coder : Fld Z h105 b105 "java/lang/String" "coder" "B" (.int (0 : Int32)) := D105 (Or.inr tw35) (ty := .byte) (by decide)
  have F105_value : Fld Z h105 b105 "java/lang/String" "value" "[B" .null := D105 (Or.inr tw37) (ty := (.array .byte)) (by decide)
  refine Goes.step (S' := T105.setTop (mkF m 37 #[.val (.int p0), .val (.int p1), .val (.int p2), .val (.int p3), .val (.ref b_101), .val (.ref b102), .unset, .unset, .unset, .unset, .unset, .unset, .unset, .unset, .unset, .unset] [(.ref b102), (.ref b105), (.ref b105)])) (fun t k => st105 _ (XS.dup X105.here hx rfl (hb hby at_34) rfl rfl (XS.aload X105.here hx rfl (hb hby at_35) rfl rfl k))) ?_
  obtain ⟨_, _, ⟨T106, L106, k106, n106⟩, -, X106, ⟨Lc106, hQ106, l106, y106, z106⟩, st106⟩ := X105.specialBack hx (y := mth5) rfl hown (mvT hZ tw12) (mvT hZ tw13) (mvT hZ tw14) (by decide) (backOf (W := 1) (si1 l Z a0 hw [] b105 b102 k102 cs (nar .char ((p2 &&& (255 : Int32)).toUInt32.toUInt16.toUInt32.toInt32)) (nar .char ((p3 &&& (255 : Int32)).toUInt32.toUInt16.toUInt32.toInt32)) h105 n0 (Nat.le_trans Z0 (Nat.le_trans (Nat.le_trans (Nat.le_trans E102.1 (Nat.le_of_eq W103.size.symm)) (Nat.le_of_eq W104.size.symm)) E105.1)) A105 F105_value F105_coder (Nat.le_trans Z0 (Nat.le_trans (Nat.le_trans (Nat.le_trans E102.1 (Nat.le_of_eq W103.size.symm)) (Nat.le_of_eq W104.size.symm)) (Nat.le_of_eq g105.symm))) (Sta.ext E105 (Sta.wr W104 (Sta.wr W103 (Sta.ext E102 SC)))) (PC : ¬ (cs = (0 : Int32))) (V104.ext E105) (own_nc _) (own_nc _)) hZ tw14 tw11 (by decide) (by decide)) (g := (mkF m 37 #[.val (.int p0), .val (.int p1), .val (.int p2), .val (.int p3), .val (.ref b_101), .val (.ref b102), .unset, .unset, .unset, .unset, .unset, .unset, .unset, .unset, .unset, .unset] [(.ref b102), (.ref b105), (.ref b105)])) rfl (by rw [hml]; rfl) (Steps.refl _) (a := b105) (argsL := [(.ref b102)]) (rest := [(.ref b105)]) (lenOf pd_C_V rfl) rfl (Nat.le_of_eq rfl) (hb hby at_37) (fun _ _ => ⟨rfl, e105, (by decide : 2 + 1 ≤ _), (by decide : 6 + 2 ≤ _)⟩)
  dsimp only [Pt.U, Pt.locs, Pt.cells, Pt.slots] at X106 l106 y106 z106 st106 hQ106
  subst y106 z106
  obtain ⟨rfl, Nq106, q106_0⟩ := hQ106
  have N106 : Fr n0 L106 := by rw [l106]; exact Fr.app N104 Nq106
  refine Goes.step (S' := T106.setTop (mkF m 42 #[.val (.int p0), .val (.int p1), .val (.int p2), .val (.int p3), .val (.ref b_101), .val (.ref b102), .val (.ref b105), .unset, .unset, .unset, .unset, .unset, .unset, .unset, .unset, .unset] [])) (fun t k => st106.trans (XS.astore X106.here hx rfl (hb hby at_40) rfl rfl (l' := #[.val (.int p0), .val (.int p1), .val (.int p2), .val (.int p3), .val (.ref b_101), .val (.ref b102), .val (.ref b105), .unset, .unset, .unset, .unset, .unset, .unset, .unset, .unset, .unset]) rfl k)) ?_
  obtain ⟨T107, h107, X107, e107, E107, A107, D107, U107, st107⟩ := newO X106 hx hZ hown tw38 tw39 tw40 rfl (g := (mkF m 42 #[.val (.int p0), .val (.int p1), .val (.int p2), .val (.int p3), .val (.ref b_101), .val (.ref b102), .val (.ref b105), .unset, .unset, .unset, .unset, .unset, .unset, .unset, .unset, .unset] [])) rfl (hb hby at_42) (by decide) (by decide)
  obtain ⟨b107, g107⟩ : ∃ z, z = T106.heap.size := ⟨_, rfl⟩
  rw [← g107] at A107 D107 U107 st107
  have F107_instance : Fld Z h107 b107 "com/example/rerouted/rerouted/engine/MigrationOutcome" "instance" "I" (.int (0 : Int32)) := D107 (Or.inr tw46) (ty := .int) (by decide)
  have F107_rule : Fld Z h107 b107 "com/example/rerouted/rerouted/engine/MigrationOutcome" "rule" "Lcom/example/rerouted/rerouted/engine/Rule;" .null := D107 (Or.inr tw48) (ty := (.object "com/example/rerouted/rerouted/engine/Rule")) (by decide)
  have F107_reason : Fld Z h107 b107 "com/example/rerouted/rerouted/engine/MigrationOutcome" "reason" "Ljava/lang/String;" .null := D107 (Or.inr tw50) (ty := (.object "java/lang/String")) (by decide)
  refine Goes.step (S' := T107.setTop (mkF m 47 #[.val (.int p0), .val (.int p1), .val (.int p2), .val (.int p3), .val (.ref b_101), .val (.ref b102), .val (.ref b105), .unset, .unset, .unset, .unset, .unset, .unset, .unset, .unset, .unset] [(.int p0), (.ref b107), (.ref b107)])) (fun t k => st107 _ (XS.dup X107.here hx rfl (hb hby at_45) rfl rfl (XS.iloadN X107.here hx rfl (hb hby at_46) rfl k))) ?_
  obtain ⟨_, _, ⟨T108, L108, k108, n108⟩, -, X108, ⟨Lc108, hQ108, l108, y108, z108⟩, st108⟩ := X107.specialBack hx (y := mth6) rfl hown (mvT hZ tw41) (mvT hZ tw42) (mvT hZ tw43) (by decide) (backOf (W := 1) (mo1 l Z a0 hw [] b107 p0 h107 n0 (Nat.le_trans Z0 (Nat.le_trans (Nat.le_trans (Nat.le_trans (Nat.le_trans (Nat.le_trans E102.1 (Nat.le_of_eq W103.size.symm)) (Nat.le_of_eq W104.size.symm)) E105.1) q106_0.1) E107.1)) A107 F107_instance F107_rule F107_reason (Nat.le_trans Z0 (Nat.le_trans (Nat.le_trans (Nat.le_trans (Nat.le_trans (Nat.le_trans E102.1 (Nat.le_of_eq W103.size.symm)) (Nat.le_of_eq W104.size.symm)) E105.1) q106_0.1) (Nat.le_of_eq g107.symm)))) hZ tw43 tw40 (by decide) (by decide)) (g := (mkF m 47 #[.val (.int p0), .val (.int p1), .val (.int p2), .val (.int p3), .val (.ref b_101), .val (.ref b102), .val (.ref b105), .unset, .unset, .unset, .unset, .unset, .unset, .unset, .unset, .unset] [(.int p0), (.ref b107), (.ref b107)])) rfl (by rw [hml]; rfl) (Steps.refl _) (a := b107) (argsL := [(.int p0)]) (rest := [(.ref b107)]) (lenOf pd_I_V rfl) rfl (Nat.le_of_eq rfl) (hb hby at_47) (fun _ _ => ⟨rfl, e107, (by decide : 4 + 0 ≤ _), (by decide : 11 + 0 ≤ _)⟩)
  dsimp only [Pt.U, Pt.locs, Pt.cells, Pt.slots] at X108 l108 y108 z108 st108 hQ108
  subst y108 z108
  obtain ⟨rfl, Nq108, q108_0, q108_1, q108_2⟩ := hQ108
  have N108 : Fr n0 L108 := by rw [l108]; exact Fr.app N106 Nq108
  refine Goes.step (S' := T108.setTop (mkF m 52 #[.val (.int p0), .val (.int p1), .val (.int p2), .val (.int p3), .val (.ref b_101), .val (.ref b102), .val (.ref b105), .val (.ref b107), .unset, .unset, .unset, .unset, .unset, .unset, .unset, .unset] [])) (fun t k => st108.trans (XS.astore X108.here hx rfl (hb hby at_50) rfl rfl (l' := #[.val (.int p0), .val (.int p1), .val (.int p2), .val (.int p3), .val (.ref b_101), .val (.ref b102), .val (.ref b105), .val (.ref b107), .unset, .unset, .unset, .unset, .unset, .unset, .unset, .unset]) rfl k)) ?_
  obtain ⟨T109, h109, X109, e109, E109, A109, D109, U109, st109⟩ := newO X108 hx hZ hown tw51 tw52 tw53 rfl (g := (mkF m 52 #[.val (.int p0), .val (.int p1), .val (.int p2), .val (.int p3), .val (.ref b_101), .val (.ref b102), .val (.ref b105), .val (.ref b107), .unset, .unset, .unset, .unset, .unset, .unset, .unset, .unset] [])) rfl (hb hby at_52) (by decide) (by decide)
  obtain ⟨b109, g109⟩ : ∃ z, z = T108.heap.size := ⟨_, rfl⟩
  rw [← g109] at A109 D109 U109 st109
  have F109_cause : Fld Z h109 b109 "java/lang/Throwable" "cause" "Ljava/lang/Throwable;" .null := D109 (Or.inl tw76) (ty := (.object "java/lang/Throwable")) (by decide)
  have F109_stackTrace : Fld Z h109 b109 "java/lang/Throwable" "stackTrace" "[Ljava/lang/StackTraceElement;" .null := D109 (Or.inl tw79) (ty := (.array (.object "java/lang/StackTraceElement"))) (by decide)
  have F109_suppressedExceptions : Fld Z h109 b109 "java/lang/Throwable" "suppressedExceptions" "Ljava/util/List;" .null := D109 (Or.inl tw82) (ty := (.object "java/util/List")) (by decide)
  have F109_detailMessage : Fld Z h109 b109 "java/lang/Throwable" "detailMessage" "Ljava/lang/String;" .null := D109 (Or.inl tw106) (ty := (.object "java/lang/String")) (by decide)
  have F109_backtrace : Fld Z h109 b109 "java/lang/Throwable" "backtrace" "Ljava/lang/Object;" .null := D109 (Or.inl tw107) (ty := (.object "java/lang/Object")) (by decide)
  have F109_depth : Fld Z h109 b109 "java/lang/Throwable" "depth" "I" (.int (0 : Int32)) := D109 (Or.inl tw108) (ty := .int) (by decide)
  have F109_rule : Fld Z h109 b109 "com/example/rerouted/rerouted/engine/RejectedException" "rule" "Lcom/example/rerouted/rerouted/engine/Rule;" .null := D109 (Or.inr tw121) (ty := (.object "com/example/rerouted/rerouted/engine/Rule")) (by decide)
  refine Goes.step (S' := T109.setTop (mkF m 60 #[.val (.int p0), .val (.int p1), .val (.int p2), .val (.int p3), .val (.ref b_101), .val (.ref b102), .val (.ref b105), .val (.ref b107), .unset, .unset, .unset, .unset, .unset, .unset, .unset, .unset] [(.ref b105), (.ref b_101), (.ref b109), (.ref b109)])) (fun t k => st109 _ (XS.dup X109.here hx rfl (hb hby at_55) rfl rfl (XS.aload X109.here hx rfl (hb hby at_56) rfl rfl (XS.aload X109.here hx rfl (hb hby at_58) rfl rfl k)))) ?_
  obtain ⟨_, _, ⟨T110, L110, k110, n110⟩, -, X110, hs110, gr110, ⟨Lc110, hQ110, l110, y110, z110⟩, st110⟩ := X109.specialBackS hx (y := mth12) rfl hown (mvT hZ tw54) (mvT hZ tw55) (mvT hZ tw56) (by decide) (backOfSKL (W := 1) (rej l Z a0 hw [] b109 b_101 b105 us ss h109 n0 (Nat.le_trans Z0 (Nat.le_trans (Nat.le_trans (Nat.le_trans (Nat.le_trans (Nat.le_trans (Nat.le_trans (Nat.le_trans E102.1 (Nat.le_of_eq W103.size.symm)) (Nat.le_of_eq W104.size.symm)) E105.1) q106_0.1) E107.1) q108_0.1) E109.1)) HL (ThS.ext E109 (ThS.keep q108_0 (nsS A107.nostat ns0) (ThS.ext E107 (ThS.keep q106_0 (nsS A105.nostat ns0) (ThS.ext E105 (ThS.wr W104 (ThS.wr W103 (ThS.ext E102 TH)))))))) (Sta.ext E109 (own_stakeep (Sta.ext E107 (own_stakeep (Sta.ext E105 (Sta.wr W104 (Sta.wr W103 (Sta.ext E102 SU)))) q106_0 (nsS A105.nostat ns0))) q108_0 (nsS A107.nostat ns0))) (Sta.ext E109 (own_stakeep (Sta.ext E107 (own_stakeep (Sta.ext E105 (Sta.wr W104 (Sta.wr W103 (Sta.ext E102 SP)))) q106_0 (nsS A105.nostat ns0))) q108_0 (nsS A107.nostat ns0))) A109 U109 F109_backtrace F109_detailMessage F109_cause F109_stackTrace F109_suppressedExceptions F109_rule (Exa.ext E109 ((Exa.ext E107 ((Exa.ext E105 (Exa.wr W104 (Exa.wr W103 (Exa.ext E102 q101_1)))).keep q106_0)).keep q108_0)) (Nat.le_trans Z0 (Nat.le_trans (Nat.le_trans (Nat.le_trans (Nat.le_trans (Nat.le_trans (Nat.le_trans (Nat.le_trans E102.1 (Nat.le_of_eq W103.size.symm)) (Nat.le_of_eq W104.size.symm)) E105.1) q106_0.1) E107.1) q108_0.1) (Nat.le_of_eq g109.symm)))) hZ tw56 tw53 (by decide) (by decide) hTK hBl) (g := (mkF m 60 #[.val (.int p0), .val (.int p1), .val (.int p2), .val (.int p3), .val (.ref b_101), .val (.ref b102), .val (.ref b105), .val (.ref b107), .unset, .unset, .unset, .unset, .unset, .unset, .unset, .unset] [(.ref b105), (.ref b_101), (.ref b109), (.ref b109)])) rfl (by rw [hml]; rfl) (Steps.refl _) (a := b109) (argsL := [(.ref b_101), (.ref b105)]) (rest := [(.ref b109)]) (lenOf pd_Lcom_example_rerouted_rerouted_engine_Rule_Ljava_lang_String__V rfl) rfl (Nat.le_of_eq rfl) (hb hby at_60) (fun _ _ => ⟨rfl, e109, (by decide : 5 + 3 ≤ _), (by decide : 18 + 2772 ≤ _)⟩)
  dsimp only [Pt.U, Pt.locs, Pt.cells, Pt.slots] at X110 l110 y110 z110 st110 hQ110 hs110 gr110
  subst y110 z110
  replace X110 := own_fold X110
  have hS110 := foldS hS0 (by rw [e109]; exact (Nat.le_trans (Nat.le_refl _) (Nat.le_trans (Nat.le_trans (Nat.le_trans (Nat.le_trans (Nat.le_trans (Nat.le_trans (Nat.le_trans E102.1 (Nat.le_of_eq W103.size.symm)) (Nat.le_of_eq W104.size.symm)) E105.1) q106_0.1) E107.1) q108_0.1) E109.1))) hs110 gr110
  obtain ⟨hZ, hown⟩ := own_since hZ0 hown0 hS110
  have hTK := Vm.MethodsKnown.alikeC hS110.1.alike hTK0
  have hBl := Vm.FramesKnown.alikeC hS110.1.alike hBl0
  obtain ⟨rfl, Nq110, q110_0, q110_1, q110_2⟩ := hQ110
  have N110 : Fr n0 L110 := by rw [l110]; exact Fr.app N108 Nq110
  refine Goes.step (S' := T110.setTop (mkF m 65 #[.val (.int p0), .val (.int p1), .val (.int p2), .val (.int p3), .val (.ref b_101), .val (.ref b102), .val (.ref b105), .val (.ref b107), .val (.ref b109), .unset, .unset, .unset, .unset, .unset, .unset, .unset] [])) (fun t k => st110.trans (XS.astore X110.here hx rfl (hb hby at_63) rfl rfl (l' := #[.val (.int p0), .val (.int p1), .val (.int p2), .val (.int p3), .val (.ref b_101), .val (.ref b102), .val (.ref b105), .val (.ref b107), .val (.ref b109), .unset, .unset, .unset, .unset, .unset, .unset, .unset]) rfl k)) ?_
  obtain ⟨T111, h111, X111, e111, E111, A111, D111, U111, st111⟩ := newO X110 hx hZ hown tw38 tw39 tw40 rfl (g := (mkF m 65 #[.val (.int p0), .val (.int p1), .val (.int p2), .val (.int p3), .val (.ref b_101), .val (.ref b102), .val (.ref b105), .val (.ref b107), .val (.ref b109), .unset, .unset, .unset, .unset, .unset, .unset, .unset] [])) rfl (hb hby at_65) (by decide) (by decide)
  obtain ⟨b111, g111⟩ : ∃ z, z = T110.heap.size := ⟨_, rfl⟩
  rw [← g111] at A111 D111 U111 st111
  have F111_instance : Fld Z h111 b111 "com/example/rerouted/rerouted/engine/MigrationOutcome" "instance" "I" (.int (0 : Int32)) := D111 (Or.inr tw46) (ty := .int) (by decide)
  have F111_rule : Fld Z h111 b111 "com/example/rerouted/rerouted/engine/MigrationOutcome" "rule" "Lcom/example/rerouted/rerouted/engine/Rule;" .null := D111 (Or.inr tw48) (ty := (.object "com/example/rerouted/rerouted/engine/Rule")) (by decide)
  have F111_reason : Fld Z h111 b111 "com/example/rerouted/rerouted/engine/MigrationOutcome" "reason" "Ljava/lang/String;" .null := D111 (Or.inr tw50) (ty := (.object "java/lang/String")) (by decide)
  refine Goes.step (S' := T111.setTop (mkF m 72 #[.val (.int p0), .val (.int p1), .val (.int p2), .val (.int p3), .val (.ref b_101), .val (.ref b102), .val (.ref b105), .val (.ref b107), .val (.ref b109), .unset, .unset, .unset, .unset, .unset, .unset, .unset] [(.ref b109), (.int p0), (.ref b111), (.ref b111)])) (fun t k => st111 _ (XS.dup X111.here hx rfl (hb hby at_68) rfl rfl (XS.iloadN X111.here hx rfl (hb hby at_69) rfl (XS.aload X111.here hx rfl (hb hby at_70) rfl rfl k)))) ?_
  obtain ⟨_, _, ⟨T112, L112, k112, n112⟩, -, X112, hs112, gr112, ⟨Lc112, hQ112, l112, y112, z112⟩, st112⟩ := X111.specialBackS hx (y := mth16) rfl hown (mvT hZ tw122) (mvT hZ tw123) (mvT hZ tw124) (by decide) (backOfS (W := 1) (mo2 l Z a0 hw [] b111 p0 b109 b_101 b105 h111 n0 (Nat.le_trans Z0 (Nat.le_trans (Nat.le_trans (Nat.le_trans (Nat.le_trans (Nat.le_trans (Nat.le_trans (Nat.le_trans (Nat.le_trans (Nat.le_trans E102.1 (Nat.le_of_eq W103.size.symm)) (Nat.le_of_eq W104.size.symm)) E105.1) q106_0.1) E107.1) q108_0.1) E109.1) q110_0.1) E111.1)) A111 F111_instance F111_rule F111_reason (Nat.le_trans Z0 (Nat.le_trans (Nat.le_trans (Nat.le_trans (Nat.le_trans (Nat.le_trans (Nat.le_trans (Nat.le_trans (Nat.le_trans (Nat.le_trans E102.1 (Nat.le_of_eq W103.size.symm)) (Nat.le_of_eq W104.size.symm)) E105.1) q106_0.1) E107.1) q108_0.1) E109.1) q110_0.1) (Nat.le_of_eq g111.symm))) (Exa.ext E111 (A109.keep q110_0)) (Fld.ext E111 q110_1) (Fld.ext E111 q110_2) (Exa.ext E111 ((Exa.ext E109 ((Exa.ext E107 (A105.keep q106_0)).keep q108_0)).keep q110_0)) (Exa.ext E111 ((Exa.ext E109 ((Exa.ext E107 ((Exa.ext E105 (Exa.wr W104 (Exa.wr W103 (Exa.ext E102 q101_1)))).keep q106_0)).keep q108_0)).keep q110_0))) hZ tw124 tw40 (by decide) (by decide)) (g := (mkF m 72 #[.val (.int p0), .val (.int p1), .val (.int p2), .val (.int p3), .val (.ref b_101), .val (.ref b102), .val (.ref b105), .val (.ref b107), .val (.ref b109), .unset, .unset, .unset, .unset, .unset, .unset, .unset] [(.ref b109), (.int p0), (.ref b111), (.ref b111)])) rfl (by rw [hml]; rfl) (Steps.refl _) (a := b111) (argsL := [(.int p0), (.ref b109)]) (rest := [(.ref b111)]) (lenOf pd_ILcom_example_rerouted_rerouted_engine_RejectedException__V rfl) rfl (Nat.le_of_eq rfl) (hb hby at_72) (fun _ _ => ⟨rfl, e111, (by decide : 9 + 2 ≤ _), (by decide : 2793 + 28 ≤ _)⟩)
  dsimp only [Pt.U, Pt.locs, Pt.cells, Pt.slots] at X112 l112 y112 z112 st112 hQ112 hs112 gr112
  subst y112 z112
  replace X112 := own_fold X112
  have hS112 := foldS hS110 (by rw [e111]; exact (Nat.le_trans (Nat.le_refl _) E111.1)) hs112 gr112
  obtain ⟨hZ, hown⟩ := own_since hZ0 hown0 hS112
  have hTK := Vm.MethodsKnown.alikeC hS112.1.alike hTK0
  have hBl := Vm.FramesKnown.alikeC hS112.1.alike hBl0
  obtain ⟨rfl, Nq112, q112_0, q112_1, q112_2⟩ := hQ112
  have N112 : Fr n0 L112 := by rw [l112]; exact Fr.app N110 Nq112
  refine Goes.step (S' := T112.setTop (mkF m 79 #[.val (.int p0), .val (.int p1), .val (.int p2), .val (.int p3), .val (.ref b_101), .val (.ref b102), .val (.ref b105), .val (.ref b107), .val (.ref b109), .val (.ref b111), .unset, .unset, .unset, .unset, .unset, .unset] [(.ref b107)])) (fun t k => st112.trans (XS.astore X112.here hx rfl (hb hby at_75) rfl rfl (l' := #[.val (.int p0), .val (.int p1), .val (.int p2), .val (.int p3), .val (.ref b_101), .val (.ref b102), .val (.ref b105), .val (.ref b107), .val (.ref b109), .val (.ref b111), .unset, .unset, .unset, .unset, .unset, .unset]) rfl (XS.aload X112.here hx rfl (hb hby at_77) rfl rfl k))) ?_
  obtain ⟨cq113, kq113, q113a, q113b, q113c⟩ := isOf hZ rfl ((Exa.ext E111 ((Exa.ext E109 (A107.keep q108_0)).keep q110_0)).keep q112_0)
  obtain ⟨_, _, ⟨T113, L113, k113, n113⟩, -, X113, ⟨Lc113, hQ113, l113, y113, z113⟩, st113⟩ := X112.virtualBack hx (y := mth17) (z := mth17) hown (mvT hZ tw139) (mvT hZ tw140) (notFace_of_selects (args := #[]) (mvT hZ tw142)) (mvT hZ tw142) (mvT hZ tw141) (by decide) (backOf (W := 0) (ism_n l Z a0 hw [] b107 T112.heap n0 (Nat.le_trans Z0 (Nat.le_trans (Nat.le_trans (Nat.le_trans (Nat.le_trans (Nat.le_trans (Nat.le_trans (Nat.le_trans (Nat.le_trans (Nat.le_trans (Nat.le_trans E102.1 (Nat.le_of_eq W103.size.symm)) (Nat.le_of_eq W104.size.symm)) E105.1) q106_0.1) E107.1) q108_0.1) E109.1) q110_0.1) E111.1) q112_0.1)) ((Fld.ext E111 ((Fld.ext E109 q108_2).keep q110_0 (ninS (Nat.ne_of_lt (Nat.lt_of_lt_of_le A107.lt (Nat.le_trans q108_0.1 (Nat.le_of_eq g109.symm)))) nin0))).keep q112_0 (ninS (Nat.ne_of_lt (Nat.lt_of_lt_of_le A107.lt (Nat.le_trans (Nat.le_trans (Nat.le_trans q108_0.1 E109.1) q110_0.1) (Nat.le_of_eq g111.symm)))) nin0))) hZ tw143 tw40 (by decide) (by decide)) q113a q113c (g := (mkF m 79 #[.val (.int p0), .val (.int p1), .val (.int p2), .val (.int p3), .val (.ref b_101), .val (.ref b102), .val (.ref b105), .val (.ref b107), .val (.ref b109), .val (.ref b111), .unset, .unset, .unset, .unset, .unset, .unset] [(.ref b107)])) rfl (by rw [hml]; rfl) (Steps.refl _) (argsL := []) (rest := []) (lenOf pd_Z rfl) rfl (Nat.le_of_eq rfl) (hb hby at_79) (fun _ _ => ⟨rfl, rfl, (by decide : 11 + 0 ≤ _), (by decide : 2821 + 0 ≤ _)⟩)
  dsimp only [Pt.U, Pt.locs, Pt.cells, Pt.slots] at X113 l113 y113 z113 st113 hQ113
  subst y113 z113
  obtain ⟨rfl, Nq113, q113_0⟩ := hQ113
  have N113 : Fr n0 L113 := by rw [l113]; exact Fr.app N112 Nq113
  refine Goes.step (S' := T113.setTop (mkF m 86 #[.val (.int p0), .val (.int p1), .val (.int p2), .val (.int p3), .val (.ref b_101), .val (.ref b102), .val (.ref b105), .val (.ref b107), .val (.ref b109), .val (.ref b111), .val (.int (1 : Int32)), .unset, .unset, .unset, .unset, .unset] [(.ref b111)])) (fun t k => st113.trans (XS.istore X113.here hx rfl (hb hby at_82) rfl (l' := #[.val (.int p0), .val (.int p1), .val (.int p2), .val (.int p3), .val (.ref b_101), .val (.ref b102), .val (.ref b105), .val (.ref b107), .val (.ref b109), .val (.ref b111), .val (.int (1 : Int32)), .unset, .unset, .unset, .unset, .unset]) rfl (XS.aload X113.here hx rfl (hb hby at_84) rfl rfl k))) ?_
  obtain ⟨cq114, kq114, q114a, q114b, q114c⟩ := isOf hZ q113_0 (A111.keep q112_0)
  obtain ⟨_, _, ⟨T114, L114, k114, n114⟩, -, X114, ⟨Lc114, hQ114, l114, y114, z114⟩, st114⟩ := X113.virtualBack hx (y := mth17) (z := mth17) hown (mvT hZ tw139) (mvT hZ tw140) (notFace_of_selects (args := #[]) (mvT hZ tw142)) (mvT hZ tw142) (mvT hZ tw141) (by decide) (backOf (W := 0) (ism_r l Z a0 hw [] b111 b_101 T112.heap n0 (Nat.le_trans Z0 (Nat.le_trans (Nat.le_trans (Nat.le_trans (Nat.le_trans (Nat.le_trans (Nat.le_trans (Nat.le_trans (Nat.le_trans (Nat.le_trans (Nat.le_trans E102.1 (Nat.le_of_eq W103.size.symm)) (Nat.le_of_eq W104.size.symm)) E105.1) q106_0.1) E107.1) q108_0.1) E109.1) q110_0.1) E111.1) q112_0.1)) q112_2) hZ tw143 tw40 (by decide) (by decide)) q114a q114c (g := (mkF m 86 #[.val (.int p0), .val (.int p1), .val (.int p2), .val (.int p3), .val (.ref b_101), .val (.ref b102), .val (.ref b105), .val (.ref b107), .val (.ref b109), .val (.ref b111), .val (.int (1 : Int32)), .unset, .unset, .unset, .unset, .unset] [(.ref b111)])) rfl (by rw [hml]; rfl) (Steps.refl _) (argsL := []) (rest := []) (lenOf pd_Z rfl) rfl (Nat.le_of_eq rfl) (hb hby at_86) (fun _ _ => ⟨rfl, q113_0, (by decide : 11 + 0 ≤ _), (by decide : 2821 + 0 ≤ _)⟩)
  dsimp only [Pt.U, Pt.locs, Pt.cells, Pt.slots] at X114 l114 y114 z114 st114 hQ114
  subst y114 z114
  obtain ⟨rfl, Nq114, q114_0⟩ := hQ114
  have N114 : Fr n0 L114 := by rw [l114]; exact Fr.app N113 Nq114
  refine Goes.step (S' := T114.setTop (mkF m 93 #[.val (.int p0), .val (.int p1), .val (.int p2), .val (.int p3), .val (.ref b_101), .val (.ref b102), .val (.ref b105), .val (.ref b107), .val (.ref b109), .val (.ref b111), .val (.int (1 : Int32)), .val (.int (0 : Int32)), .unset, .unset, .unset, .unset] [(.ref b107)])) (fun t k => st114.trans (XS.istore X114.here hx rfl (hb hby at_89) rfl (l' := #[.val (.int p0), .val (.int p1), .val (.int p2), .val (.int p3), .val (.ref b_101), .val (.ref b102), .val (.ref b105), .val (.ref b107), .val (.ref b109), .val (.ref b111), .val (.int (1 : Int32)), .val (.int (0 : Int32)), .unset, .unset, .unset, .unset]) rfl (XS.aload X114.here hx rfl (hb hby at_91) rfl rfl k))) ?_
  obtain ⟨cq115, kq115, q115a, q115b, q115c⟩ := isOf hZ q114_0 ((Exa.ext E111 ((Exa.ext E109 (A107.keep q108_0)).keep q110_0)).keep q112_0)
  obtain ⟨_, _, ⟨T115, L115, k115, n115⟩, -, X115, ⟨Lc115, hQ115, l115, y115, z115⟩, st115⟩ := X114.virtualBack hx (y := mth18) (z := mth18) hown (mvT hZ tw144) (mvT hZ tw145) (notFace_of_selects (args := #[]) (mvT hZ tw147)) (mvT hZ tw147) (mvT hZ tw146) (by decide) (backOf (W := 0) (mru_n l Z a0 hw [] b107 T112.heap n0 (Nat.le_trans Z0 (Nat.le_trans (Nat.le_trans (Nat.le_trans (Nat.le_trans (Nat.le_trans (Nat.le_trans (Nat.le_trans (Nat.le_trans (Nat.le_trans (Nat.le_trans E102.1 (Nat.le_of_eq W103.size.symm)) (Nat.le_of_eq W104.size.symm)) E105.1) q106_0.1) E107.1) q108_0.1) E109.1) q110_0.1) E111.1) q112_0.1)) ((Fld.ext E111 ((Fld.ext E109 q108_2).keep q110_0 (ninS (Nat.ne_of_lt (Nat.lt_of_lt_of_le A107.lt (Nat.le_trans q108_0.1 (Nat.le_of_eq g109.symm)))) nin0))).keep q112_0 (ninS (Nat.ne_of_lt (Nat.lt_of_lt_of_le A107.lt (Nat.le_trans (Nat.le_trans (Nat.le_trans q108_0.1 E109.1) q110_0.1) (Nat.le_of_eq g111.symm)))) nin0))) hZ tw148 tw40 (by decide) (by decide)) q115a q115c (g := (mkF m 93 #[.val (.int p0), .val (.int p1), .val (.int p2), .val (.int p3), .val (.ref b_101), .val (.ref b102), .val (.ref b105), .val (.ref b107), .val (.ref b109), .val (.ref b111), .val (.int (1 : Int32)), .val (.int (0 : Int32)), .unset, .unset, .unset, .unset] [(.ref b107)])) rfl (by rw [hml]; rfl) (Steps.refl _) (argsL := []) (rest := []) (lenOf pd_Lcom_example_rerouted_rerouted_engine_Rule rfl) rfl (Nat.le_of_eq rfl) (hb hby at_93) (fun _ _ => ⟨rfl, q114_0, (by decide : 11 + 0 ≤ _), (by decide : 2821 + 0 ≤ _)⟩)
  dsimp only [Pt.U, Pt.locs, Pt.cells, Pt.slots] at X115 l115 y115 z115 st115 hQ115
  subst y115 z115
  obtain ⟨rfl, Nq115, q115_0⟩ := hQ115
  have N115 : Fr n0 L115 := by rw [l115]; exact Fr.app N114 Nq115
  refine Goes.step (S' := T115.setTop (mkF m 100 #[.val (.int p0), .val (.int p1), .val (.int p2), .val (.int p3), .val (.ref b_101), .val (.ref b102), .val (.ref b105), .val (.ref b107), .val (.ref b109), .val (.ref b111), .val (.int (1 : Int32)), .val (.int (0 : Int32)), .val .null, .unset, .unset, .unset] [(.ref b111)])) (fun t k => st115.trans (XS.astore X115.here hx rfl (hb hby at_96) rfl rfl (l' := #[.val (.int p0), .val (.int p1), .val (.int p2), .val (.int p3), .val (.ref b_101), .val (.ref b102), .val (.ref b105), .val (.ref b107), .val (.ref b109), .val (.ref b111), .val (.int (1 : Int32)), .val (.int (0 : Int32)), .val .null, .unset, .unset, .unset]) rfl (XS.aload X115.here hx rfl (hb hby at_98) rfl rfl k))) ?_
  obtain ⟨cq116, kq116, q116a, q116b, q116c⟩ := isOf hZ q115_0 (A111.keep q112_0)
  obtain ⟨_, _, ⟨T116, L116, k116, n116⟩, -, X116, ⟨Lc116, hQ116, l116, y116, z116⟩, st116⟩ := X115.virtualBack hx (y := mth18) (z := mth18) hown (mvT hZ tw144) (mvT hZ tw145) (notFace_of_selects (args := #[]) (mvT hZ tw147)) (mvT hZ tw147) (mvT hZ tw146) (by decide) (backOf (W := 0) (mru_r l Z a0 hw [] b111 b_101 T112.heap n0 (Nat.le_trans Z0 (Nat.le_trans (Nat.le_trans (Nat.le_trans (Nat.le_trans (Nat.le_trans (Nat.le_trans (Nat.le_trans (Nat.le_trans (Nat.le_trans (Nat.le_trans E102.1 (Nat.le_of_eq W103.size.symm)) (Nat.le_of_eq W104.size.symm)) E105.1) q106_0.1) E107.1) q108_0.1) E109.1) q110_0.1) E111.1) q112_0.1)) q112_2) hZ tw148 tw40 (by decide) (by decide)) q116a q116c (g := (mkF m 100 #[.val (.int p0), .val (.int p1), .val (.int p2), .val (.int p3), .val (.ref b_101), .val (.ref b102), .val (.ref b105), .val (.ref b107), .val (.ref b109), .val (.ref b111), .val (.int (1 : Int32)), .val (.int (0 : Int32)), .val .null, .unset, .unset, .unset] [(.ref b111)])) rfl (by rw [hml]; rfl) (Steps.refl _) (argsL := []) (rest := []) (lenOf pd_Lcom_example_rerouted_rerouted_engine_Rule rfl) rfl (Nat.le_of_eq rfl) (hb hby at_100) (fun _ _ => ⟨rfl, q115_0, (by decide : 11 + 0 ≤ _), (by decide : 2821 + 0 ≤ _)⟩)
  dsimp only [Pt.U, Pt.locs, Pt.cells, Pt.slots] at X116 l116 y116 z116 st116 hQ116
  subst y116 z116
  obtain ⟨rfl, Nq116, q116_0⟩ := hQ116
  have N116 : Fr n0 L116 := by rw [l116]; exact Fr.app N115 Nq116
  refine Goes.step (S' := T116.setTop (mkF m 117 #[.val (.int p0), .val (.int p1), .val (.int p2), .val (.int p3), .val (.ref b_101), .val (.ref b102), .val (.ref b105), .val (.ref b107), .val (.ref b109), .val (.ref b111), .val (.int (1 : Int32)), .val (.int (0 : Int32)), .val .null, .val (.ref b_101), .unset, .unset] [(.ref b107)])) (fun t k => st116.trans (XS.astore X116.here hx rfl (hb hby at_103) rfl rfl (l' := #[.val (.int p0), .val (.int p1), .val (.int p2), .val (.int p3), .val (.ref b_101), .val (.ref b102), .val (.ref b105), .val (.ref b107), .val (.ref b109), .val (.ref b111), .val (.int (1 : Int32)), .val (.int (0 : Int32)), .val .null, .val (.ref b_101), .unset, .unset]) rfl (XS.iload X116.here hx rfl (hb hby at_105) rfl (XS.ifNo X116.here hx rfl (hb hby at_107) rfl ((if0 _ _).trans (feq ((by decide) : ¬ ((1 : Int32) = (0 : Int32)))).1) (XS.aload X116.here hx rfl (hb hby at_110) rfl rfl (XS.ifnonnullNo X116.here hx rfl (hb hby at_112) rfl (XS.aload X116.here hx rfl (hb hby at_115) rfl rfl k))))))) ?_
  obtain ⟨cq117, kq117, q117a, q117b, q117c⟩ := isOf hZ q116_0 ((Exa.ext E111 ((Exa.ext E109 (A107.keep q108_0)).keep q110_0)).keep q112_0)
  obtain ⟨_, _, ⟨T117, L117, k117, n117⟩, -, X117, ⟨Lc117, hQ117, l117, y117, z117⟩, st117⟩ := X116.virtualBack hx (y := mth19) (z := mth19) hown (mvT hZ tw149) (mvT hZ tw150) (notFace_of_selects (args := #[]) (mvT hZ tw152)) (mvT hZ tw152) (mvT hZ tw151) (by decide) (backOf (W := 0) (mins l Z a0 hw [] b107 p0 T112.heap n0 (Nat.le_trans Z0 (Nat.le_trans (Nat.le_trans (Nat.le_trans (Nat.le_trans (Nat.le_trans (Nat.le_trans (Nat.le_trans (Nat.le_trans (Nat.le_trans (Nat.le_trans E102.1 (Nat.le_of_eq W103.size.symm)) (Nat.le_of_eq W104.size.symm)) E105.1) q106_0.1) E107.1) q108_0.1) E109.1) q110_0.1) E111.1) q112_0.1)) ((Fld.ext E111 ((Fld.ext E109 q108_1).keep q110_0 (ninS (Nat.ne_of_lt (Nat.lt_of_lt_of_le A107.lt (Nat.le_trans q108_0.1 (Nat.le_of_eq g109.symm)))) nin0))).keep q112_0 (ninS (Nat.ne_of_lt (Nat.lt_of_lt_of_le A107.lt (Nat.le_trans (Nat.le_trans (Nat.le_trans q108_0.1 E109.1) q110_0.1) (Nat.le_of_eq g111.symm)))) nin0))) hZ tw153 tw40 (by decide) (by decide)) q117a q117c (g := (mkF m 117 #[.val (.int p0), .val (.int p1), .val (.int p2), .val (.int p3), .val (.ref b_101), .val (.ref b102), .val (.ref b105), .val (.ref b107), .val (.ref b109), .val (.ref b111), .val (.int (1 : Int32)), .val (.int (0 : Int32)), .val .null, .val (.ref b_101), .unset, .unset] [(.ref b107)])) rfl (by rw [hml]; rfl) (Steps.refl _) (argsL := []) (rest := []) (lenOf pd_I rfl) rfl (Nat.le_of_eq rfl) (hb hby at_117) (fun _ _ => ⟨rfl, q116_0, (by decide : 11 + 0 ≤ _), (by decide : 2821 + 0 ≤ _)⟩)
  dsimp only [Pt.U, Pt.locs, Pt.cells, Pt.slots] at X117 l117 y117 z117 st117 hQ117
  subst y117 z117
  obtain ⟨rfl, Nq117, q117_0⟩ := hQ117
  have N117 : Fr n0 L117 := by rw [l117]; exact Fr.app N116 Nq117
  refine Goes.step (S' := T117.setTop (mkF m 136 #[.val (.int p0), .val (.int p1), .val (.int p2), .val (.int p3), .val (.ref b_101), .val (.ref b102), .val (.ref b105), .val (.ref b107), .val (.ref b109), .val (.ref b111), .val (.int (1 : Int32)), .val (.int (0 : Int32)), .val .null, .val (.ref b_101), .val (.int (1 : Int32)), .unset] [])) (fun t k => st117.trans (XS.iloadN X117.here hx rfl (hb hby at_120) rfl (XS.icmpNo X117.here hx rfl (hb hby at_121) rfl (teq (rfl : p0 = p0)).2 (XS.iconst X117.here hx rfl (hb hby at_124) (XS.goto X117.here hx rfl (pc0 := 125) (pc' := 129) rfl (hb hby at_125) (by decide) (by decide) (XS.istore X117.here hx rfl (hb hby at_129) rfl (l' := #[.val (.int p0), .val (.int p1), .val (.int p2), .val (.int p3), .val (.ref b_101), .val (.ref b102), .val (.ref b105), .val (.ref b107), .val (.ref b109), .val (.ref b111), .val (.int (1 : Int32)), .val (.int (0 : Int32)), .val .null, .val (.ref b_101), .val (.int (1 : Int32)), .unset]) rfl (XS.iload X117.here hx rfl (hb hby at_131) rfl (XS.ifNo X117.here hx rfl (hb hby at_133) rfl ((if0 _ _).trans (teq ((by decide) : (0 : Int32) = (0 : Int32))).2) k)))))))) ?_
  refine Goes.step (S' := T117.setTop (mkF m 145 #[.val (.int p0), .val (.int p1), .val (.int p2), .val (.int p3), .val (.ref b_101), .val (.ref b102), .val (.ref b105), .val (.ref b107), .val (.ref b109), .val (.ref b111), .val (.int (1 : Int32)), .val (.int (0 : Int32)), .val .null, .val (.ref b_101), .val (.int (1 : Int32)), .unset] [(.ref b111)])) (fun t k => XS.aload X117.here hx rfl (hb hby at_136) rfl rfl (XS.aload X117.here hx rfl (hb hby at_138) rfl rfl (Jvm.RoadKit.acmp (g := (mkF m 140 #[.val (.int p0), .val (.int p1), .val (.int p2), .val (.int p3), .val (.ref b_101), .val (.ref b102), .val (.ref b105), .val (.ref b107), .val (.ref b109), .val (.ref b111), .val (.int (1 : Int32)), .val (.int (0 : Int32)), .val .null, .val (.ref b_101), .val (.int (1 : Int32)), .unset] [(.ref b_101), (.ref b_101)])) X117 hx rfl rfl rfl (pc0 := 140) (pc' := 143) (same := true) rfl (hb hby at_140) rfl (decide_eq_true rfl) (by decide) (by decide) (XS.aload X117.here hx rfl (hb hby at_143) rfl rfl k)))) ?_
  obtain ⟨cq118, kq118, q118a, q118b, q118c⟩ := isOf hZ q117_0 (A111.keep q112_0)
  obtain ⟨_, _, ⟨T118, L118, k118, n118⟩, -, X118, ⟨Lc118, hQ118, l118, y118, z118⟩, st118⟩ := X117.virtualBack hx (y := mth19) (z := mth19) hown (mvT hZ tw149) (mvT hZ tw150) (notFace_of_selects (args := #[]) (mvT hZ tw152)) (mvT hZ tw152) (mvT hZ tw151) (by decide) (backOf (W := 0) (mins l Z a0 hw [] b111 p0 T112.heap n0 (Nat.le_trans Z0 (Nat.le_trans (Nat.le_trans (Nat.le_trans (Nat.le_trans (Nat.le_trans (Nat.le_trans (Nat.le_trans (Nat.le_trans (Nat.le_trans (Nat.le_trans E102.1 (Nat.le_of_eq W103.size.symm)) (Nat.le_of_eq W104.size.symm)) E105.1) q106_0.1) E107.1) q108_0.1) E109.1) q110_0.1) E111.1) q112_0.1)) q112_1) hZ tw153 tw40 (by decide) (by decide)) q118a q118c (g := (mkF m 145 #[.val (.int p0), .val (.int p1), .val (.int p2), .val (.int p3), .val (.ref b_101), .val (.ref b102), .val (.ref b105), .val (.ref b107), .val (.ref b109), .val (.ref b111), .val (.int (1 : Int32)), .val (.int (0 : Int32)), .val .null, .val (.ref b_101), .val (.int (1 : Int32)), .unset] [(.ref b111)])) rfl (by rw [hml]; rfl) (Steps.refl _) (argsL := []) (rest := []) (lenOf pd_I rfl) rfl (Nat.le_of_eq rfl) (hb hby at_145) (fun _ _ => ⟨rfl, q117_0, (by decide : 11 + 0 ≤ _), (by decide : 2821 + 0 ≤ _)⟩)
  dsimp only [Pt.U, Pt.locs, Pt.cells, Pt.slots] at X118 l118 y118 z118 st118 hQ118
  subst y118 z118
  obtain ⟨rfl, Nq118, q118_0⟩ := hQ118
  have N118 : Fr n0 L118 := by rw [l118]; exact Fr.app N117 Nq118
  refine Goes.step (S' := T118.setTop (mkF m 164 #[.val (.int p0), .val (.int p1), .val (.int p2), .val (.int p3), .val (.ref b_101), .val (.ref b102), .val (.ref b105), .val (.ref b107), .val (.ref b109), .val (.ref b111), .val (.int (1 : Int32)), .val (.int (0 : Int32)), .val .null, .val (.ref b_101), .val (.int (1 : Int32)), .val (.int (1 : Int32))] [])) (fun t k => st118.trans (XS.iloadN X118.here hx rfl (hb hby at_148) rfl (XS.icmpNo X118.here hx rfl (hb hby at_149) rfl (teq (rfl : p0 = p0)).2 (XS.iconst X118.here hx rfl (hb hby at_152) (XS.goto X118.here hx rfl (pc0 := 153) (pc' := 157) rfl (hb hby at_153) (by decide) (by decide) (XS.istore X118.here hx rfl (hb hby at_157) rfl (l' := #[.val (.int p0), .val (.int p1), .val (.int p2), .val (.int p3), .val (.ref b_101), .val (.ref b102), .val (.ref b105), .val (.ref b107), .val (.ref b109), .val (.ref b111), .val (.int (1 : Int32)), .val (.int (0 : Int32)), .val .null, .val (.ref b_101), .val (.int (1 : Int32)), .val (.int (1 : Int32))]) rfl (XS.iload X118.here hx rfl (hb hby at_159) rfl (XS.ifNo X118.here hx rfl (hb hby at_161) rfl ((if0 _ _).trans (feq ((by decide) : ¬ ((1 : Int32) = (0 : Int32)))).1) k)))))))) ?_
  refine Goes.step (S' := T118.setTop (mkF m 174 #[.val (.int p0), .val (.int p1), .val (.int p2), .val (.int p3), .val (.ref b_101), .val (.ref b102), .val (.ref b105), .val (.ref b107), .val (.ref b109), .val (.ref b111), .val (.int (1 : Int32)), .val (.int (0 : Int32)), .val .null, .val (.ref b_101), .val (.int (1 : Int32)), .val (.int (1 : Int32))] [(.int (1 : Int32))])) (fun t k => XS.iload X118.here hx rfl (hb hby at_164) rfl (XS.ifNo X118.here hx rfl (hb hby at_166) rfl ((if0 _ _).trans (feq ((by decide) : ¬ ((1 : Int32) = (0 : Int32)))).1) (XS.iconst X118.here hx rfl (hb hby at_169) (XS.goto X118.here hx rfl (pc0 := 170) (pc' := 174) rfl (hb hby at_170) (by decide) (by decide) k)))) ?_
  refine Goes.leaveW (g := (mkF m 174 #[.val (.int p0), .val (.int p1), .val (.int p2), .val (.int p3), .val (.ref b_101), .val (.ref b102), .val (.ref b105), .val (.ref b107), .val (.ref b109), .val (.ref b111), .val (.int (1 : Int32)), .val (.int (0 : Int32)), .val .null, .val (.ref b_101), .val (.int (1 : Int32)), .val (.int (1 : Int32))] [(.int (1 : Int32))])) X118 hS112 (Nat.le_refl _) Bd.notSynchronized (v := (some (.int (1 : Int32)))) (fun h => by rw [Bd.returns] at h; cases h) (fun fs hr => retN X118 hx (t := .boolean) Bd.returns (by simp) (hb hby at_174) hr) q118_0 ?_ (by decide) (by decide)
  exact ⟨rfl, N118⟩

set_option maxRecDepth 65536 in
set_option maxHeartbeats 40000000 in
theorem comes_1 {Post : Tables → Env → Array Value → State → Outcome → State → Prop} (hpost : ∀ tb e args s v u, (limb_1_1.after args s (.returned v) u = true ∧ limb_1_2.after args s (.returned v) u = true ∧ True) → ReturnedEndW s (.returned v) u (Jvm.fieldLocs frame_1_writes args s ++ Jvm.arrayLocs frame_1_arrays args s ++ Jvm.staticLocs frame_1_statics s) 32 7680 → Post tb e args s (.returned v) u) :
    ArmFor flags0 classFile x code maxLocals ret World_1 tables_1 room_1 Calls_1 rest_1 Pre_1 Post := by
  intro l hfl _ _ p e ha hc hk s m args below hf hA hF happ hP
  obtain ⟨hcalls, hrest, hpre⟩ := hP
  obtain ⟨-, -, -, hnamed, -, -, -, hat⟩ := (Spec.applies_iff hf).mp happ
  obtain ⟨hg, hn⟩ := and_e (Cond.before_iff.mp (show (Jvm.Cond.and given_1 narrow_1).before args s = true from hpre))
  obtain ⟨g1, g2⟩ := and_e hg
  obtain ⟨g3, g4⟩ := and_e g2
  obtain ⟨g5, g6⟩ := and_e g4
  obtain ⟨g7, g8⟩ := and_e g6
  obtain ⟨g9, g10⟩ := and_e hn
  obtain ⟨g11, g12⟩ := and_e g10
  obtain ⟨g13, g14⟩ := and_e g12
  obtain ⟨g15, g16⟩ := and_e g14
  obtain ⟨w0, w1, w2, w3, rfl⟩ : ∃ w0 w1 w2 w3 : Value, args = #[w0, w1, w2, w3] := by
    have hs : args.size = 4 := by simpa [Cond.value, given_1] using g1
    obtain ⟨L⟩ := args
    match L, hs with
    | [w0, w1, w2, w3], _ => exact ⟨w0, w1, w2, w3, rfl⟩
  have hw := fun d (hd : d ∈ tables_1) => atoms_spec (ws := Jvm.Cond.code x code maxLocals ret :: tables_1) hat d (List.mem_cons_of_mem _ hd)
  have hfit : Fit s := fun {y c} hc i hi => by
    obtain ⟨ha, rfl⟩ := Array.getElem?_eq_some_iff.mp hc
    have q := List.all_eq_true.mp ((Array.all_eq_true_iff_forall_mem.mp hF) _ (Array.getElem_mem ha)) i (List.mem_range.mpr hi)
    simpa [Array.getElem?_eq_getElem hi] using q
  obtain ⟨hsets, hown0⟩ := atoms_of _ (rest_1_c_eq ▸ (show rest_1_c.before _ s = true from hrest))
  have hr0 := Cond.before_iff.mp hown0
  obtain ⟨i0, ei0⟩ := is_v g3
  obtain rfl : w0 = (.int i0) := Option.some.inj ei0
  obtain ⟨i1, ei1⟩ := is_v g5
  obtain rfl : w1 = (.int i1) := Option.some.inj ei1
  obtain ⟨i2, ei2⟩ := is_v g7
  obtain rfl : w2 = (.int i2) := Option.some.inj ei2
  obtain ⟨i3, ei3⟩ := is_v g8
  obtain rfl : w3 = (.int i3) := Option.some.inj ei3
  obtain ⟨w_DATA, ev_DATA⟩ := exa_v g9
  have E_w_DATA : Exa s s.heap w_DATA "com/example/rerouted/rerouted/engine/Rule" := Exa.start ev_DATA g9
  have S_w_DATA : Sta s s.heap "com/example/rerouted/rerouted/engine/Rule" "DATA" "Lcom/example/rerouted/rerouted/engine/Rule;" (.ref w_DATA) := Sta.start ev_DATA (Or.inr ⟨(hw _ (List.mem_of_getElem? (i := 6) rfl)), (hw _ (List.mem_of_getElem? (i := 7) rfl))⟩)
  obtain ⟨w_CHANGED, ev_CHANGED⟩ := exa_v g11
  have E_w_CHANGED : Exa s s.heap w_CHANGED "com/example/rerouted/rerouted/engine/Rule" := Exa.start ev_CHANGED g11
  have S_w_CHANGED : Sta s s.heap "com/example/rerouted/rerouted/engine/Rule" "CHANGED" "Lcom/example/rerouted/rerouted/engine/Rule;" (.ref w_CHANGED) := Sta.start ev_CHANGED (Or.inr ⟨(hw _ (List.mem_of_getElem? (i := 6) rfl)), (hw _ (List.mem_of_getElem? (i := 155) rfl))⟩)
  obtain ⟨w_STATE, ev_STATE⟩ := exa_v g13
  have E_w_STATE : Exa s s.heap w_STATE "com/example/rerouted/rerouted/engine/Rule" := Exa.start ev_STATE g13
  have S_w_STATE : Sta s s.heap "com/example/rerouted/rerouted/engine/Rule" "STATE" "Lcom/example/rerouted/rerouted/engine/Rule;" (.ref w_STATE) := Sta.start ev_STATE (Or.inr ⟨(hw _ (List.mem_of_getElem? (i := 6) rfl)), (hw _ (List.mem_of_getElem? (i := 157) rfl))⟩)
  obtain ⟨w_ORDER, ev_ORDER⟩ := exa_v g15
  have E_w_ORDER : Exa s s.heap w_ORDER "com/example/rerouted/rerouted/engine/Rule" := Exa.start ev_ORDER g15
  have S_w_ORDER : Sta s s.heap "com/example/rerouted/rerouted/engine/Rule" "ORDER" "Lcom/example/rerouted/rerouted/engine/Rule;" (.ref w_ORDER) := Sta.start ev_ORDER (Or.inr ⟨(hw _ (List.mem_of_getElem? (i := 6) rfl)), (hw _ (List.mem_of_getElem? (i := 159) rfl))⟩)
  obtain ⟨w_STRUCTURE, ev_STRUCTURE⟩ := exa_v g16
  have E_w_STRUCTURE : Exa s s.heap w_STRUCTURE "com/example/rerouted/rerouted/engine/Rule" := Exa.start ev_STRUCTURE g16
  have S_w_STRUCTURE : Sta s s.heap "com/example/rerouted/rerouted/engine/Rule" "STRUCTURE" "Lcom/example/rerouted/rerouted/engine/Rule;" (.ref w_STRUCTURE) := Sta.start ev_STRUCTURE (Or.inr ⟨(hw _ (List.mem_of_getElem? (i := 6) rfl)), (hw _ (List.mem_of_getElem? (i := 161) rfl))⟩)
  obtain ⟨cs, ev_cs⟩ := is_v (Cond.before_iff.mp (hsets _ (List.mem_of_getElem? (i := 1) rfl)))
  have SC : Sta s s.heap "java/lang/String" "COMPACT_STRINGS" "Z" (.int cs) := Sta.start ev_cs (Or.inl (hsets _ (List.mem_of_getElem? (i := 0) rfl)))
  have PC : ¬ (cs = (0 : Int32)) := own_neI (Cond.before_iff.mp (hsets _ (List.mem_of_getElem? (i := 2) rfl))) ev_cs
  obtain ⟨us, ev_us⟩ := own_arrRef (hsets _ (List.mem_of_getElem? (i := 17) rfl))
  have SU : Sta s s.heap "java/lang/Throwable" "UNASSIGNED_STACK" "[Ljava/lang/StackTraceElement;" (.ref us) := Sta.start ev_us (Or.inl (hsets _ (List.mem_of_getElem? (i := 15) rfl)))
  obtain ⟨ss, _, _, _, ev_ss, -⟩ := Cond.exactly_spec (hsets _ (List.mem_of_getElem? (i := 22) rfl))
  have SP : Sta s s.heap "java/lang/Throwable" "SUPPRESSED_SENTINEL" "Ljava/util/List;" (.ref ss) := Sta.start ev_ss (Or.inl (hsets _ (List.mem_of_getElem? (i := 20) rfl)))
  obtain ⟨n, o, h1, h2, h3, _, L, rfl, ⟨rfl, N⟩, hq⟩ := law l s _ hw tables_1 i0 i1 i2 i3 w_DATA w_CHANGED w_STATE w_ORDER w_STRUCTURE cs us ss s.heap s.heap.size (Nat.le_refl _) S_w_DATA S_w_CHANGED S_w_STATE S_w_ORDER S_w_STRUCTURE E_w_DATA E_w_CHANGED E_w_STATE E_w_ORDER E_w_STRUCTURE SC PC (by unfold Launch.stackTraces; rw [hfl]; decide) ThS.start SU SP p e ha hc hk s m _ below hf ((Spec.applies_iff_loose hf).mp happ).1 ⟨rfl, State.Warmed39.refl s, rfl⟩ ⟨hcalls.1, hcalls.2.1⟩
  refine ⟨n, _, h1, h2, h3, hpost _ _ _ _ _ _ ⟨Cond.after_iff.mpr rfl, Cond.after_iff.mpr (eq_i res_at (Term.int_eval (1)) rfl), trivial⟩ ⟨hq.1, hq.2.1, hq.2.2.1, (hq.2.2.2.sift fun y hy => Or.inr (N y hy)).mono (by decide) (by decide)⟩⟩
theorem main_1_1 : Claimed_1_1 := comes_1 fun _ _ _ _ _ _ h hF => ⟨h.1, hF⟩
theorem main_1_2 : Claimed_1_2 := comes_1 fun _ _ _ _ _ _ h hF => ⟨h.2.1, hF⟩
end Jvm.Pilot.@@N@@
namespace Jvm.Pilot.@@N@@
open Jvm Jvm.ClassFile Sem Op Lib Jvm.Free Jvm.Stand Jvm.Pilot.@@N@@.Jvm.D
/-! MADE BY PROGRAM (witnessworld.py) out of the Statement's table words and the real class files: 40 classes; the members and pool entries that the words name. The judged class is class 1, her method 2. -/
namespace start1
open Jvm.ClassFile
def u (s : String) : CpInfo := .utf8 (stringToUtf16 s)
/-- a pool by its gaps: so many unusable entries, then the entry; so many at the end -/
def gap : Nat → List CpInfo → List CpInfo
  | 0, r => r
  | n + 1, r => .unusable :: gap n r
def poolList (es : List (Nat × CpInfo)) (last : Nat) : List CpInfo := es.foldr (fun e r => gap e.1 (e.2 :: r)) (gap last [])
def pool (es : List (Nat × CpInfo)) (last : Nat) : Array CpInfo := ⟨poolList es last⟩
def fileOf (pool : Array CpInfo) (this : Nat) (attrs : Array Attribute := #[]) (ms : Array MethodInfo := #[]) (fl : Nat := 33) (sup : Nat := 0) (ifs : Array Nat := #[]) (fds : Array FieldInfo := #[]) : ClassFile where
  minorVersion := 0
  majorVersion := 65
  constantPool := pool
  accessFlags := fl
  thisClass := this
  superClass := sup
  interfaces := ifs
  fields := fds
  methods := ms
  attributes := attrs
def plain (name : String) (sup : Option ClassId) : Class where
  name := name
  kind := .ordinary
  loader := none
  accessFlags := 33
  super := sup
  interfaces := #[]
  cf := none
  fields := #[]
  methods := #[]
  instanceTypes := #[]
  staticTypes := #[]
  resolved := #[]
  callSites := []
  init := .initialized
  statics := none
  mirror := none

def pool0 : Array CpInfo := pool [(5, u "<init>"), (0, u "()V"), (1, .class_ 10), (1, u "java/lang/Object")] 113

def k0c0 : Code := { maxStack := 0, maxLocals := 1, code := object_method_1_code, exceptionTable := #[], attributes := #[] }
def k0m0 : Method := { name := "<init>", desc := "()V", sig := { parameters := [], returnType := none }, accessFlags := 1, code := some k0c0 }
/-- java/lang/Object -/
def k0 : Class := { plain "java/lang/Object" none with
  accessFlags := 33
  interfaces := #[]
  cf := some (fileOf pool0 8 #[] #[{ accessFlags := 1, nameIndex := 5, descriptorIndex := 6, attributes := #[] }] 33 0 #[] #[])
  fields := #[]
  methods := #[k0m0]
  instanceTypes := #[]
  staticTypes := #[]
  resolved := Array.replicate 124 none
  statics := none }

def pool1 : Array CpInfo := pool [(2, .class_ 4), (1, u "java/lang/Object"), (0, u "<init>"), (0, u "()V"), (0, .integer 2147483647), (0, .fieldref 9 10), (0, .class_ 11), (0, .nameAndType 12 13), (0, u "com/example/rerouted/rerouted/engine/Rule"), (0, u "STATE"), (0, u "Lcom/example/rerouted/rerouted/engine/Rule;"), (0, .fieldref 9 15), (0, .nameAndType 16 13), (0, u "ORDER"), (0, .fieldref 9 18), (0, .nameAndType 19 13), (0, u "STRUCTURE"), (0, .fieldref 9 21), (0, .nameAndType 22 13), (0, u "DATA"), (0, .fieldref 9 24), (0, .nameAndType 25 13), (0, u "CHANGED"), (0, .methodref 27 28), (0, .class_ 29), (0, .nameAndType 30 31), (0, u "com/example/rerouted/rerouted/engine/MigrationOutcomeIsMigratedPinLaw"), (0, u "pick"), (0, u "(I)Lcom/example/rerouted/rerouted/engine/Rule;"), (0, .class_ 33), (0, u "java/lang/String"), (0, .methodref 32 35), (0, .nameAndType 5 36), (0, u "([C)V"), (0, .class_ 38), (0, u "com/example/rerouted/rerouted/engine/MigrationOutcome"), (0, .methodref 37 40), (0, .nameAndType 5 41), (0, u "(I)V"), (0, .class_ 43), (0, u "com/example/rerouted/rerouted/engine/RejectedException"), (0, .methodref 42 45), (0, .nameAndType 5 46), (0, u "(Lcom/example/rerouted/rerouted/engine/Rule;Ljava/lang/String;)V"), (0, .methodref 37 48), (0, .nameAndType 5 49), (0, u "(ILcom/example/rerouted/rerouted/engine/RejectedException;)V"), (0, .methodref 37 51), (0, .nameAndType 52 53), (0, u "isMigrated"), (0, u "()Z"), (0, .methodref 37 55), (0, .nameAndType 56 57), (0, u "rule"), (0, u "()Lcom/example/rerouted/rerouted/engine/Rule;"), (0, .methodref 37 59), (0, .nameAndType 60 61), (0, u "instance"), (0, u "()I"), (3, u "law"), (0, u "(IIII)Z")] 4

def k1m0 : Method := { name := "<init>", desc := "()V", sig := { parameters := [], returnType := none }, accessFlags := 1, code := none }
def k1c1 : Code := { maxStack := 2, maxLocals := 2, code := method_2_code, exceptionTable := #[], attributes := #[] }
def k1m1 : Method := { name := "pick", desc := "(I)Lcom/example/rerouted/rerouted/engine/Rule;", sig := { parameters := [.int], returnType := some (.object "com/example/rerouted/rerouted/engine/Rule") }, accessFlags := 10, code := some k1c1 }
def k1c2 : Code := { maxStack := 4, maxLocals := 16, code := code, exceptionTable := #[], attributes := #[] }
def k1m2 : Method := { name := "law", desc := "(IIII)Z", sig := { parameters := [.int, .int, .int, .int], returnType := some .boolean }, accessFlags := 9, code := some k1c2 }
/-- com/example/rerouted/rerouted/engine/MigrationOutcomeIsMigratedPinLaw -/
def k1 : Class := { plain "com/example/rerouted/rerouted/engine/MigrationOutcomeIsMigratedPinLaw" (some 0) with
  accessFlags := 49
  interfaces := #[]
  cf := some (fileOf pool1 27 #[] #[{ accessFlags := 1, nameIndex := 5, descriptorIndex := 6, attributes := #[] }, { accessFlags := 10, nameIndex := 30, descriptorIndex := 31, attributes := #[] }, { accessFlags := 9, nameIndex := 65, descriptorIndex := 66, attributes := #[] }] 49 2 #[] #[])
  fields := #[]
  methods := #[k1m0, k1m1, k1m2]
  instanceTypes := #[]
  staticTypes := #[]
  resolved := Array.replicate 71 none
  statics := none }

def pool2 : Array CpInfo := pool [(1, .class_ 2), (0, u "java/lang/constant/Constable"), (0, .class_ 4), (0, u "java/lang/Object")] 6

/-- java/lang/constant/Constable -/
def k2 : Class := { plain "java/lang/constant/Constable" (some 0) with
  accessFlags := 1537
  interfaces := #[]
  cf := some (fileOf pool2 1 #[] #[] 1537 3 #[] #[])
  fields := #[]
  methods := #[]
  instanceTypes := #[]
  staticTypes := #[]
  resolved := Array.replicate 11 none
  statics := none }

def pool3 : Array CpInfo := pool [(1, .class_ 2), (0, u "java/lang/Comparable"), (0, .class_ 4), (0, u "java/lang/Object")] 7

/-- java/lang/Comparable -/
def k3 : Class := { plain "java/lang/Comparable" (some 0) with
  accessFlags := 1537
  interfaces := #[]
  cf := some (fileOf pool3 1 #[] #[] 1537 3 #[] #[])
  fields := #[]
  methods := #[]
  instanceTypes := #[]
  staticTypes := #[]
  resolved := Array.replicate 12 none
  statics := none }

def pool4 : Array CpInfo := pool [(1, .class_ 2), (0, u "java/io/Serializable"), (0, .class_ 4), (0, u "java/lang/Object")] 2

/-- java/io/Serializable -/
def k4 : Class := { plain "java/io/Serializable" (some 0) with
  accessFlags := 1537
  interfaces := #[]
  cf := some (fileOf pool4 1 #[] #[] 1537 3 #[] #[])
  fields := #[]
  methods := #[]
  instanceTypes := #[]
  staticTypes := #[]
  resolved := Array.replicate 7 none
  statics := none }

def pool5 : Array CpInfo := pool [(2, .class_ 4), (1, u "java/lang/Enum"), (0, u "name"), (0, u "Ljava/lang/String;"), (2, u "ordinal"), (0, u "I"), (1, .class_ 14), (1, u "java/lang/Object"), (4, u "hash"), (86, .class_ 108), (1, u "java/lang/Enum$EnumDesc"), (2, .class_ 112), (0, u "java/lang/constant/Constable"), (0, .class_ 114), (0, u "java/lang/Comparable"), (0, .class_ 116), (0, u "java/io/Serializable")] 87

/-- java/lang/Enum -/
def k5 : Class := { plain "java/lang/Enum" (some 0) with
  accessFlags := 1057
  interfaces := #[2, 3, 4]
  cf := some (fileOf pool5 2 #[.nestMembers #[106]] #[] 1057 12 #[111, 113, 115] #[{ accessFlags := 18, nameIndex := 5, descriptorIndex := 6, attributes := #[] }, { accessFlags := 18, nameIndex := 9, descriptorIndex := 10, attributes := #[] }, { accessFlags := 2, nameIndex := 19, descriptorIndex := 10, attributes := #[] }])
  fields := #[{ name := "name", type := (.object "java/lang/String"), accessFlags := 18, slot := 0, constantValue := 0 }, { name := "ordinal", type := .int, accessFlags := 18, slot := 1, constantValue := 0 }, { name := "hash", type := .int, accessFlags := 2, slot := 2, constantValue := 0 }]
  methods := #[]
  instanceTypes := #[(.object "java/lang/String"), .int, .int]
  staticTypes := #[]
  resolved := Array.replicate 204 none
  statics := none }

def pool6 : Array CpInfo := pool [(1, .class_ 2), (0, u "com/example/rerouted/rerouted/engine/Rule"), (2, u "STATE"), (0, u "Lcom/example/rerouted/rerouted/engine/Rule;"), (2, u "ORDER"), (2, u "STRUCTURE"), (2, u "DATA"), (2, u "CHANGED"), (2, u "$VALUES"), (0, u "[Lcom/example/rerouted/rerouted/engine/Rule;"), (6, .class_ 31), (1, u "java/lang/Enum")] 44

/-- com/example/rerouted/rerouted/engine/Rule -/
def k6 : Class := { plain "com/example/rerouted/rerouted/engine/Rule" (some 5) with
  accessFlags := 16433
  interfaces := #[]
  cf := some (fileOf pool6 1 #[] #[] 16433 29 #[] #[{ accessFlags := 16409, nameIndex := 5, descriptorIndex := 6, attributes := #[] }, { accessFlags := 16409, nameIndex := 9, descriptorIndex := 6, attributes := #[] }, { accessFlags := 16409, nameIndex := 12, descriptorIndex := 6, attributes := #[] }, { accessFlags := 16409, nameIndex := 15, descriptorIndex := 6, attributes := #[] }, { accessFlags := 16409, nameIndex := 18, descriptorIndex := 6, attributes := #[] }, { accessFlags := 4122, nameIndex := 21, descriptorIndex := 22, attributes := #[] }])
  fields := #[{ name := "STATE", type := (.object "com/example/rerouted/rerouted/engine/Rule"), accessFlags := 16409, slot := 0, constantValue := 0 }, { name := "ORDER", type := (.object "com/example/rerouted/rerouted/engine/Rule"), accessFlags := 16409, slot := 1, constantValue := 0 }, { name := "STRUCTURE", type := (.object "com/example/rerouted/rerouted/engine/Rule"), accessFlags := 16409, slot := 2, constantValue := 0 }, { name := "DATA", type := (.object "com/example/rerouted/rerouted/engine/Rule"), accessFlags := 16409, slot := 3, constantValue := 0 }, { name := "CHANGED", type := (.object "com/example/rerouted/rerouted/engine/Rule"), accessFlags := 16409, slot := 4, constantValue := 0 }, { name := "$VALUES", type := (.array (.object "com/example/rerouted/rerouted/engine/Rule")), accessFlags := 4122, slot := 5, constantValue := 0 }]
  methods := #[]
  instanceTypes := #[(.object "java/lang/String"), .int, .int]
  staticTypes := #[(.object "com/example/rerouted/rerouted/engine/Rule"), (.object "com/example/rerouted/rerouted/engine/Rule"), (.object "com/example/rerouted/rerouted/engine/Rule"), (.object "com/example/rerouted/rerouted/engine/Rule"), (.object "com/example/rerouted/rerouted/engine/Rule"), (.array (.object "com/example/rerouted/rerouted/engine/Rule"))]
  resolved := Array.replicate 76 none
  statics := some 0 }

def pool7 : Array CpInfo := pool [(2, .class_ 4), (1, u "java/lang/CharSequence"), (42, .class_ 48), (0, u "java/lang/CharSequence$1CodePointIterator"), (10, .class_ 60), (0, u "java/lang/CharSequence$1CharIterator"), (5, .class_ 67), (0, u "java/lang/Object")] 63

/-- java/lang/CharSequence -/
def k7 : Class := { plain "java/lang/CharSequence" (some 0) with
  accessFlags := 1537
  interfaces := #[]
  cf := some (fileOf pool7 2 #[.nestMembers #[47, 59]] #[] 1537 66 #[] #[])
  fields := #[]
  methods := #[]
  instanceTypes := #[]
  staticTypes := #[]
  resolved := Array.replicate 131 none
  statics := none }

def pool8 : Array CpInfo := pool [(1, .class_ 2), (0, u "java/lang/constant/ConstantDesc"), (0, .class_ 4), (0, u "java/lang/Object")] 32

/-- java/lang/constant/ConstantDesc -/
def k8 : Class := { plain "java/lang/constant/ConstantDesc" (some 0) with
  accessFlags := 1537
  interfaces := #[]
  cf := some (fileOf pool8 1 #[] #[] 1537 3 #[] #[])
  fields := #[]
  methods := #[]
  instanceTypes := #[]
  staticTypes := #[]
  resolved := Array.replicate 37 none
  statics := none }

def pool9 : Array CpInfo := pool [(1, .methodref 2 3), (0, .class_ 4), (0, .nameAndType 5 6), (0, u "java/lang/Object"), (0, u "<init>"), (0, u "()V"), (2, .fieldref 10 11), (0, .class_ 12), (0, .nameAndType 13 14), (0, u "java/lang/String"), (0, u "value"), (0, u "[B"), (0, .fieldref 10 16), (0, .nameAndType 17 18), (0, u "coder"), (0, u "B"), (2, u "hash"), (0, u "I"), (2, u "hashIsZero"), (0, u "Z"), (0, .methodref 10 28), (0, .nameAndType 5 29), (0, u "([CIILjava/lang/Void;)V"), (8, .fieldref 10 39), (0, .nameAndType 40 26), (0, u "COMPACT_STRINGS"), (1, .class_ 44), (1, u "java/lang/StringUTF16"), (0, u "compress"), (1, .methodref 42 48), (0, .nameAndType 49 50), (0, u "coderFromArrayLen"), (0, u "([BI)B"), (126, .methodref 42 178), (0, .nameAndType 45 179), (0, u "([CII)[B"), (395, .class_ 576), (0, u "java/lang/CharSequence"), (22, u "CASE_INSENSITIVE_ORDER"), (0, u "Ljava/util/Comparator;"), (409, u "([C)V"), (90, u "serialPersistentFields"), (0, u "[Ljava/io/ObjectStreamField;"), (0, .class_ 1104), (0, u "java/lang/String$CaseInsensitiveComparator"), (1, .class_ 1107), (0, u "java/io/Serializable"), (0, .class_ 1109), (0, u "java/lang/Comparable"), (0, .class_ 1111), (0, u "java/lang/constant/Constable"), (0, .class_ 1113), (0, u "java/lang/constant/ConstantDesc"), (2, u "serialVersionUID"), (0, u "J"), (3, u "REPL"), (0, u "C"), (2, u "LATIN1"), (1, u "UTF16")] 323

def k9m0 : Method := { name := "<init>", desc := "()V", sig := { parameters := [], returnType := none }, accessFlags := 1, code := none }
def k9c1 : Code := { maxStack := 5, maxLocals := 2, code := jdk_42_method_3_code, exceptionTable := #[], attributes := #[] }
def k9m1 : Method := { name := "<init>", desc := "([C)V", sig := { parameters := [(.array .char)], returnType := none }, accessFlags := 1, code := some k9c1 }
def k9c2 : Code := { maxStack := 4, maxLocals := 6, code := jdk_42_method_149_code, exceptionTable := #[], attributes := #[] }
def k9m2 : Method := { name := "<init>", desc := "([CIILjava/lang/Void;)V", sig := { parameters := [(.array .char), .int, .int, (.object "java/lang/Void")], returnType := none }, accessFlags := 2, code := some k9c2 }
/-- java/lang/String -/
def k9 : Class := { plain "java/lang/String" (some 0) with
  accessFlags := 49
  interfaces := #[4, 3, 7, 2, 8]
  cf := some (fileOf pool9 10 #[.nestMembers #[1103]] #[{ accessFlags := 1, nameIndex := 5, descriptorIndex := 6, attributes := #[] }, { accessFlags := 1, nameIndex := 5, descriptorIndex := 1010, attributes := #[] }, { accessFlags := 2, nameIndex := 5, descriptorIndex := 29, attributes := #[] }] 49 2 #[1106, 1108, 575, 1110, 1112] #[{ accessFlags := 18, nameIndex := 13, descriptorIndex := 14, attributes := #[] }, { accessFlags := 18, nameIndex := 17, descriptorIndex := 18, attributes := #[] }, { accessFlags := 2, nameIndex := 21, descriptorIndex := 22, attributes := #[] }, { accessFlags := 2, nameIndex := 25, descriptorIndex := 26, attributes := #[] }, { accessFlags := 26, nameIndex := 1116, descriptorIndex := 1117, attributes := #[] }, { accessFlags := 24, nameIndex := 40, descriptorIndex := 26, attributes := #[] }, { accessFlags := 26, nameIndex := 1101, descriptorIndex := 1102, attributes := #[] }, { accessFlags := 26, nameIndex := 1121, descriptorIndex := 1122, attributes := #[] }, { accessFlags := 25, nameIndex := 599, descriptorIndex := 600, attributes := #[] }, { accessFlags := 24, nameIndex := 1125, descriptorIndex := 18, attributes := #[] }, { accessFlags := 24, nameIndex := 1127, descriptorIndex := 18, attributes := #[] }])
  fields := #[{ name := "value", type := (.array .byte), accessFlags := 18, slot := 0, constantValue := 0 }, { name := "coder", type := .byte, accessFlags := 18, slot := 1, constantValue := 0 }, { name := "hash", type := .int, accessFlags := 2, slot := 2, constantValue := 0 }, { name := "hashIsZero", type := .boolean, accessFlags := 2, slot := 3, constantValue := 0 }, { name := "serialVersionUID", type := .long, accessFlags := 26, slot := 0, constantValue := 0 }, { name := "COMPACT_STRINGS", type := .boolean, accessFlags := 24, slot := 1, constantValue := 0 }, { name := "serialPersistentFields", type := (.array (.object "java/io/ObjectStreamField")), accessFlags := 26, slot := 2, constantValue := 0 }, { name := "REPL", type := .char, accessFlags := 26, slot := 3, constantValue := 0 }, { name := "CASE_INSENSITIVE_ORDER", type := (.object "java/util/Comparator"), accessFlags := 25, slot := 4, constantValue := 0 }, { name := "LATIN1", type := .byte, accessFlags := 24, slot := 5, constantValue := 0 }, { name := "UTF16", type := .byte, accessFlags := 24, slot := 6, constantValue := 0 }]
  methods := #[k9m0, k9m1, k9m2]
  instanceTypes := #[(.array .byte), .byte, .int, .boolean]
  staticTypes := #[.long, .boolean, (.array (.object "java/io/ObjectStreamField")), .char, (.object "java/util/Comparator"), .byte, .byte]
  resolved := Array.replicate 1451 none
  statics := some 1 }

def pool10 : Array CpInfo := pool [(6, .class_ 8), (1, u "java/lang/Object"), (0, u "<init>"), (0, u "()V"), (1, .class_ 14), (1, u "java/lang/StringUTF16"), (31, u "$assertionsDisabled"), (0, u "Z"), (13, u "HI_BYTE_SHIFT"), (0, u "I"), (2, u "LO_BYTE_SHIFT"), (49, .methodref 12 116), (0, .nameAndType 117 118), (0, u "compress"), (0, u "([CI[BII)I"), (3, u "([CII)[B"), (138, u "coderFromArrayLen"), (0, u "([BI)B"), (106, .class_ 371), (1, u "java/lang/StringUTF16$LinesSpliterator"), (58, u "MAX_LENGTH"), (196, .class_ 628), (0, u "java/lang/StringUTF16$CodePointsSpliterator"), (0, .class_ 630), (0, u "java/lang/StringUTF16$CharsSpliterator")] 4

def k10m0 : Method := { name := "<init>", desc := "()V", sig := { parameters := [], returnType := none }, accessFlags := 0, code := none }
def k10c1 : Code := { maxStack := 2, maxLocals := 2, code := jdk_52_method_15_code, exceptionTable := #[], attributes := #[] }
def k10m1 : Method := { name := "coderFromArrayLen", desc := "([BI)B", sig := { parameters := [(.array .byte), .int], returnType := some .byte }, accessFlags := 8, code := some k10c1 }
def k10c2 : Code := { maxStack := 5, maxLocals := 6, code := jdk_52_method_16_code, exceptionTable := #[], attributes := #[] }
def k10m2 : Method := { name := "compress", desc := "([CII)[B", sig := { parameters := [(.array .char), .int, .int], returnType := some (.array .byte) }, accessFlags := 9, code := some k10c2 }
def k10c3 : Code := { maxStack := 3, maxLocals := 7, code := jdk_52_method_21_code, exceptionTable := #[], attributes := #[] }
def k10m3 : Method := { name := "compress", desc := "([CI[BII)I", sig := { parameters := [(.array .char), .int, (.array .byte), .int, .int], returnType := some .int }, accessFlags := 9, code := some k10c3 }
/-- java/lang/StringUTF16 -/
def k10 : Class := { plain "java/lang/StringUTF16" (some 0) with
  accessFlags := 48
  interfaces := #[]
  cf := some (fileOf pool10 12 #[.nestMembers #[627, 629, 369]] #[{ accessFlags := 0, nameIndex := 9, descriptorIndex := 10, attributes := #[] }, { accessFlags := 8, nameIndex := 261, descriptorIndex := 262, attributes := #[] }, { accessFlags := 9, nameIndex := 117, descriptorIndex := 122, attributes := #[] }, { accessFlags := 9, nameIndex := 117, descriptorIndex := 118, attributes := #[] }] 48 6 #[] #[{ accessFlags := 26, nameIndex := 61, descriptorIndex := 62, attributes := #[] }, { accessFlags := 26, nameIndex := 65, descriptorIndex := 62, attributes := #[] }, { accessFlags := 24, nameIndex := 430, descriptorIndex := 62, attributes := #[] }, { accessFlags := 4120, nameIndex := 46, descriptorIndex := 47, attributes := #[] }])
  fields := #[{ name := "HI_BYTE_SHIFT", type := .int, accessFlags := 26, slot := 0, constantValue := 0 }, { name := "LO_BYTE_SHIFT", type := .int, accessFlags := 26, slot := 1, constantValue := 0 }, { name := "MAX_LENGTH", type := .int, accessFlags := 24, slot := 2, constantValue := 0 }, { name := "$assertionsDisabled", type := .boolean, accessFlags := 4120, slot := 3, constantValue := 0 }]
  methods := #[k10m0, k10m1, k10m2, k10m3]
  instanceTypes := #[]
  staticTypes := #[.int, .int, .int, .boolean]
  resolved := Array.replicate 635 none
  statics := none }

def pool11 : Array CpInfo := pool [(1, .methodref 2 3), (0, .class_ 4), (0, .nameAndType 5 6), (0, u "java/lang/Object"), (0, u "<init>"), (0, u "()V"), (0, .fieldref 8 9), (0, .class_ 10), (0, .nameAndType 11 12), (0, u "com/example/rerouted/rerouted/engine/MigrationOutcome"), (0, u "instance"), (0, u "I"), (0, .fieldref 8 14), (0, .nameAndType 15 16), (0, u "rule"), (0, u "Lcom/example/rerouted/rerouted/engine/Rule;"), (0, .fieldref 8 18), (0, .nameAndType 19 20), (0, u "reason"), (0, u "Ljava/lang/String;"), (0, .methodref 22 23), (0, .class_ 24), (0, .nameAndType 15 25), (0, u "com/example/rerouted/rerouted/engine/RejectedException"), (0, u "()Lcom/example/rerouted/rerouted/engine/Rule;"), (0, .methodref 22 27), (0, .nameAndType 28 29), (0, u "getMessage"), (0, u "()Ljava/lang/String;"), (0, .string 19), (0, .methodref 32 33), (0, .class_ 34), (0, .nameAndType 35 36), (0, u "java/util/Objects"), (0, u "requireNonNull"), (0, u "(Ljava/lang/Object;Ljava/lang/String;)Ljava/lang/Object;"), (0, .class_ 38), (0, u "java/lang/String"), (0, u "(I)V"), (2, u "(ILcom/example/rerouted/rerouted/engine/RejectedException;)V"), (0, u "()I"), (0, u "isMigrated"), (0, u "()Z")] 3

def k11c0 : Code := { maxStack := 2, maxLocals := 2, code := prog_29_method_1_code, exceptionTable := #[], attributes := #[] }
def k11m0 : Method := { name := "<init>", desc := "(I)V", sig := { parameters := [.int], returnType := none }, accessFlags := 0, code := some k11c0 }
def k11c1 : Code := { maxStack := 3, maxLocals := 3, code := prog_29_method_2_code, exceptionTable := #[], attributes := #[] }
def k11m1 : Method := { name := "<init>", desc := "(ILcom/example/rerouted/rerouted/engine/RejectedException;)V", sig := { parameters := [.int, (.object "com/example/rerouted/rerouted/engine/RejectedException")], returnType := none }, accessFlags := 0, code := some k11c1 }
def k11c2 : Code := { maxStack := 1, maxLocals := 1, code := prog_29_method_3_code, exceptionTable := #[], attributes := #[] }
def k11m2 : Method := { name := "instance", desc := "()I", sig := { parameters := [], returnType := some .int }, accessFlags := 1, code := some k11c2 }
def k11c3 : Code := { maxStack := 1, maxLocals := 1, code := prog_29_method_4_code, exceptionTable := #[], attributes := #[] }
def k11m3 : Method := { name := "isMigrated", desc := "()Z", sig := { parameters := [], returnType := some .boolean }, accessFlags := 1, code := some k11c3 }
def k11c4 : Code := { maxStack := 1, maxLocals := 1, code := prog_29_method_5_code, exceptionTable := #[], attributes := #[] }
def k11m4 : Method := { name := "rule", desc := "()Lcom/example/rerouted/rerouted/engine/Rule;", sig := { parameters := [], returnType := some (.object "com/example/rerouted/rerouted/engine/Rule") }, accessFlags := 1, code := some k11c4 }
/-- com/example/rerouted/rerouted/engine/MigrationOutcome -/
def k11 : Class := { plain "com/example/rerouted/rerouted/engine/MigrationOutcome" (some 0) with
  accessFlags := 33
  interfaces := #[]
  cf := some (fileOf pool11 8 #[] #[{ accessFlags := 0, nameIndex := 5, descriptorIndex := 39, attributes := #[] }, { accessFlags := 0, nameIndex := 5, descriptorIndex := 42, attributes := #[] }, { accessFlags := 1, nameIndex := 11, descriptorIndex := 43, attributes := #[] }, { accessFlags := 1, nameIndex := 44, descriptorIndex := 45, attributes := #[] }, { accessFlags := 1, nameIndex := 15, descriptorIndex := 25, attributes := #[] }] 33 2 #[] #[{ accessFlags := 18, nameIndex := 11, descriptorIndex := 12, attributes := #[] }, { accessFlags := 18, nameIndex := 15, descriptorIndex := 16, attributes := #[] }, { accessFlags := 18, nameIndex := 19, descriptorIndex := 20, attributes := #[] }])
  fields := #[{ name := "instance", type := .int, accessFlags := 18, slot := 0, constantValue := 0 }, { name := "rule", type := (.object "com/example/rerouted/rerouted/engine/Rule"), accessFlags := 18, slot := 1, constantValue := 0 }, { name := "reason", type := (.object "java/lang/String"), accessFlags := 18, slot := 2, constantValue := 0 }]
  methods := #[k11m0, k11m1, k11m2, k11m3, k11m4]
  instanceTypes := #[.int, (.object "com/example/rerouted/rerouted/engine/Rule"), (.object "java/lang/String")]
  staticTypes := #[]
  resolved := Array.replicate 49 none
  statics := none }

def pool12 : Array CpInfo := pool [(1, .methodref 2 3), (0, .class_ 4), (0, .nameAndType 5 6), (0, u "java/lang/Object"), (0, u "<init>"), (0, u "()V"), (0, .fieldref 8 9), (0, .class_ 10), (0, .nameAndType 11 12), (0, u "java/lang/Throwable"), (0, u "cause"), (0, u "Ljava/lang/Throwable;"), (0, .fieldref 8 14), (0, .nameAndType 15 16), (0, u "UNASSIGNED_STACK"), (0, u "[Ljava/lang/StackTraceElement;"), (0, .fieldref 8 18), (0, .nameAndType 19 16), (0, u "stackTrace"), (0, .fieldref 8 21), (0, .nameAndType 22 23), (0, u "SUPPRESSED_SENTINEL"), (0, u "Ljava/util/List;"), (0, .fieldref 8 25), (0, .nameAndType 26 23), (0, u "suppressedExceptions"), (0, .methodref 8 28), (0, .nameAndType 29 30), (0, u "fillInStackTrace"), (0, u "()Ljava/lang/Throwable;"), (0, .fieldref 8 32), (0, .nameAndType 33 34), (0, u "detailMessage"), (0, u "Ljava/lang/String;"), (3, u "()Ljava/lang/String;"), (2, u "getMessage"), (51, .class_ 94), (0, u "java/lang/Throwable$WrappedPrintStream"), (6, .class_ 103), (1, u "java/lang/Throwable$PrintStreamOrWriter"), (61, u "$assertionsDisabled"), (0, u "Z"), (26, .class_ 194), (0, u "java/lang/Throwable$WrappedPrintWriter"), (3, .fieldref 8 199), (0, .nameAndType 200 201), (0, u "backtrace"), (0, u "Ljava/lang/Object;"), (0, .methodref 8 203), (0, .nameAndType 29 204), (0, u "(I)Ljava/lang/Throwable;"), (6, u "depth"), (0, u "I"), (10, u "(Ljava/lang/String;)V"), (45, .class_ 271), (1, u "java/lang/Throwable$SentinelHolder"), (32, u "EMPTY_THROWABLE_ARRAY"), (0, u "[Ljava/lang/Throwable;"), (12, .class_ 319), (0, u "java/io/Serializable"), (0, u "serialVersionUID"), (0, u "J"), (5, u "NULL_CAUSE_MESSAGE"), (0, u "SELF_SUPPRESSION_MESSAGE"), (0, u "CAUSE_CAPTION"), (0, u "SUPPRESSED_CAPTION")] 73

def k12c0 : Code := { maxStack := 2, maxLocals := 1, code := jdk_78_method_1_code, exceptionTable := #[], attributes := #[] }
def k12m0 : Method := { name := "<init>", desc := "()V", sig := { parameters := [], returnType := none }, accessFlags := 1, code := some k12c0 }
def k12c1 : Code := { maxStack := 2, maxLocals := 2, code := jdk_78_method_2_code, exceptionTable := #[], attributes := #[] }
def k12m1 : Method := { name := "<init>", desc := "(Ljava/lang/String;)V", sig := { parameters := [(.object "java/lang/String")], returnType := none }, accessFlags := 1, code := some k12c1 }
def k12c2 : Code := { maxStack := 1, maxLocals := 1, code := jdk_78_method_6_code, exceptionTable := #[], attributes := #[] }
def k12m2 : Method := { name := "getMessage", desc := "()Ljava/lang/String;", sig := { parameters := [], returnType := some (.object "java/lang/String") }, accessFlags := 1, code := some k12c2 }
def k12c3 : Code := { maxStack := 2, maxLocals := 1, code := ⟨#[0x2a, 0xb4, 0x00, 0x11, 0xc7, 0x00, 0x0a, 0x2a, 0xb4, 0x00, 0xc6, 0xc6, 0x00, 0x10, 0x2a, 0x03, 0xb6, 0x00, 0xca, 0x57, 0x2a, 0xb2, 0x00, 0x0d, 0xb5, 0x00, 0x11, 0x2a, 0xb0]⟩, exceptionTable := #[], attributes := #[] }
def k12m3 : Method := { name := "fillInStackTrace", desc := "()Ljava/lang/Throwable;", sig := { parameters := [], returnType := some (.object "java/lang/Throwable") }, accessFlags := 33, code := some k12c3 }
def k12m4 : Method := { name := "fillInStackTrace", desc := "(I)Ljava/lang/Throwable;", sig := { parameters := [.int], returnType := some (.object "java/lang/Throwable") }, accessFlags := 258, code := none }
/-- java/lang/Throwable -/
def k12 : Class := { plain "java/lang/Throwable" (some 0) with
  accessFlags := 33
  interfaces := #[4]
  cf := some (fileOf pool12 8 #[.nestMembers #[193, 93, 101, 269]] #[{ accessFlags := 1, nameIndex := 5, descriptorIndex := 6, attributes := #[] }, { accessFlags := 1, nameIndex := 5, descriptorIndex := 223, attributes := #[] }, { accessFlags := 1, nameIndex := 41, descriptorIndex := 38, attributes := #[] }, { accessFlags := 33, nameIndex := 29, descriptorIndex := 30, attributes := #[] }, { accessFlags := 258, nameIndex := 29, descriptorIndex := 204, attributes := #[] }] 33 2 #[318] #[{ accessFlags := 26, nameIndex := 320, descriptorIndex := 321, attributes := #[] }, { accessFlags := 130, nameIndex := 200, descriptorIndex := 201, attributes := #[] }, { accessFlags := 2, nameIndex := 33, descriptorIndex := 34, attributes := #[] }, { accessFlags := 26, nameIndex := 15, descriptorIndex := 16, attributes := #[] }, { accessFlags := 2, nameIndex := 11, descriptorIndex := 12, attributes := #[] }, { accessFlags := 2, nameIndex := 19, descriptorIndex := 16, attributes := #[] }, { accessFlags := 130, nameIndex := 211, descriptorIndex := 212, attributes := #[] }, { accessFlags := 26, nameIndex := 22, descriptorIndex := 23, attributes := #[] }, { accessFlags := 2, nameIndex := 26, descriptorIndex := 23, attributes := #[] }, { accessFlags := 26, nameIndex := 327, descriptorIndex := 34, attributes := #[] }, { accessFlags := 26, nameIndex := 328, descriptorIndex := 34, attributes := #[] }, { accessFlags := 26, nameIndex := 329, descriptorIndex := 34, attributes := #[] }, { accessFlags := 26, nameIndex := 330, descriptorIndex := 34, attributes := #[] }, { accessFlags := 26, nameIndex := 304, descriptorIndex := 305, attributes := #[] }, { accessFlags := 4120, nameIndex := 165, descriptorIndex := 166, attributes := #[] }])
  fields := #[{ name := "serialVersionUID", type := .long, accessFlags := 26, slot := 0, constantValue := 0 }, { name := "backtrace", type := (.object "java/lang/Object"), accessFlags := 130, slot := 0, constantValue := 0 }, { name := "detailMessage", type := (.object "java/lang/String"), accessFlags := 2, slot := 1, constantValue := 0 }, { name := "UNASSIGNED_STACK", type := (.array (.object "java/lang/StackTraceElement")), accessFlags := 26, slot := 1, constantValue := 0 }, { name := "cause", type := (.object "java/lang/Throwable"), accessFlags := 2, slot := 2, constantValue := 0 }, { name := "stackTrace", type := (.array (.object "java/lang/StackTraceElement")), accessFlags := 2, slot := 3, constantValue := 0 }, { name := "depth", type := .int, accessFlags := 130, slot := 4, constantValue := 0 }, { name := "SUPPRESSED_SENTINEL", type := (.object "java/util/List"), accessFlags := 26, slot := 2, constantValue := 0 }, { name := "suppressedExceptions", type := (.object "java/util/List"), accessFlags := 2, slot := 5, constantValue := 0 }, { name := "NULL_CAUSE_MESSAGE", type := (.object "java/lang/String"), accessFlags := 26, slot := 3, constantValue := 0 }, { name := "SELF_SUPPRESSION_MESSAGE", type := (.object "java/lang/String"), accessFlags := 26, slot := 4, constantValue := 0 }, { name := "CAUSE_CAPTION", type := (.object "java/lang/String"), accessFlags := 26, slot := 5, constantValue := 0 }, { name := "SUPPRESSED_CAPTION", type := (.object "java/lang/String"), accessFlags := 26, slot := 6, constantValue := 0 }, { name := "EMPTY_THROWABLE_ARRAY", type := (.array (.object "java/lang/Throwable")), accessFlags := 26, slot := 7, constantValue := 0 }, { name := "$assertionsDisabled", type := .boolean, accessFlags := 4120, slot := 8, constantValue := 0 }]
  methods := #[k12m0, k12m1, k12m2, k12m3, k12m4]
  instanceTypes := #[(.object "java/lang/Object"), (.object "java/lang/String"), (.object "java/lang/Throwable"), (.array (.object "java/lang/StackTraceElement")), .int, (.object "java/util/List")]
  staticTypes := #[.long, (.array (.object "java/lang/StackTraceElement")), (.object "java/util/List"), (.object "java/lang/String"), (.object "java/lang/String"), (.object "java/lang/String"), (.object "java/lang/String"), (.array (.object "java/lang/Throwable")), .boolean]
  resolved := Array.replicate 404 none
  statics := some 2 }

def pool13 : Array CpInfo := pool [(2, .class_ 4), (1, u "java/lang/Throwable"), (0, u "<init>"), (0, u "()V"), (0, .methodref 2 8), (0, .nameAndType 5 9), (0, u "(Ljava/lang/String;)V"), (9, .class_ 20), (0, u "java/lang/Exception"), (0, u "serialVersionUID"), (0, u "J")] 17

def k13m0 : Method := { name := "<init>", desc := "()V", sig := { parameters := [], returnType := none }, accessFlags := 1, code := none }
def k13c1 : Code := { maxStack := 2, maxLocals := 2, code := jdk_59_method_2_code, exceptionTable := #[], attributes := #[] }
def k13m1 : Method := { name := "<init>", desc := "(Ljava/lang/String;)V", sig := { parameters := [(.object "java/lang/String")], returnType := none }, accessFlags := 1, code := some k13c1 }
/-- java/lang/Exception -/
def k13 : Class := { plain "java/lang/Exception" (some 12) with
  accessFlags := 33
  interfaces := #[]
  cf := some (fileOf pool13 19 #[] #[{ accessFlags := 1, nameIndex := 5, descriptorIndex := 6, attributes := #[] }, { accessFlags := 1, nameIndex := 5, descriptorIndex := 9, attributes := #[] }] 33 2 #[] #[{ accessFlags := 24, nameIndex := 21, descriptorIndex := 22, attributes := #[] }])
  fields := #[{ name := "serialVersionUID", type := .long, accessFlags := 24, slot := 0, constantValue := 0 }]
  methods := #[k13m0, k13m1]
  instanceTypes := #[(.object "java/lang/Object"), (.object "java/lang/String"), (.object "java/lang/Throwable"), (.array (.object "java/lang/StackTraceElement")), .int, (.object "java/util/List")]
  staticTypes := #[.long]
  resolved := Array.replicate 40 none
  statics := none }

def pool14 : Array CpInfo := pool [(2, .class_ 4), (1, u "java/lang/Exception"), (0, u "<init>"), (0, u "()V"), (0, .methodref 2 8), (0, .nameAndType 5 9), (0, u "(Ljava/lang/String;)V"), (9, .class_ 20), (0, u "java/lang/RuntimeException"), (0, u "serialVersionUID"), (0, u "J")] 17

def k14m0 : Method := { name := "<init>", desc := "()V", sig := { parameters := [], returnType := none }, accessFlags := 1, code := none }
def k14c1 : Code := { maxStack := 2, maxLocals := 2, code := jdk_58_method_2_code, exceptionTable := #[], attributes := #[] }
def k14m1 : Method := { name := "<init>", desc := "(Ljava/lang/String;)V", sig := { parameters := [(.object "java/lang/String")], returnType := none }, accessFlags := 1, code := some k14c1 }
/-- java/lang/RuntimeException -/
def k14 : Class := { plain "java/lang/RuntimeException" (some 13) with
  accessFlags := 33
  interfaces := #[]
  cf := some (fileOf pool14 19 #[] #[{ accessFlags := 1, nameIndex := 5, descriptorIndex := 6, attributes := #[] }, { accessFlags := 1, nameIndex := 5, descriptorIndex := 9, attributes := #[] }] 33 2 #[] #[{ accessFlags := 24, nameIndex := 21, descriptorIndex := 22, attributes := #[] }])
  fields := #[{ name := "serialVersionUID", type := .long, accessFlags := 24, slot := 0, constantValue := 0 }]
  methods := #[k14m0, k14m1]
  instanceTypes := #[(.object "java/lang/Object"), (.object "java/lang/String"), (.object "java/lang/Throwable"), (.array (.object "java/lang/StackTraceElement")), .int, (.object "java/util/List")]
  staticTypes := #[.long]
  resolved := Array.replicate 40 none
  statics := none }

def pool15 : Array CpInfo := pool [(1, .methodref 2 3), (0, .class_ 4), (0, .nameAndType 5 6), (0, u "java/lang/RuntimeException"), (0, u "<init>"), (0, u "(Ljava/lang/String;)V"), (0, .string 8), (0, u "rule"), (0, .methodref 10 11), (0, .class_ 12), (0, .nameAndType 13 14), (0, u "java/util/Objects"), (0, u "requireNonNull"), (0, u "(Ljava/lang/Object;Ljava/lang/String;)Ljava/lang/Object;"), (0, .class_ 16), (0, u "com/example/rerouted/rerouted/engine/Rule"), (0, .fieldref 18 19), (0, .class_ 20), (0, .nameAndType 8 21), (0, u "com/example/rerouted/rerouted/engine/RejectedException"), (0, u "Lcom/example/rerouted/rerouted/engine/Rule;"), (0, u "serialVersionUID"), (0, u "J"), (3, u "(Lcom/example/rerouted/rerouted/engine/Rule;Ljava/lang/String;)V"), (2, u "()Lcom/example/rerouted/rerouted/engine/Rule;")] 2

def k15c0 : Code := { maxStack := 3, maxLocals := 3, code := prog_35_method_1_code, exceptionTable := #[], attributes := #[] }
def k15m0 : Method := { name := "<init>", desc := "(Lcom/example/rerouted/rerouted/engine/Rule;Ljava/lang/String;)V", sig := { parameters := [(.object "com/example/rerouted/rerouted/engine/Rule"), (.object "java/lang/String")], returnType := none }, accessFlags := 1, code := some k15c0 }
def k15c1 : Code := { maxStack := 1, maxLocals := 1, code := prog_35_method_2_code, exceptionTable := #[], attributes := #[] }
def k15m1 : Method := { name := "rule", desc := "()Lcom/example/rerouted/rerouted/engine/Rule;", sig := { parameters := [], returnType := some (.object "com/example/rerouted/rerouted/engine/Rule") }, accessFlags := 1, code := some k15c1 }
/-- com/example/rerouted/rerouted/engine/RejectedException -/
def k15 : Class := { plain "com/example/rerouted/rerouted/engine/RejectedException" (some 14) with
  accessFlags := 33
  interfaces := #[]
  cf := some (fileOf pool15 18 #[] #[{ accessFlags := 1, nameIndex := 5, descriptorIndex := 27, attributes := #[] }, { accessFlags := 1, nameIndex := 8, descriptorIndex := 30, attributes := #[] }] 33 2 #[] #[{ accessFlags := 26, nameIndex := 22, descriptorIndex := 23, attributes := #[] }, { accessFlags := 18, nameIndex := 8, descriptorIndex := 21, attributes := #[] }])
  fields := #[{ name := "serialVersionUID", type := .long, accessFlags := 26, slot := 0, constantValue := 0 }, { name := "rule", type := (.object "com/example/rerouted/rerouted/engine/Rule"), accessFlags := 18, slot := 6, constantValue := 0 }]
  methods := #[k15m0, k15m1]
  instanceTypes := #[(.object "java/lang/Object"), (.object "java/lang/String"), (.object "java/lang/Throwable"), (.array (.object "java/lang/StackTraceElement")), .int, (.object "java/util/List"), (.object "com/example/rerouted/rerouted/engine/Rule")]
  staticTypes := #[.long]
  resolved := Array.replicate 33 none
  statics := none }

def pool16 : Array CpInfo := pool [(2, .class_ 4), (1, u "java/lang/Object"), (0, u "<init>"), (0, u "()V"), (35, .class_ 44), (1, u "java/util/Objects"), (0, u "requireNonNull"), (48, u "(Ljava/lang/Object;Ljava/lang/String;)Ljava/lang/Object;")] 89

def k16m0 : Method := { name := "<init>", desc := "()V", sig := { parameters := [], returnType := none }, accessFlags := 2, code := none }
def k16c1 : Code := { maxStack := 3, maxLocals := 2, code := jdk_31_method_11_code, exceptionTable := #[], attributes := #[] }
def k16m1 : Method := { name := "requireNonNull", desc := "(Ljava/lang/Object;Ljava/lang/String;)Ljava/lang/Object;", sig := { parameters := [(.object "java/lang/Object"), (.object "java/lang/String")], returnType := some (.object "java/lang/Object") }, accessFlags := 9, code := some k16c1 }
/-- java/util/Objects -/
def k16 : Class := { plain "java/util/Objects" (some 0) with
  accessFlags := 49
  interfaces := #[]
  cf := some (fileOf pool16 42 #[] #[{ accessFlags := 2, nameIndex := 5, descriptorIndex := 6, attributes := #[] }, { accessFlags := 9, nameIndex := 45, descriptorIndex := 94, attributes := #[] }] 49 2 #[] #[])
  fields := #[]
  methods := #[k16m0, k16m1]
  instanceTypes := #[]
  staticTypes := #[]
  resolved := Array.replicate 184 none
  statics := none }

def pool17 : Array CpInfo := pool [(4, .class_ 6), (1, u "java/lang/Object"), (0, u "<init>"), (0, u "()V"), (5, .class_ 16), (1, u "java/lang/StringLatin1"), (104, u "$assertionsDisabled"), (0, u "Z"), (98, .class_ 223), (1, u "java/lang/StringLatin1$LinesSpliterator"), (166, .class_ 391), (0, u "java/lang/StringLatin1$CharsSpliterator")] 3

def k17m0 : Method := { name := "<init>", desc := "()V", sig := { parameters := [], returnType := none }, accessFlags := 0, code := none }
/-- java/lang/StringLatin1 -/
def k17 : Class := { plain "java/lang/StringLatin1" (some 0) with
  accessFlags := 48
  interfaces := #[]
  cf := some (fileOf pool17 14 #[.nestMembers #[390, 221]] #[{ accessFlags := 0, nameIndex := 7, descriptorIndex := 8, attributes := #[] }] 48 4 #[] #[{ accessFlags := 4120, nameIndex := 121, descriptorIndex := 122, attributes := #[] }])
  fields := #[{ name := "$assertionsDisabled", type := .boolean, accessFlags := 4120, slot := 0, constantValue := 0 }]
  methods := #[k17m0]
  instanceTypes := #[]
  staticTypes := #[.boolean]
  resolved := Array.replicate 395 none
  statics := none }

def pool18 : Array CpInfo := pool [(2, .class_ 4), (1, u "java/lang/Object"), (0, u "<init>"), (0, u "()V"), (17, .class_ 26), (1, u "jdk/internal/util/Preconditions"), (28, .class_ 56), (0, u "jdk/internal/util/Preconditions$4"), (57, .class_ 115), (0, u "jdk/internal/util/Preconditions$1"), (7, u "SIOOBE_FORMATTER"), (0, u "Ljava/util/function/BiFunction;"), (0, .class_ 126), (0, u "jdk/internal/util/Preconditions$2"), (3, u "AIOOBE_FORMATTER"), (0, .class_ 132), (0, u "jdk/internal/util/Preconditions$3"), (3, u "IOOBE_FORMATTER")] 57

def k18m0 : Method := { name := "<init>", desc := "()V", sig := { parameters := [], returnType := none }, accessFlags := 1, code := none }
/-- jdk/internal/util/Preconditions -/
def k18 : Class := { plain "jdk/internal/util/Preconditions" (some 0) with
  accessFlags := 33
  interfaces := #[]
  cf := some (fileOf pool18 24 #[.nestMembers #[55, 131, 125, 114]] #[{ accessFlags := 1, nameIndex := 5, descriptorIndex := 6, attributes := #[] }] 33 2 #[] #[{ accessFlags := 25, nameIndex := 123, descriptorIndex := 124, attributes := #[] }, { accessFlags := 25, nameIndex := 130, descriptorIndex := 124, attributes := #[] }, { accessFlags := 25, nameIndex := 136, descriptorIndex := 124, attributes := #[] }])
  fields := #[{ name := "SIOOBE_FORMATTER", type := (.object "java/util/function/BiFunction"), accessFlags := 25, slot := 0, constantValue := 0 }, { name := "AIOOBE_FORMATTER", type := (.object "java/util/function/BiFunction"), accessFlags := 25, slot := 1, constantValue := 0 }, { name := "IOOBE_FORMATTER", type := (.object "java/util/function/BiFunction"), accessFlags := 25, slot := 2, constantValue := 0 }]
  methods := #[k18m0]
  instanceTypes := #[]
  staticTypes := #[(.object "java/util/function/BiFunction"), (.object "java/util/function/BiFunction"), (.object "java/util/function/BiFunction")]
  resolved := Array.replicate 194 none
  statics := some 3 }

def pool19 : Array CpInfo := pool [(9, u "<init>"), (6, .class_ 18), (1, u "java/lang/Object"), (0, u "()V"), (1, .class_ 23), (1, u "jdk/internal/util/ArraysSupport"), (0, u "LOG2_ARRAY_LONG_INDEX_SCALE"), (0, u "I"), (2, u "U"), (0, u "Ljdk/internal/misc/Unsafe;"), (8, u "BIG_ENDIAN"), (0, u "Z"), (8, u "LOG2_BYTE_BIT_SIZE"), (4, u "LOG2_ARRAY_INT_INDEX_SCALE"), (54, u "JLA"), (0, u "Ljdk/internal/access/JavaLangAccess;"), (11, u "LOG2_ARRAY_BOOLEAN_INDEX_SCALE"), (9, u "LOG2_ARRAY_BYTE_INDEX_SCALE"), (5, u "LOG2_ARRAY_CHAR_INDEX_SCALE"), (5, u "LOG2_ARRAY_SHORT_INDEX_SCALE"), (18, u "LOG2_ARRAY_FLOAT_INDEX_SCALE"), (24, u "LOG2_ARRAY_DOUBLE_INDEX_SCALE"), (89, u "T_BOOLEAN"), (2, u "T_CHAR"), (1, u "T_FLOAT"), (1, u "T_DOUBLE"), (1, u "T_BYTE"), (1, u "T_SHORT"), (1, u "T_INT"), (1, u "T_LONG"), (1, u "SOFT_MAX_ARRAY_LENGTH")] 83

def k19m0 : Method := { name := "<init>", desc := "()V", sig := { parameters := [], returnType := none }, accessFlags := 2, code := none }
/-- jdk/internal/util/ArraysSupport -/
def k19 : Class := { plain "jdk/internal/util/ArraysSupport" (some 0) with
  accessFlags := 33
  interfaces := #[]
  cf := some (fileOf pool19 21 #[] #[{ accessFlags := 2, nameIndex := 9, descriptorIndex := 19, attributes := #[] }] 33 16 #[] #[{ accessFlags := 24, nameIndex := 28, descriptorIndex := 29, attributes := #[] }, { accessFlags := 26, nameIndex := 38, descriptorIndex := 39, attributes := #[] }, { accessFlags := 25, nameIndex := 121, descriptorIndex := 25, attributes := #[] }, { accessFlags := 25, nameIndex := 131, descriptorIndex := 25, attributes := #[] }, { accessFlags := 25, nameIndex := 137, descriptorIndex := 25, attributes := #[] }, { accessFlags := 25, nameIndex := 143, descriptorIndex := 25, attributes := #[] }, { accessFlags := 25, nameIndex := 53, descriptorIndex := 25, attributes := #[] }, { accessFlags := 25, nameIndex := 24, descriptorIndex := 25, attributes := #[] }, { accessFlags := 25, nameIndex := 162, descriptorIndex := 25, attributes := #[] }, { accessFlags := 25, nameIndex := 187, descriptorIndex := 25, attributes := #[] }, { accessFlags := 26, nameIndex := 48, descriptorIndex := 25, attributes := #[] }, { accessFlags := 25, nameIndex := 277, descriptorIndex := 25, attributes := #[] }, { accessFlags := 25, nameIndex := 280, descriptorIndex := 25, attributes := #[] }, { accessFlags := 25, nameIndex := 282, descriptorIndex := 25, attributes := #[] }, { accessFlags := 25, nameIndex := 284, descriptorIndex := 25, attributes := #[] }, { accessFlags := 25, nameIndex := 286, descriptorIndex := 25, attributes := #[] }, { accessFlags := 25, nameIndex := 288, descriptorIndex := 25, attributes := #[] }, { accessFlags := 25, nameIndex := 290, descriptorIndex := 25, attributes := #[] }, { accessFlags := 25, nameIndex := 292, descriptorIndex := 25, attributes := #[] }, { accessFlags := 26, nameIndex := 108, descriptorIndex := 109, attributes := #[] }, { accessFlags := 25, nameIndex := 294, descriptorIndex := 25, attributes := #[] }])
  fields := #[{ name := "U", type := (.object "jdk/internal/misc/Unsafe"), accessFlags := 24, slot := 0, constantValue := 0 }, { name := "BIG_ENDIAN", type := .boolean, accessFlags := 26, slot := 1, constantValue := 0 }, { name := "LOG2_ARRAY_BOOLEAN_INDEX_SCALE", type := .int, accessFlags := 25, slot := 2, constantValue := 0 }, { name := "LOG2_ARRAY_BYTE_INDEX_SCALE", type := .int, accessFlags := 25, slot := 3, constantValue := 0 }, { name := "LOG2_ARRAY_CHAR_INDEX_SCALE", type := .int, accessFlags := 25, slot := 4, constantValue := 0 }, { name := "LOG2_ARRAY_SHORT_INDEX_SCALE", type := .int, accessFlags := 25, slot := 5, constantValue := 0 }, { name := "LOG2_ARRAY_INT_INDEX_SCALE", type := .int, accessFlags := 25, slot := 6, constantValue := 0 }, { name := "LOG2_ARRAY_LONG_INDEX_SCALE", type := .int, accessFlags := 25, slot := 7, constantValue := 0 }, { name := "LOG2_ARRAY_FLOAT_INDEX_SCALE", type := .int, accessFlags := 25, slot := 8, constantValue := 0 }, { name := "LOG2_ARRAY_DOUBLE_INDEX_SCALE", type := .int, accessFlags := 25, slot := 9, constantValue := 0 }, { name := "LOG2_BYTE_BIT_SIZE", type := .int, accessFlags := 26, slot := 10, constantValue := 0 }, { name := "T_BOOLEAN", type := .int, accessFlags := 25, slot := 11, constantValue := 0 }, { name := "T_CHAR", type := .int, accessFlags := 25, slot := 12, constantValue := 0 }, { name := "T_FLOAT", type := .int, accessFlags := 25, slot := 13, constantValue := 0 }, { name := "T_DOUBLE", type := .int, accessFlags := 25, slot := 14, constantValue := 0 }, { name := "T_BYTE", type := .int, accessFlags := 25, slot := 15, constantValue := 0 }, { name := "T_SHORT", type := .int, accessFlags := 25, slot := 16, constantValue := 0 }, { name := "T_INT", type := .int, accessFlags := 25, slot := 17, constantValue := 0 }, { name := "T_LONG", type := .int, accessFlags := 25, slot := 18, constantValue := 0 }, { name := "JLA", type := (.object "jdk/internal/access/JavaLangAccess"), accessFlags := 26, slot := 19, constantValue := 0 }, { name := "SOFT_MAX_ARRAY_LENGTH", type := .int, accessFlags := 25, slot := 20, constantValue := 0 }]
  methods := #[k19m0]
  instanceTypes := #[]
  staticTypes := #[(.object "jdk/internal/misc/Unsafe"), .boolean, .int, .int, .int, .int, .int, .int, .int, .int, .int, .int, .int, .int, .int, .int, .int, .int, .int, (.object "jdk/internal/access/JavaLangAccess"), .int]
  resolved := Array.replicate 378 none
  statics := none }

def pool20 : Array CpInfo := pool [(2, .class_ 4), (1, u "java/lang/Object"), (0, u "<init>"), (0, u "()V"), (12, .class_ 20), (0, u "java/util/Collections"), (63, u "r"), (0, u "Ljava/util/Random;"), (80, .class_ 167), (0, u "java/util/Collections$UnmodifiableCollection"), (6, .class_ 175), (0, u "java/util/Collections$UnmodifiableSequencedCollection"), (6, .class_ 183), (0, u "java/util/Collections$UnmodifiableSet"), (6, .class_ 191), (0, u "java/util/Collections$UnmodifiableSequencedSet"), (6, .class_ 199), (0, u "java/util/Collections$UnmodifiableSortedSet"), (6, .class_ 207), (0, u "java/util/Collections$UnmodifiableNavigableSet"), (4, .class_ 213), (0, u "java/util/Collections$UnmodifiableList"), (1, .class_ 216), (0, u "java/util/Collections$UnmodifiableRandomAccessList"), (6, .class_ 224), (0, u "java/util/Collections$UnmodifiableMap"), (6, .class_ 232), (0, u "java/util/Collections$UnmodifiableSequencedMap"), (4, .class_ 238), (0, u "java/util/Collections$UnmodifiableSortedMap"), (6, .class_ 246), (0, u "java/util/Collections$UnmodifiableNavigableMap"), (3, .class_ 251), (0, u "java/util/Collections$SynchronizedCollection"), (4, .class_ 257), (0, u "java/util/Collections$SynchronizedSet"), (4, .class_ 263), (0, u "java/util/Collections$SynchronizedSortedSet"), (1, .class_ 266), (0, u "java/util/Collections$SynchronizedNavigableSet"), (1, .class_ 269), (0, u "java/util/Collections$SynchronizedRandomAccessList"), (1, .class_ 272), (0, u "java/util/Collections$SynchronizedList"), (5, .class_ 279), (0, u "java/util/Collections$SynchronizedMap"), (1, .class_ 282), (0, u "java/util/Collections$SynchronizedSortedMap"), (1, .class_ 285), (0, u "java/util/Collections$SynchronizedNavigableMap"), (1, .class_ 288), (0, u "java/util/Collections$CheckedCollection"), (11, .class_ 301), (0, u "java/util/Collections$CheckedQueue"), (3, .class_ 306), (0, u "java/util/Collections$CheckedSet"), (3, .class_ 311), (0, u "java/util/Collections$CheckedSortedSet"), (3, .class_ 316), (0, u "java/util/Collections$CheckedNavigableSet"), (3, .class_ 321), (0, u "java/util/Collections$CheckedRandomAccessList"), (3, .class_ 326), (0, u "java/util/Collections$CheckedList"), (1, .class_ 329), (0, u "java/util/Collections$CheckedMap"), (3, .class_ 334), (0, u "java/util/Collections$CheckedSortedMap"), (3, .class_ 339), (0, u "java/util/Collections$CheckedNavigableMap"), (4, .class_ 346), (1, u "java/util/Collections$EmptyIterator"), (3, .class_ 352), (1, u "java/util/Collections$EmptyListIterator"), (2, .class_ 357), (1, u "java/util/Collections$EmptyEnumeration"), (4, u "EMPTY_SET"), (0, u "Ljava/util/Set;"), (6, u "EMPTY_LIST"), (0, u "Ljava/util/List;"), (2, u "EMPTY_MAP"), (0, u "Ljava/util/Map;"), (4, .class_ 381), (0, u "java/util/Collections$SingletonSet"), (2, .class_ 385), (0, u "java/util/Collections$1"), (1, .class_ 388), (0, u "java/util/Collections$2"), (1, .class_ 391), (0, u "java/util/Collections$SingletonList"), (1, .class_ 394), (0, u "java/util/Collections$SingletonMap"), (22, .class_ 418), (0, u "java/util/Collections$CopiesList"), (4, .class_ 425), (1, u "java/util/Collections$ReverseComparator"), (8, .class_ 435), (0, u "java/util/Collections$ReverseComparator2"), (6, .class_ 443), (0, u "java/util/Collections$3"), (25, .class_ 470), (0, u "java/util/Collections$SetFromMap"), (2, .class_ 474), (0, u "java/util/Collections$SequencedSetFromMap"), (3, .class_ 479), (0, u "java/util/Collections$AsLIFOQueue"), (11, .class_ 492), (0, u "java/util/Collections$EmptySet"), (1, .class_ 495), (0, u "java/util/Collections$EmptyList"), (1, .class_ 498), (0, u "java/util/Collections$EmptyMap"), (1, u "BINARYSEARCH_THRESHOLD"), (0, u "I"), (2, u "REVERSE_THRESHOLD"), (1, u "SHUFFLE_THRESHOLD"), (1, u "FILL_THRESHOLD"), (1, u "ROTATE_THRESHOLD"), (1, u "COPY_THRESHOLD"), (1, u "REPLACEALL_THRESHOLD"), (1, u "INDEXOFSUBLIST_THRESHOLD"), (333, .class_ 851), (0, u "java/util/Collections$CheckedMap$CheckedEntrySet"), (0, .class_ 853), (0, u "java/util/Collections$CheckedMap$CheckedEntrySet$CheckedEntry"), (0, .class_ 855), (0, u "java/util/Collections$CheckedMap$CheckedEntrySet$1"), (0, .class_ 857), (0, u "java/util/Collections$CheckedList$1"), (0, .class_ 859), (0, u "java/util/Collections$CheckedCollection$1"), (0, .class_ 861), (0, u "java/util/Collections$UnmodifiableNavigableMap$EmptyNavigableMap"), (0, .class_ 863), (0, u "java/util/Collections$UnmodifiableMap$UnmodifiableEntrySet"), (0, .class_ 865), (0, u "java/util/Collections$UnmodifiableMap$UnmodifiableEntrySet$UnmodifiableEntry"), (0, .class_ 867), (0, u "java/util/Collections$UnmodifiableMap$UnmodifiableEntrySet$UnmodifiableEntrySetSpliterator"), (0, .class_ 869), (0, u "java/util/Collections$UnmodifiableMap$UnmodifiableEntrySet$1"), (0, .class_ 871), (0, u "java/util/Collections$UnmodifiableList$1"), (0, .class_ 873), (0, u "java/util/Collections$UnmodifiableNavigableSet$EmptyNavigableSet"), (0, .class_ 875), (0, u "java/util/Collections$UnmodifiableCollection$1")] 57

def k20m0 : Method := { name := "<init>", desc := "()V", sig := { parameters := [], returnType := none }, accessFlags := 2, code := none }
/-- java/util/Collections -/
def k20 : Class := { plain "java/util/Collections" (some 0) with
  accessFlags := 33
  interfaces := #[]
  cf := some (fileOf pool20 19 #[.nestMembers #[478, 473, 469, 434, 423, 417, 393, 390, 380, 497, 494, 491, 355, 350, 344, 338, 333, 328, 850, 852, 854, 320, 325, 856, 315, 310, 305, 300, 287, 858, 284, 281, 278, 268, 271, 265, 262, 256, 250, 245, 860, 237, 231, 223, 862, 864, 866, 868, 215, 212, 870, 206, 872, 198, 190, 182, 174, 166, 874, 442, 387, 384]] #[{ accessFlags := 2, nameIndex := 5, descriptorIndex := 6, attributes := #[] }] 33 2 #[] #[{ accessFlags := 26, nameIndex := 500, descriptorIndex := 501, attributes := #[] }, { accessFlags := 26, nameIndex := 504, descriptorIndex := 501, attributes := #[] }, { accessFlags := 26, nameIndex := 506, descriptorIndex := 501, attributes := #[] }, { accessFlags := 26, nameIndex := 508, descriptorIndex := 501, attributes := #[] }, { accessFlags := 26, nameIndex := 510, descriptorIndex := 501, attributes := #[] }, { accessFlags := 26, nameIndex := 512, descriptorIndex := 501, attributes := #[] }, { accessFlags := 26, nameIndex := 514, descriptorIndex := 501, attributes := #[] }, { accessFlags := 26, nameIndex := 516, descriptorIndex := 501, attributes := #[] }, { accessFlags := 10, nameIndex := 84, descriptorIndex := 85, attributes := #[] }, { accessFlags := 25, nameIndex := 362, descriptorIndex := 363, attributes := #[] }, { accessFlags := 25, nameIndex := 370, descriptorIndex := 371, attributes := #[] }, { accessFlags := 25, nameIndex := 374, descriptorIndex := 375, attributes := #[] }])
  fields := #[{ name := "BINARYSEARCH_THRESHOLD", type := .int, accessFlags := 26, slot := 0, constantValue := 0 }, { name := "REVERSE_THRESHOLD", type := .int, accessFlags := 26, slot := 1, constantValue := 0 }, { name := "SHUFFLE_THRESHOLD", type := .int, accessFlags := 26, slot := 2, constantValue := 0 }, { name := "FILL_THRESHOLD", type := .int, accessFlags := 26, slot := 3, constantValue := 0 }, { name := "ROTATE_THRESHOLD", type := .int, accessFlags := 26, slot := 4, constantValue := 0 }, { name := "COPY_THRESHOLD", type := .int, accessFlags := 26, slot := 5, constantValue := 0 }, { name := "REPLACEALL_THRESHOLD", type := .int, accessFlags := 26, slot := 6, constantValue := 0 }, { name := "INDEXOFSUBLIST_THRESHOLD", type := .int, accessFlags := 26, slot := 7, constantValue := 0 }, { name := "r", type := (.object "java/util/Random"), accessFlags := 10, slot := 8, constantValue := 0 }, { name := "EMPTY_SET", type := (.object "java/util/Set"), accessFlags := 25, slot := 9, constantValue := 0 }, { name := "EMPTY_LIST", type := (.object "java/util/List"), accessFlags := 25, slot := 10, constantValue := 0 }, { name := "EMPTY_MAP", type := (.object "java/util/Map"), accessFlags := 25, slot := 11, constantValue := 0 }]
  methods := #[k20m0]
  instanceTypes := #[]
  staticTypes := #[.int, .int, .int, .int, .int, .int, .int, .int, (.object "java/util/Random"), (.object "java/util/Set"), (.object "java/util/List"), (.object "java/util/Map")]
  resolved := Array.replicate 933 none
  statics := some 4 }

def pool21 : Array CpInfo := pool [(8, .class_ 10), (1, u "java/lang/Iterable"), (24, .class_ 36), (0, u "java/lang/Object")] 25

/-- java/lang/Iterable -/
def k21 : Class := { plain "java/lang/Iterable" (some 0) with
  accessFlags := 1537
  interfaces := #[]
  cf := some (fileOf pool21 8 #[] #[] 1537 35 #[] #[])
  fields := #[]
  methods := #[]
  instanceTypes := #[]
  staticTypes := #[]
  resolved := Array.replicate 62 none
  statics := none }

def pool22 : Array CpInfo := pool [(10, .class_ 12), (1, u "java/util/Collection"), (47, .class_ 61), (0, u "java/lang/Object"), (0, .class_ 63), (0, u "java/lang/Iterable")] 51

/-- java/util/Collection -/
def k22 : Class := { plain "java/util/Collection" (some 0) with
  accessFlags := 1537
  interfaces := #[21]
  cf := some (fileOf pool22 10 #[] #[] 1537 60 #[62] #[])
  fields := #[]
  methods := #[]
  instanceTypes := #[]
  staticTypes := #[]
  resolved := Array.replicate 115 none
  statics := none }

def pool23 : Array CpInfo := pool [(2, .class_ 4), (1, u "java/lang/Object"), (0, u "<init>"), (0, u "()V"), (1, .class_ 10), (1, u "java/util/AbstractCollection"), (66, .class_ 78), (0, u "java/util/Collection")] 81

def k23m0 : Method := { name := "<init>", desc := "()V", sig := { parameters := [], returnType := none }, accessFlags := 4, code := none }
/-- java/util/AbstractCollection -/
def k23 : Class := { plain "java/util/AbstractCollection" (some 0) with
  accessFlags := 1057
  interfaces := #[22]
  cf := some (fileOf pool23 8 #[] #[{ accessFlags := 4, nameIndex := 5, descriptorIndex := 6, attributes := #[] }] 1057 2 #[77] #[])
  fields := #[]
  methods := #[k23m0]
  instanceTypes := #[]
  staticTypes := #[]
  resolved := Array.replicate 160 none
  statics := none }

def pool24 : Array CpInfo := pool [(8, .class_ 10), (1, u "java/util/SequencedCollection"), (15, .class_ 27), (0, u "java/lang/Object"), (0, .class_ 29), (0, u "java/util/Collection")] 27

/-- java/util/SequencedCollection -/
def k24 : Class := { plain "java/util/SequencedCollection" (some 0) with
  accessFlags := 1537
  interfaces := #[22]
  cf := some (fileOf pool24 8 #[] #[] 1537 26 #[28] #[])
  fields := #[]
  methods := #[]
  instanceTypes := #[]
  staticTypes := #[]
  resolved := Array.replicate 57 none
  statics := none }

def pool25 : Array CpInfo := pool [(8, .class_ 10), (1, u "java/util/List"), (92, .class_ 104), (0, u "java/lang/Object"), (15, .class_ 121), (0, u "java/util/SequencedCollection")] 129

/-- java/util/List -/
def k25 : Class := { plain "java/util/List" (some 0) with
  accessFlags := 1537
  interfaces := #[24]
  cf := some (fileOf pool25 8 #[] #[] 1537 103 #[120] #[])
  fields := #[]
  methods := #[]
  instanceTypes := #[]
  staticTypes := #[]
  resolved := Array.replicate 251 none
  statics := none }

def pool26 : Array CpInfo := pool [(2, .class_ 4), (1, u "java/util/AbstractCollection"), (0, u "<init>"), (0, u "()V"), (1, .class_ 10), (1, u "java/util/AbstractList"), (0, u "modCount"), (0, u "I"), (64, .class_ 78), (0, u "java/util/AbstractList$Itr"), (3, .class_ 83), (0, u "java/util/AbstractList$ListItr"), (9, .class_ 94), (0, u "java/util/AbstractList$RandomAccessSubList"), (3, .class_ 99), (0, u "java/util/AbstractList$SubList"), (33, .class_ 134), (0, u "java/util/List"), (73, .class_ 209), (0, u "java/util/AbstractList$SubList$1"), (0, .class_ 211), (0, u "java/util/AbstractList$RandomAccessSpliterator")] 6

def k26m0 : Method := { name := "<init>", desc := "()V", sig := { parameters := [], returnType := none }, accessFlags := 4, code := none }
/-- java/util/AbstractList -/
def k26 : Class := { plain "java/util/AbstractList" (some 23) with
  accessFlags := 1057
  interfaces := #[25]
  cf := some (fileOf pool26 8 #[.nestMembers #[93, 98, 208, 210, 82, 77]] #[{ accessFlags := 4, nameIndex := 5, descriptorIndex := 6, attributes := #[] }] 1057 2 #[133] #[{ accessFlags := 132, nameIndex := 11, descriptorIndex := 12, attributes := #[] }])
  fields := #[{ name := "modCount", type := .int, accessFlags := 132, slot := 0, constantValue := 0 }]
  methods := #[k26m0]
  instanceTypes := #[.int]
  staticTypes := #[]
  resolved := Array.replicate 218 none
  statics := none }

def pool27 : Array CpInfo := pool [(1, .class_ 2), (0, u "java/util/RandomAccess"), (0, .class_ 4), (0, u "java/lang/Object")] 2

/-- java/util/RandomAccess -/
def k27 : Class := { plain "java/util/RandomAccess" (some 0) with
  accessFlags := 1537
  interfaces := #[]
  cf := some (fileOf pool27 1 #[] #[] 1537 3 #[] #[])
  fields := #[]
  methods := #[]
  instanceTypes := #[]
  staticTypes := #[]
  resolved := Array.replicate 7 none
  statics := none }

def pool28 : Array CpInfo := pool [(2, .class_ 4), (1, u "java/util/AbstractList"), (0, u "<init>"), (0, u "()V"), (1, .class_ 10), (1, u "java/util/Collections"), (54, .class_ 66), (0, u "java/util/Collections$EmptyList"), (0, .class_ 68), (0, u "java/util/RandomAccess"), (0, .class_ 70), (0, u "java/io/Serializable"), (0, u "serialVersionUID"), (0, u "J")] 77

def k28m0 : Method := { name := "<init>", desc := "()V", sig := { parameters := [], returnType := none }, accessFlags := 2, code := none }
/-- java/util/Collections$EmptyList -/
def k28 : Class := { plain "java/util/Collections$EmptyList" (some 26) with
  accessFlags := 32
  interfaces := #[27, 4]
  cf := some (fileOf pool28 65 #[.nestHost 8] #[{ accessFlags := 2, nameIndex := 5, descriptorIndex := 6, attributes := #[] }] 32 2 #[67, 69] #[{ accessFlags := 26, nameIndex := 71, descriptorIndex := 72, attributes := #[] }])
  fields := #[{ name := "serialVersionUID", type := .long, accessFlags := 26, slot := 0, constantValue := 0 }]
  methods := #[k28m0]
  instanceTypes := #[.int]
  staticTypes := #[.long]
  resolved := Array.replicate 150 none
  statics := none }

def pool29 : Array CpInfo := pool [(2, .class_ 4), (1, u "java/lang/StackTraceElement"), (0, u "<init>"), (2, .class_ 10), (1, u "java/lang/Object"), (0, u "()V"), (2, u "format"), (0, u "B"), (2, u "classLoaderName"), (0, u "Ljava/lang/String;"), (2, u "moduleName"), (2, u "moduleVersion"), (12, u "declaringClass"), (4, u "methodName"), (2, u "fileName"), (2, u "lineNumber"), (0, u "I"), (65, u "declaringClassObject"), (0, u "Ljava/lang/Class;"), (33, .class_ 153), (1, u "java/lang/StackTraceElement$HashedModules"), (17, .class_ 172), (0, u "java/io/Serializable"), (0, u "NATIVE_METHOD"), (1, u "UNKNOWN_SOURCE"), (2, u "BUILTIN_CLASS_LOADER"), (1, u "JDK_NON_UPGRADEABLE_MODULE"), (1, u "serialVersionUID"), (0, u "J")] 51

def k29m0 : Method := { name := "<init>", desc := "()V", sig := { parameters := [], returnType := none }, accessFlags := 2, code := none }
/-- java/lang/StackTraceElement -/
def k29 : Class := { plain "java/lang/StackTraceElement" (some 0) with
  accessFlags := 49
  interfaces := #[4]
  cf := some (fileOf pool29 2 #[.nestMembers #[151]] #[{ accessFlags := 2, nameIndex := 5, descriptorIndex := 11, attributes := #[] }] 49 8 #[171] #[{ accessFlags := 26, nameIndex := 173, descriptorIndex := 19, attributes := #[] }, { accessFlags := 26, nameIndex := 175, descriptorIndex := 19, attributes := #[] }, { accessFlags := 130, nameIndex := 116, descriptorIndex := 117, attributes := #[] }, { accessFlags := 2, nameIndex := 18, descriptorIndex := 19, attributes := #[] }, { accessFlags := 2, nameIndex := 22, descriptorIndex := 19, attributes := #[] }, { accessFlags := 2, nameIndex := 25, descriptorIndex := 19, attributes := #[] }, { accessFlags := 2, nameIndex := 38, descriptorIndex := 19, attributes := #[] }, { accessFlags := 2, nameIndex := 43, descriptorIndex := 19, attributes := #[] }, { accessFlags := 2, nameIndex := 46, descriptorIndex := 19, attributes := #[] }, { accessFlags := 2, nameIndex := 49, descriptorIndex := 50, attributes := #[] }, { accessFlags := 2, nameIndex := 14, descriptorIndex := 15, attributes := #[] }, { accessFlags := 26, nameIndex := 178, descriptorIndex := 15, attributes := #[] }, { accessFlags := 26, nameIndex := 180, descriptorIndex := 15, attributes := #[] }, { accessFlags := 26, nameIndex := 182, descriptorIndex := 183, attributes := #[] }])
  fields := #[{ name := "NATIVE_METHOD", type := (.object "java/lang/String"), accessFlags := 26, slot := 0, constantValue := 0 }, { name := "UNKNOWN_SOURCE", type := (.object "java/lang/String"), accessFlags := 26, slot := 1, constantValue := 0 }, { name := "declaringClassObject", type := (.object "java/lang/Class"), accessFlags := 130, slot := 0, constantValue := 0 }, { name := "classLoaderName", type := (.object "java/lang/String"), accessFlags := 2, slot := 1, constantValue := 0 }, { name := "moduleName", type := (.object "java/lang/String"), accessFlags := 2, slot := 2, constantValue := 0 }, { name := "moduleVersion", type := (.object "java/lang/String"), accessFlags := 2, slot := 3, constantValue := 0 }, { name := "declaringClass", type := (.object "java/lang/String"), accessFlags := 2, slot := 4, constantValue := 0 }, { name := "methodName", type := (.object "java/lang/String"), accessFlags := 2, slot := 5, constantValue := 0 }, { name := "fileName", type := (.object "java/lang/String"), accessFlags := 2, slot := 6, constantValue := 0 }, { name := "lineNumber", type := .int, accessFlags := 2, slot := 7, constantValue := 0 }, { name := "format", type := .byte, accessFlags := 2, slot := 8, constantValue := 0 }, { name := "BUILTIN_CLASS_LOADER", type := .byte, accessFlags := 26, slot := 2, constantValue := 0 }, { name := "JDK_NON_UPGRADEABLE_MODULE", type := .byte, accessFlags := 26, slot := 3, constantValue := 0 }, { name := "serialVersionUID", type := .long, accessFlags := 26, slot := 4, constantValue := 0 }]
  methods := #[k29m0]
  instanceTypes := #[(.object "java/lang/Class"), (.object "java/lang/String"), (.object "java/lang/String"), (.object "java/lang/String"), (.object "java/lang/String"), (.object "java/lang/String"), (.object "java/lang/String"), .int, .byte]
  staticTypes := #[(.object "java/lang/String"), (.object "java/lang/String"), .byte, .byte, .long]
  resolved := Array.replicate 235 none
  statics := none }

def pool30 : Array CpInfo := pool [(1, u "java/lang/Cloneable"), (0, .class_ 1), (0, u "java/lang/Object"), (0, .class_ 3)] 3

/-- java/lang/Cloneable -/
def k30 : Class := { plain "java/lang/Cloneable" (some 0) with
  accessFlags := 1537
  interfaces := #[]
  cf := some (fileOf pool30 2 #[] #[] 1537 4 #[] #[])
  fields := #[]
  methods := #[]
  instanceTypes := #[]
  staticTypes := #[]
  resolved := Array.replicate 8 none
  statics := none }

/-- the primitive byte -/
def k31 : Class := { plain "byte" none with kind := .primitive 'B', accessFlags := 0x411 }
/-- [B -/
def k32 : Class := { plain "[B" (some 0) with kind := .array 31 .byte, interfaces := #[30, 4], accessFlags := 1041 }

/-- the primitive char -/
def k33 : Class := { plain "char" none with kind := .primitive 'C', accessFlags := 0x411 }
/-- [C -/
def k34 : Class := { plain "[C" (some 0) with kind := .array 33 .char, interfaces := #[30, 4], accessFlags := 1041 }

/-- the primitive int -/
def k35 : Class := { plain "int" none with kind := .primitive 'I', accessFlags := 0x411 }
/-- [I -/
def k36 : Class := { plain "[I" (some 0) with kind := .array 35 .int, interfaces := #[30, 4], accessFlags := 1041 }

/-- [Ljava/lang/Object; -/
def k37 : Class := { plain "[Ljava/lang/Object;" (some 0) with kind := .array 0 (.object "java/lang/Object"), interfaces := #[30, 4], accessFlags := 1041 }

/-- [Ljava/lang/StackTraceElement; -/
def k38 : Class := { plain "[Ljava/lang/StackTraceElement;" (some 0) with kind := .array 29 (.object "java/lang/StackTraceElement"), interfaces := #[30, 4], accessFlags := 1041 }

/-- [Ljava/lang/Throwable; -/
def k39 : Class := { plain "[Ljava/lang/Throwable;" (some 0) with kind := .array 12 (.object "java/lang/Throwable"), interfaces := #[30, 4], accessFlags := 1041 }

def heap : Heap := #[{ cls := 6, slots := #[.ref 7, .ref 8, .ref 9, .ref 5, .ref 6, .null], vm := .statics 6 },
  { cls := 9, slots := #[.long 0, .int 1, .null, .int 0, .null, .int 0, .int 0], vm := .statics 9 },
  { cls := 12, slots := #[.long 0, .ref 10, .ref 11, .null, .null, .null, .null, .ref 12, .int 1], vm := .statics 12 },
  { cls := 18, slots := #[.null, .null, .null], vm := .statics 18 },
  { cls := 20, slots := #[.int 0, .int 0, .int 0, .int 0, .int 0, .int 0, .int 0, .int 0, .null, .null, .ref 11, .null], vm := .statics 20 },
  { cls := 6, slots := #[.null, .int 0, .int 0], vm := .none },
  { cls := 6, slots := #[.null, .int 1, .int 0], vm := .none },
  { cls := 6, slots := #[.null, .int 2, .int 0], vm := .none },
  { cls := 6, slots := #[.null, .int 3, .int 0], vm := .none },
  { cls := 6, slots := #[.null, .int 4, .int 0], vm := .none },
  { cls := 38, slots := #[], vm := .none },
  { cls := 28, slots := #[.int 0], vm := .none },
  { cls := 39, slots := #[], vm := .none }]
def classes : Array Class := #[k0, k1, k2, k3, k4, k5, k6, k7, k8, k9, k10, k11, k12, k13, k14, k15, k16, k17, k18, k19, k20, k21, k22, k23, k24, k25, k26, k27, k28, k29, k30, k31, k32, k33, k34, k35, k36, k37, k38, k39]
def interned : List (Array UInt16 × Addr) := []
def slotsUsed : Nat := 53
def theMethod : MethodId := ⟨1, 2⟩
def args0 : Array Value := #[.int 5, .int 6, .int 65, .int 66]
def aboutOver (below : List Frame) : State where
  vm := { classes := classes, interned := interned.toArray }
  heap := heap
  slotsUsed := slotsUsed
  threads := #[{ frames := .invoking theMethod args0 :: below }]
def below0 : List Frame := [.native { method := ⟨0, 0⟩, args := #[] }]
def about1 : State := aboutOver below0
def p0 : Program := .bare "" "" ""
def e0 : Env := launch0.env 0 0 0
theorem w_frames : about1.frames = Frame.invoking theMethod args0 :: below0 := rfl
set_option maxRecDepth 65536 in
theorem w_args : argsFit about1.vm theMethod args0 = true := by decide +kernel
set_option maxRecDepth 65536 in
theorem w_heap : heapFits about1 = true := by decide +kernel
set_option maxRecDepth 65536 in
theorem w_runnable : about1.curStatus? = some .runnable := by decide +kernel
set_option maxRecDepth 65536 in
theorem w_alone : about1.alone = true := by decide +kernel
set_option maxRecDepth 65536 in
theorem w_named : about1.methodNamed? x = some theMethod := by decide +kernel
set_option maxRecDepth 65536 in
theorem w_hears : about1.hears theMethod below0 = true := by decide +kernel
set_option maxRecDepth 65536 in
theorem w_ripe : about1.ripe theMethod args0 below0 = true := by decide +kernel
theorem w_running : about1.status = .running := rfl
set_option maxRecDepth 65536 in
theorem w_room : about1.hasRoom e0.platform room_1 = true :=
  launch0.hasRoom_least _ room_1 (by decide +kernel) (by decide +kernel) (by decide +kernel) (by decide +kernel) (by decide +kernel) (by decide +kernel)
theorem allAtoms_all (ts : List Jvm.Cond) (a : Array Jvm.Value) (st : Jvm.State) : (allAtoms ts).before a st = ts.all (fun c => c.before a st) := by
  induction ts with
  | nil => rfl
  | cons c t ih =>
    show (Jvm.Cond.and c (allAtoms t)).before a st = _
    rw [Jvm.Cond.before_and, ih, List.all_cons]
def words1 : List Jvm.Cond := Jvm.Cond.code x code maxLocals ret :: tables_1
/-- a 'code' word, met by the world's own term for the bytes: nothing is compared byte by byte -/
theorem code_word {y : MethodName} {bytes : ByteArray} {mx : Nat} {rt : Option FieldType} {a : Array Value} {s : State} {m : MethodId} {meth : Method} {c : Code} (h1 : s.methodNamed? y = some m) (h2 : s.vm.method? m = some meth) (h3 : meth.code = some c) (h4 : c.code = bytes)
    (h5 : (c.maxLocals == mx && c.exceptionTable.isEmpty && decide (c.maxStack ≤ mostOperands) && decide (meth.sig.returnType = rt) && !meth.locks && decide (parseMethodDescriptor y.desc = some meth.sig)) = true) : (Jvm.Cond.code y bytes mx rt).before a s = true := by
  simp only [Bool.and_eq_true, beq_iff_eq, Bool.not_eq_true', decide_eq_true_eq] at h5
  obtain ⟨⟨⟨⟨⟨g1, g2⟩, g3⟩, g4⟩, g5⟩, g6⟩ := h5
  simp [Cond.before, Cond.holds, Cond.value, h1, h2, h3, h4, g1, g2, g3, g4, g5, g6]
def isCode : Jvm.Cond → Bool
  | .code _ _ _ _ => true
  | _ => false
theorem all_split {L : List Jvm.Cond} {P : Jvm.Cond → Bool} (h1 : L.all (fun c => isCode c || P c) = true) (h2 : ∀ c ∈ L.filter isCode, P c = true) : L.all P = true := by
  refine List.all_eq_true.mpr fun c hc => ?_
  have h := List.all_eq_true.mp h1 c hc
  rcases Bool.eq_false_or_eq_true (isCode c) with hi | hi
  · exact h2 c (List.mem_filter.mpr ⟨hc, hi⟩)
  · simpa [hi] using h
set_option maxRecDepth 65536 in
theorem w_c0 : (Jvm.Cond.code x code maxLocals ret).before args0 about1 = true := code_word (m := ⟨1, 2⟩) (meth := k1m2) (c := k1c2) (by decide +kernel) rfl rfl rfl (by decide +kernel)
set_option maxRecDepth 65536 in
theorem w_c1 : (Jvm.Cond.code ({ cls := "com/example/rerouted/rerouted/engine/MigrationOutcomeIsMigratedPinLaw", name := "pick", desc := "(I)Lcom/example/rerouted/rerouted/engine/Rule;" } : Jvm.MethodName) method_2_code (2 : Nat) (Option.some (Jvm.ClassFile.FieldType.object "com/example/rerouted/rerouted/engine/Rule"))).before args0 about1 = true := code_word (m := ⟨1, 1⟩) (meth := k1m1) (c := k1c1) (by decide +kernel) rfl rfl rfl (by decide +kernel)
set_option maxRecDepth 65536 in
theorem w_c2 : (Jvm.Cond.code ({ cls := "java/lang/String", name := "<init>", desc := "([C)V" } : Jvm.MethodName) jdk_42_method_3_code (2 : Nat) (Option.none : Option Jvm.ClassFile.FieldType)).before args0 about1 = true := code_word (m := ⟨9, 1⟩) (meth := k9m1) (c := k9c1) (by decide +kernel) rfl rfl rfl (by decide +kernel)
set_option maxRecDepth 65536 in
theorem w_c3 : (Jvm.Cond.code ({ cls := "java/lang/String", name := "<init>", desc := "([CIILjava/lang/Void;)V" } : Jvm.MethodName) jdk_42_method_149_code (6 : Nat) (Option.none : Option Jvm.ClassFile.FieldType)).before args0 about1 = true := code_word (m := ⟨9, 2⟩) (meth := k9m2) (c := k9c2) (by decide +kernel) rfl rfl rfl (by decide +kernel)
set_option maxRecDepth 65536 in
theorem w_c4 : (Jvm.Cond.code ({ cls := "java/lang/Object", name := "<init>", desc := "()V" } : Jvm.MethodName) object_method_1_code (1 : Nat) (Option.none : Option Jvm.ClassFile.FieldType)).before args0 about1 = true := code_word (m := ⟨0, 0⟩) (meth := k0m0) (c := k0c0) (by decide +kernel) rfl rfl rfl (by decide +kernel)
set_option maxRecDepth 65536 in
theorem w_c5 : (Jvm.Cond.code ({ cls := "java/lang/StringUTF16", name := "compress", desc := "([CII)[B" } : Jvm.MethodName) jdk_52_method_16_code (6 : Nat) (Option.some (Jvm.ClassFile.FieldType.array Jvm.ClassFile.FieldType.byte))).before args0 about1 = true := code_word (m := ⟨10, 2⟩) (meth := k10m2) (c := k10c2) (by decide +kernel) rfl rfl rfl (by decide +kernel)
set_option maxRecDepth 65536 in
theorem w_c6 : (Jvm.Cond.code ({ cls := "java/lang/StringUTF16", name := "compress", desc := "([CI[BII)I" } : Jvm.MethodName) jdk_52_method_21_code (7 : Nat) (Option.some Jvm.ClassFile.FieldType.int)).before args0 about1 = true := code_word (m := ⟨10, 3⟩) (meth := k10m3) (c := k10c3) (by decide +kernel) rfl rfl rfl (by decide +kernel)
set_option maxRecDepth 65536 in
theorem w_c7 : (Jvm.Cond.code ({ cls := "java/lang/StringUTF16", name := "coderFromArrayLen", desc := "([BI)B" } : Jvm.MethodName) jdk_52_method_15_code (2 : Nat) (Option.some Jvm.ClassFile.FieldType.byte)).before args0 about1 = true := code_word (m := ⟨10, 1⟩) (meth := k10m1) (c := k10c1) (by decide +kernel) rfl rfl rfl (by decide +kernel)
set_option maxRecDepth 65536 in
theorem w_c8 : (Jvm.Cond.code ({ cls := "com/example/rerouted/rerouted/engine/MigrationOutcome", name := "<init>", desc := "(I)V" } : Jvm.MethodName) prog_29_method_1_code (2 : Nat) (Option.none : Option Jvm.ClassFile.FieldType)).before args0 about1 = true := code_word (m := ⟨11, 0⟩) (meth := k11m0) (c := k11c0) (by decide +kernel) rfl rfl rfl (by decide +kernel)
set_option maxRecDepth 65536 in
theorem w_c9 : (Jvm.Cond.code ({ cls := "com/example/rerouted/rerouted/engine/RejectedException", name := "<init>", desc := "(Lcom/example/rerouted/rerouted/engine/Rule;Ljava/lang/String;)V" } : Jvm.MethodName) prog_35_method_1_code (3 : Nat) (Option.none : Option Jvm.ClassFile.FieldType)).before args0 about1 = true := code_word (m := ⟨15, 0⟩) (meth := k15m0) (c := k15c0) (by decide +kernel) rfl rfl rfl (by decide +kernel)
set_option maxRecDepth 65536 in
theorem w_c10 : (Jvm.Cond.code ({ cls := "java/lang/RuntimeException", name := "<init>", desc := "(Ljava/lang/String;)V" } : Jvm.MethodName) jdk_58_method_2_code (2 : Nat) (Option.none : Option Jvm.ClassFile.FieldType)).before args0 about1 = true := code_word (m := ⟨14, 1⟩) (meth := k14m1) (c := k14c1) (by decide +kernel) rfl rfl rfl (by decide +kernel)
set_option maxRecDepth 65536 in
theorem w_c11 : (Jvm.Cond.code ({ cls := "java/lang/Exception", name := "<init>", desc := "(Ljava/lang/String;)V" } : Jvm.MethodName) jdk_59_method_2_code (2 : Nat) (Option.none : Option Jvm.ClassFile.FieldType)).before args0 about1 = true := code_word (m := ⟨13, 1⟩) (meth := k13m1) (c := k13c1) (by decide +kernel) rfl rfl rfl (by decide +kernel)
set_option maxRecDepth 65536 in
theorem w_c12 : (Jvm.Cond.code ({ cls := "java/lang/Throwable", name := "<init>", desc := "(Ljava/lang/String;)V" } : Jvm.MethodName) jdk_78_method_2_code (2 : Nat) (Option.none : Option Jvm.ClassFile.FieldType)).before args0 about1 = true := code_word (m := ⟨12, 1⟩) (meth := k12m1) (c := k12c1) (by decide +kernel) rfl rfl rfl (by decide +kernel)
set_option maxRecDepth 65536 in
theorem w_c13 : (Jvm.Cond.code ({ cls := "java/lang/Throwable", name := "<init>", desc := "()V" } : Jvm.MethodName) jdk_78_method_1_code (1 : Nat) (Option.none : Option Jvm.ClassFile.FieldType)).before args0 about1 = true := code_word (m := ⟨12, 0⟩) (meth := k12m0) (c := k12c0) (by decide +kernel) rfl rfl rfl (by decide +kernel)
set_option maxRecDepth 65536 in
theorem w_c14 : (Jvm.Cond.code ({ cls := "java/util/Objects", name := "requireNonNull", desc := "(Ljava/lang/Object;Ljava/lang/String;)Ljava/lang/Object;" } : Jvm.MethodName) jdk_31_method_11_code (2 : Nat) (Option.some (Jvm.ClassFile.FieldType.object "java/lang/Object"))).before args0 about1 = true := code_word (m := ⟨16, 1⟩) (meth := k16m1) (c := k16c1) (by decide +kernel) rfl rfl rfl (by decide +kernel)
set_option maxRecDepth 65536 in
theorem w_c15 : (Jvm.Cond.code ({ cls := "com/example/rerouted/rerouted/engine/MigrationOutcome", name := "<init>", desc := "(ILcom/example/rerouted/rerouted/engine/RejectedException;)V" } : Jvm.MethodName) prog_29_method_2_code (3 : Nat) (Option.none : Option Jvm.ClassFile.FieldType)).before args0 about1 = true := code_word (m := ⟨11, 1⟩) (meth := k11m1) (c := k11c1) (by decide +kernel) rfl rfl rfl (by decide +kernel)
set_option maxRecDepth 65536 in
theorem w_c16 : (Jvm.Cond.code ({ cls := "com/example/rerouted/rerouted/engine/RejectedException", name := "rule", desc := "()Lcom/example/rerouted/rerouted/engine/Rule;" } : Jvm.MethodName) prog_35_method_2_code (1 : Nat) (Option.some (Jvm.ClassFile.FieldType.object "com/example/rerouted/rerouted/engine/Rule"))).before args0 about1 = true := code_word (m := ⟨15, 1⟩) (meth := k15m1) (c := k15c1) (by decide +kernel) rfl rfl rfl (by decide +kernel)
set_option maxRecDepth 65536 in
theorem w_c17 : (Jvm.Cond.code ({ cls := "java/lang/Throwable", name := "getMessage", desc := "()Ljava/lang/String;" } : Jvm.MethodName) jdk_78_method_6_code (1 : Nat) (Option.some (Jvm.ClassFile.FieldType.object "java/lang/String"))).before args0 about1 = true := code_word (m := ⟨12, 2⟩) (meth := k12m2) (c := k12c2) (by decide +kernel) rfl rfl rfl (by decide +kernel)
set_option maxRecDepth 65536 in
theorem w_c18 : (Jvm.Cond.code ({ cls := "com/example/rerouted/rerouted/engine/MigrationOutcome", name := "isMigrated", desc := "()Z" } : Jvm.MethodName) prog_29_method_4_code (1 : Nat) (Option.some Jvm.ClassFile.FieldType.boolean)).before args0 about1 = true := code_word (m := ⟨11, 3⟩) (meth := k11m3) (c := k11c3) (by decide +kernel) rfl rfl rfl (by decide +kernel)
set_option maxRecDepth 65536 in
theorem w_c19 : (Jvm.Cond.code ({ cls := "com/example/rerouted/rerouted/engine/MigrationOutcome", name := "rule", desc := "()Lcom/example/rerouted/rerouted/engine/Rule;" } : Jvm.MethodName) prog_29_method_5_code (1 : Nat) (Option.some (Jvm.ClassFile.FieldType.object "com/example/rerouted/rerouted/engine/Rule"))).before args0 about1 = true := code_word (m := ⟨11, 4⟩) (meth := k11m4) (c := k11c4) (by decide +kernel) rfl rfl rfl (by decide +kernel)
set_option maxRecDepth 65536 in
theorem w_c20 : (Jvm.Cond.code ({ cls := "com/example/rerouted/rerouted/engine/MigrationOutcome", name := "instance", desc := "()I" } : Jvm.MethodName) prog_29_method_3_code (1 : Nat) (Option.some Jvm.ClassFile.FieldType.int)).before args0 about1 = true := code_word (m := ⟨11, 2⟩) (meth := k11m2) (c := k11c2) (by decide +kernel) rfl rfl rfl (by decide +kernel)
def codes1 : List Jvm.Cond := [Jvm.Cond.code x code maxLocals ret, Jvm.Cond.code ({ cls := "com/example/rerouted/rerouted/engine/MigrationOutcomeIsMigratedPinLaw", name := "pick", desc := "(I)Lcom/example/rerouted/rerouted/engine/Rule;" } : Jvm.MethodName) method_2_code (2 : Nat) (Option.some (Jvm.ClassFile.FieldType.object "com/example/rerouted/rerouted/engine/Rule")), Jvm.Cond.code ({ cls := "java/lang/String", name := "<init>", desc := "([C)V" } : Jvm.MethodName) jdk_42_method_3_code (2 : Nat) (Option.none : Option Jvm.ClassFile.FieldType), Jvm.Cond.code ({ cls := "java/lang/String", name := "<init>", desc := "([CIILjava/lang/Void;)V" } : Jvm.MethodName) jdk_42_method_149_code (6 : Nat) (Option.none : Option Jvm.ClassFile.FieldType), Jvm.Cond.code ({ cls := "java/lang/Object", name := "<init>", desc := "()V" } : Jvm.MethodName) object_method_1_code (1 : Nat) (Option.none : Option Jvm.ClassFile.FieldType), Jvm.Cond.code ({ cls := "java/lang/StringUTF16", name := "compress", desc := "([CII)[B" } : Jvm.MethodName) jdk_52_method_16_code (6 : Nat) (Option.some (Jvm.ClassFile.FieldType.array Jvm.ClassFile.FieldType.byte)), Jvm.Cond.code ({ cls := "java/lang/StringUTF16", name := "compress", desc := "([CI[BII)I" } : Jvm.MethodName) jdk_52_method_21_code (7 : Nat) (Option.some Jvm.ClassFile.FieldType.int), Jvm.Cond.code ({ cls := "java/lang/StringUTF16", name := "coderFromArrayLen", desc := "([BI)B" } : Jvm.MethodName) jdk_52_method_15_code (2 : Nat) (Option.some Jvm.ClassFile.FieldType.byte), Jvm.Cond.code ({ cls := "com/example/rerouted/rerouted/engine/MigrationOutcome", name := "<init>", desc := "(I)V" } : Jvm.MethodName) prog_29_method_1_code (2 : Nat) (Option.none : Option Jvm.ClassFile.FieldType), Jvm.Cond.code ({ cls := "com/example/rerouted/rerouted/engine/RejectedException", name := "<init>", desc := "(Lcom/example/rerouted/rerouted/engine/Rule;Ljava/lang/String;)V" } : Jvm.MethodName) prog_35_method_1_code (3 : Nat) (Option.none : Option Jvm.ClassFile.FieldType), Jvm.Cond.code ({ cls := "java/lang/RuntimeException", name := "<init>", desc := "(Ljava/lang/String;)V" } : Jvm.MethodName) jdk_58_method_2_code (2 : Nat) (Option.none : Option Jvm.ClassFile.FieldType), Jvm.Cond.code ({ cls := "java/lang/Exception", name := "<init>", desc := "(Ljava/lang/String;)V" } : Jvm.MethodName) jdk_59_method_2_code (2 : Nat) (Option.none : Option Jvm.ClassFile.FieldType), Jvm.Cond.code ({ cls := "java/lang/Throwable", name := "<init>", desc := "(Ljava/lang/String;)V" } : Jvm.MethodName) jdk_78_method_2_code (2 : Nat) (Option.none : Option Jvm.ClassFile.FieldType), Jvm.Cond.code ({ cls := "java/lang/Throwable", name := "<init>", desc := "()V" } : Jvm.MethodName) jdk_78_method_1_code (1 : Nat) (Option.none : Option Jvm.ClassFile.FieldType), Jvm.Cond.code ({ cls := "java/util/Objects", name := "requireNonNull", desc := "(Ljava/lang/Object;Ljava/lang/String;)Ljava/lang/Object;" } : Jvm.MethodName) jdk_31_method_11_code (2 : Nat) (Option.some (Jvm.ClassFile.FieldType.object "java/lang/Object")), Jvm.Cond.code ({ cls := "com/example/rerouted/rerouted/engine/MigrationOutcome", name := "<init>", desc := "(ILcom/example/rerouted/rerouted/engine/RejectedException;)V" } : Jvm.MethodName) prog_29_method_2_code (3 : Nat) (Option.none : Option Jvm.ClassFile.FieldType), Jvm.Cond.code ({ cls := "com/example/rerouted/rerouted/engine/RejectedException", name := "rule", desc := "()Lcom/example/rerouted/rerouted/engine/Rule;" } : Jvm.MethodName) prog_35_method_2_code (1 : Nat) (Option.some (Jvm.ClassFile.FieldType.object "com/example/rerouted/rerouted/engine/Rule")), Jvm.Cond.code ({ cls := "java/lang/Throwable", name := "getMessage", desc := "()Ljava/lang/String;" } : Jvm.MethodName) jdk_78_method_6_code (1 : Nat) (Option.some (Jvm.ClassFile.FieldType.object "java/lang/String")), Jvm.Cond.code ({ cls := "com/example/rerouted/rerouted/engine/MigrationOutcome", name := "isMigrated", desc := "()Z" } : Jvm.MethodName) prog_29_method_4_code (1 : Nat) (Option.some Jvm.ClassFile.FieldType.boolean), Jvm.Cond.code ({ cls := "com/example/rerouted/rerouted/engine/MigrationOutcome", name := "rule", desc := "()Lcom/example/rerouted/rerouted/engine/Rule;" } : Jvm.MethodName) prog_29_method_5_code (1 : Nat) (Option.some (Jvm.ClassFile.FieldType.object "com/example/rerouted/rerouted/engine/Rule")), Jvm.Cond.code ({ cls := "com/example/rerouted/rerouted/engine/MigrationOutcome", name := "instance", desc := "()I" } : Jvm.MethodName) prog_29_method_3_code (1 : Nat) (Option.some Jvm.ClassFile.FieldType.int)]
set_option maxRecDepth 65536 in
theorem codes_eq : words1.filter isCode = codes1 := rfl
theorem w_codes : ∀ c ∈ words1.filter isCode, c.before args0 about1 = true := by
  rw [codes_eq]
  intro c hc
  simp only [codes1, List.mem_cons, List.not_mem_nil, or_false] at hc
  rcases hc with rfl | rfl | rfl | rfl | rfl | rfl | rfl | rfl | rfl | rfl | rfl | rfl | rfl | rfl | rfl | rfl | rfl | rfl | rfl | rfl | rfl
  · exact w_c0
  · exact w_c1
  · exact w_c2
  · exact w_c3
  · exact w_c4
  · exact w_c5
  · exact w_c6
  · exact w_c7
  · exact w_c8
  · exact w_c9
  · exact w_c10
  · exact w_c11
  · exact w_c12
  · exact w_c13
  · exact w_c14
  · exact w_c15
  · exact w_c16
  · exact w_c17
  · exact w_c18
  · exact w_c19
  · exact w_c20
set_option maxRecDepth 65536 in
theorem w_t1 : (words1.take 24).all (fun c => isCode c || c.before args0 about1) = true := by decide +kernel
set_option maxRecDepth 65536 in
theorem w_t2 : ((words1.drop 24).take 24).all (fun c => isCode c || c.before args0 about1) = true := by decide +kernel
set_option maxRecDepth 65536 in
theorem w_t3 : (((words1.drop 24).drop 24).take 24).all (fun c => isCode c || c.before args0 about1) = true := by decide +kernel
set_option maxRecDepth 65536 in
theorem w_t4 : ((((words1.drop 24).drop 24).drop 24).take 24).all (fun c => isCode c || c.before args0 about1) = true := by decide +kernel
set_option maxRecDepth 65536 in
theorem w_t5 : (((((words1.drop 24).drop 24).drop 24).drop 24).take 24).all (fun c => isCode c || c.before args0 about1) = true := by decide +kernel
set_option maxRecDepth 65536 in
theorem w_t6 : ((((((words1.drop 24).drop 24).drop 24).drop 24).drop 24).take 24).all (fun c => isCode c || c.before args0 about1) = true := by decide +kernel
set_option maxRecDepth 65536 in
theorem w_t7 : ((((((words1.drop 24).drop 24).drop 24).drop 24).drop 24).drop 24).all (fun c => isCode c || c.before args0 about1) = true := by decide +kernel
theorem w_tables : (allAtoms (Jvm.Cond.code x code maxLocals ret :: tables_1)).before args0 about1 = true := by
  rw [allAtoms_all]
  show words1.all (fun c => c.before args0 about1) = true
  refine all_split ?_ w_codes
  rw [← List.take_append_drop 24 words1, List.all_append, w_t1, ← List.take_append_drop 24 (words1.drop 24), List.all_append, w_t2, ← List.take_append_drop 24 ((words1.drop 24).drop 24), List.all_append, w_t3, ← List.take_append_drop 24 (((words1.drop 24).drop 24).drop 24), List.all_append, w_t4, ← List.take_append_drop 24 ((((words1.drop 24).drop 24).drop 24).drop 24), List.all_append, w_t5, ← List.take_append_drop 24 (((((words1.drop 24).drop 24).drop 24).drop 24).drop 24), List.all_append, w_t6, w_t7]
  rfl
set_option maxRecDepth 65536 in
theorem w_rest : rest_1_c.before args0 about1 = true := by decide +kernel
set_option maxRecDepth 65536 in
theorem w_case : (Jvm.Cond.and given_1 narrow_1).before args0 about1 = true := by decide +kernel
theorem w_applies : (headSpec (Jvm.Cond.code x code maxLocals ret :: tables_1) room_1).applies x e0.platform about1 = true :=
  (Spec.applies_iff w_frames).mpr ⟨w_running, w_runnable, w_alone, w_named, w_hears, w_ripe, w_room, w_tables⟩
set_option maxRecDepth 65536 in
theorem atStart : AtStart classFile x code maxLocals ret World_1 tables_1 room_1 Calls_1 rest_1 Pre_1 launch0 p0 e0 about1 theMethod args0 below0 :=
  ⟨lists_1, trivial, launch0.admits_env _ _ _, launch0.least_env, fairChoices_fair.cas, fairChoices_fair.clock, w_frames, w_args, w_heap, w_applies, ⟨(by decide +kernel : framesKnown about1 = true), ⟨(by decide +kernel : tablesKnown about1 = true), trivial⟩⟩, w_rest, w_case⟩
end start1
theorem witness_1 : WitnessClaimed_1 := ⟨start1.p0, start1.e0, start1.about1, start1.theMethod, start1.args0, start1.below0, start1.atStart⟩
end Jvm.Pilot.@@N@@
