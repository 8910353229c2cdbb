import JvmDerived
import JvmDerived.Pilot.@@N@@Statement
import JvmDerived.Pilot.@@N@@Code
set_option linter.unusedVariables false
set_option linter.unusedSimpArgs false
namespace Jvm.RoadKit
open Sem ClassFile Op Lib Jvm.Stand Jvm.Free Jvm.LawKit
section New
variable {p : Program} {l : Launch} {e : Env} {R : Room} {s : State} {m : MethodId} {args : Array Value} {below : List Frame} {meth : Method} {c : Code} {T : State} {locs : List Loc} {cells slots : Nat}
theorem retI (X : Stand p l e R s m args below meth c T locs cells slots) (hx : p.tables.exec = Jvm.exec) {pc : Nat} {Ls : Array Slot} {z : Int32} {rest : List Value} (hret : meth.sig.returnType = some .int) (hd : decode c.code pc = .ok (.ireturn, 1)) {fs : List Frame}
    (hl : ∀ (f : JFrame) (acts : List Action), f.method = m → f.locked = none → f.entered = [] → (doReturn e (T.setTop f) acts (some (.int z))).1 = T.setFrames fs) : Steps p.tables e below (T.setTop (mkF m pc Ls (.int z :: rest))) (T.setFrames fs) := by
  have hm' : T.vm.method? m = some meth := X.method'
  have hn : narrow .int (.int z) = .int z := rfl
  show Steps p.tables e below (T.setTop { method := m, pc := pc, locals := Ls, stack := _ :: rest, locked := none }) _
  jvm_step X.here [X.here.top, hx, hd, hm', hret, hn]
  first | (intro acts; rw [hl _ acts rfl rfl rfl]) | rw [hl _ _ rfl rfl rfl]
  exact Steps.refl _
theorem retJ (X : Stand p l e R s m args below meth c T locs cells slots) (hx : p.tables.exec = Jvm.exec) {pc : Nat} {Ls : Array Slot} {z : Int64} {rest : List Value} (hret : meth.sig.returnType = some .long) (hd : decode c.code pc = .ok (.lreturn, 1)) {fs : List Frame}
    (hl : ∀ (f : JFrame) (acts : List Action), f.method = m → f.locked = none → f.entered = [] → (doReturn e (T.setTop f) acts (some (.long z))).1 = T.setFrames fs) : Steps p.tables e below (T.setTop (mkF m pc Ls (.long z :: rest))) (T.setFrames fs) := by
  have hm' : T.vm.method? m = some meth := X.method'
  have hn : narrow .long (.long z) = .long z := rfl
  show Steps p.tables e below (T.setTop { method := m, pc := pc, locals := Ls, stack := _ :: rest, locked := none }) _
  jvm_step X.here [X.here.top, hx, hd, hm', hret, hn]
  first | (intro acts; rw [hl _ acts rfl rfl rfl]) | rw [hl _ _ rfl rfl rfl]
  exact Steps.refl _
/-- from S the run comes to an end of which P holds -/
def Goes (p : Program) (e : Env) (below : List Frame) (P : State → Outcome → Prop) (S : State) : Prop := ∃ t o, Steps p.tables e below S t ∧ t.status = .running ∧ Ended t below o ∧ P t o
theorem Goes.step {P : State → Outcome → Prop} {S S' : State} (h : ∀ t, Steps p.tables e below S' t → Steps p.tables e below S t) (k : Goes p e below P S') : Goes p e below P S := by
  obtain ⟨t, o, h1, h2⟩ := k
  exact ⟨t, o, h t h1, h2⟩
/-- what a contract says of its end -/
def Pq (Q : Option Value → Heap → List Loc → Prop) (s : State) (kc ks : Nat) (t : State) (o : Outcome) : Prop := ∃ v L, o = .returned v ∧ Q v t.heap L ∧ FrameEnd s o t L kc ks
theorem Goes.leave {Q : Option Value → Heap → List Loc → Prop} {kc ks : Nat} {g : JFrame} {v : Option Value} {h : Heap} (X : Stand p l e R s m args below meth c T locs cells slots) (hlk : meth.locks = false) (hv : meth.sig.returnType = none → v = none)
    (st : ∀ fs, (∀ (f : JFrame) (acts : List Action), f.method = m → f.locked = none → f.entered = [] → (doReturn e (T.setTop f) acts v).1 = T.setFrames fs) → Steps p.tables e below (T.setTop g) (T.setFrames fs))
    (eT : T.heap = h) (hQ : Q v h locs) (hc : cells ≤ kc) (hs : slots ≤ ks) : Goes p e below (Pq Q s kc ks) (T.setTop g) := by
  obtain ⟨fs, hr, hrun, hended, hW, hsame⟩ := X.leave (v := v) hv hlk
  exact ⟨_, _, st fs hr, hrun, hended, v, locs, rfl, eT ▸ hQ, ⟨_, rfl⟩, hW, hsame.mono hc hs⟩
theorem own_eqI {args : Array Value} {first s : State} {o : Option Outcome} {idx : List Nat} {t : Term} {k : Int32} (h : (Cond.eq t (.int k)).value args first o s idx = some true) : t.eval args first o idx s = some (.int k) := by
  simp only [Cond.value, Term.eval] at h
  cases ht : t.eval args first o idx s with
  | none => simp [ht] at h
  | some x => cases x <;> simp [ht] at h ⊢; exact h
theorem own_stakeep {Z : State} {h h' : Heap} {ws : List Addr} {C n d : String} {w : Value} (F : Sta Z h C n d w) (K : Keep h h' ws) (q : ∀ x ∈ ws, ∀ cell : Cell, h[x]? = some cell → cell.vm.isStatics = false) : Sta Z h' C n d w := by
  obtain ⟨cf, i, k, f, st, cell, h1, h2, h3, h4, h5, h6, h7⟩ := F
  exact ⟨cf, i, k, f, st, cell, h1, h2, h3, h4, K.2.1 st cell h5 (fun hm => by rw [q st hm cell h5] at h6; cases h6), h6, h7⟩
theorem own_selP {s : State} {args : Array Value} {y : MethodName} {k : Nat} (w1 : (Cond.instanceMethod y).before args s = true) (w2 : (Cond.privateMethod y).before args s = true) (w3 : (Cond.instantiable y.cls k).before args s = true)
    (hy : y.cls ≠ "java/lang/invoke/MethodHandle" ∧ y.cls ≠ "java/lang/invoke/VarHandle") : (Cond.selects y.cls y y).before args s = true := by
  obtain ⟨mk, meth, hn, hm, -, -⟩ := Cond.instanceMethod_spec w1
  have hp := Cond.privateMethod_at w2 mk meth hn hm
  have hf := State.methodFound?_of_named hn hy
  have hc := findClass_of_methodNamed hn
  obtain ⟨c2, k2, i1, i2, -, i4, -⟩ := Cond.instantiable_spec w3
  cases hc.symm.trans i1
  simp only [Bool.or_eq_false_iff] at i4
  simp [Cond.before, Cond.holds, Cond.value, hc, hf, hn, selectMethod_private hm hp, i2, i4.1]
theorem own_neVV {Z : State} {h : Heap} {a b : Addr} {k1 k2 : ClassId} {t1 t2 : FieldType} {z1 z2 : Int32} {v1 v2 : List Value} {d1 d2 : Value} (A : Arv Z h a k1 t1 z1 v1 d1) (B : Arv Z h b k2 t2 z2 v2 d2) (q : t1 ≠ t2) : a ≠ b := fun e => by
  subst e
  obtain ⟨c1, A1, -⟩ := A
  obtain ⟨c2, B1, -⟩ := B
  cases A1.1.symm.trans B1.1
  obtain ⟨-, k, g1, comp, g2⟩ := A1.2.1
  obtain ⟨-, k', g1', comp', g2'⟩ := B1.2.1
  cases g1.symm.trans g1'
  rw [g2] at g2'
  cases g2'
  exact q rfl
end New
end Jvm.RoadKit
namespace Jvm.RoadKit
open Sem ClassFile Op Lib Jvm.Stand Jvm.Free Jvm.LawKit
section NewX
variable {p : Program} {l : Launch} {e : Env} {R : Room} {s : State} {m : MethodId} {args : Array Value} {below : List Frame} {meth : Method} {c : Code} {T : State} {locs : List Loc} {cells slots : Nat} {Z : State} {a0 : Array Value} {h : Heap}
theorem own_mvMN {own host : String} {y : MethodName} {index : Nat} (hZ : Z.Warmed39 s.vm) (w : (Cond.methodLinkNest own index y host).before a0 Z = true) : (Cond.methodLinkNest own index y host).before args s = true := (Cond.methodLinkNest_wide hZ w :)
theorem own_nsRoot {O K : String} {n : Nat} (w : (Cond.noSuperclass O).before a0 Z = true) (wk : (Cond.instantiable K n).before a0 Z = true) (hn : O ≠ K) : NS Z O K := by
  obtain ⟨c, k, h1, h2, h3, -, -⟩ := Cond.noSuperclass_spec w
  obtain ⟨t, kt, g1, -⟩ := Cond.instantiable_spec wk
  have ne := ids_ne h1 g1 hn
  refine ⟨c, t, h1, g1, fun fuel => ?_⟩
  cases fuel with
  | zero => rfl
  | succ f => simp [Vm.isSubclassAux, ne, h2, h3]
theorem own_nsNo {C S K : String} {i : Nat} (w : (Cond.superclass C S).before a0 Z = true) (wk : (Cond.instantiable K i).before a0 Z = true) (n : NS Z C K) (hn : C ≠ K) : ∃ c t, Z.vm.findClass C = some c ∧ Z.vm.findClass K = some t ∧ Z.vm.assignable c t = false := by
  obtain ⟨c, t, h0, g0, n3⟩ := n
  obtain ⟨p, k, kp, h1, h2, h3, h4, h5, -, h7⟩ := Cond.superclass_spec h0 w
  obtain ⟨t', kt, g1, g2, g5, g7, -⟩ := Cond.instantiable_spec wk
  cases g0.symm.trans g1
  have ne := ids_ne h0 g0 hn
  simp only [Bool.or_eq_false_iff] at g7
  refine ⟨c, t, h0, g0, ?_⟩
  show Z.vm.assignableAux (255 + 1) c t = false
  simp [Vm.assignableAux, ne, h2, g2, h5, g5, g7.1, Vm.isSubclass, n3]
/-- the Class object of the class C, by the tables alone -/
def MirO (Z : State) (C : String) (mr : Addr) : Prop := ∃ (c : ClassId) (k : Class), Z.vm.findClass C = some c ∧ Z.vm.classes[c]? = some k ∧ k.mirror = some mr
theorem own_gcls (X : Stand p l e R s m args below meth c T locs cells slots) (hx : p.tables.exec = Jvm.exec) (hZ : Z.Warmed39 s.vm) {own C : String} {index : Nat} {a mr : Addr} (hown : s.vm.findClass own = some m.cls)
    (w1 : (Cond.methodLink own index ⟨"java/lang/Object", "getClass", "()Ljava/lang/Class;"⟩).before a0 Z = true) (w2 : (Cond.declares ⟨"java/lang/Object", "getClass", "()Ljava/lang/Class;"⟩).before a0 Z = true) (w3 : (Cond.noSuperclass "java/lang/Object").before a0 Z = true) (w4 : (Cond.selects C ⟨"java/lang/Object", "getClass", "()Ljava/lang/Class;"⟩ ⟨"java/lang/Object", "getClass", "()Ljava/lang/Class;"⟩).before a0 Z = true)
    (w5 : (Cond.instanceMethod ⟨"java/lang/Object", "getClass", "()Ljava/lang/Class;"⟩).before a0 Z = true) (w6 : (Cond.native ⟨"java/lang/Object", "getClass", "()Ljava/lang/Class;"⟩).before a0 Z = true) (eT : T.heap = h) (E : Exa Z h a C) (M : MirO Z C mr)
    {g : JFrame} (hg : g.method = m) (hsize : g.locals.size = c.maxLocals) {rest : List Value} (hs : g.stack = .ref a :: rest) (hd : decode c.code g.pc = .ok (.invokevirtual index, 3)) (hf : 1 ≤ R.frames) {W : Nat} (hW : 2 * g.monitorRoom + (rest.map fun v => v.category).sum ≤ W) (hl : W + (nativeFrameWords "java/lang/Object" "getClass" 1 + 11) ≤ R.locals) :
    ∃ T', Stand p l e R s m args below meth c T' locs cells slots ∧ T'.heap = h ∧ ∀ target, Steps p.tables e below (T'.setTop { g with pc := g.pc + 3, stack := .ref mr :: rest }) target → Steps p.tables e below (T.setTop g) target := by
  obtain ⟨cB, kB, i1, i2, i3⟩ := isOf hZ eT E
  obtain ⟨cc, kc, m1, m2, m3⟩ := M
  rw [hZ.alike.findClass] at i1
  cases i1.symm.trans m1
  obtain ⟨k', q, ek⟩ := hZ.alike.2.2 _ _ m2
  obtain ⟨vm', X', st⟩ := X.getClassOf hx hown (mvT hZ w1) (mvT hZ w2) (nf_top (args := #[]) (mvT hZ w3)) (mvT hZ w4) (mvT hZ w5) (mvT hZ w6) (by rw [hZ.alike.findClass]; exact m1) i3 q (by rw [ek]; exact m3) hg hsize hs hd hf (by omega)
  exact ⟨_, X', eT, st⟩
set_option maxRecDepth 65536 in
theorem own_ldcMir (X : Stand p l e R s m args below meth c T locs cells slots) (hx : p.tables.exec = Jvm.exec) (hZ : Z.Warmed39 s.vm) {own C : String} {index : Nat} (hown : s.vm.findClass own = some m.cls) (w : (Cond.classLink own index C).before a0 Z = true) {mr : Addr} (M : MirO Z C mr) (eT : T.heap = h)
    {g : JFrame} (hg : g.method = m) (hd : decode c.code g.pc = .ok (.ldc index, 2)) : ∃ T', Stand p l e R s m args below meth c T' locs cells slots ∧ T'.heap = h ∧ ∀ target, Steps p.tables e below (T'.setTop { g with pc := g.pc + 2, stack := .ref mr :: g.stack }) target → Steps p.tables e below (T.setTop g) target := by
  obtain ⟨cc, k, f1, f2, f3⟩ := M
  obtain ⟨k', q, ek⟩ := hZ.alike.2.2 _ _ f2
  have hm' : k'.mirror = some mr := by rw [ek]; exact f3
  have hc' : s.vm.findClass C = some cc := by rw [hZ.alike.findClass]; exact f1
  have hev : (Term.mirror C).eval args s none [] s = some (.ref mr) := by simp [Term.eval, hc', q, hm']
  obtain ⟨vm', X', st⟩ := X.ldcMirror hx hown (mv hZ w) hev hg hd
  exact ⟨_, X', eT, st⟩
end NewX
end Jvm.RoadKit
namespace Jvm.Pilot.@@N@@
open Jvm Jvm.ClassFile Sem Op Lib Jvm.Free Jvm.Stand Jvm.LawKit Jvm.RoadKit Bundle Jvm.Pilot.@@N@@.Jvm.D
abbrev rom0 : Room := { frames := 0, cells := 0, slots := 0, locals := 0 }
abbrev rom1 : Room := { frames := 1, cells := 0, slots := 0, locals := 13 }
abbrev rom2 : Room := { frames := 1, cells := 0, slots := 0, locals := 12 }
abbrev rom3 : Room := { frames := 2, cells := 0, slots := 0, locals := 24 }
abbrev rom4 : Room := { frames := 3, cells := 0, slots := 0, locals := 36 }
abbrev rom5 : Room := { frames := 1, cells := 1, slots := 10, locals := 14 }
abbrev rom6 : Room := { frames := 2, cells := 1, slots := 10, locals := 29 }
abbrev rom7 : Room := { frames := 3, cells := 1, slots := 10, locals := 41 }
abbrev rom8 : Room := { frames := 4, cells := 1, slots := 10, locals := 56 }
abbrev rom9 : Room := { frames := 1, cells := 0, slots := 0, locals := 15 }
abbrev rom10 : Room := { frames := 4, cells := 0, slots := 0, locals := 48 }
abbrev rom11 : Room := { frames := 1, cells := 1, slots := 1, locals := 18 }
abbrev rom12 : Room := { frames := 2, cells := 1, slots := 1, locals := 33 }
abbrev rom13 : Room := { frames := 3, cells := 1, slots := 1, locals := 46 }
abbrev rom14 : Room := { frames := 5, cells := 1, slots := 2, locals := 62 }
abbrev rom15 : Room := { frames := 6, cells := 2, slots := 3, locals := 75 }
abbrev rom16 : Room := { frames := 7, cells := 2, slots := 3, locals := 88 }
abbrev rom17 : Room := { frames := 8, cells := 2, slots := 3, locals := 101 }
abbrev rom18 : Room := { frames := 1, cells := 1, slots := 2, locals := 18 }
abbrev rom19 : Room := { frames := 2, cells := 1, slots := 2, locals := 33 }
abbrev rom20 : Room := { frames := 3, cells := 1, slots := 2, locals := 46 }
abbrev rom21 : Room := { frames := 5, cells := 1, slots := 2, locals := 63 }
abbrev rom22 : Room := { frames := 6, cells := 2, slots := 4, locals := 76 }
abbrev rom23 : Room := { frames := 7, cells := 2, slots := 4, locals := 89 }
abbrev rom24 : Room := { frames := 8, cells := 2, slots := 4, locals := 102 }
abbrev rom25 : Room := { frames := 1, cells := 1, slots := 3, locals := 18 }
abbrev rom26 : Room := { frames := 2, cells := 1, slots := 3, locals := 33 }
abbrev rom27 : Room := { frames := 3, cells := 1, slots := 3, locals := 46 }
abbrev rom28 : Room := { frames := 5, cells := 2, slots := 5, locals := 63 }
abbrev rom29 : Room := { frames := 6, cells := 2, slots := 5, locals := 77 }
abbrev rom30 : Room := { frames := 7, cells := 3, slots := 8, locals := 90 }
abbrev rom31 : Room := { frames := 8, cells := 3, slots := 8, locals := 103 }
abbrev rom32 : Room := { frames := 9, cells := 3, slots := 8, locals := 116 }
abbrev rom33 : Room := { frames := 1, cells := 1, slots := 4, locals := 18 }
abbrev rom34 : Room := { frames := 2, cells := 1, slots := 4, locals := 33 }
abbrev rom35 : Room := { frames := 3, cells := 1, slots := 4, locals := 46 }
abbrev rom36 : Room := { frames := 5, cells := 2, slots := 6, locals := 63 }
abbrev rom37 : Room := { frames := 6, cells := 2, slots := 6, locals := 77 }
abbrev rom38 : Room := { frames := 7, cells := 3, slots := 10, locals := 90 }
abbrev rom39 : Room := { frames := 8, cells := 3, slots := 10, locals := 103 }
abbrev rom40 : Room := { frames := 9, cells := 3, slots := 10, locals := 116 }
abbrev rom41 : Room := { frames := 1, cells := 0, slots := 0, locals := 14 }
set_option maxRecDepth 65536 in
theorem pnm0 : plainName "com/example/planwright/planwright/model/VestingProvisionsVestedPercentPinLaw" = true := by first | (simp [plainName, overriddenIn]; done) | decide +kernel
set_option maxRecDepth 65536 in
theorem pnm1 : plainName "java/lang/Integer" = true := by first | (simp [plainName, overriddenIn]; done) | decide +kernel
set_option maxRecDepth 65536 in
theorem pnm2 : plainName "java/util/AbstractCollection" = true := by first | (simp [plainName, overriddenIn]; done) | decide +kernel
set_option maxRecDepth 65536 in
theorem pnm3 : plainName "java/util/AbstractList" = true := by first | (simp [plainName, overriddenIn]; done) | decide +kernel
set_option maxRecDepth 65536 in
theorem pnm4 : plainName "java/util/ArrayList" = true := by first | (simp [plainName, overriddenIn]; done) | decide +kernel
set_option maxRecDepth 65536 in
theorem pnm5 : plainName "java/util/Objects" = true := by first | (simp [plainName, overriddenIn]; done) | decide +kernel
set_option maxRecDepth 65536 in
theorem pnm6 : plainName "java/util/ImmutableCollections$AbstractImmutableCollection" = true := by first | (simp [plainName, overriddenIn]; done) | decide +kernel
set_option maxRecDepth 65536 in
theorem pnm7 : plainName "java/util/ImmutableCollections$AbstractImmutableList" = true := by first | (simp [plainName, overriddenIn]; done) | decide +kernel
set_option maxRecDepth 65536 in
theorem pnm8 : plainName "java/util/ImmutableCollections$List12" = true := by first | (simp [plainName, overriddenIn]; done) | decide +kernel
set_option maxRecDepth 65536 in
theorem pnm9 : plainName "java/util/ImmutableCollections$ListN" = true := by first | (simp [plainName, overriddenIn]; done) | decide +kernel
set_option maxRecDepth 65536 in
theorem pnm10 : plainName "java/util/Arrays" = true := by first | (simp [plainName, overriddenIn]; done) | decide +kernel
set_option maxRecDepth 65536 in
theorem pnm11 : plainName "java/util/List" = true := by first | (simp [plainName, overriddenIn]; done) | decide +kernel
set_option maxRecDepth 65536 in
theorem pnm12 : plainName "java/util/ImmutableCollections" = true := by first | (simp [plainName, overriddenIn]; done) | decide +kernel
set_option maxRecDepth 65536 in
theorem pnm13 : plainName "com/example/planwright/planwright/model/VestingProvisions" = true := by first | (simp [plainName, overriddenIn]; done) | decide +kernel
abbrev mth0 : MethodName := ⟨"java/lang/Math", "max", "(II)I"⟩
abbrev mth1 : MethodName := ⟨"java/lang/Math", "min", "(II)I"⟩
abbrev mth2 : MethodName := ⟨"com/example/planwright/planwright/model/VestingProvisionsVestedPercentPinLaw", "pct", "(I)I"⟩
abbrev mth3 : MethodName := ⟨"java/lang/Integer", "valueOf", "(I)Ljava/lang/Integer;"⟩
abbrev mth4 : MethodName := ⟨"java/util/AbstractCollection", "<init>", "()V"⟩
abbrev mth5 : MethodName := ⟨"java/util/AbstractList", "<init>", "()V"⟩
abbrev mth6 : MethodName := ⟨"java/util/ArrayList", "<init>", "()V"⟩
abbrev mth7 : MethodName := ⟨"java/util/ArrayList", "grow", "(I)[Ljava/lang/Object;"⟩
abbrev mth8 : MethodName := ⟨"java/util/ArrayList", "grow", "()[Ljava/lang/Object;"⟩
abbrev mth9 : MethodName := ⟨"java/util/ArrayList", "add", "(Ljava/lang/Object;[Ljava/lang/Object;I)V"⟩
abbrev mth10 : MethodName := ⟨"java/util/ArrayList", "add", "(Ljava/lang/Object;)Z"⟩
abbrev mth11 : MethodName := ⟨"java/util/ArrayList", "isEmpty", "()Z"⟩
abbrev mth12 : MethodName := ⟨"java/util/Objects", "requireNonNull", "(Ljava/lang/Object;)Ljava/lang/Object;"⟩
abbrev mth13 : MethodName := ⟨"java/util/ImmutableCollections$AbstractImmutableCollection", "<init>", "()V"⟩
abbrev mth14 : MethodName := ⟨"java/util/ImmutableCollections$AbstractImmutableList", "<init>", "()V"⟩
abbrev mth15 : MethodName := ⟨"java/util/ImmutableCollections$List12", "<init>", "(Ljava/lang/Object;)V"⟩
abbrev mth16 : MethodName := ⟨"java/util/ImmutableCollections$List12", "<init>", "(Ljava/lang/Object;Ljava/lang/Object;)V"⟩
abbrev mth17 : MethodName := ⟨"java/util/ImmutableCollections$ListN", "<init>", "([Ljava/lang/Object;Z)V"⟩
abbrev mth18 : MethodName := ⟨"java/util/Arrays", "copyOf", "([Ljava/lang/Object;ILjava/lang/Class;)[Ljava/lang/Object;"⟩
abbrev mth19 : MethodName := ⟨"java/util/Arrays", "copyOf", "([Ljava/lang/Object;I)[Ljava/lang/Object;"⟩
abbrev mth20 : MethodName := ⟨"java/util/ArrayList", "toArray", "()[Ljava/lang/Object;"⟩
abbrev mth21 : MethodName := ⟨"java/util/List", "of", "([Ljava/lang/Object;)Ljava/util/List;"⟩
abbrev mth22 : MethodName := ⟨"java/util/Collection", "isEmpty", "()Z"⟩
abbrev mth23 : MethodName := ⟨"java/util/Collection", "toArray", "()[Ljava/lang/Object;"⟩
abbrev mth24 : MethodName := ⟨"java/util/ImmutableCollections", "listCopy", "(Ljava/util/Collection;)Ljava/util/List;"⟩
abbrev mth25 : MethodName := ⟨"java/util/List", "copyOf", "(Ljava/util/Collection;)Ljava/util/List;"⟩
abbrev mth26 : MethodName := ⟨"com/example/planwright/planwright/model/VestingProvisions", "<init>", "(IILjava/util/List;)V"⟩
abbrev mth27 : MethodName := ⟨"java/util/ImmutableCollections$List12", "size", "()I"⟩
abbrev mth28 : MethodName := ⟨"java/util/ImmutableCollections$List12", "get", "(I)Ljava/lang/Object;"⟩
abbrev mth29 : MethodName := ⟨"java/util/ImmutableCollections", "listFromArray", "([Ljava/lang/Object;)Ljava/util/List;"⟩
abbrev mth30 : MethodName := ⟨"java/util/ImmutableCollections$ListN", "size", "()I"⟩
abbrev mth31 : MethodName := ⟨"java/util/ImmutableCollections$ListN", "get", "(I)Ljava/lang/Object;"⟩
abbrev mth32 : MethodName := ⟨"java/lang/Integer", "intValue", "()I"⟩
abbrev mth33 : MethodName := ⟨"java/util/List", "size", "()I"⟩
abbrev mth34 : MethodName := ⟨"java/util/List", "get", "(I)Ljava/lang/Object;"⟩
abbrev mth35 : MethodName := ⟨"com/example/planwright/planwright/model/VestingProvisions", "vestedPercent", "(I)I"⟩
theorem dk0 : decode jdk_29_method_65_code 0 = .ok (.iload_n 0, 1) := by decide +kernel
theorem dk1 : decode jdk_29_method_65_code 1 = .ok (.iload_n 1, 1) := by decide +kernel
theorem dk2 : decode jdk_29_method_65_code 2 = .ok (.if_icmp .lt 7, 3) := by decide +kernel
theorem dk3 : decode jdk_29_method_65_code 9 = .ok (.iload_n 1, 1) := by decide +kernel
theorem dk4 : decode jdk_29_method_65_code 10 = .ok (.ireturn, 1) := by decide +kernel
theorem dk5 : decode jdk_29_method_65_code 5 = .ok (.iload_n 0, 1) := by decide +kernel
theorem dk6 : decode jdk_29_method_65_code 6 = .ok (.goto 4, 3) := by decide +kernel
theorem dk7 : decode jdk_29_method_69_code 0 = .ok (.iload_n 0, 1) := by decide +kernel
theorem dk8 : decode jdk_29_method_69_code 1 = .ok (.iload_n 1, 1) := by decide +kernel
theorem dk9 : decode jdk_29_method_69_code 2 = .ok (.if_icmp .gt 7, 3) := by decide +kernel
theorem dk10 : decode jdk_29_method_69_code 5 = .ok (.iload_n 0, 1) := by decide +kernel
theorem dk11 : decode jdk_29_method_69_code 6 = .ok (.goto 4, 3) := by decide +kernel
theorem dk12 : decode jdk_29_method_69_code 10 = .ok (.ireturn, 1) := by decide +kernel
theorem dk13 : decode jdk_29_method_69_code 9 = .ok (.iload_n 1, 1) := by decide +kernel
theorem dk14 : decode method_2_code 0 = .ok (.iload_n 0, 1) := by decide +kernel
theorem dk15 : decode method_2_code 1 = .ok (.bipush 127, 2) := by decide +kernel
theorem dk16 : decode method_2_code 3 = .ok (.iand, 1) := by decide +kernel
theorem dk17 : decode method_2_code 4 = .ok (.bipush 100, 2) := by decide +kernel
theorem dk18 : decode method_2_code 6 = .ok (.invokestatic 7, 3) := by decide +kernel
theorem dk19 : decode method_2_code 9 = .ok (.ireturn, 1) := by decide +kernel
theorem dk20 : decode jdk_33_method_22_code 0 = .ok (.iload_n 0, 1) := by decide +kernel
theorem dk21 : decode jdk_33_method_22_code 1 = .ok (.bipush (-128), 2) := by decide +kernel
theorem dk22 : decode jdk_33_method_22_code 3 = .ok (.if_icmp .lt 20, 3) := by decide +kernel
theorem dk23 : decode jdk_33_method_22_code 6 = .ok (.iload_n 0, 1) := by decide +kernel
theorem dk24 : decode jdk_33_method_22_code 7 = .ok (.getstatic 191, 3) := by decide +kernel
theorem dk25 : decode jdk_33_method_22_code 10 = .ok (.if_icmp .gt 13, 3) := by decide +kernel
theorem dk26 : decode jdk_33_method_22_code 13 = .ok (.getstatic 195, 3) := by decide +kernel
theorem dk27 : decode jdk_33_method_22_code 16 = .ok (.iload_n 0, 1) := by decide +kernel
theorem dk28 : decode jdk_33_method_22_code 17 = .ok (.sipush 128, 3) := by decide +kernel
theorem dk29 : decode jdk_33_method_22_code 20 = .ok (.iadd, 1) := by decide +kernel
theorem dk30 : decode jdk_33_method_22_code 21 = .ok (.aaload, 1) := by decide +kernel
theorem dk31 : decode jdk_33_method_22_code 22 = .ok (.areturn, 1) := by decide +kernel
theorem dk32 : decode jdk_22_method_1_code 0 = .ok (.aload_n 0, 1) := by decide +kernel
theorem dk33 : decode jdk_22_method_1_code 1 = .ok (.invokespecial 1, 3) := by decide +kernel
theorem dk34 : decode jdk_22_method_1_code 4 = .ok (.return_, 1) := by decide +kernel
theorem dk35 : decode jdk_39_method_1_code 0 = .ok (.aload_n 0, 1) := by decide +kernel
theorem dk36 : decode jdk_39_method_1_code 1 = .ok (.invokespecial 1, 3) := by decide +kernel
theorem dk37 : decode jdk_39_method_1_code 4 = .ok (.aload_n 0, 1) := by decide +kernel
theorem dk38 : decode jdk_39_method_1_code 5 = .ok (.iconst 0, 1) := by decide +kernel
theorem dk39 : decode jdk_39_method_1_code 6 = .ok (.putfield 7, 3) := by decide +kernel
theorem dk40 : decode jdk_39_method_1_code 9 = .ok (.return_, 1) := by decide +kernel
theorem dk41 : decode jdk_38_method_2_code 0 = .ok (.aload_n 0, 1) := by decide +kernel
theorem dk42 : decode jdk_38_method_2_code 1 = .ok (.invokespecial 1, 3) := by decide +kernel
theorem dk43 : decode jdk_38_method_2_code 4 = .ok (.aload_n 0, 1) := by decide +kernel
theorem dk44 : decode jdk_38_method_2_code 5 = .ok (.getstatic 39, 3) := by decide +kernel
theorem dk45 : decode jdk_38_method_2_code 8 = .ok (.putfield 9, 3) := by decide +kernel
theorem dk46 : decode jdk_38_method_2_code 11 = .ok (.return_, 1) := by decide +kernel
theorem dk47 : decode jdk_38_method_6_code 0 = .ok (.aload_n 0, 1) := by decide +kernel
theorem dk48 : decode jdk_38_method_6_code 1 = .ok (.getfield 9, 3) := by decide +kernel
theorem dk49 : decode jdk_38_method_6_code 4 = .ok (.arraylength, 1) := by decide +kernel
theorem dk50 : decode jdk_38_method_6_code 5 = .ok (.istore_n 2, 1) := by decide +kernel
theorem dk51 : decode jdk_38_method_6_code 6 = .ok (.iload_n 2, 1) := by decide +kernel
theorem dk52 : decode jdk_38_method_6_code 7 = .ok (.ifCond .gt 13, 3) := by decide +kernel
theorem dk53 : decode jdk_38_method_6_code 10 = .ok (.aload_n 0, 1) := by decide +kernel
theorem dk54 : decode jdk_38_method_6_code 11 = .ok (.getfield 9, 3) := by decide +kernel
theorem dk55 : decode jdk_38_method_6_code 14 = .ok (.getstatic 39, 3) := by decide +kernel
theorem dk56 : decode jdk_38_method_6_code 17 = .ok (.if_acmp .eq 28, 3) := by decide +kernel
theorem dk57 : decode jdk_38_method_6_code 45 = .ok (.aload_n 0, 1) := by decide +kernel
theorem dk58 : decode jdk_38_method_6_code 46 = .ok (.bipush 10, 2) := by decide +kernel
theorem dk59 : decode jdk_38_method_6_code 48 = .ok (.iload_n 1, 1) := by decide +kernel
theorem dk60 : decode jdk_38_method_6_code 49 = .ok (.invokestatic 79, 3) := by decide +kernel
theorem dk61 : decode jdk_38_method_6_code 52 = .ok (.anewarray 7, 3) := by decide +kernel
theorem dk62 : decode jdk_38_method_6_code 55 = .ok (.dup_x1, 1) := by decide +kernel
theorem dk63 : decode jdk_38_method_6_code 56 = .ok (.putfield 9, 3) := by decide +kernel
theorem dk64 : decode jdk_38_method_6_code 59 = .ok (.areturn, 1) := by decide +kernel
theorem dk65 : decode jdk_38_method_7_code 0 = .ok (.aload_n 0, 1) := by decide +kernel
theorem dk66 : decode jdk_38_method_7_code 1 = .ok (.aload_n 0, 1) := by decide +kernel
theorem dk67 : decode jdk_38_method_7_code 2 = .ok (.getfield 48, 3) := by decide +kernel
theorem dk68 : decode jdk_38_method_7_code 5 = .ok (.iconst 1, 1) := by decide +kernel
theorem dk69 : decode jdk_38_method_7_code 6 = .ok (.iadd, 1) := by decide +kernel
theorem dk70 : decode jdk_38_method_7_code 7 = .ok (.invokevirtual 69, 3) := by decide +kernel
theorem dk71 : decode jdk_38_method_7_code 10 = .ok (.areturn, 1) := by decide +kernel
theorem dk72 : decode jdk_38_method_24_code 0 = .ok (.iload_n 3, 1) := by decide +kernel
theorem dk73 : decode jdk_38_method_24_code 1 = .ok (.aload_n 2, 1) := by decide +kernel
theorem dk74 : decode jdk_38_method_24_code 2 = .ok (.arraylength, 1) := by decide +kernel
theorem dk75 : decode jdk_38_method_24_code 3 = .ok (.if_icmp .ne 8, 3) := by decide +kernel
theorem dk76 : decode jdk_38_method_24_code 6 = .ok (.aload_n 0, 1) := by decide +kernel
theorem dk77 : decode jdk_38_method_24_code 7 = .ok (.invokevirtual 129, 3) := by decide +kernel
theorem dk78 : decode jdk_38_method_24_code 10 = .ok (.astore_n 2, 1) := by decide +kernel
theorem dk79 : decode jdk_38_method_24_code 11 = .ok (.aload_n 2, 1) := by decide +kernel
theorem dk80 : decode jdk_38_method_24_code 12 = .ok (.iload_n 3, 1) := by decide +kernel
theorem dk81 : decode jdk_38_method_24_code 13 = .ok (.aload_n 1, 1) := by decide +kernel
theorem dk82 : decode jdk_38_method_24_code 14 = .ok (.aastore, 1) := by decide +kernel
theorem dk83 : decode jdk_38_method_24_code 15 = .ok (.aload_n 0, 1) := by decide +kernel
theorem dk84 : decode jdk_38_method_24_code 16 = .ok (.iload_n 3, 1) := by decide +kernel
theorem dk85 : decode jdk_38_method_24_code 17 = .ok (.iconst 1, 1) := by decide +kernel
theorem dk86 : decode jdk_38_method_24_code 18 = .ok (.iadd, 1) := by decide +kernel
theorem dk87 : decode jdk_38_method_24_code 19 = .ok (.putfield 48, 3) := by decide +kernel
theorem dk88 : decode jdk_38_method_24_code 22 = .ok (.return_, 1) := by decide +kernel
theorem dk89 : decode jdk_38_method_25_code 0 = .ok (.aload_n 0, 1) := by decide +kernel
theorem dk90 : decode jdk_38_method_25_code 1 = .ok (.dup, 1) := by decide +kernel
theorem dk91 : decode jdk_38_method_25_code 2 = .ok (.getfield 63, 3) := by decide +kernel
theorem dk92 : decode jdk_38_method_25_code 5 = .ok (.iconst 1, 1) := by decide +kernel
theorem dk93 : decode jdk_38_method_25_code 6 = .ok (.iadd, 1) := by decide +kernel
theorem dk94 : decode jdk_38_method_25_code 7 = .ok (.putfield 63, 3) := by decide +kernel
theorem dk95 : decode jdk_38_method_25_code 10 = .ok (.aload_n 0, 1) := by decide +kernel
theorem dk96 : decode jdk_38_method_25_code 11 = .ok (.aload_n 1, 1) := by decide +kernel
theorem dk97 : decode jdk_38_method_25_code 12 = .ok (.aload_n 0, 1) := by decide +kernel
theorem dk98 : decode jdk_38_method_25_code 13 = .ok (.getfield 9, 3) := by decide +kernel
theorem dk99 : decode jdk_38_method_25_code 16 = .ok (.aload_n 0, 1) := by decide +kernel
theorem dk100 : decode jdk_38_method_25_code 17 = .ok (.getfield 48, 3) := by decide +kernel
theorem dk101 : decode jdk_38_method_25_code 20 = .ok (.invokevirtual 131, 3) := by decide +kernel
theorem dk102 : decode jdk_38_method_25_code 23 = .ok (.iconst 1, 1) := by decide +kernel
theorem dk103 : decode jdk_38_method_25_code 24 = .ok (.ireturn, 1) := by decide +kernel
theorem dk104 : decode jdk_38_method_9_code 0 = .ok (.aload_n 0, 1) := by decide +kernel
theorem dk105 : decode jdk_38_method_9_code 1 = .ok (.getfield 48, 3) := by decide +kernel
theorem dk106 : decode jdk_38_method_9_code 4 = .ok (.ifCond .ne 7, 3) := by decide +kernel
theorem dk107 : decode jdk_38_method_9_code 11 = .ok (.iconst 0, 1) := by decide +kernel
theorem dk108 : decode jdk_38_method_9_code 12 = .ok (.ireturn, 1) := by decide +kernel
theorem dk109 : decode jdk_31_method_10_code 0 = .ok (.aload_n 0, 1) := by decide +kernel
theorem dk110 : decode jdk_31_method_10_code 1 = .ok (.ifnonnull 11, 3) := by decide +kernel
theorem dk111 : decode jdk_31_method_10_code 12 = .ok (.aload_n 0, 1) := by decide +kernel
theorem dk112 : decode jdk_31_method_10_code 13 = .ok (.areturn, 1) := by decide +kernel
theorem dk113 : decode jdk_47_method_1_code 0 = .ok (.aload_n 0, 1) := by decide +kernel
theorem dk114 : decode jdk_47_method_1_code 1 = .ok (.invokespecial 1, 3) := by decide +kernel
theorem dk115 : decode jdk_47_method_1_code 4 = .ok (.return_, 1) := by decide +kernel
theorem dk116 : decode jdk_46_method_1_code 0 = .ok (.aload_n 0, 1) := by decide +kernel
theorem dk117 : decode jdk_46_method_1_code 1 = .ok (.invokespecial 1, 3) := by decide +kernel
theorem dk118 : decode jdk_46_method_1_code 4 = .ok (.return_, 1) := by decide +kernel
theorem dk119 : decode jdk_44_method_1_code 0 = .ok (.aload_n 0, 1) := by decide +kernel
theorem dk120 : decode jdk_44_method_1_code 1 = .ok (.invokespecial 1, 3) := by decide +kernel
theorem dk121 : decode jdk_44_method_1_code 4 = .ok (.aload_n 0, 1) := by decide +kernel
theorem dk122 : decode jdk_44_method_1_code 5 = .ok (.aload_n 1, 1) := by decide +kernel
theorem dk123 : decode jdk_44_method_1_code 6 = .ok (.invokestatic 7, 3) := by decide +kernel
theorem dk124 : decode jdk_44_method_1_code 9 = .ok (.putfield 13, 3) := by decide +kernel
theorem dk125 : decode jdk_44_method_1_code 12 = .ok (.aload_n 0, 1) := by decide +kernel
theorem dk126 : decode jdk_44_method_1_code 13 = .ok (.getstatic 19, 3) := by decide +kernel
theorem dk127 : decode jdk_44_method_1_code 16 = .ok (.putfield 24, 3) := by decide +kernel
theorem dk128 : decode jdk_44_method_1_code 19 = .ok (.return_, 1) := by decide +kernel
theorem dk129 : decode jdk_44_method_2_code 0 = .ok (.aload_n 0, 1) := by decide +kernel
theorem dk130 : decode jdk_44_method_2_code 1 = .ok (.invokespecial 1, 3) := by decide +kernel
theorem dk131 : decode jdk_44_method_2_code 4 = .ok (.aload_n 0, 1) := by decide +kernel
theorem dk132 : decode jdk_44_method_2_code 5 = .ok (.aload_n 1, 1) := by decide +kernel
theorem dk133 : decode jdk_44_method_2_code 6 = .ok (.invokestatic 7, 3) := by decide +kernel
theorem dk134 : decode jdk_44_method_2_code 9 = .ok (.putfield 13, 3) := by decide +kernel
theorem dk135 : decode jdk_44_method_2_code 12 = .ok (.aload_n 0, 1) := by decide +kernel
theorem dk136 : decode jdk_44_method_2_code 13 = .ok (.aload_n 2, 1) := by decide +kernel
theorem dk137 : decode jdk_44_method_2_code 14 = .ok (.invokestatic 7, 3) := by decide +kernel
theorem dk138 : decode jdk_44_method_2_code 17 = .ok (.putfield 24, 3) := by decide +kernel
theorem dk139 : decode jdk_44_method_2_code 20 = .ok (.return_, 1) := by decide +kernel
theorem dk140 : decode jdk_45_method_1_code 0 = .ok (.aload_n 0, 1) := by decide +kernel
theorem dk141 : decode jdk_45_method_1_code 1 = .ok (.invokespecial 1, 3) := by decide +kernel
theorem dk142 : decode jdk_45_method_1_code 4 = .ok (.aload_n 0, 1) := by decide +kernel
theorem dk143 : decode jdk_45_method_1_code 5 = .ok (.aload_n 1, 1) := by decide +kernel
theorem dk144 : decode jdk_45_method_1_code 6 = .ok (.putfield 7, 3) := by decide +kernel
theorem dk145 : decode jdk_45_method_1_code 9 = .ok (.aload_n 0, 1) := by decide +kernel
theorem dk146 : decode jdk_45_method_1_code 10 = .ok (.iload_n 2, 1) := by decide +kernel
theorem dk147 : decode jdk_45_method_1_code 11 = .ok (.putfield 13, 3) := by decide +kernel
theorem dk148 : decode jdk_45_method_1_code 14 = .ok (.return_, 1) := by decide +kernel
theorem dk149 : decode jdk_65_method_120_code 0 = .ok (.aload_n 2, 1) := by decide +kernel
theorem dk150 : decode jdk_65_method_120_code 1 = .ok (.ldc 110, 2) := by decide +kernel
theorem dk151 : decode jdk_65_method_120_code 3 = .ok (.if_acmp .ne 10, 3) := by decide +kernel
theorem dk152 : decode jdk_65_method_120_code 6 = .ok (.iload_n 1, 1) := by decide +kernel
theorem dk153 : decode jdk_65_method_120_code 7 = .ok (.anewarray 2, 3) := by decide +kernel
theorem dk154 : decode jdk_65_method_120_code 10 = .ok (.goto 14, 3) := by decide +kernel
theorem dk155 : decode jdk_65_method_120_code 24 = .ok (.astore_n 3, 1) := by decide +kernel
theorem dk156 : decode jdk_65_method_120_code 25 = .ok (.aload_n 0, 1) := by decide +kernel
theorem dk157 : decode jdk_65_method_120_code 26 = .ok (.iconst 0, 1) := by decide +kernel
theorem dk158 : decode jdk_65_method_120_code 27 = .ok (.aload_n 3, 1) := by decide +kernel
theorem dk159 : decode jdk_65_method_120_code 28 = .ok (.iconst 0, 1) := by decide +kernel
theorem dk160 : decode jdk_65_method_120_code 29 = .ok (.aload_n 0, 1) := by decide +kernel
theorem dk161 : decode jdk_65_method_120_code 30 = .ok (.arraylength, 1) := by decide +kernel
theorem dk162 : decode jdk_65_method_120_code 31 = .ok (.iload_n 1, 1) := by decide +kernel
theorem dk163 : decode jdk_65_method_120_code 32 = .ok (.invokestatic 304, 3) := by decide +kernel
theorem dk164 : decode jdk_65_method_120_code 35 = .ok (.invokestatic 150, 3) := by decide +kernel
theorem dk165 : decode jdk_65_method_120_code 38 = .ok (.aload_n 3, 1) := by decide +kernel
theorem dk166 : decode jdk_65_method_120_code 39 = .ok (.areturn, 1) := by decide +kernel
theorem dk167 : decode jdk_65_method_119_code 0 = .ok (.aload_n 0, 1) := by decide +kernel
theorem dk168 : decode jdk_65_method_119_code 1 = .ok (.iload_n 1, 1) := by decide +kernel
theorem dk169 : decode jdk_65_method_119_code 2 = .ok (.aload_n 0, 1) := by decide +kernel
theorem dk170 : decode jdk_65_method_119_code 3 = .ok (.invokevirtual 86, 3) := by decide +kernel
theorem dk171 : decode jdk_65_method_119_code 6 = .ok (.invokestatic 300, 3) := by decide +kernel
theorem dk172 : decode jdk_65_method_119_code 9 = .ok (.areturn, 1) := by decide +kernel
theorem dk173 : decode jdk_38_method_16_code 0 = .ok (.aload_n 0, 1) := by decide +kernel
theorem dk174 : decode jdk_38_method_16_code 1 = .ok (.getfield 9, 3) := by decide +kernel
theorem dk175 : decode jdk_38_method_16_code 4 = .ok (.aload_n 0, 1) := by decide +kernel
theorem dk176 : decode jdk_38_method_16_code 5 = .ok (.getfield 48, 3) := by decide +kernel
theorem dk177 : decode jdk_38_method_16_code 8 = .ok (.invokestatic 66, 3) := by decide +kernel
theorem dk178 : decode jdk_38_method_16_code 11 = .ok (.areturn, 1) := by decide +kernel
theorem dk179 : decode jdk_40_method_47_code 0 = .ok (.aload_n 0, 1) := by decide +kernel
theorem dk180 : decode jdk_40_method_47_code 1 = .ok (.arraylength, 1) := by decide +kernel
theorem dk181 : decode jdk_40_method_47_code 2 = .ok (.tableswitch 57 0 2 #[26, 32, 43], 26) := by decide +kernel
theorem dk182 : decode jdk_40_method_47_code 34 = .ok (.new 96, 3) := by decide +kernel
theorem dk183 : decode jdk_40_method_47_code 37 = .ok (.dup, 1) := by decide +kernel
theorem dk184 : decode jdk_40_method_47_code 38 = .ok (.aload_n 0, 1) := by decide +kernel
theorem dk185 : decode jdk_40_method_47_code 39 = .ok (.iconst 0, 1) := by decide +kernel
theorem dk186 : decode jdk_40_method_47_code 40 = .ok (.aaload, 1) := by decide +kernel
theorem dk187 : decode jdk_40_method_47_code 41 = .ok (.invokespecial 98, 3) := by decide +kernel
theorem dk188 : decode jdk_40_method_47_code 44 = .ok (.areturn, 1) := by decide +kernel
theorem dk189 : decode jdk_56_method_3_code 0 = .ok (.aload_n 0, 1) := by decide +kernel
theorem dk190 : decode jdk_56_method_3_code 1 = .ok (.instanceof 10, 3) := by decide +kernel
theorem dk191 : decode jdk_56_method_3_code 4 = .ok (.ifCond .ne 22, 3) := by decide +kernel
theorem dk192 : decode jdk_56_method_3_code 7 = .ok (.aload_n 0, 1) := by decide +kernel
theorem dk193 : decode jdk_56_method_3_code 8 = .ok (.instanceof 12, 3) := by decide +kernel
theorem dk194 : decode jdk_56_method_3_code 11 = .ok (.ifCond .eq 20, 3) := by decide +kernel
theorem dk195 : decode jdk_56_method_3_code 31 = .ok (.aload_n 0, 1) := by decide +kernel
theorem dk196 : decode jdk_56_method_3_code 32 = .ok (.invokeinterface 20 1, 5) := by decide +kernel
theorem dk197 : decode jdk_56_method_3_code 37 = .ok (.ifCond .eq 7, 3) := by decide +kernel
theorem dk198 : decode jdk_56_method_3_code 44 = .ok (.aload_n 0, 1) := by decide +kernel
theorem dk199 : decode jdk_56_method_3_code 45 = .ok (.invokeinterface 30 1, 5) := by decide +kernel
theorem dk200 : decode jdk_56_method_3_code 50 = .ok (.invokestatic 34, 3) := by decide +kernel
theorem dk201 : decode jdk_56_method_3_code 53 = .ok (.areturn, 1) := by decide +kernel
theorem dk202 : decode jdk_40_method_48_code 0 = .ok (.aload_n 0, 1) := by decide +kernel
theorem dk203 : decode jdk_40_method_48_code 1 = .ok (.invokestatic 112, 3) := by decide +kernel
theorem dk204 : decode jdk_40_method_48_code 4 = .ok (.areturn, 1) := by decide +kernel
theorem dk205 : decode prog_32_method_1_code 0 = .ok (.aload_n 0, 1) := by decide +kernel
theorem dk206 : decode prog_32_method_1_code 1 = .ok (.invokespecial 1, 3) := by decide +kernel
theorem dk207 : decode prog_32_method_1_code 4 = .ok (.aload_n 0, 1) := by decide +kernel
theorem dk208 : decode prog_32_method_1_code 5 = .ok (.iload_n 1, 1) := by decide +kernel
theorem dk209 : decode prog_32_method_1_code 6 = .ok (.putfield 7, 3) := by decide +kernel
theorem dk210 : decode prog_32_method_1_code 9 = .ok (.aload_n 0, 1) := by decide +kernel
theorem dk211 : decode prog_32_method_1_code 10 = .ok (.iload_n 2, 1) := by decide +kernel
theorem dk212 : decode prog_32_method_1_code 11 = .ok (.putfield 13, 3) := by decide +kernel
theorem dk213 : decode prog_32_method_1_code 14 = .ok (.aload_n 0, 1) := by decide +kernel
theorem dk214 : decode prog_32_method_1_code 15 = .ok (.aload_n 3, 1) := by decide +kernel
theorem dk215 : decode prog_32_method_1_code 16 = .ok (.invokestatic 16, 3) := by decide +kernel
theorem dk216 : decode prog_32_method_1_code 19 = .ok (.putfield 22, 3) := by decide +kernel
theorem dk217 : decode prog_32_method_1_code 22 = .ok (.return_, 1) := by decide +kernel
theorem dk218 : decode jdk_44_method_3_code 0 = .ok (.aload_n 0, 1) := by decide +kernel
theorem dk219 : decode jdk_44_method_3_code 1 = .ok (.getfield 24, 3) := by decide +kernel
theorem dk220 : decode jdk_44_method_3_code 4 = .ok (.getstatic 19, 3) := by decide +kernel
theorem dk221 : decode jdk_44_method_3_code 7 = .ok (.if_acmp .eq 7, 3) := by decide +kernel
theorem dk222 : decode jdk_44_method_3_code 14 = .ok (.iconst 1, 1) := by decide +kernel
theorem dk223 : decode jdk_44_method_3_code 15 = .ok (.ireturn, 1) := by decide +kernel
theorem dk224 : decode jdk_44_method_5_code 0 = .ok (.iload_n 1, 1) := by decide +kernel
theorem dk225 : decode jdk_44_method_5_code 1 = .ok (.ifCond .ne 8, 3) := by decide +kernel
theorem dk226 : decode jdk_44_method_5_code 4 = .ok (.aload_n 0, 1) := by decide +kernel
theorem dk227 : decode jdk_44_method_5_code 5 = .ok (.getfield 13, 3) := by decide +kernel
theorem dk228 : decode jdk_44_method_5_code 8 = .ok (.areturn, 1) := by decide +kernel
theorem dk229 : decode jdk_40_method_47_code 45 = .ok (.new 96, 3) := by decide +kernel
theorem dk230 : decode jdk_40_method_47_code 48 = .ok (.dup, 1) := by decide +kernel
theorem dk231 : decode jdk_40_method_47_code 49 = .ok (.aload_n 0, 1) := by decide +kernel
theorem dk232 : decode jdk_40_method_47_code 50 = .ok (.iconst 0, 1) := by decide +kernel
theorem dk233 : decode jdk_40_method_47_code 51 = .ok (.aaload, 1) := by decide +kernel
theorem dk234 : decode jdk_40_method_47_code 52 = .ok (.aload_n 0, 1) := by decide +kernel
theorem dk235 : decode jdk_40_method_47_code 53 = .ok (.iconst 1, 1) := by decide +kernel
theorem dk236 : decode jdk_40_method_47_code 54 = .ok (.aaload, 1) := by decide +kernel
theorem dk237 : decode jdk_40_method_47_code 55 = .ok (.invokespecial 100, 3) := by decide +kernel
theorem dk238 : decode jdk_40_method_47_code 58 = .ok (.areturn, 1) := by decide +kernel
theorem dk239 : decode jdk_44_method_3_code 10 = .ok (.iconst 2, 1) := by decide +kernel
theorem dk240 : decode jdk_44_method_3_code 11 = .ok (.goto 4, 3) := by decide +kernel
theorem dk241 : decode jdk_44_method_5_code 9 = .ok (.iload_n 1, 1) := by decide +kernel
theorem dk242 : decode jdk_44_method_5_code 10 = .ok (.iconst 1, 1) := by decide +kernel
theorem dk243 : decode jdk_44_method_5_code 11 = .ok (.if_icmp .ne 18, 3) := by decide +kernel
theorem dk244 : decode jdk_44_method_5_code 14 = .ok (.aload_n 0, 1) := by decide +kernel
theorem dk245 : decode jdk_44_method_5_code 15 = .ok (.getfield 24, 3) := by decide +kernel
theorem dk246 : decode jdk_44_method_5_code 18 = .ok (.getstatic 19, 3) := by decide +kernel
theorem dk247 : decode jdk_44_method_5_code 21 = .ok (.if_acmp .eq 8, 3) := by decide +kernel
theorem dk248 : decode jdk_44_method_5_code 24 = .ok (.aload_n 0, 1) := by decide +kernel
theorem dk249 : decode jdk_44_method_5_code 25 = .ok (.getfield 24, 3) := by decide +kernel
theorem dk250 : decode jdk_44_method_5_code 28 = .ok (.areturn, 1) := by decide +kernel
theorem dk251 : decode jdk_56_method_4_code 0 = .ok (.aload_n 0, 1) := by decide +kernel
theorem dk252 : decode jdk_56_method_4_code 1 = .ok (.arraylength, 1) := by decide +kernel
theorem dk253 : decode jdk_56_method_4_code 2 = .ok (.anewarray 2, 3) := by decide +kernel
theorem dk254 : decode jdk_56_method_4_code 5 = .ok (.astore_n 1, 1) := by decide +kernel
theorem dk255 : decode jdk_56_method_4_code 6 = .ok (.iconst 0, 1) := by decide +kernel
theorem dk256 : decode jdk_56_method_4_code 7 = .ok (.istore_n 2, 1) := by decide +kernel
theorem dk257 : decode jdk_56_method_4_code 8 = .ok (.iload_n 2, 1) := by decide +kernel
theorem dk258 : decode jdk_56_method_4_code 9 = .ok (.aload_n 0, 1) := by decide +kernel
theorem dk259 : decode jdk_56_method_4_code 10 = .ok (.arraylength, 1) := by decide +kernel
theorem dk260 : decode jdk_56_method_4_code 11 = .ok (.if_icmp .ge 18, 3) := by decide +kernel
theorem dk261 : decode jdk_56_method_4_code 14 = .ok (.aload_n 1, 1) := by decide +kernel
theorem dk262 : decode jdk_56_method_4_code 15 = .ok (.iload_n 2, 1) := by decide +kernel
theorem dk263 : decode jdk_56_method_4_code 16 = .ok (.aload_n 0, 1) := by decide +kernel
theorem dk264 : decode jdk_56_method_4_code 17 = .ok (.iload_n 2, 1) := by decide +kernel
theorem dk265 : decode jdk_56_method_4_code 18 = .ok (.aaload, 1) := by decide +kernel
theorem dk266 : decode jdk_56_method_4_code 19 = .ok (.invokestatic 37, 3) := by decide +kernel
theorem dk267 : decode jdk_56_method_4_code 22 = .ok (.aastore, 1) := by decide +kernel
theorem dk268 : decode jdk_56_method_4_code 23 = .ok (.iinc 2 1, 3) := by decide +kernel
theorem dk269 : decode jdk_56_method_4_code 26 = .ok (.goto (-18), 3) := by decide +kernel
theorem dk270 : decode jdk_56_method_4_code 29 = .ok (.new 12, 3) := by decide +kernel
theorem dk271 : decode jdk_56_method_4_code 32 = .ok (.dup, 1) := by decide +kernel
theorem dk272 : decode jdk_56_method_4_code 33 = .ok (.aload_n 1, 1) := by decide +kernel
theorem dk273 : decode jdk_56_method_4_code 34 = .ok (.iconst 0, 1) := by decide +kernel
theorem dk274 : decode jdk_56_method_4_code 35 = .ok (.invokespecial 43, 3) := by decide +kernel
theorem dk275 : decode jdk_56_method_4_code 38 = .ok (.areturn, 1) := by decide +kernel
theorem dk276 : decode jdk_40_method_47_code 59 = .ok (.aload_n 0, 1) := by decide +kernel
theorem dk277 : decode jdk_40_method_47_code 60 = .ok (.invokestatic 109, 3) := by decide +kernel
theorem dk278 : decode jdk_40_method_47_code 63 = .ok (.areturn, 1) := by decide +kernel
theorem dk279 : decode jdk_45_method_3_code 0 = .ok (.aload_n 0, 1) := by decide +kernel
theorem dk280 : decode jdk_45_method_3_code 1 = .ok (.getfield 7, 3) := by decide +kernel
theorem dk281 : decode jdk_45_method_3_code 4 = .ok (.arraylength, 1) := by decide +kernel
theorem dk282 : decode jdk_45_method_3_code 5 = .ok (.ireturn, 1) := by decide +kernel
theorem dk283 : decode jdk_45_method_4_code 0 = .ok (.aload_n 0, 1) := by decide +kernel
theorem dk284 : decode jdk_45_method_4_code 1 = .ok (.getfield 7, 3) := by decide +kernel
theorem dk285 : decode jdk_45_method_4_code 4 = .ok (.iload_n 1, 1) := by decide +kernel
theorem dk286 : decode jdk_45_method_4_code 5 = .ok (.aaload, 1) := by decide +kernel
theorem dk287 : decode jdk_45_method_4_code 6 = .ok (.areturn, 1) := by decide +kernel
theorem dk288 : decode jdk_33_method_27_code 0 = .ok (.aload_n 0, 1) := by decide +kernel
theorem dk289 : decode jdk_33_method_27_code 1 = .ok (.getfield 205, 3) := by decide +kernel
theorem dk290 : decode jdk_33_method_27_code 4 = .ok (.ireturn, 1) := by decide +kernel
theorem dk291 : decode prog_32_method_4_code 0 = .ok (.iload_n 1, 1) := by decide +kernel
theorem dk292 : decode prog_32_method_4_code 1 = .ok (.ifCond .ge 17, 3) := by decide +kernel
theorem dk293 : decode prog_32_method_4_code 18 = .ok (.aload_n 0, 1) := by decide +kernel
theorem dk294 : decode prog_32_method_4_code 19 = .ok (.getfield 22, 3) := by decide +kernel
theorem dk295 : decode prog_32_method_4_code 22 = .ok (.iload_n 1, 1) := by decide +kernel
theorem dk296 : decode prog_32_method_4_code 23 = .ok (.aload_n 0, 1) := by decide +kernel
theorem dk297 : decode prog_32_method_4_code 24 = .ok (.getfield 22, 3) := by decide +kernel
theorem dk298 : decode prog_32_method_4_code 27 = .ok (.invokeinterface 35 1, 5) := by decide +kernel
theorem dk299 : decode prog_32_method_4_code 32 = .ok (.iconst 1, 1) := by decide +kernel
theorem dk300 : decode prog_32_method_4_code 33 = .ok (.isub, 1) := by decide +kernel
theorem dk301 : decode prog_32_method_4_code 34 = .ok (.invokestatic 39, 3) := by decide +kernel
theorem dk302 : decode prog_32_method_4_code 37 = .ok (.invokeinterface 45 2, 5) := by decide +kernel
theorem dk303 : decode prog_32_method_4_code 42 = .ok (.checkcast 49, 3) := by decide +kernel
theorem dk304 : decode prog_32_method_4_code 45 = .ok (.invokevirtual 51, 3) := by decide +kernel
theorem dk305 : decode prog_32_method_4_code 48 = .ok (.ireturn, 1) := by decide +kernel
theorem pd_II_I : parseMethodDescriptor "(II)I" = some ⟨[.int, .int], some .int⟩ := by decide +kernel
theorem pd_V : parseMethodDescriptor "()V" = some ⟨[], none⟩ := by decide +kernel
theorem pd_I__Ljava_lang_Object : parseMethodDescriptor "(I)[Ljava/lang/Object;" = some ⟨[.int], some (.array (.object "java/lang/Object"))⟩ := by decide +kernel
theorem pd_Ljava_lang_Object : parseMethodDescriptor "()[Ljava/lang/Object;" = some ⟨[], some (.array (.object "java/lang/Object"))⟩ := by decide +kernel
theorem pd_Ljava_lang_Object__Ljava_lang_Object_I_V : parseMethodDescriptor "(Ljava/lang/Object;[Ljava/lang/Object;I)V" = some ⟨[(.object "java/lang/Object"), (.array (.object "java/lang/Object")), .int], none⟩ := by decide +kernel
theorem pd_Ljava_lang_Object__Ljava_lang_Object : parseMethodDescriptor "(Ljava/lang/Object;)Ljava/lang/Object;" = some ⟨[(.object "java/lang/Object")], some (.object "java/lang/Object")⟩ := by decide +kernel
theorem pd_Ljava_lang_Object_ILjava_lang_Class___Ljava_lang_Object : parseMethodDescriptor "([Ljava/lang/Object;ILjava/lang/Class;)[Ljava/lang/Object;" = some ⟨[(.array (.object "java/lang/Object")), .int, (.object "java/lang/Class")], some (.array (.object "java/lang/Object"))⟩ := by decide +kernel
theorem pd_Ljava_lang_Object_I__Ljava_lang_Object : parseMethodDescriptor "([Ljava/lang/Object;I)[Ljava/lang/Object;" = some ⟨[(.array (.object "java/lang/Object")), .int], some (.array (.object "java/lang/Object"))⟩ := by decide +kernel
theorem pd_Ljava_lang_Object__V : parseMethodDescriptor "(Ljava/lang/Object;)V" = some ⟨[(.object "java/lang/Object")], none⟩ := by decide +kernel
theorem pd_Z : parseMethodDescriptor "()Z" = some ⟨[], some .boolean⟩ := by decide +kernel
theorem pd_Ljava_lang_Object__Ljava_util_List : parseMethodDescriptor "([Ljava/lang/Object;)Ljava/util/List;" = some ⟨[(.array (.object "java/lang/Object"))], some (.object "java/util/List")⟩ := by decide +kernel
theorem pd_Ljava_util_Collection__Ljava_util_List : parseMethodDescriptor "(Ljava/util/Collection;)Ljava/util/List;" = some ⟨[(.object "java/util/Collection")], some (.object "java/util/List")⟩ := by decide +kernel
theorem pd_Ljava_lang_Object_Ljava_lang_Object__V : parseMethodDescriptor "(Ljava/lang/Object;Ljava/lang/Object;)V" = some ⟨[(.object "java/lang/Object"), (.object "java/lang/Object")], none⟩ := by decide +kernel
theorem pd_Ljava_lang_Object_Z_V : parseMethodDescriptor "([Ljava/lang/Object;Z)V" = some ⟨[(.array (.object "java/lang/Object")), .boolean], none⟩ := by decide +kernel
theorem pd_I : parseMethodDescriptor "()I" = some ⟨[], some .int⟩ := by decide +kernel
theorem pd_I_Ljava_lang_Object : parseMethodDescriptor "(I)Ljava/lang/Object;" = some ⟨[.int], some (.object "java/lang/Object")⟩ := by decide +kernel
theorem pd_I_I : parseMethodDescriptor "(I)I" = some ⟨[.int], some .int⟩ := by decide +kernel
theorem pd_I_Ljava_lang_Integer : parseMethodDescriptor "(I)Ljava/lang/Integer;" = some ⟨[.int], some (.object "java/lang/Integer")⟩ := by decide +kernel
theorem pd_Ljava_lang_Object__Z : parseMethodDescriptor "(Ljava/lang/Object;)Z" = some ⟨[(.object "java/lang/Object")], some .boolean⟩ := by decide +kernel
theorem pd_IILjava_util_List__V : parseMethodDescriptor "(IILjava/util/List;)V" = some ⟨[.int, .int, (.object "java/util/List")], none⟩ := by decide +kernel
theorem own_lenv {s : State} {args : Array Value} {t : Term} {z : Int32} (h : (Term.length t).eval args s none [] s = some (.int z)) : ∃ a c, t.eval args s none [] s = some (.ref a) ∧ s.arrayAt? a = some c ∧ c.slots.size < 2 ^ 31 ∧ c.slots.size.toInt32 = z := by
  simp only [Term.eval] at h
  cases ht : t.eval args s none [] s with
  | none => simp [ht] at h
  | some v =>
    cases v with
    | ref a =>
      cases hc : s.arrayAt? a with
      | none => simp [ht, hc] at h
      | some c =>
        simp only [ht, hc, Option.bind_eq_bind, Option.bind_some] at h
        split at h
        · rename_i hl
          exact ⟨a, c, rfl, hc, hl, by simpa using h⟩
        · cases h
    | _ => simp [ht] at h
def own_cv (j : Int32) : Value := .int (j - 128)
theorem own_cv_eq (p : Int32) : own_cv (p + (128 : Int32)) = .int p := by
  show Value.int (p + 128 - 128) = .int p
  rw [Int32.add_sub_cancel]
theorem own_sz {c : Cell} (hs : c.slots.size < 2 ^ 31) {z : Int32} (e : c.slots.size.toInt32 = z) : c.slots.size = z.toNatClampNeg := by
  subst e
  have := len_toInt hs
  simp only [Int32.toNatClampNeg, this]; rfl
theorem own_len0 {s : State} {args : Array Value} {t : Term} {a : Addr} {c : Cell} {ty : FieldType} (ev : t.eval args s none [] s = some (.ref a)) (A : Arr s s.heap a c ty) (l : (Term.length t).eval args s none [] s = some (.int 0)) (hr : fits ty .null = true) : Arv s s.heap a c.cls ty (0 : Int32) [] .null := by
  obtain ⟨x, cl, e1, e2, e3, e4⟩ := own_lenv l
  cases ev.symm.trans e1
  cases (A.fin (Vm.Alike.refl _)).symm.trans e2
  have z := own_sz e3 e4
  exact ⟨c, A, rfl, z, by decide, fun k hk => by rw [z] at hk; exact absurd hk (Nat.not_lt_zero _), fun i hi => by rw [z] at hi; exact absurd hi (Nat.not_lt_zero _)⟩
theorem own_bxs {s : State} {args : Array Value} {C n d : String} {a : Addr} {c : Cell} (ev : (Term.static C n d).eval args s none [] s = some (.ref a)) (A : Arr s s.heap a c (.object "java/lang/Integer")) (l : (Term.length (Term.static C n d)).eval args s none [] s = some (.int 256))
    (h : (Cond.all (Term.static C n d) (.and (.exactly (.elem (Term.static C n d) (.index 0)) "java/lang/Integer") (.eq (.field (.elem (Term.static C n d) (.index 0)) "java/lang/Integer" "value" "I") (.sub (.index 0) (.int 128))))).value args s none s [] = some true) : Bxs s a c "java/lang/Integer" "I" (256 : Int32) own_cv := by
  obtain ⟨x, cl, e1, e2, e3, e4⟩ := own_lenv l
  cases ev.symm.trans e1
  cases (A.fin (Vm.Alike.refl _)).symm.trans e2
  refine Bxs.start (fun idx => ev) A e3 e4 (by decide) h (fun X j hj hq => eqv_i ?_ hq)
  simp [Term.eval, (back32 hj).1]
theorem own_mir {s : State} {C : String} (h : Jvm.D.MirrorMade s C) : ∃ mr, MirO s C mr := by
  obtain ⟨c, k, m, h1, h2, h3, -⟩ := h
  exact ⟨m, c, k, h1, h2, h3⟩

theorem ef_mx1 (m : MethodId) (x0 : Int32) (x1 : Int32) : entryFrame m #[(.int x0), (.int x1)] 2 = mkF m 0 #[.val (.int x0), .val (.int x1)] [] := by first | (simp [entryFrame, mkF, argsToLocals, Value.category]; done) | rfl
def Q_mx1 (Z : State) (p0 : Int32) (p1 : Int32) (h0 : Heap) (n0 : Nat) (v : Option Value) (h : Heap) (L : List Loc) : Prop := v = some (.int p1) ∧ Fr n0 L ∧ h = h0
set_option maxRecDepth 65536 in
set_option maxHeartbeats 40000000 in
theorem mx1 (l : Launch) (Z : State) (a0 : Array Value) (hw : ∀ d ∈ tables_1, d.before a0 Z = true) (ws : List Jvm.Cond) (p0 : Int32) (p1 : Int32) (h0 : Heap) (n0 : Nat) (Z0 : n0 ≤ h0.size) (H : p0 < p1) :
    MetFree l mth0 (head1 (Jvm.Cond.code mth0 jdk_29_method_65_code 2 (some .int) :: ws) rom0) (fun a U => a = #[(.int p0), (.int p1)] ∧ Z.Warmed39 U.vm ∧ U.heap = h0) (fun _ _ _ _ _ => True) (fun _ U o U' => ∃ v L, o = .returned v ∧ Q_mx1 Z p0 p1 h0 n0 v U'.heap L ∧ FrameEnd U o U' L rom0.cells rom0.slots) := by
  refine MetFree.of_bodySF (Jvm.Free.JP.mathPlain rfl (by decide +kernel)) hisR ?_
  intro p e s m args below meth c s₁ Bd hml0 hP hK
  obtain ⟨rfl, hZ, hh⟩ := hP
  have hx := Bd.exec
  have hby := Bd.bytes
  have hml : c.maxLocals = 2 := hml0
  have hown : s.vm.findClass "java/lang/Math" = some m.cls := findClass_of_methodNamed Bd.named
  have hnm := (name_of_methodNamed Bd.named Bd.method).1
  have X0 : Stand p l e rom0 s m #[(.int p0), (.int p1)] below meth c s₁ [] 0 0 := Stand.of_body Bd
  have eh0 : s₁.heap = h0 := by rw [← hh, Bd.state]; rfl
  have N0 := Fr.nil n0
  show Goes p e below (Pq (Q_mx1 Z p0 p1 h0 n0) s rom0.cells rom0.slots) (s₁.setTop (entryFrame m #[(.int p0), (.int p1)] 2))
  refine Goes.step (S' := s₁.setTop (mkF m 0 #[.val (.int p0), .val (.int p1)] [])) (fun t k => castTop (ef_mx1 m p0 p1) k) ?_
  refine Goes.step (S' := s₁.setTop (mkF m 10 #[.val (.int p0), .val (.int p1)] [(.int p1)])) (fun t k => XS.iloadN X0.here hx rfl (hb hby dk0) rfl (XS.iloadN X0.here hx rfl (hb hby dk1) rfl (XS.icmpYes X0.here hx rfl (pc0 := 2) (pc' := 9) rfl (hb hby dk2) rfl (tlt (H : p0 < p1)).1 (by decide) (by decide) (XS.iloadN X0.here hx rfl (hb hby dk3) rfl k)))) ?_
  refine Goes.leave (g := (mkF m 10 #[.val (.int p0), .val (.int p1)] [(.int p1)])) X0 Bd.notSynchronized (v := (some (.int p1))) (fun h => by rw [Bd.returns] at h; cases h) (fun fs hr => retI X0 hx Bd.returns (hb hby dk4) hr) eh0 ?_ (by decide) (by decide)
  exact ⟨rfl, N0, rfl⟩

theorem ef_mx0 (m : MethodId) (x0 : Int32) (x1 : Int32) : entryFrame m #[(.int x0), (.int x1)] 2 = mkF m 0 #[.val (.int x0), .val (.int x1)] [] := by first | (simp [entryFrame, mkF, argsToLocals, Value.category]; done) | rfl
def Q_mx0 (Z : State) (p0 : Int32) (p1 : Int32) (h0 : Heap) (n0 : Nat) (v : Option Value) (h : Heap) (L : List Loc) : Prop := v = some (.int p0) ∧ Fr n0 L ∧ h = h0
set_option maxRecDepth 65536 in
set_option maxHeartbeats 40000000 in
theorem mx0 (l : Launch) (Z : State) (a0 : Array Value) (hw : ∀ d ∈ tables_1, d.before a0 Z = true) (ws : List Jvm.Cond) (p0 : Int32) (p1 : Int32) (h0 : Heap) (n0 : Nat) (Z0 : n0 ≤ h0.size) (H : ¬ (p0 < p1)) :
    MetFree l mth0 (head1 (Jvm.Cond.code mth0 jdk_29_method_65_code 2 (some .int) :: ws) rom0) (fun a U => a = #[(.int p0), (.int p1)] ∧ Z.Warmed39 U.vm ∧ U.heap = h0) (fun _ _ _ _ _ => True) (fun _ U o U' => ∃ v L, o = .returned v ∧ Q_mx0 Z p0 p1 h0 n0 v U'.heap L ∧ FrameEnd U o U' L rom0.cells rom0.slots) := by
  refine MetFree.of_bodySF (Jvm.Free.JP.mathPlain rfl (by decide +kernel)) hisR ?_
  intro p e s m args below meth c s₁ Bd hml0 hP hK
  obtain ⟨rfl, hZ, hh⟩ := hP
  have hx := Bd.exec
  have hby := Bd.bytes
  have hml : c.maxLocals = 2 := hml0
  have hown : s.vm.findClass "java/lang/Math" = some m.cls := findClass_of_methodNamed Bd.named
  have hnm := (name_of_methodNamed Bd.named Bd.method).1
  have X0 : Stand p l e rom0 s m #[(.int p0), (.int p1)] below meth c s₁ [] 0 0 := Stand.of_body Bd
  have eh0 : s₁.heap = h0 := by rw [← hh, Bd.state]; rfl
  have N0 := Fr.nil n0
  show Goes p e below (Pq (Q_mx0 Z p0 p1 h0 n0) s rom0.cells rom0.slots) (s₁.setTop (entryFrame m #[(.int p0), (.int p1)] 2))
  refine Goes.step (S' := s₁.setTop (mkF m 0 #[.val (.int p0), .val (.int p1)] [])) (fun t k => castTop (ef_mx0 m p0 p1) k) ?_
  refine Goes.step (S' := s₁.setTop (mkF m 10 #[.val (.int p0), .val (.int p1)] [(.int p0)])) (fun t k => XS.iloadN X0.here hx rfl (hb hby dk0) rfl (XS.iloadN X0.here hx rfl (hb hby dk1) rfl (XS.icmpNo X0.here hx rfl (hb hby dk2) rfl (flt (H : ¬ (p0 < p1))).1 (XS.iloadN X0.here hx rfl (hb hby dk5) rfl (XS.goto X0.here hx rfl (pc0 := 6) (pc' := 10) rfl (hb hby dk6) (by decide) (by decide) k))))) ?_
  refine Goes.leave (g := (mkF m 10 #[.val (.int p0), .val (.int p1)] [(.int p0)])) X0 Bd.notSynchronized (v := (some (.int p0))) (fun h => by rw [Bd.returns] at h; cases h) (fun fs hr => retI X0 hx Bd.returns (hb hby dk4) hr) eh0 ?_ (by decide) (by decide)
  exact ⟨rfl, N0, rfl⟩

theorem ef_mn0 (m : MethodId) (x0 : Int32) (x1 : Int32) : entryFrame m #[(.int x0), (.int x1)] 2 = mkF m 0 #[.val (.int x0), .val (.int x1)] [] := by first | (simp [entryFrame, mkF, argsToLocals, Value.category]; done) | rfl
def Q_mn0 (Z : State) (p0 : Int32) (p1 : Int32) (h0 : Heap) (n0 : Nat) (v : Option Value) (h : Heap) (L : List Loc) : Prop := v = some (.int p0) ∧ Fr n0 L ∧ h = h0
set_option maxRecDepth 65536 in
set_option maxHeartbeats 40000000 in
theorem mn0 (l : Launch) (Z : State) (a0 : Array Value) (hw : ∀ d ∈ tables_1, d.before a0 Z = true) (ws : List Jvm.Cond) (p0 : Int32) (p1 : Int32) (h0 : Heap) (n0 : Nat) (Z0 : n0 ≤ h0.size) (H : ¬ (p1 < p0)) :
    MetFree l mth1 (head1 (Jvm.Cond.code mth1 jdk_29_method_69_code 2 (some .int) :: ws) rom0) (fun a U => a = #[(.int p0), (.int p1)] ∧ Z.Warmed39 U.vm ∧ U.heap = h0) (fun _ _ _ _ _ => True) (fun _ U o U' => ∃ v L, o = .returned v ∧ Q_mn0 Z p0 p1 h0 n0 v U'.heap L ∧ FrameEnd U o U' L rom0.cells rom0.slots) := by
  refine MetFree.of_bodySF (Jvm.Free.JP.mathPlain rfl (by decide +kernel)) hisR ?_
  intro p e s m args below meth c s₁ Bd hml0 hP hK
  obtain ⟨rfl, hZ, hh⟩ := hP
  have hx := Bd.exec
  have hby := Bd.bytes
  have hml : c.maxLocals = 2 := hml0
  have hown : s.vm.findClass "java/lang/Math" = some m.cls := findClass_of_methodNamed Bd.named
  have hnm := (name_of_methodNamed Bd.named Bd.method).1
  have X0 : Stand p l e rom0 s m #[(.int p0), (.int p1)] below meth c s₁ [] 0 0 := Stand.of_body Bd
  have eh0 : s₁.heap = h0 := by rw [← hh, Bd.state]; rfl
  have N0 := Fr.nil n0
  show Goes p e below (Pq (Q_mn0 Z p0 p1 h0 n0) s rom0.cells rom0.slots) (s₁.setTop (entryFrame m #[(.int p0), (.int p1)] 2))
  refine Goes.step (S' := s₁.setTop (mkF m 0 #[.val (.int p0), .val (.int p1)] [])) (fun t k => castTop (ef_mn0 m p0 p1) k) ?_
  refine Goes.step (S' := s₁.setTop (mkF m 10 #[.val (.int p0), .val (.int p1)] [(.int p0)])) (fun t k => XS.iloadN X0.here hx rfl (hb hby dk7) rfl (XS.iloadN X0.here hx rfl (hb hby dk8) rfl (XS.icmpNo X0.here hx rfl (hb hby dk9) rfl (flt (H : ¬ (p1 < p0))).2.2.1 (XS.iloadN X0.here hx rfl (hb hby dk10) rfl (XS.goto X0.here hx rfl (pc0 := 6) (pc' := 10) rfl (hb hby dk11) (by decide) (by decide) k))))) ?_
  refine Goes.leave (g := (mkF m 10 #[.val (.int p0), .val (.int p1)] [(.int p0)])) X0 Bd.notSynchronized (v := (some (.int p0))) (fun h => by rw [Bd.returns] at h; cases h) (fun fs hr => retI X0 hx Bd.returns (hb hby dk12) hr) eh0 ?_ (by decide) (by decide)
  exact ⟨rfl, N0, rfl⟩

theorem ef_mn1 (m : MethodId) (x0 : Int32) (x1 : Int32) : entryFrame m #[(.int x0), (.int x1)] 2 = mkF m 0 #[.val (.int x0), .val (.int x1)] [] := by first | (simp [entryFrame, mkF, argsToLocals, Value.category]; done) | rfl
def Q_mn1 (Z : State) (p0 : Int32) (p1 : Int32) (h0 : Heap) (n0 : Nat) (v : Option Value) (h : Heap) (L : List Loc) : Prop := v = some (.int p1) ∧ Fr n0 L ∧ h = h0
set_option maxRecDepth 65536 in
set_option maxHeartbeats 40000000 in
theorem mn1 (l : Launch) (Z : State) (a0 : Array Value) (hw : ∀ d ∈ tables_1, d.before a0 Z = true) (ws : List Jvm.Cond) (p0 : Int32) (p1 : Int32) (h0 : Heap) (n0 : Nat) (Z0 : n0 ≤ h0.size) (H : p1 < p0) :
    MetFree l mth1 (head1 (Jvm.Cond.code mth1 jdk_29_method_69_code 2 (some .int) :: ws) rom0) (fun a U => a = #[(.int p0), (.int p1)] ∧ Z.Warmed39 U.vm ∧ U.heap = h0) (fun _ _ _ _ _ => True) (fun _ U o U' => ∃ v L, o = .returned v ∧ Q_mn1 Z p0 p1 h0 n0 v U'.heap L ∧ FrameEnd U o U' L rom0.cells rom0.slots) := by
  refine MetFree.of_bodySF (Jvm.Free.JP.mathPlain rfl (by decide +kernel)) hisR ?_
  intro p e s m args below meth c s₁ Bd hml0 hP hK
  obtain ⟨rfl, hZ, hh⟩ := hP
  have hx := Bd.exec
  have hby := Bd.bytes
  have hml : c.maxLocals = 2 := hml0
  have hown : s.vm.findClass "java/lang/Math" = some m.cls := findClass_of_methodNamed Bd.named
  have hnm := (name_of_methodNamed Bd.named Bd.method).1
  have X0 : Stand p l e rom0 s m #[(.int p0), (.int p1)] below meth c s₁ [] 0 0 := Stand.of_body Bd
  have eh0 : s₁.heap = h0 := by rw [← hh, Bd.state]; rfl
  have N0 := Fr.nil n0
  show Goes p e below (Pq (Q_mn1 Z p0 p1 h0 n0) s rom0.cells rom0.slots) (s₁.setTop (entryFrame m #[(.int p0), (.int p1)] 2))
  refine Goes.step (S' := s₁.setTop (mkF m 0 #[.val (.int p0), .val (.int p1)] [])) (fun t k => castTop (ef_mn1 m p0 p1) k) ?_
  refine Goes.step (S' := s₁.setTop (mkF m 10 #[.val (.int p0), .val (.int p1)] [(.int p1)])) (fun t k => XS.iloadN X0.here hx rfl (hb hby dk7) rfl (XS.iloadN X0.here hx rfl (hb hby dk8) rfl (XS.icmpYes X0.here hx rfl (pc0 := 2) (pc' := 9) rfl (hb hby dk9) rfl (tlt (H : p1 < p0)).2.2.1 (by decide) (by decide) (XS.iloadN X0.here hx rfl (hb hby dk13) rfl k)))) ?_
  refine Goes.leave (g := (mkF m 10 #[.val (.int p0), .val (.int p1)] [(.int p1)])) X0 Bd.notSynchronized (v := (some (.int p1))) (fun h => by rw [Bd.returns] at h; cases h) (fun fs hr => retI X0 hx Bd.returns (hb hby dk12) hr) eh0 ?_ (by decide) (by decide)
  exact ⟨rfl, N0, rfl⟩

theorem ef_mxr (m : MethodId) (x0 : Int32) (x1 : Int32) : entryFrame m #[(.int x0), (.int x1)] 2 = mkF m 0 #[.val (.int x0), .val (.int x1)] [] := by first | (simp [entryFrame, mkF, argsToLocals, Value.category]; done) | rfl
def Q_mxr (Z : State) (p0 : Int32) (p1 : Int32) (h0 : Heap) (n0 : Nat) (v : Option Value) (h : Heap) (L : List Loc) : Prop := ∃ (r : Int32), v = some (.int r) ∧ Fr n0 L ∧ h = h0 ∧ ¬ (r < (0 : Int32)) ∧ ¬ ((100 : Int32) < r)
set_option maxRecDepth 65536 in
set_option maxHeartbeats 40000000 in
theorem mxr (l : Launch) (Z : State) (a0 : Array Value) (hw : ∀ d ∈ tables_1, d.before a0 Z = true) (ws : List Jvm.Cond) (p0 : Int32) (p1 : Int32) (h0 : Heap) (n0 : Nat) (Z0 : n0 ≤ h0.size) (Ha : ¬ (p0 < (0 : Int32))) (Hb : ¬ ((100 : Int32) < p0)) (Ka : ¬ (p1 < (0 : Int32))) (Kb : ¬ ((100 : Int32) < p1)) :
    MetFree l mth0 (head1 (Jvm.Cond.code mth0 jdk_29_method_65_code 2 (some .int) :: ws) rom0) (fun a U => a = #[(.int p0), (.int p1)] ∧ Z.Warmed39 U.vm ∧ U.heap = h0) (fun _ _ _ _ _ => True) (fun _ U o U' => ∃ v L, o = .returned v ∧ Q_mxr Z p0 p1 h0 n0 v U'.heap L ∧ FrameEnd U o U' L rom0.cells rom0.slots) := by
  refine MetFree.of_bodySF (Jvm.Free.JP.mathPlain rfl (by decide +kernel)) hisR ?_
  intro p e s m args below meth c s₁ Bd hml0 hP hK
  obtain ⟨rfl, hZ, hh⟩ := hP
  have hx := Bd.exec
  have hby := Bd.bytes
  have hml : c.maxLocals = 2 := hml0
  have hown : s.vm.findClass "java/lang/Math" = some m.cls := findClass_of_methodNamed Bd.named
  have hnm := (name_of_methodNamed Bd.named Bd.method).1
  have X0 : Stand p l e rom0 s m #[(.int p0), (.int p1)] below meth c s₁ [] 0 0 := Stand.of_body Bd
  have eh0 : s₁.heap = h0 := by rw [← hh, Bd.state]; rfl
  have N0 := Fr.nil n0
  show Goes p e below (Pq (Q_mxr Z p0 p1 h0 n0) s rom0.cells rom0.slots) (s₁.setTop (entryFrame m #[(.int p0), (.int p1)] 2))
  refine Goes.step (S' := s₁.setTop (mkF m 0 #[.val (.int p0), .val (.int p1)] [])) (fun t k => castTop (ef_mxr m p0 p1) k) ?_
  refine Goes.step (S' := s₁.setTop (mkF m 2 #[.val (.int p0), .val (.int p1)] [(.int p1), (.int p0)])) (fun t k => XS.iloadN X0.here hx rfl (hb hby dk0) rfl (XS.iloadN X0.here hx rfl (hb hby dk1) rfl k)) ?_
  by_cases hc101 : p0 < p1
  case pos =>
    refine Goes.step (S' := s₁.setTop (mkF m 10 #[.val (.int p0), .val (.int p1)] [(.int p1)])) (fun t k => XS.icmpYes X0.here hx rfl (pc0 := 2) (pc' := 9) rfl (hb hby dk2) rfl (tlt hc101).1 (by decide) (by decide) (XS.iloadN X0.here hx rfl (hb hby dk3) rfl k)) ?_
    refine Goes.leave (g := (mkF m 10 #[.val (.int p0), .val (.int p1)] [(.int p1)])) X0 Bd.notSynchronized (v := (some (.int p1))) (fun h => by rw [Bd.returns] at h; cases h) (fun fs hr => retI X0 hx Bd.returns (hb hby dk4) hr) eh0 ?_ (by decide) (by decide)
    exact ⟨p1, rfl, N0, rfl, (Ka : ¬ (p1 < (0 : Int32))), (Kb : ¬ ((100 : Int32) < p1))⟩
  case neg =>
    refine Goes.step (S' := s₁.setTop (mkF m 10 #[.val (.int p0), .val (.int p1)] [(.int p0)])) (fun t k => XS.icmpNo X0.here hx rfl (hb hby dk2) rfl (flt hc101).1 (XS.iloadN X0.here hx rfl (hb hby dk5) rfl (XS.goto X0.here hx rfl (pc0 := 6) (pc' := 10) rfl (hb hby dk6) (by decide) (by decide) k))) ?_
    refine Goes.leave (g := (mkF m 10 #[.val (.int p0), .val (.int p1)] [(.int p0)])) X0 Bd.notSynchronized (v := (some (.int p0))) (fun h => by rw [Bd.returns] at h; cases h) (fun fs hr => retI X0 hx Bd.returns (hb hby dk4) hr) eh0 ?_ (by decide) (by decide)
    exact ⟨p0, rfl, N0, rfl, (Ha : ¬ (p0 < (0 : Int32))), (Hb : ¬ ((100 : Int32) < p0))⟩

theorem ef_pct (m : MethodId) (x0 : Int32) : entryFrame m #[(.int x0)] 1 = mkF m 0 #[.val (.int x0)] [] := by first | (simp [entryFrame, mkF, argsToLocals, Value.category]; done) | rfl
def Q_pct (Z : State) (p0 : Int32) (h0 : Heap) (n0 : Nat) (v : Option Value) (h : Heap) (L : List Loc) : Prop := ∃ (r : Int32), v = some (.int r) ∧ Fr n0 L ∧ h = h0 ∧ ¬ (r < (0 : Int32)) ∧ ¬ ((100 : Int32) < r)
set_option maxRecDepth 65536 in
set_option maxHeartbeats 40000000 in
theorem pct (l : Launch) (Z : State) (a0 : Array Value) (hw : ∀ d ∈ tables_1, d.before a0 Z = true) (ws : List Jvm.Cond) (p0 : Int32) (h0 : Heap) (n0 : Nat) (Z0 : n0 ≤ h0.size) :
    MetFree l mth2 (head1 (Jvm.Cond.code mth2 method_2_code 1 (some .int) :: ws) rom1) (fun a U => a = #[(.int p0)] ∧ Z.Warmed39 U.vm ∧ U.heap = h0) (fun _ _ _ _ _ => True) (fun _ U o U' => ∃ v L, o = .returned v ∧ Q_pct Z p0 h0 n0 v U'.heap L ∧ FrameEnd U o U' L rom1.cells rom1.slots) := by
  refine MetFree.of_bodySF (plainFor_of_name pnm0) hisR ?_
  intro p e s m args below meth c s₁ Bd hml0 hP hK
  obtain ⟨rfl, hZ, hh⟩ := hP
  have hx := Bd.exec
  have hby := Bd.bytes
  have hml : c.maxLocals = 1 := hml0
  have hown : s.vm.findClass "com/example/planwright/planwright/model/VestingProvisionsVestedPercentPinLaw" = some m.cls := findClass_of_methodNamed Bd.named
  have hnm := (name_of_methodNamed Bd.named Bd.method).1
  have X0 : Stand p l e rom1 s m #[(.int p0)] below meth c s₁ [] 0 0 := Stand.of_body Bd
  have eh0 : s₁.heap = h0 := by rw [← hh, Bd.state]; rfl
  have N0 := Fr.nil n0
  have tw5 := hw _ (List.mem_of_getElem? (i := 5) rfl)
  have tw6 := hw _ (List.mem_of_getElem? (i := 6) rfl)
  have tw7 := hw _ (List.mem_of_getElem? (i := 7) rfl)
  have tw8 := hw _ (List.mem_of_getElem? (i := 8) rfl)
  show Goes p e below (Pq (Q_pct Z p0 h0 n0) s rom1.cells rom1.slots) (s₁.setTop (entryFrame m #[(.int p0)] 1))
  refine Goes.step (S' := s₁.setTop (mkF m 0 #[.val (.int p0)] [])) (fun t k => castTop (ef_pct m p0) k) ?_
  refine Goes.step (S' := s₁.setTop (mkF m 6 #[.val (.int p0)] [(.int (100 : Int32)), (.int (p0 &&& (127 : Int32)))])) (fun t k => XS.iloadN X0.here hx rfl (hb hby dk14) rfl (XS.bipush X0.here hx rfl (hb hby dk15) (XS.iand X0.here hx rfl (hb hby dk16) rfl (XS.bipush X0.here hx rfl (hb hby dk17) k)))) ?_
  by_cases hc101 : (100 : Int32) < (p0 &&& (127 : Int32))
  case pos =>
    obtain ⟨_, _, ⟨T102, L102, k102, n102⟩, -, X102, ⟨Lc102, hQ102, l102, y102, z102⟩, st102⟩ := Jvm.LawKit.callS X0 hx (y := mth1) hown (mvT hZ tw5) (mvT hZ tw6) (mvT hZ tw7) (mvT hZ tw8) (by decide) (backOf (W := 0) (mn1 l Z a0 hw [] (p0 &&& (127 : Int32)) (100 : Int32) h0 n0 Z0 (hc101 : (100 : Int32) < (p0 &&& (127 : Int32)))) hZ tw8 tw7 (by decide) (by decide)) (g := (mkF m 6 #[.val (.int p0)] [(.int (100 : Int32)), (.int (p0 &&& (127 : Int32)))])) rfl (by rw [hml]; rfl) (argsL := [(.int (p0 &&& (127 : Int32))), (.int (100 : Int32))]) (rest := []) (lenOf pd_II_I rfl) rfl (Nat.le_of_eq rfl) (hb hby dk18) (fun _ _ => ⟨rfl, eh0, (by decide : 0 + 0 ≤ _), (by decide : 0 + 0 ≤ _)⟩)
    dsimp only [Pt.U, Pt.locs, Pt.cells, Pt.slots] at X102 l102 y102 z102 st102 hQ102
    subst y102 z102
    obtain ⟨rfl, Nq102, q102_0⟩ := hQ102
    have N102 : Fr n0 L102 := by rw [l102]; exact Fr.app N0 Nq102
    refine Goes.step (S' := T102.setTop (mkF m 9 #[.val (.int p0)] [(.int (100 : Int32))])) (fun t k => st102 _ k) ?_
    refine Goes.leave (g := (mkF m 9 #[.val (.int p0)] [(.int (100 : Int32))])) X102 Bd.notSynchronized (v := (some (.int (100 : Int32)))) (fun h => by rw [Bd.returns] at h; cases h) (fun fs hr => retI X102 hx Bd.returns (hb hby dk19) hr) q102_0 ?_ (by decide) (by decide)
    exact ⟨(100 : Int32), rfl, N102, rfl, ((by decide) : ¬ ((100 : Int32) < (0 : Int32))), ((by decide) : ¬ ((100 : Int32) < (100 : Int32)))⟩
  case neg =>
    obtain ⟨_, _, ⟨T103, L103, k103, n103⟩, -, X103, ⟨Lc103, hQ103, l103, y103, z103⟩, st103⟩ := Jvm.LawKit.callS X0 hx (y := mth1) hown (mvT hZ tw5) (mvT hZ tw6) (mvT hZ tw7) (mvT hZ tw8) (by decide) (backOf (W := 0) (mn0 l Z a0 hw [] (p0 &&& (127 : Int32)) (100 : Int32) h0 n0 Z0 (hc101 : ¬ ((100 : Int32) < (p0 &&& (127 : Int32))))) hZ tw8 tw7 (by decide) (by decide)) (g := (mkF m 6 #[.val (.int p0)] [(.int (100 : Int32)), (.int (p0 &&& (127 : Int32)))])) rfl (by rw [hml]; rfl) (argsL := [(.int (p0 &&& (127 : Int32))), (.int (100 : Int32))]) (rest := []) (lenOf pd_II_I rfl) rfl (Nat.le_of_eq rfl) (hb hby dk18) (fun _ _ => ⟨rfl, eh0, (by decide : 0 + 0 ≤ _), (by decide : 0 + 0 ≤ _)⟩)
    dsimp only [Pt.U, Pt.locs, Pt.cells, Pt.slots] at X103 l103 y103 z103 st103 hQ103
    subst y103 z103
    obtain ⟨rfl, Nq103, q103_0⟩ := hQ103
    have N103 : Fr n0 L103 := by rw [l103]; exact Fr.app N0 Nq103
    refine Goes.step (S' := T103.setTop (mkF m 9 #[.val (.int p0)] [(.int (p0 &&& (127 : Int32)))])) (fun t k => st103 _ k) ?_
    refine Goes.leave (g := (mkF m 9 #[.val (.int p0)] [(.int (p0 &&& (127 : Int32)))])) X103 Bd.notSynchronized (v := (some (.int (p0 &&& (127 : Int32))))) (fun h => by rw [Bd.returns] at h; cases h) (fun fs hr => retI X103 hx Bd.returns (hb hby dk19) hr) q103_0 ?_ (by decide) (by decide)
    exact ⟨(p0 &&& (127 : Int32)), rfl, N103, rfl, ((by have z104_0 := hc101; have z104_1 := rng32 (p0 &&& (127 : Int32)); have z104_2 := c_mask p0 (127 : Int32) 7 (by decide) (by decide); have z104_3 := rng32 p0; (try simp only [Int32.lt_iff_toInt_lt, Int64.lt_iff_toInt_lt, ne_eq, ← Int32.toInt_inj, ← Int64.toInt_inj, Int32.reduceToInt, Int64.reduceToInt, Nat.reducePow] at z104_0 z104_1 z104_2 z104_3 ⊢); try omega) : ¬ ((p0 &&& (127 : Int32)) < (0 : Int32))), (hc101 : ¬ ((100 : Int32) < (p0 &&& (127 : Int32))))⟩

theorem ef_vof (m : MethodId) (x0 : Int32) : entryFrame m #[(.int x0)] 1 = mkF m 0 #[.val (.int x0)] [] := by first | (simp [entryFrame, mkF, argsToLocals, Value.category]; done) | rfl
def Q_vof (Z : State) (p0 : Int32) (ca : Addr) (clc : Cell) (h0 : Heap) (n0 : Nat) (v : Option Value) (h : Heap) (L : List Loc) : Prop := ∃ (b : Addr), v = some (.ref b) ∧ Fr n0 L ∧ h = h0 ∧ Exa Z h b "java/lang/Integer" ∧ Fld Z h b "java/lang/Integer" "value" "I" (.int p0)
set_option maxRecDepth 65536 in
set_option maxHeartbeats 40000000 in
theorem vof (l : Launch) (Z : State) (a0 : Array Value) (hw : ∀ d ∈ tables_1, d.before a0 Z = true) (ws : List Jvm.Cond) (p0 : Int32) (ca : Addr) (clc : Cell) (h0 : Heap) (n0 : Nat) (Z0 : n0 ≤ h0.size) (SH : Sta Z h0 "java/lang/Integer$IntegerCache" "high" "I" (.int (127 : Int32))) (SC : Sta Z h0 "java/lang/Integer$IntegerCache" "cache" "[Ljava/lang/Integer;" (.ref ca)) (BX : Bxs Z ca clc "java/lang/Integer" "I" (256 : Int32) own_cv) (OLD : Old Z n0 h0) (Ha : ¬ (p0 < (0 : Int32))) (Hb : ¬ ((100 : Int32) < p0)) :
    MetFree l mth3 (head1 (Jvm.Cond.code mth3 jdk_33_method_22_code 1 (some (.object "java/lang/Integer")) :: ws) rom0) (fun a U => a = #[(.int p0)] ∧ Z.Warmed39 U.vm ∧ U.heap = h0) (fun _ _ _ _ _ => True) (fun _ U o U' => ∃ v L, o = .returned v ∧ Q_vof Z p0 ca clc h0 n0 v U'.heap L ∧ FrameEnd U o U' L rom0.cells rom0.slots) := by
  refine MetFree.of_bodySF (plainFor_of_name pnm1) hisR ?_
  intro p e s m args below meth c s₁ Bd hml0 hP hK
  obtain ⟨rfl, hZ, hh⟩ := hP
  have hx := Bd.exec
  have hby := Bd.bytes
  have hml : c.maxLocals = 1 := hml0
  have hown : s.vm.findClass "java/lang/Integer" = some m.cls := findClass_of_methodNamed Bd.named
  have hnm := (name_of_methodNamed Bd.named Bd.method).1
  have X0 : Stand p l e rom0 s m #[(.int p0)] below meth c s₁ [] 0 0 := Stand.of_body Bd
  have eh0 : s₁.heap = h0 := by rw [← hh, Bd.state]; rfl
  have N0 := Fr.nil n0
  have tw42 := hw _ (List.mem_of_getElem? (i := 42) rfl)
  have tw44 := hw _ (List.mem_of_getElem? (i := 44) rfl)
  show Goes p e below (Pq (Q_vof Z p0 ca clc h0 n0) s rom0.cells rom0.slots) (s₁.setTop (entryFrame m #[(.int p0)] 1))
  refine Goes.step (S' := s₁.setTop (mkF m 0 #[.val (.int p0)] [])) (fun t k => castTop (ef_vof m p0) k) ?_
  refine Goes.step (S' := s₁.setTop (mkF m 7 #[.val (.int p0)] [(.int p0)])) (fun t k => XS.iloadN X0.here hx rfl (hb hby dk20) rfl (XS.bipush X0.here hx rfl (hb hby dk21) (XS.icmpNo X0.here hx rfl (hb hby dk22) rfl (flt ((by have z101_0 := Ha; have z101_1 := Hb; have z101_2 := rng32 p0; have z101_3 := (rfl : (-128 : Int32).toInt = -128); (try simp only [Int32.lt_iff_toInt_lt, Int64.lt_iff_toInt_lt, ne_eq, ← Int32.toInt_inj, ← Int64.toInt_inj, Int32.reduceToInt, Int64.reduceToInt, Nat.reducePow] at z101_0 z101_1 z101_2 z101_3 ⊢); try omega) : ¬ (p0 < (-128 : Int32)))).1 (XS.iloadN X0.here hx rfl (hb hby dk23) rfl k)))) ?_
  obtain ⟨T102, X102, e102, st102⟩ := getS2 X0 hx hZ hown (host := "") (Or.inl tw42) Via.refl eh0 SH (g := (mkF m 7 #[.val (.int p0)] [(.int p0)])) rfl (hb hby dk24)
  refine Goes.step (S' := T102.setTop (mkF m 13 #[.val (.int p0)] [])) (fun t k => st102 _ (XS.icmpNo X102.here hx rfl (hb hby dk25) rfl (flt ((by have z103_0 := Ha; have z103_1 := Hb; have z103_2 := rng32 p0; (try simp only [Int32.lt_iff_toInt_lt, Int64.lt_iff_toInt_lt, ne_eq, ← Int32.toInt_inj, ← Int64.toInt_inj, Int32.reduceToInt, Int64.reduceToInt, Nat.reducePow] at z103_0 z103_1 z103_2 ⊢); try omega) : ¬ ((127 : Int32) < p0))).2.2.1 k)) ?_
  obtain ⟨T104, X104, e104, st104⟩ := getS2 X102 hx hZ hown (host := "") (Or.inl tw44) Via.refl e102 SC (g := (mkF m 13 #[.val (.int p0)] [])) rfl (hb hby dk26)
  refine Goes.step (S' := T104.setTop (mkF m 21 #[.val (.int p0)] [(.int (p0 + (128 : Int32))), (.ref ca)])) (fun t k => st104 _ (XS.iloadN X104.here hx rfl (hb hby dk27) rfl (XS.sipush X104.here hx rfl (hb hby dk28) (XS.iadd X104.here hx rfl (hb hby dk29) rfl k)))) ?_
  obtain ⟨A105, Sz105, Nn105⟩ := BX.ext OLD.2
  have hin105 : ¬ ((p0 + (128 : Int32)) < 0 ∨ clc.slots.size ≤ (p0 + (128 : Int32)).toNatClampNeg) := inb_of Sz105 ⟨(by have z106_0 := Ha; have z106_1 := Hb; have z106_2 := rng32 p0; have z106_3 := rng32 (p0 + (128 : Int32)); have z106_4 := c_iadd p0 (128 : Int32); (try simp only [Int32.lt_iff_toInt_lt, Int64.lt_iff_toInt_lt, ne_eq, ← Int32.toInt_inj, ← Int64.toInt_inj, Int32.reduceToInt, Int64.reduceToInt, Nat.reducePow] at z106_0 z106_1 z106_2 z106_3 z106_4 ⊢); try omega), (by have z107_0 := Ha; have z107_1 := Hb; have z107_2 := rng32 p0; have z107_3 := rng32 (p0 + (128 : Int32)); have z107_4 := c_iadd p0 (128 : Int32); (try simp only [Int32.lt_iff_toInt_lt, Int64.lt_iff_toInt_lt, ne_eq, ← Int32.toInt_inj, ← Int64.toInt_inj, Int32.reduceToInt, Int64.reduceToInt, Nat.reducePow] at z107_0 z107_1 z107_2 z107_3 z107_4 ⊢); try omega)⟩
  obtain ⟨b105, hat105, hE105, hF105⟩ := BX.2.2.2 (p0 + (128 : Int32)) hin105
  rw [own_cv_eq] at hF105
  refine Goes.step (S' := T104.setTop (mkF m 22 #[.val (.int p0)] [(.ref b105)])) (fun t k => X104.aaload hx (j := (p0 + (128 : Int32))) (v := (.ref b105)) (by rw [e104]; exact A105.1) (State.isArrayOf_alike hZ.alike A105.2.1) rfl A105.2.2 hin105 hat105 (g := (mkF m 21 #[.val (.int p0)] [(.int (p0 + (128 : Int32))), (.ref ca)])) rfl rfl (hb hby dk30) _ k) ?_
  refine Goes.leave (g := (mkF m 22 #[.val (.int p0)] [(.ref b105)])) X104 Bd.notSynchronized (v := (some (.ref b105))) (fun h => by rw [Bd.returns] at h; cases h) (fun fs hr => by jvm_step X104.here [X104.here.top, hx, (hb hby dk31), X104.method', Bd.returns, Value.isRef, FieldType.isReference]; (first | (intro acts; rw [hr _ acts rfl rfl rfl]) | rw [hr _ _ rfl rfl rfl]); exact Steps.refl _) e104 ?_ (by decide) (by decide)
  exact ⟨b105, rfl, N0, rfl, (Exa.ext OLD.2 hE105), (Fld.ext OLD.2 hF105)⟩

theorem ef_aci (m : MethodId) (x0 : Addr) : entryFrame m #[(.ref x0)] 1 = mkF m 0 #[.val (.ref x0)] [] := by first | (simp [entryFrame, mkF, argsToLocals, Value.category]; done) | rfl
def Q_aci (Z : State) (a1 : Addr) (h0 : Heap) (n0 : Nat) (v : Option Value) (h : Heap) (L : List Loc) : Prop := v = none ∧ Fr n0 L ∧ h = h0
set_option maxRecDepth 65536 in
set_option maxHeartbeats 40000000 in
theorem aci (l : Launch) (Z : State) (a0 : Array Value) (hw : ∀ d ∈ tables_1, d.before a0 Z = true) (ws : List Jvm.Cond) (a1 : Addr) (h0 : Heap) (n0 : Nat) (Z0 : n0 ≤ h0.size) :
    MetFree l mth4 (head1 (Jvm.Cond.code mth4 jdk_22_method_1_code 1 none :: ws) rom2) (fun a U => a = #[(.ref a1)] ∧ Z.Warmed39 U.vm ∧ U.heap = h0) (fun _ _ _ _ _ => True) (fun _ U o U' => ∃ v L, o = .returned v ∧ Q_aci Z a1 h0 n0 v U'.heap L ∧ FrameEnd U o U' L rom2.cells rom2.slots) := by
  refine MetFree.of_bodySF (plainFor_of_name pnm2) hisR ?_
  intro p e s m args below meth c s₁ Bd hml0 hP hK
  obtain ⟨rfl, hZ, hh⟩ := hP
  have hx := Bd.exec
  have hby := Bd.bytes
  have hml : c.maxLocals = 1 := hml0
  have hown : s.vm.findClass "java/util/AbstractCollection" = some m.cls := findClass_of_methodNamed Bd.named
  have hnm := (name_of_methodNamed Bd.named Bd.method).1
  have X0 : Stand p l e rom2 s m #[(.ref a1)] below meth c s₁ [] 0 0 := Stand.of_body Bd
  have eh0 : s₁.heap = h0 := by rw [← hh, Bd.state]; rfl
  have N0 := Fr.nil n0
  have tw30 := hw _ (List.mem_of_getElem? (i := 30) rfl)
  have tw31 := hw _ (List.mem_of_getElem? (i := 31) rfl)
  have tw32 := hw _ (List.mem_of_getElem? (i := 32) rfl)
  show Goes p e below (Pq (Q_aci Z a1 h0 n0) s rom2.cells rom2.slots) (s₁.setTop (entryFrame m #[(.ref a1)] 1))
  refine Goes.step (S' := s₁.setTop (mkF m 0 #[.val (.ref a1)] [])) (fun t k => castTop (ef_aci m a1) k) ?_
  refine Goes.step (S' := s₁.setTop (mkF m 1 #[.val (.ref a1)] [(.ref a1)])) (fun t k => XS.aloadN X0.here hx rfl (hb hby dk32) rfl rfl k) ?_
  obtain ⟨T101, X101, e101, st101⟩ := initO X0 hx hZ hown tw30 tw31 tw32 eh0 (g := (mkF m 1 #[.val (.ref a1)] [(.ref a1)])) rfl (by rw [hml]; rfl) rfl (hb hby dk33) (by decide) (W := 0) (Nat.le_of_eq rfl) (by decide)
  refine Goes.step (S' := T101.setTop (mkF m 4 #[.val (.ref a1)] [])) (fun t k => st101 _ k) ?_
  refine Goes.leave (g := (mkF m 4 #[.val (.ref a1)] [])) X101 Bd.notSynchronized (v := none) (fun _ => rfl) (fun fs hr => X101.returnOut hx Bd.returns (hb hby dk34) hr) e101 ?_ (by decide) (by decide)
  exact ⟨rfl, N0, rfl⟩

theorem ef_ali (m : MethodId) (x0 : Addr) : entryFrame m #[(.ref x0)] 1 = mkF m 0 #[.val (.ref x0)] [] := by first | (simp [entryFrame, mkF, argsToLocals, Value.category]; done) | rfl
def Q_ali (Z : State) (a1 : Addr) (u1 : Value) (u2 : Value) (h0 : Heap) (n0 : Nat) (v : Option Value) (h : Heap) (L : List Loc) : Prop := v = none ∧ Fr n0 L ∧ Keep h0 h [a1] ∧ Exa Z h a1 "java/util/ArrayList" ∧ Fld Z h a1 "java/util/AbstractList" "modCount" "I" (.int (0 : Int32)) ∧ Fld Z h a1 "java/util/ArrayList" "elementData" "[Ljava/lang/Object;" u1 ∧ Fld Z h a1 "java/util/ArrayList" "size" "I" u2
set_option maxRecDepth 65536 in
set_option maxHeartbeats 40000000 in
theorem ali (l : Launch) (Z : State) (a0 : Array Value) (hw : ∀ d ∈ tables_1, d.before a0 Z = true) (ws : List Jvm.Cond) (a1 : Addr) (u1 : Value) (u2 : Value) (h0 : Heap) (n0 : Nat) (Z0 : n0 ≤ h0.size) (E1 : Exa Z h0 a1 "java/util/ArrayList") (Fm : Fld Z h0 a1 "java/util/AbstractList" "modCount" "I" (.int (0 : Int32))) (Fe : Fld Z h0 a1 "java/util/ArrayList" "elementData" "[Ljava/lang/Object;" u1) (Fz : Fld Z h0 a1 "java/util/ArrayList" "size" "I" u2) (G1 : n0 ≤ a1) :
    MetFree l mth5 (head1 (Jvm.Cond.code mth5 jdk_39_method_1_code 1 none :: ws) rom3) (fun a U => a = #[(.ref a1)] ∧ Z.Warmed39 U.vm ∧ U.heap = h0) (fun _ _ _ _ _ => True) (fun _ U o U' => ∃ v L, o = .returned v ∧ Q_ali Z a1 u1 u2 h0 n0 v U'.heap L ∧ FrameEnd U o U' L rom3.cells rom3.slots) := by
  refine MetFree.of_bodySF (plainFor_of_name pnm3) hisR ?_
  intro p e s m args below meth c s₁ Bd hml0 hP hK
  obtain ⟨rfl, hZ, hh⟩ := hP
  have hx := Bd.exec
  have hby := Bd.bytes
  have hml : c.maxLocals = 1 := hml0
  have hown : s.vm.findClass "java/util/AbstractList" = some m.cls := findClass_of_methodNamed Bd.named
  have hnm := (name_of_methodNamed Bd.named Bd.method).1
  have X0 : Stand p l e rom3 s m #[(.ref a1)] below meth c s₁ [] 0 0 := Stand.of_body Bd
  have eh0 : s₁.heap = h0 := by rw [← hh, Bd.state]; rfl
  have N0 := Fr.nil n0
  have tw13 := hw _ (List.mem_of_getElem? (i := 13) rfl)
  have tw24 := hw _ (List.mem_of_getElem? (i := 24) rfl)
  have tw25 := hw _ (List.mem_of_getElem? (i := 25) rfl)
  have tw28 := hw _ (List.mem_of_getElem? (i := 28) rfl)
  have tw29 := hw _ (List.mem_of_getElem? (i := 29) rfl)
  have tw33 := hw _ (List.mem_of_getElem? (i := 33) rfl)
  have tw34 := hw _ (List.mem_of_getElem? (i := 34) rfl)
  have tw37 := hw _ (List.mem_of_getElem? (i := 37) rfl)
  have tw53 := hw _ (List.mem_of_getElem? (i := 53) rfl)
  show Goes p e below (Pq (Q_ali Z a1 u1 u2 h0 n0) s rom3.cells rom3.slots) (s₁.setTop (entryFrame m #[(.ref a1)] 1))
  refine Goes.step (S' := s₁.setTop (mkF m 0 #[.val (.ref a1)] [])) (fun t k => castTop (ef_ali m a1) k) ?_
  refine Goes.step (S' := s₁.setTop (mkF m 1 #[.val (.ref a1)] [(.ref a1)])) (fun t k => XS.aloadN X0.here hx rfl (hb hby dk35) rfl rfl k) ?_
  obtain ⟨_, _, ⟨T101, L101, k101, n101⟩, -, X101, ⟨Lc101, hQ101, l101, y101, z101⟩, st101⟩ := X0.specialBack hx (y := mth4) rfl hown (mvT hZ tw24) (mvT hZ tw25) (mvT hZ tw29) (by decide) (backOf (W := 0) (aci l Z a0 hw [] a1 h0 n0 Z0 ) hZ tw29 tw28 (by decide) (by decide)) (g := (mkF m 1 #[.val (.ref a1)] [(.ref a1)])) rfl (by rw [hml]; rfl) (Steps.refl _) (a := a1) (argsL := []) (rest := []) (lenOf pd_V rfl) rfl (Nat.le_of_eq rfl) (hb hby dk36) (fun _ _ => ⟨rfl, eh0, (by decide : 0 + 0 ≤ _), (by decide : 0 + 0 ≤ _)⟩)
  dsimp only [Pt.U, Pt.locs, Pt.cells, Pt.slots] at X101 l101 y101 z101 st101 hQ101
  subst y101 z101
  obtain ⟨rfl, Nq101, q101_0⟩ := hQ101
  have N101 : Fr n0 L101 := by rw [l101]; exact Fr.app N0 Nq101
  refine Goes.step (S' := T101.setTop (mkF m 6 #[.val (.ref a1)] [(.int (0 : Int32)), (.ref a1)])) (fun t k => st101.trans (XS.aloadN X101.here hx rfl (hb hby dk37) rfl rfl (XS.iconst X101.here hx rfl (hb hby dk38) k))) ?_
  obtain ⟨T102, h102, X102, e102, W102, st102⟩ := putF X101 hx hZ hown (host := "") (Or.inl tw33) Via.refl q101_0 Fm E1 (Or.inl tw34) tw13 (ty := .int) (by decide) rfl rfl (g := (mkF m 6 #[.val (.ref a1)] [(.int (0 : Int32)), (.ref a1)])) rfl rfl (hb hby dk39)
  have Fw102 : Fld Z h102 a1 "java/util/AbstractList" "modCount" "I" (.int (0 : Int32)) := Fld.same W102 Fm
  have N102 := Fr.snoc X102 N101 G1
  refine Goes.step (S' := T102.setTop (mkF m 9 #[.val (.ref a1)] [])) (fun t k => st102 _ k) ?_
  refine Goes.leave (g := (mkF m 9 #[.val (.ref a1)] [])) X102 Bd.notSynchronized (v := none) (fun _ => rfl) (fun fs hr => X102.returnOut hx Bd.returns (hb hby dk40) hr) e102 ?_ (by decide) (by decide)
  exact ⟨rfl, N102, ((Keep.refl _ [a1]).wr W102 (Or.inl (List.mem_of_getElem? (i := 0) rfl))), (Exa.wr W102 E1), Fw102, (Fld.other W102 Fe (Or.inr (slot_ne (Or.inl tw37) (Or.inl tw34) (by decide) (t := (.array (.object "java/lang/Object"))) (t' := .int) (by decide) (by decide)))), (Fld.other W102 Fz (Or.inr (slot_ne (Or.inl tw53) (Or.inl tw34) (by decide) (t := .int) (t' := .int) (by decide) (by decide))))⟩

theorem ef_arl (m : MethodId) (x0 : Addr) : entryFrame m #[(.ref x0)] 1 = mkF m 0 #[.val (.ref x0)] [] := by first | (simp [entryFrame, mkF, argsToLocals, Value.category]; done) | rfl
def Q_arl (Z : State) (a1 : Addr) (da : Addr) (h0 : Heap) (n0 : Nat) (v : Option Value) (h : Heap) (L : List Loc) : Prop := v = none ∧ Fr n0 L ∧ Keep h0 h [a1] ∧ Exa Z h a1 "java/util/ArrayList" ∧ Fld Z h a1 "java/util/AbstractList" "modCount" "I" (.int (0 : Int32)) ∧ Fld Z h a1 "java/util/ArrayList" "elementData" "[Ljava/lang/Object;" (.ref da) ∧ Fld Z h a1 "java/util/ArrayList" "size" "I" (.int (0 : Int32))
set_option maxRecDepth 65536 in
set_option maxHeartbeats 40000000 in
theorem arl (l : Launch) (Z : State) (a0 : Array Value) (hw : ∀ d ∈ tables_1, d.before a0 Z = true) (ws : List Jvm.Cond) (a1 : Addr) (da : Addr) (h0 : Heap) (n0 : Nat) (Z0 : n0 ≤ h0.size) (E1 : Exa Z h0 a1 "java/util/ArrayList") (Fm : Fld Z h0 a1 "java/util/AbstractList" "modCount" "I" (.int (0 : Int32))) (Fe : Fld Z h0 a1 "java/util/ArrayList" "elementData" "[Ljava/lang/Object;" .null) (Fz : Fld Z h0 a1 "java/util/ArrayList" "size" "I" (.int (0 : Int32))) (G1 : n0 ≤ a1) (SD : Sta Z h0 "java/util/ArrayList" "DEFAULTCAPACITY_EMPTY_ELEMENTDATA" "[Ljava/lang/Object;" (.ref da)) :
    MetFree l mth6 (head1 (Jvm.Cond.code mth6 jdk_38_method_2_code 1 none :: ws) rom4) (fun a U => a = #[(.ref a1)] ∧ Z.Warmed39 U.vm ∧ U.heap = h0) (fun _ _ _ _ _ => True) (fun _ U o U' => ∃ v L, o = .returned v ∧ Q_arl Z a1 da h0 n0 v U'.heap L ∧ FrameEnd U o U' L rom4.cells rom4.slots) := by
  refine MetFree.of_bodySF (plainFor_of_name pnm4) hisR ?_
  intro p e s m args below meth c s₁ Bd hml0 hP hK
  obtain ⟨rfl, hZ, hh⟩ := hP
  have hx := Bd.exec
  have hby := Bd.bytes
  have hml : c.maxLocals = 1 := hml0
  have hown : s.vm.findClass "java/util/ArrayList" = some m.cls := findClass_of_methodNamed Bd.named
  have hnm := (name_of_methodNamed Bd.named Bd.method).1
  have X0 : Stand p l e rom4 s m #[(.ref a1)] below meth c s₁ [] 0 0 := Stand.of_body Bd
  have eh0 : s₁.heap = h0 := by rw [← hh, Bd.state]; rfl
  have N0 := Fr.nil n0
  have tw13 := hw _ (List.mem_of_getElem? (i := 13) rfl)
  have tw18 := hw _ (List.mem_of_getElem? (i := 18) rfl)
  have tw19 := hw _ (List.mem_of_getElem? (i := 19) rfl)
  have tw22 := hw _ (List.mem_of_getElem? (i := 22) rfl)
  have tw23 := hw _ (List.mem_of_getElem? (i := 23) rfl)
  have tw34 := hw _ (List.mem_of_getElem? (i := 34) rfl)
  have tw35 := hw _ (List.mem_of_getElem? (i := 35) rfl)
  have tw36 := hw _ (List.mem_of_getElem? (i := 36) rfl)
  have tw37 := hw _ (List.mem_of_getElem? (i := 37) rfl)
  have tw53 := hw _ (List.mem_of_getElem? (i := 53) rfl)
  show Goes p e below (Pq (Q_arl Z a1 da h0 n0) s rom4.cells rom4.slots) (s₁.setTop (entryFrame m #[(.ref a1)] 1))
  refine Goes.step (S' := s₁.setTop (mkF m 0 #[.val (.ref a1)] [])) (fun t k => castTop (ef_arl m a1) k) ?_
  refine Goes.step (S' := s₁.setTop (mkF m 1 #[.val (.ref a1)] [(.ref a1)])) (fun t k => XS.aloadN X0.here hx rfl (hb hby dk41) rfl rfl k) ?_
  obtain ⟨_, _, ⟨T101, L101, k101, n101⟩, -, X101, ⟨Lc101, hQ101, l101, y101, z101⟩, st101⟩ := X0.specialBack hx (y := mth5) rfl hown (mvT hZ tw18) (mvT hZ tw19) (mvT hZ tw23) (by decide) (backOf (W := 0) (ali l Z a0 hw [] a1 .null (.int (0 : Int32)) h0 n0 Z0 E1 Fm Fe Fz G1) hZ tw23 tw22 (by decide) (by decide)) (g := (mkF m 1 #[.val (.ref a1)] [(.ref a1)])) rfl (by rw [hml]; rfl) (Steps.refl _) (a := a1) (argsL := []) (rest := []) (lenOf pd_V rfl) rfl (Nat.le_of_eq rfl) (hb hby dk42) (fun _ _ => ⟨rfl, eh0, (by decide : 0 + 0 ≤ _), (by decide : 0 + 0 ≤ _)⟩)
  dsimp only [Pt.U, Pt.locs, Pt.cells, Pt.slots] at X101 l101 y101 z101 st101 hQ101
  subst y101 z101
  obtain ⟨rfl, Nq101, q101_0, q101_1, q101_2, q101_3, q101_4⟩ := hQ101
  have N101 : Fr n0 L101 := by rw [l101]; exact Fr.app N0 Nq101
  refine Goes.step (S' := T101.setTop (mkF m 5 #[.val (.ref a1)] [(.ref a1)])) (fun t k => st101.trans (XS.aloadN X101.here hx rfl (hb hby dk43) rfl rfl k)) ?_
  obtain ⟨T102, X102, e102, st102⟩ := getS2 X101 hx hZ hown (host := "") (Or.inl tw35) Via.refl rfl (own_stakeep SD q101_0 (nsS E1.nostat ns0)) (g := (mkF m 5 #[.val (.ref a1)] [(.ref a1)])) rfl (hb hby dk44)
  refine Goes.step (S' := T102.setTop (mkF m 8 #[.val (.ref a1)] [(.ref da), (.ref a1)])) (fun t k => st102 _ k) ?_
  obtain ⟨T103, h103, X103, e103, W103, st103⟩ := putF X102 hx hZ hown (host := "") (Or.inl tw36) Via.refl e102 q101_3 q101_1 (Or.inl tw37) tw13 (ty := (.array (.object "java/lang/Object"))) (by decide) rfl rfl (g := (mkF m 8 #[.val (.ref a1)] [(.ref da), (.ref a1)])) rfl rfl (hb hby dk45)
  have Fw103 : Fld Z h103 a1 "java/util/ArrayList" "elementData" "[Ljava/lang/Object;" (.ref da) := Fld.same W103 q101_3
  have N103 := Fr.snoc X103 N101 G1
  refine Goes.step (S' := T103.setTop (mkF m 11 #[.val (.ref a1)] [])) (fun t k => st103 _ k) ?_
  refine Goes.leave (g := (mkF m 11 #[.val (.ref a1)] [])) X103 Bd.notSynchronized (v := none) (fun _ => rfl) (fun fs hr => X103.returnOut hx Bd.returns (hb hby dk46) hr) e103 ?_ (by decide) (by decide)
  exact ⟨rfl, N103, (((Keep.refl _ [a1]).trans q101_0 (allS (Or.inl (List.mem_of_getElem? (i := 0) rfl)) all0)).wr W103 (Or.inl (List.mem_of_getElem? (i := 0) rfl))), (Exa.wr W103 q101_1), (Fld.other W103 q101_2 (Or.inr (slot_ne (Or.inl tw34) (Or.inl tw37) (by decide) (t := .int) (t' := (.array (.object "java/lang/Object"))) (by decide) (by decide)))), Fw103, (Fld.other W103 q101_4 (Or.inr (slot_ne (Or.inl tw53) (Or.inl tw37) (by decide) (t := .int) (t' := (.array (.object "java/lang/Object"))) (by decide) (by decide))))⟩

theorem ef_gr1 (m : MethodId) (x0 : Addr) (x1 : Int32) : entryFrame m #[(.ref x0), (.int x1)] 4 = mkF m 0 #[.val (.ref x0), .val (.int x1), .unset, .unset] [] := by first | (simp [entryFrame, mkF, argsToLocals, Value.category]; done) | rfl
def Q_gr1 (Z : State) (a1 : Addr) (u1 : Value) (da : Addr) (kd : ClassId) (h0 : Heap) (n0 : Nat) (v : Option Value) (h : Heap) (L : List Loc) : Prop := ∃ (b : Addr) (kb : ClassId), v = some (.ref b) ∧ Fr n0 L ∧ Keep h0 h [a1] ∧ h0.size ≤ b ∧ Exa Z h a1 "java/util/ArrayList" ∧ Exa Z h b "[Ljava/lang/Object;" ∧ Fld Z h a1 "java/util/AbstractList" "modCount" "I" u1 ∧ Fld Z h a1 "java/util/ArrayList" "elementData" "[Ljava/lang/Object;" (.ref b) ∧ Fld Z h a1 "java/util/ArrayList" "size" "I" (.int (0 : Int32)) ∧ Arv Z h b kb (.object "java/lang/Object") (10 : Int32) [.null, .null, .null, .null, .null, .null, .null, .null, .null, .null] .null ∧ Ovr Z kb "java/lang/Object"
set_option maxRecDepth 65536 in
set_option maxHeartbeats 40000000 in
theorem gr1 (l : Launch) (Z : State) (a0 : Array Value) (hw : ∀ d ∈ tables_1, d.before a0 Z = true) (ws : List Jvm.Cond) (a1 : Addr) (u1 : Value) (da : Addr) (kd : ClassId) (h0 : Heap) (n0 : Nat) (Z0 : n0 ≤ h0.size) (E1 : Exa Z h0 a1 "java/util/ArrayList") (Fm : Fld Z h0 a1 "java/util/AbstractList" "modCount" "I" u1) (Fe : Fld Z h0 a1 "java/util/ArrayList" "elementData" "[Ljava/lang/Object;" (.ref da)) (Fz : Fld Z h0 a1 "java/util/ArrayList" "size" "I" (.int (0 : Int32))) (G1 : n0 ≤ a1) (SD : Sta Z h0 "java/util/ArrayList" "DEFAULTCAPACITY_EMPTY_ELEMENTDATA" "[Ljava/lang/Object;" (.ref da)) (VD : Arv Z h0 da kd (.object "java/lang/Object") (0 : Int32) [] .null) :
    MetFree l mth7 (head1 (Jvm.Cond.code mth7 jdk_38_method_6_code 4 (some (.array (.object "java/lang/Object"))) :: ws) rom5) (fun a U => a = #[(.ref a1), (.int (1 : Int32))] ∧ Z.Warmed39 U.vm ∧ U.heap = h0) (fun _ _ _ _ _ => True) (fun _ U o U' => ∃ v L, o = .returned v ∧ Q_gr1 Z a1 u1 da kd h0 n0 v U'.heap L ∧ FrameEnd U o U' L rom5.cells rom5.slots) := by
  refine MetFree.of_bodySF (plainFor_of_name pnm4) hisR ?_
  intro p e s m args below meth c s₁ Bd hml0 hP hK
  obtain ⟨rfl, hZ, hh⟩ := hP
  have hx := Bd.exec
  have hby := Bd.bytes
  have hml : c.maxLocals = 4 := hml0
  have hown : s.vm.findClass "java/util/ArrayList" = some m.cls := findClass_of_methodNamed Bd.named
  have hnm := (name_of_methodNamed Bd.named Bd.method).1
  have X0 : Stand p l e rom5 s m #[(.ref a1), (.int (1 : Int32))] below meth c s₁ [] 0 0 := Stand.of_body Bd
  have eh0 : s₁.heap = h0 := by rw [← hh, Bd.state]; rfl
  have N0 := Fr.nil n0
  have tw7 := hw _ (List.mem_of_getElem? (i := 7) rfl)
  have tw10 := hw _ (List.mem_of_getElem? (i := 10) rfl)
  have tw11 := hw _ (List.mem_of_getElem? (i := 11) rfl)
  have tw13 := hw _ (List.mem_of_getElem? (i := 13) rfl)
  have tw34 := hw _ (List.mem_of_getElem? (i := 34) rfl)
  have tw35 := hw _ (List.mem_of_getElem? (i := 35) rfl)
  have tw36 := hw _ (List.mem_of_getElem? (i := 36) rfl)
  have tw37 := hw _ (List.mem_of_getElem? (i := 37) rfl)
  have tw53 := hw _ (List.mem_of_getElem? (i := 53) rfl)
  have tw69 := hw _ (List.mem_of_getElem? (i := 69) rfl)
  have tw70 := hw _ (List.mem_of_getElem? (i := 70) rfl)
  have tw71 := hw _ (List.mem_of_getElem? (i := 71) rfl)
  show Goes p e below (Pq (Q_gr1 Z a1 u1 da kd h0 n0) s rom5.cells rom5.slots) (s₁.setTop (entryFrame m #[(.ref a1), (.int (1 : Int32))] 4))
  refine Goes.step (S' := s₁.setTop (mkF m 0 #[.val (.ref a1), .val (.int (1 : Int32)), .unset, .unset] [])) (fun t k => castTop (ef_gr1 m a1 (1 : Int32)) k) ?_
  refine Goes.step (S' := s₁.setTop (mkF m 1 #[.val (.ref a1), .val (.int (1 : Int32)), .unset, .unset] [(.ref a1)])) (fun t k => XS.aloadN X0.here hx rfl (hb hby dk47) rfl rfl k) ?_
  obtain ⟨T101, X101, e101, st101⟩ := getF X0 hx hZ hown (host := "") (Or.inl tw36) Via.refl eh0 Fe (g := (mkF m 1 #[.val (.ref a1), .val (.int (1 : Int32)), .unset, .unset] [(.ref a1)])) rfl rfl (hb hby dk48)
  refine Goes.step (S' := T101.setTop (mkF m 4 #[.val (.ref a1), .val (.int (1 : Int32)), .unset, .unset] [(.ref da)])) (fun t k => st101 _ k) ?_
  obtain ⟨cl102, Ar102, qk102, Sz102, Nn102, Hs102, Gs102⟩ := id VD
  refine Goes.step (S' := T101.setTop (mkF m 5 #[.val (.ref a1), .val (.int (1 : Int32)), .unset, .unset] [(.int (0 : Int32))])) (fun t k => X101.arraylength hx (by rw [e101]; exact Ar102.1) (State.isArrayOf_alike hZ.alike Ar102.2.1) (g := (mkF m 4 #[.val (.ref a1), .val (.int (1 : Int32)), .unset, .unset] [(.ref da)])) rfl rfl (hb hby dk49) _ (by rw [len_of Sz102 Nn102]; exact k)) ?_
  refine Goes.step (S' := T101.setTop (mkF m 11 #[.val (.ref a1), .val (.int (1 : Int32)), .val (.int (0 : Int32)), .unset] [(.ref a1)])) (fun t k => XS.istoreN X101.here hx rfl (hb hby dk50) rfl (l' := #[.val (.ref a1), .val (.int (1 : Int32)), .val (.int (0 : Int32)), .unset]) rfl (XS.iloadN X101.here hx rfl (hb hby dk51) rfl (XS.ifNo X101.here hx rfl (hb hby dk52) rfl ((if0 _ _).trans (flt ((by decide) : ¬ ((0 : Int32) < (0 : Int32)))).2.2.1) (XS.aloadN X101.here hx rfl (hb hby dk53) rfl rfl k)))) ?_
  obtain ⟨T103, X103, e103, st103⟩ := getF X101 hx hZ hown (host := "") (Or.inl tw36) Via.refl e101 Fe (g := (mkF m 11 #[.val (.ref a1), .val (.int (1 : Int32)), .val (.int (0 : Int32)), .unset] [(.ref a1)])) rfl rfl (hb hby dk54)
  refine Goes.step (S' := T103.setTop (mkF m 14 #[.val (.ref a1), .val (.int (1 : Int32)), .val (.int (0 : Int32)), .unset] [(.ref da)])) (fun t k => st103 _ k) ?_
  obtain ⟨T104, X104, e104, st104⟩ := getS2 X103 hx hZ hown (host := "") (Or.inl tw35) Via.refl e103 SD (g := (mkF m 14 #[.val (.ref a1), .val (.int (1 : Int32)), .val (.int (0 : Int32)), .unset] [(.ref da)])) rfl (hb hby dk55)
  refine Goes.step (S' := T104.setTop (mkF m 49 #[.val (.ref a1), .val (.int (1 : Int32)), .val (.int (0 : Int32)), .unset] [(.int (1 : Int32)), (.int (10 : Int32)), (.ref a1)])) (fun t k => st104 _ (Jvm.RoadKit.acmp (g := (mkF m 17 #[.val (.ref a1), .val (.int (1 : Int32)), .val (.int (0 : Int32)), .unset] [(.ref da), (.ref da)])) X104 hx rfl rfl rfl (pc0 := 17) (pc' := 45) (same := true) rfl (hb hby dk56) rfl (decide_eq_true rfl) (by decide) (by decide) (XS.aloadN X104.here hx rfl (hb hby dk57) rfl rfl (XS.bipush X104.here hx rfl (hb hby dk58) (XS.iloadN X104.here hx rfl (hb hby dk59) rfl k))))) ?_
  obtain ⟨_, _, ⟨T105, L105, k105, n105⟩, -, X105, ⟨Lc105, hQ105, l105, y105, z105⟩, st105⟩ := Jvm.LawKit.callS X104 hx (y := mth0) hown (mvT hZ tw69) (mvT hZ tw10) (mvT hZ tw7) (mvT hZ tw11) (by decide) (backOf (W := 1) (mx0 l Z a0 hw [] (10 : Int32) (1 : Int32) h0 n0 Z0 ((by decide) : ¬ ((10 : Int32) < (1 : Int32)))) hZ tw11 tw7 (by decide) (by decide)) (g := (mkF m 49 #[.val (.ref a1), .val (.int (1 : Int32)), .val (.int (0 : Int32)), .unset] [(.int (1 : Int32)), (.int (10 : Int32)), (.ref a1)])) rfl (by rw [hml]; rfl) (argsL := [(.int (10 : Int32)), (.int (1 : Int32))]) (rest := [(.ref a1)]) (lenOf pd_II_I rfl) rfl (Nat.le_of_eq rfl) (hb hby dk60) (fun _ _ => ⟨rfl, e104, (by decide : 0 + 0 ≤ _), (by decide : 0 + 0 ≤ _)⟩)
  dsimp only [Pt.U, Pt.locs, Pt.cells, Pt.slots] at X105 l105 y105 z105 st105 hQ105
  subst y105 z105
  obtain ⟨rfl, Nq105, q105_0⟩ := hQ105
  have N105 : Fr n0 L105 := by rw [l105]; exact Fr.app N0 Nq105
  refine Goes.step (S' := T105.setTop (mkF m 52 #[.val (.ref a1), .val (.int (1 : Int32)), .val (.int (0 : Int32)), .unset] [(.int (10 : Int32)), (.ref a1)])) (fun t k => st105 _ k) ?_
  obtain ⟨T106, h106, k106, X106, e106, E106, A106, AE106, O106, st106⟩ := newRE X105 hx hZ hown tw70 tw71 q105_0 (g := (mkF m 52 #[.val (.ref a1), .val (.int (1 : Int32)), .val (.int (0 : Int32)), .unset] [(.int (10 : Int32)), (.ref a1)])) rfl (hb hby dk61) rfl (by decide) (cap := 10) (by decide) (by decide) (by decide) (by decide) (ad := "[Ljava/lang/Object;") rfl
  obtain ⟨b106, g106⟩ : ∃ z, z = h0.size := ⟨_, rfl⟩
  rw [← g106] at A106 AE106 st106
  have V106 : Arv Z h106 b106 k106 (.object "java/lang/Object") (10 : Int32) [.null, .null, .null, .null, .null, .null, .null, .null, .null, .null] .null := (Arv.new A106 (by decide)).pad (pad_rep [] .null 10)
  refine Goes.step (S' := T106.setTop (mkF m 56 #[.val (.ref a1), .val (.int (1 : Int32)), .val (.int (0 : Int32)), .unset] [(.ref b106), (.ref a1), (.ref b106)])) (fun t k => st106 _ (XS.dupX1 X106.here hx rfl (hb hby dk62) rfl rfl rfl k)) ?_
  obtain ⟨T107, h107, X107, e107, W107, st107⟩ := putF X106 hx hZ hown (host := "") (Or.inl tw36) Via.refl e106 (Fld.ext E106 Fe) (Exa.ext E106 E1) (Or.inl tw37) tw13 (ty := (.array (.object "java/lang/Object"))) (by decide) rfl rfl (g := (mkF m 56 #[.val (.ref a1), .val (.int (1 : Int32)), .val (.int (0 : Int32)), .unset] [(.ref b106), (.ref a1), (.ref b106)])) rfl rfl (hb hby dk63)
  have Fw107 : Fld Z h107 a1 "java/util/ArrayList" "elementData" "[Ljava/lang/Object;" (.ref b106) := Fld.same W107 (Fld.ext E106 Fe)
  have N107 := Fr.snoc X107 N105 G1
  refine Goes.step (S' := T107.setTop (mkF m 59 #[.val (.ref a1), .val (.int (1 : Int32)), .val (.int (0 : Int32)), .unset] [(.ref b106)])) (fun t k => st107 _ k) ?_
  refine Goes.leave (g := (mkF m 59 #[.val (.ref a1), .val (.int (1 : Int32)), .val (.int (0 : Int32)), .unset] [(.ref b106)])) X107 Bd.notSynchronized (v := (some (.ref b106))) (fun h => by rw [Bd.returns] at h; cases h) (fun fs hr => by jvm_step X107.here [X107.here.top, hx, (hb hby dk64), X107.method', Bd.returns, Value.isRef, FieldType.isReference]; (first | (intro acts; rw [hr _ acts rfl rfl rfl]) | rw [hr _ _ rfl rfl rfl]); exact Steps.refl _) e107 ?_ (by decide) (by decide)
  exact ⟨b106, k106, rfl, N107, (((Keep.refl _ [a1]).ext E106).wr W107 (Or.inl (List.mem_of_getElem? (i := 0) rfl))), (Nat.le_of_eq g106.symm), (Exa.wr W107 (Exa.ext E106 E1)), (Exa.wr W107 AE106), (Fld.other W107 (Fld.ext E106 Fm) (Or.inr (slot_ne (Or.inl tw34) (Or.inl tw37) (by decide) (t := .int) (t' := (.array (.object "java/lang/Object"))) (by decide) (by decide)))), Fw107, (Fld.other W107 (Fld.ext E106 Fz) (Or.inr (slot_ne (Or.inl tw53) (Or.inl tw37) (by decide) (t := .int) (t' := (.array (.object "java/lang/Object"))) (by decide) (by decide)))), (V106.other W107 (Ne.symm (Nat.ne_of_lt (Nat.lt_of_lt_of_le E1.lt (Nat.le_of_eq g106.symm))))), O106⟩

theorem ef_gr0 (m : MethodId) (x0 : Addr) : entryFrame m #[(.ref x0)] 1 = mkF m 0 #[.val (.ref x0)] [] := by first | (simp [entryFrame, mkF, argsToLocals, Value.category]; done) | rfl
def Q_gr0 (Z : State) (a1 : Addr) (u1 : Value) (da : Addr) (kd : ClassId) (h0 : Heap) (n0 : Nat) (v : Option Value) (h : Heap) (L : List Loc) : Prop := ∃ (b : Addr) (kb : ClassId), v = some (.ref b) ∧ Fr n0 L ∧ Keep h0 h [a1] ∧ h0.size ≤ b ∧ Exa Z h a1 "java/util/ArrayList" ∧ Exa Z h b "[Ljava/lang/Object;" ∧ Fld Z h a1 "java/util/AbstractList" "modCount" "I" u1 ∧ Fld Z h a1 "java/util/ArrayList" "elementData" "[Ljava/lang/Object;" (.ref b) ∧ Fld Z h a1 "java/util/ArrayList" "size" "I" (.int (0 : Int32)) ∧ Arv Z h b kb (.object "java/lang/Object") (10 : Int32) [.null, .null, .null, .null, .null, .null, .null, .null, .null, .null] .null ∧ Ovr Z kb "java/lang/Object"
set_option maxRecDepth 65536 in
set_option maxHeartbeats 40000000 in
theorem gr0 (l : Launch) (Z : State) (a0 : Array Value) (hw : ∀ d ∈ tables_1, d.before a0 Z = true) (ws : List Jvm.Cond) (a1 : Addr) (u1 : Value) (da : Addr) (kd : ClassId) (h0 : Heap) (n0 : Nat) (Z0 : n0 ≤ h0.size) (E1 : Exa Z h0 a1 "java/util/ArrayList") (Fm : Fld Z h0 a1 "java/util/AbstractList" "modCount" "I" u1) (Fe : Fld Z h0 a1 "java/util/ArrayList" "elementData" "[Ljava/lang/Object;" (.ref da)) (Fz : Fld Z h0 a1 "java/util/ArrayList" "size" "I" (.int (0 : Int32))) (G1 : n0 ≤ a1) (SD : Sta Z h0 "java/util/ArrayList" "DEFAULTCAPACITY_EMPTY_ELEMENTDATA" "[Ljava/lang/Object;" (.ref da)) (VD : Arv Z h0 da kd (.object "java/lang/Object") (0 : Int32) [] .null) :
    MetFree l mth8 (head1 (Jvm.Cond.code mth8 jdk_38_method_7_code 1 (some (.array (.object "java/lang/Object"))) :: ws) rom6) (fun a U => a = #[(.ref a1)] ∧ Z.Warmed39 U.vm ∧ U.heap = h0) (fun _ _ _ _ _ => True) (fun _ U o U' => ∃ v L, o = .returned v ∧ Q_gr0 Z a1 u1 da kd h0 n0 v U'.heap L ∧ FrameEnd U o U' L rom6.cells rom6.slots) := by
  refine MetFree.of_bodySF (plainFor_of_name pnm4) hisR ?_
  intro p e s m args below meth c s₁ Bd hml0 hP hK
  obtain ⟨rfl, hZ, hh⟩ := hP
  have hx := Bd.exec
  have hby := Bd.bytes
  have hml : c.maxLocals = 1 := hml0
  have hown : s.vm.findClass "java/util/ArrayList" = some m.cls := findClass_of_methodNamed Bd.named
  have hnm := (name_of_methodNamed Bd.named Bd.method).1
  have X0 : Stand p l e rom6 s m #[(.ref a1)] below meth c s₁ [] 0 0 := Stand.of_body Bd
  have eh0 : s₁.heap = h0 := by rw [← hh, Bd.state]; rfl
  have N0 := Fr.nil n0
  have tw14 := hw _ (List.mem_of_getElem? (i := 14) rfl)
  have tw52 := hw _ (List.mem_of_getElem? (i := 52) rfl)
  have tw64 := hw _ (List.mem_of_getElem? (i := 64) rfl)
  have tw65 := hw _ (List.mem_of_getElem? (i := 65) rfl)
  have tw66 := hw _ (List.mem_of_getElem? (i := 66) rfl)
  have tw67 := hw _ (List.mem_of_getElem? (i := 67) rfl)
  have tw68 := hw _ (List.mem_of_getElem? (i := 68) rfl)
  show Goes p e below (Pq (Q_gr0 Z a1 u1 da kd h0 n0) s rom6.cells rom6.slots) (s₁.setTop (entryFrame m #[(.ref a1)] 1))
  refine Goes.step (S' := s₁.setTop (mkF m 0 #[.val (.ref a1)] [])) (fun t k => castTop (ef_gr0 m a1) k) ?_
  refine Goes.step (S' := s₁.setTop (mkF m 2 #[.val (.ref a1)] [(.ref a1), (.ref a1)])) (fun t k => XS.aloadN X0.here hx rfl (hb hby dk65) rfl rfl (XS.aloadN X0.here hx rfl (hb hby dk66) rfl rfl k)) ?_
  obtain ⟨T101, X101, e101, st101⟩ := getF X0 hx hZ hown (host := "") (Or.inl tw52) Via.refl eh0 Fz (g := (mkF m 2 #[.val (.ref a1)] [(.ref a1), (.ref a1)])) rfl rfl (hb hby dk67)
  refine Goes.step (S' := T101.setTop (mkF m 7 #[.val (.ref a1)] [(.int ((0 : Int32) + (1 : Int32))), (.ref a1)])) (fun t k => st101 _ (XS.iconst X101.here hx rfl (hb hby dk68) (XS.iadd X101.here hx rfl (hb hby dk69) rfl k))) ?_
  rw [show ((0 : Int32) + (1 : Int32)) = (1 : Int32) from by decide]
  obtain ⟨cq102, q102, q102'⟩ := E1.cell
  obtain ⟨_, _, ⟨T102, L102, k102, n102⟩, -, X102, ⟨Lc102, hQ102, l102, y102, z102⟩, st102⟩ := X101.privateBack hx (y := mth7) hown (mvT hZ tw64) (mvT hZ tw65) (mvT hZ tw67) (Cond.privateMethod_at (mvP hZ tw66 (args := #[]))) (mvT hZ tw68) (by decide) (backOf (W := 0) (gr1 l Z a0 hw [] a1 u1 da kd h0 n0 Z0 E1 Fm Fe Fz G1 SD VD) hZ tw68 tw14 (by decide) (by decide)) (g := (mkF m 7 #[.val (.ref a1)] [(.int (1 : Int32)), (.ref a1)])) rfl (by rw [hml]; rfl) (Steps.refl _) (a := a1) (by rw [e101]; exact q102) q102' (argsL := [(.int (1 : Int32))]) (rest := []) (lenOf pd_I__Ljava_lang_Object rfl) rfl (Nat.le_of_eq rfl) (hb hby dk70) (fun _ _ => ⟨rfl, e101, (by decide : 0 + 1 ≤ _), (by decide : 0 + 10 ≤ _)⟩)
  dsimp only [Pt.U, Pt.locs, Pt.cells, Pt.slots] at X102 l102 y102 z102 st102 hQ102
  subst y102 z102
  obtain ⟨b_102, kb_102, rfl, Nq102, q102_0, q102_1, q102_2, q102_3, q102_4, q102_5, q102_6, q102_7, q102_8⟩ := hQ102
  have N102 : Fr n0 L102 := by rw [l102]; exact Fr.app N0 Nq102
  refine Goes.step (S' := T102.setTop (mkF m 10 #[.val (.ref a1)] [(.ref b_102)])) (fun t k => st102.trans k) ?_
  refine Goes.leave (g := (mkF m 10 #[.val (.ref a1)] [(.ref b_102)])) X102 Bd.notSynchronized (v := (some (.ref b_102))) (fun h => by rw [Bd.returns] at h; cases h) (fun fs hr => by jvm_step X102.here [X102.here.top, hx, (hb hby dk71), X102.method', Bd.returns, Value.isRef, FieldType.isReference]; (first | (intro acts; rw [hr _ acts rfl rfl rfl]) | rw [hr _ _ rfl rfl rfl]); exact Steps.refl _) rfl ?_ (by decide) (by decide)
  exact ⟨b_102, kb_102, rfl, N102, ((Keep.refl _ [a1]).trans q102_0 (allS (Or.inl (List.mem_of_getElem? (i := 0) rfl)) all0)), q102_1, q102_2, q102_3, q102_4, q102_5, q102_6, q102_7, q102_8⟩

theorem ef_addh0 (m : MethodId) (x0 : Addr) (x1 : Addr) (x2 : Addr) (x3 : Int32) : entryFrame m #[(.ref x0), (.ref x1), (.ref x2), (.int x3)] 4 = mkF m 0 #[.val (.ref x0), .val (.ref x1), .val (.ref x2), .val (.int x3)] [] := by first | (simp [entryFrame, mkF, argsToLocals, Value.category]; done) | rfl
def Q_addh0 (Z : State) (a1 : Addr) (e1 : Addr) (u1 : Value) (da : Addr) (kd : ClassId) (h0 : Heap) (n0 : Nat) (v : Option Value) (h : Heap) (L : List Loc) : Prop := ∃ (b : Addr) (kb : ClassId), v = none ∧ Fr n0 L ∧ Keep h0 h [a1] ∧ h0.size ≤ b ∧ Exa Z h a1 "java/util/ArrayList" ∧ Exa Z h b "[Ljava/lang/Object;" ∧ Fld Z h a1 "java/util/AbstractList" "modCount" "I" u1 ∧ Fld Z h a1 "java/util/ArrayList" "elementData" "[Ljava/lang/Object;" (.ref b) ∧ Fld Z h a1 "java/util/ArrayList" "size" "I" (.int (1 : Int32)) ∧ Arv Z h b kb (.object "java/lang/Object") (10 : Int32) [(.ref e1), .null, .null, .null, .null, .null, .null, .null, .null, .null] .null ∧ Ovr Z kb "java/lang/Object"
set_option maxRecDepth 65536 in
set_option maxHeartbeats 40000000 in
theorem addh0 (l : Launch) (Z : State) (a0 : Array Value) (hw : ∀ d ∈ tables_1, d.before a0 Z = true) (ws : List Jvm.Cond) (a1 : Addr) (e1 : Addr) (u1 : Value) (da : Addr) (kd : ClassId) (h0 : Heap) (n0 : Nat) (Z0 : n0 ≤ h0.size) (E1 : Exa Z h0 a1 "java/util/ArrayList") (Fm : Fld Z h0 a1 "java/util/AbstractList" "modCount" "I" u1) (Fe : Fld Z h0 a1 "java/util/ArrayList" "elementData" "[Ljava/lang/Object;" (.ref da)) (Fz : Fld Z h0 a1 "java/util/ArrayList" "size" "I" (.int (0 : Int32))) (G1 : n0 ≤ a1) (SD : Sta Z h0 "java/util/ArrayList" "DEFAULTCAPACITY_EMPTY_ELEMENTDATA" "[Ljava/lang/Object;" (.ref da)) (VD : Arv Z h0 da kd (.object "java/lang/Object") (0 : Int32) [] .null) (Ee : Exa Z h0 e1 "java/lang/Integer") :
    MetFree l mth9 (head1 (Jvm.Cond.code mth9 jdk_38_method_24_code 4 none :: ws) rom7) (fun a U => a = #[(.ref a1), (.ref e1), (.ref da), (.int (0 : Int32))] ∧ Z.Warmed39 U.vm ∧ U.heap = h0) (fun _ _ _ _ _ => True) (fun _ U o U' => ∃ v L, o = .returned v ∧ Q_addh0 Z a1 e1 u1 da kd h0 n0 v U'.heap L ∧ FrameEnd U o U' L rom7.cells rom7.slots) := by
  refine MetFree.of_bodySF (plainFor_of_name pnm4) hisR ?_
  intro p e s m args below meth c s₁ Bd hml0 hP hK
  obtain ⟨rfl, hZ, hh⟩ := hP
  have hx := Bd.exec
  have hby := Bd.bytes
  have hml : c.maxLocals = 4 := hml0
  have hown : s.vm.findClass "java/util/ArrayList" = some m.cls := findClass_of_methodNamed Bd.named
  have hnm := (name_of_methodNamed Bd.named Bd.method).1
  have X0 : Stand p l e rom7 s m #[(.ref a1), (.ref e1), (.ref da), (.int (0 : Int32))] below meth c s₁ [] 0 0 := Stand.of_body Bd
  have eh0 : s₁.heap = h0 := by rw [← hh, Bd.state]; rfl
  have N0 := Fr.nil n0
  have tw13 := hw _ (List.mem_of_getElem? (i := 13) rfl)
  have tw14 := hw _ (List.mem_of_getElem? (i := 14) rfl)
  have tw34 := hw _ (List.mem_of_getElem? (i := 34) rfl)
  have tw37 := hw _ (List.mem_of_getElem? (i := 37) rfl)
  have tw52 := hw _ (List.mem_of_getElem? (i := 52) rfl)
  have tw53 := hw _ (List.mem_of_getElem? (i := 53) rfl)
  have tw59 := hw _ (List.mem_of_getElem? (i := 59) rfl)
  have tw60 := hw _ (List.mem_of_getElem? (i := 60) rfl)
  have tw61 := hw _ (List.mem_of_getElem? (i := 61) rfl)
  have tw62 := hw _ (List.mem_of_getElem? (i := 62) rfl)
  have tw63 := hw _ (List.mem_of_getElem? (i := 63) rfl)
  have tw72 := hw _ (List.mem_of_getElem? (i := 72) rfl)
  show Goes p e below (Pq (Q_addh0 Z a1 e1 u1 da kd h0 n0) s rom7.cells rom7.slots) (s₁.setTop (entryFrame m #[(.ref a1), (.ref e1), (.ref da), (.int (0 : Int32))] 4))
  refine Goes.step (S' := s₁.setTop (mkF m 0 #[.val (.ref a1), .val (.ref e1), .val (.ref da), .val (.int (0 : Int32))] [])) (fun t k => castTop (ef_addh0 m a1 e1 da (0 : Int32)) k) ?_
  refine Goes.step (S' := s₁.setTop (mkF m 2 #[.val (.ref a1), .val (.ref e1), .val (.ref da), .val (.int (0 : Int32))] [(.ref da), (.int (0 : Int32))])) (fun t k => XS.iloadN X0.here hx rfl (hb hby dk72) rfl (XS.aloadN X0.here hx rfl (hb hby dk73) rfl rfl k)) ?_
  obtain ⟨cl101, Ar101, qk101, Sz101, Nn101, Hs101, Gs101⟩ := id VD
  refine Goes.step (S' := s₁.setTop (mkF m 3 #[.val (.ref a1), .val (.ref e1), .val (.ref da), .val (.int (0 : Int32))] [(.int (0 : Int32)), (.int (0 : Int32))])) (fun t k => X0.arraylength hx (by rw [eh0]; exact Ar101.1) (State.isArrayOf_alike hZ.alike Ar101.2.1) (g := (mkF m 2 #[.val (.ref a1), .val (.ref e1), .val (.ref da), .val (.int (0 : Int32))] [(.ref da), (.int (0 : Int32))])) rfl rfl (hb hby dk74) _ (by rw [len_of Sz101 Nn101]; exact k)) ?_
  refine Goes.step (S' := s₁.setTop (mkF m 7 #[.val (.ref a1), .val (.ref e1), .val (.ref da), .val (.int (0 : Int32))] [(.ref a1)])) (fun t k => XS.icmpNo X0.here hx rfl (hb hby dk75) rfl (teq ((by decide) : (0 : Int32) = (0 : Int32))).2 (XS.aloadN X0.here hx rfl (hb hby dk76) rfl rfl k)) ?_
  obtain ⟨cq102, q102, q102'⟩ := E1.cell
  obtain ⟨_, _, ⟨T102, L102, k102, n102⟩, -, X102, ⟨Lc102, hQ102, l102, y102, z102⟩, st102⟩ := X0.privateBack hx (y := mth8) hown (mvT hZ tw59) (mvT hZ tw60) (mvT hZ tw62) (Cond.privateMethod_at (mvP hZ tw61 (args := #[]))) (mvT hZ tw63) (by decide) (backOf (W := 0) (gr0 l Z a0 hw [] a1 u1 da kd h0 n0 Z0 E1 Fm Fe Fz G1 SD VD) hZ tw63 tw14 (by decide) (by decide)) (g := (mkF m 7 #[.val (.ref a1), .val (.ref e1), .val (.ref da), .val (.int (0 : Int32))] [(.ref a1)])) rfl (by rw [hml]; rfl) (Steps.refl _) (a := a1) (by rw [eh0]; exact q102) q102' (argsL := []) (rest := []) (lenOf pd_Ljava_lang_Object rfl) rfl (Nat.le_of_eq rfl) (hb hby dk77) (fun _ _ => ⟨rfl, eh0, (by decide : 0 + 1 ≤ _), (by decide : 0 + 10 ≤ _)⟩)
  dsimp only [Pt.U, Pt.locs, Pt.cells, Pt.slots] at X102 l102 y102 z102 st102 hQ102
  subst y102 z102
  obtain ⟨b_102, kb_102, rfl, Nq102, q102_0, q102_1, q102_2, q102_3, q102_4, q102_5, q102_6, q102_7, q102_8⟩ := hQ102
  have N102 : Fr n0 L102 := by rw [l102]; exact Fr.app N0 Nq102
  refine Goes.step (S' := T102.setTop (mkF m 14 #[.val (.ref a1), .val (.ref e1), .val (.ref b_102), .val (.int (0 : Int32))] [(.ref e1), (.int (0 : Int32)), (.ref b_102)])) (fun t k => st102.trans (XS.astoreN X102.here hx rfl (hb hby dk78) rfl rfl (l' := #[.val (.ref a1), .val (.ref e1), .val (.ref b_102), .val (.int (0 : Int32))]) rfl (XS.aloadN X102.here hx rfl (hb hby dk79) rfl rfl (XS.iloadN X102.here hx rfl (hb hby dk80) rfl (XS.aloadN X102.here hx rfl (hb hby dk81) rfl rfl k))))) ?_
  obtain ⟨cl103, Ar103, qk103, Sz103, Nn103, Hs103, Gs103⟩ := id q102_7
  obtain ⟨T103, h103, X103, e103, W103, st103⟩ := stR X102 hx hZ rfl Ar103 (j := (0 : Int32)) (inb_of (j := (0 : Int32)) Sz103 ⟨by decide, by decide⟩) rfl (Sto.ofV Ar103 qk103 q102_8 (Ins.of_exa (Ee.keep q102_0) tw72)) (g := (mkF m 14 #[.val (.ref a1), .val (.ref e1), .val (.ref b_102), .val (.int (0 : Int32))] [(.ref e1), (.int (0 : Int32)), (.ref b_102)])) rfl rfl (hb hby dk82)
  have V103 : Arv Z h103 b_102 kb_102 (.object "java/lang/Object") (10 : Int32) [(.ref e1), .null, .null, .null, .null, .null, .null, .null, .null, .null] .null := Arv.set Ar103 qk103 Sz103 Nn103 Hs103 Gs103 rfl W103 0 rfl (Nat.le_of_ble_eq_true rfl)
  have N103 := Fr.snoc X103 N102 (Nat.le_trans Z0 q102_1)
  refine Goes.step (S' := T103.setTop (mkF m 19 #[.val (.ref a1), .val (.ref e1), .val (.ref b_102), .val (.int (0 : Int32))] [(.int ((0 : Int32) + (1 : Int32))), (.ref a1)])) (fun t k => st103 _ (XS.aloadN X103.here hx rfl (hb hby dk83) rfl rfl (XS.iloadN X103.here hx rfl (hb hby dk84) rfl (XS.iconst X103.here hx rfl (hb hby dk85) (XS.iadd X103.here hx rfl (hb hby dk86) rfl k))))) ?_
  rw [show ((0 : Int32) + (1 : Int32)) = (1 : Int32) from by decide]
  obtain ⟨T104, h104, X104, e104, W104, st104⟩ := putF X103 hx hZ hown (host := "") (Or.inl tw52) Via.refl e103 (Fld.other W103 q102_6 (Or.inl (Nat.ne_of_lt (Nat.lt_of_lt_of_le E1.lt q102_1)))) (Exa.wr W103 q102_2) (Or.inl tw53) tw13 (ty := .int) (by decide) rfl rfl (g := (mkF m 19 #[.val (.ref a1), .val (.ref e1), .val (.ref b_102), .val (.int (0 : Int32))] [(.int (1 : Int32)), (.ref a1)])) rfl rfl (hb hby dk87)
  have Fw104 : Fld Z h104 a1 "java/util/ArrayList" "size" "I" (.int (1 : Int32)) := Fld.same W104 (Fld.other W103 q102_6 (Or.inl (Nat.ne_of_lt (Nat.lt_of_lt_of_le E1.lt q102_1))))
  have N104 := Fr.snoc X104 N103 G1
  refine Goes.step (S' := T104.setTop (mkF m 22 #[.val (.ref a1), .val (.ref e1), .val (.ref b_102), .val (.int (0 : Int32))] [])) (fun t k => st104 _ k) ?_
  refine Goes.leave (g := (mkF m 22 #[.val (.ref a1), .val (.ref e1), .val (.ref b_102), .val (.int (0 : Int32))] [])) X104 Bd.notSynchronized (v := none) (fun _ => rfl) (fun fs hr => X104.returnOut hx Bd.returns (hb hby dk88) hr) e104 ?_ (by decide) (by decide)
  exact ⟨b_102, kb_102, rfl, N104, ((((Keep.refl _ [a1]).trans q102_0 (allS (Or.inl (List.mem_of_getElem? (i := 0) rfl)) all0)).wr W103 (Or.inr q102_1)).wr W104 (Or.inl (List.mem_of_getElem? (i := 0) rfl))), q102_1, (Exa.wr W104 (Exa.wr W103 q102_2)), (Exa.wr W104 (Exa.wr W103 q102_3)), (Fld.other W104 (Fld.other W103 q102_4 (Or.inl (Nat.ne_of_lt (Nat.lt_of_lt_of_le E1.lt q102_1)))) (Or.inr (slot_ne (Or.inl tw34) (Or.inl tw53) (by decide) (t := .int) (t' := .int) (by decide) (by decide)))), (Fld.other W104 (Fld.other W103 q102_5 (Or.inl (Nat.ne_of_lt (Nat.lt_of_lt_of_le E1.lt q102_1)))) (Or.inr (slot_ne (Or.inl tw37) (Or.inl tw53) (by decide) (t := (.array (.object "java/lang/Object"))) (t' := .int) (by decide) (by decide)))), Fw104, (V103.other W104 (Ne.symm (Nat.ne_of_lt (Nat.lt_of_lt_of_le E1.lt q102_1)))), q102_8⟩

theorem ef_add0 (m : MethodId) (x0 : Addr) (x1 : Addr) : entryFrame m #[(.ref x0), (.ref x1)] 2 = mkF m 0 #[.val (.ref x0), .val (.ref x1)] [] := by first | (simp [entryFrame, mkF, argsToLocals, Value.category]; done) | rfl
def Q_add0 (Z : State) (a1 : Addr) (e1 : Addr) (q1 : Int32) (da : Addr) (kd : ClassId) (h0 : Heap) (n0 : Nat) (v : Option Value) (h : Heap) (L : List Loc) : Prop := ∃ (b : Addr) (kb : ClassId), v = some (.int (1 : Int32)) ∧ Fr n0 L ∧ Keep h0 h [a1] ∧ h0.size ≤ b ∧ Exa Z h a1 "java/util/ArrayList" ∧ Exa Z h b "[Ljava/lang/Object;" ∧ Fld Z h a1 "java/util/AbstractList" "modCount" "I" (.int (q1 + (1 : Int32))) ∧ Fld Z h a1 "java/util/ArrayList" "elementData" "[Ljava/lang/Object;" (.ref b) ∧ Fld Z h a1 "java/util/ArrayList" "size" "I" (.int (1 : Int32)) ∧ Arv Z h b kb (.object "java/lang/Object") (10 : Int32) [(.ref e1), .null, .null, .null, .null, .null, .null, .null, .null, .null] .null ∧ Ovr Z kb "java/lang/Object"
set_option maxRecDepth 65536 in
set_option maxHeartbeats 40000000 in
theorem add0 (l : Launch) (Z : State) (a0 : Array Value) (hw : ∀ d ∈ tables_1, d.before a0 Z = true) (ws : List Jvm.Cond) (a1 : Addr) (e1 : Addr) (q1 : Int32) (da : Addr) (kd : ClassId) (h0 : Heap) (n0 : Nat) (Z0 : n0 ≤ h0.size) (E1 : Exa Z h0 a1 "java/util/ArrayList") (Fm : Fld Z h0 a1 "java/util/AbstractList" "modCount" "I" (.int q1)) (Fe : Fld Z h0 a1 "java/util/ArrayList" "elementData" "[Ljava/lang/Object;" (.ref da)) (Fz : Fld Z h0 a1 "java/util/ArrayList" "size" "I" (.int (0 : Int32))) (G1 : n0 ≤ a1) (SD : Sta Z h0 "java/util/ArrayList" "DEFAULTCAPACITY_EMPTY_ELEMENTDATA" "[Ljava/lang/Object;" (.ref da)) (VD : Arv Z h0 da kd (.object "java/lang/Object") (0 : Int32) [] .null) (Ee : Exa Z h0 e1 "java/lang/Integer") :
    MetFree l mth10 (head1 (Jvm.Cond.code mth10 jdk_38_method_25_code 2 (some .boolean) :: ws) rom8) (fun a U => a = #[(.ref a1), (.ref e1)] ∧ Z.Warmed39 U.vm ∧ U.heap = h0) (fun _ _ _ _ _ => True) (fun _ U o U' => ∃ v L, o = .returned v ∧ Q_add0 Z a1 e1 q1 da kd h0 n0 v U'.heap L ∧ FrameEnd U o U' L rom8.cells rom8.slots) := by
  refine MetFree.of_bodySF (plainFor_of_name pnm4) hisR ?_
  intro p e s m args below meth c s₁ Bd hml0 hP hK
  obtain ⟨rfl, hZ, hh⟩ := hP
  have hx := Bd.exec
  have hby := Bd.bytes
  have hml : c.maxLocals = 2 := hml0
  have hown : s.vm.findClass "java/util/ArrayList" = some m.cls := findClass_of_methodNamed Bd.named
  have hnm := (name_of_methodNamed Bd.named Bd.method).1
  have X0 : Stand p l e rom8 s m #[(.ref a1), (.ref e1)] below meth c s₁ [] 0 0 := Stand.of_body Bd
  have eh0 : s₁.heap = h0 := by rw [← hh, Bd.state]; rfl
  have N0 := Fr.nil n0
  have tw13 := hw _ (List.mem_of_getElem? (i := 13) rfl)
  have tw14 := hw _ (List.mem_of_getElem? (i := 14) rfl)
  have tw34 := hw _ (List.mem_of_getElem? (i := 34) rfl)
  have tw36 := hw _ (List.mem_of_getElem? (i := 36) rfl)
  have tw37 := hw _ (List.mem_of_getElem? (i := 37) rfl)
  have tw50 := hw _ (List.mem_of_getElem? (i := 50) rfl)
  have tw51 := hw _ (List.mem_of_getElem? (i := 51) rfl)
  have tw52 := hw _ (List.mem_of_getElem? (i := 52) rfl)
  have tw53 := hw _ (List.mem_of_getElem? (i := 53) rfl)
  have tw54 := hw _ (List.mem_of_getElem? (i := 54) rfl)
  have tw55 := hw _ (List.mem_of_getElem? (i := 55) rfl)
  have tw56 := hw _ (List.mem_of_getElem? (i := 56) rfl)
  have tw57 := hw _ (List.mem_of_getElem? (i := 57) rfl)
  have tw58 := hw _ (List.mem_of_getElem? (i := 58) rfl)
  show Goes p e below (Pq (Q_add0 Z a1 e1 q1 da kd h0 n0) s rom8.cells rom8.slots) (s₁.setTop (entryFrame m #[(.ref a1), (.ref e1)] 2))
  refine Goes.step (S' := s₁.setTop (mkF m 0 #[.val (.ref a1), .val (.ref e1)] [])) (fun t k => castTop (ef_add0 m a1 e1) k) ?_
  refine Goes.step (S' := s₁.setTop (mkF m 2 #[.val (.ref a1), .val (.ref e1)] [(.ref a1), (.ref a1)])) (fun t k => XS.aloadN X0.here hx rfl (hb hby dk89) rfl rfl (XS.dup X0.here hx rfl (hb hby dk90) rfl rfl k)) ?_
  obtain ⟨T101, X101, e101, st101⟩ := getF X0 hx hZ hown (host := "") (Or.inl tw50) (Via.of tw51) eh0 Fm (g := (mkF m 2 #[.val (.ref a1), .val (.ref e1)] [(.ref a1), (.ref a1)])) rfl rfl (hb hby dk91)
  refine Goes.step (S' := T101.setTop (mkF m 7 #[.val (.ref a1), .val (.ref e1)] [(.int (q1 + (1 : Int32))), (.ref a1)])) (fun t k => st101 _ (XS.iconst X101.here hx rfl (hb hby dk92) (XS.iadd X101.here hx rfl (hb hby dk93) rfl k))) ?_
  obtain ⟨T102, h102, X102, e102, W102, st102⟩ := putF X101 hx hZ hown (host := "") (Or.inl tw50) (Via.of tw51) e101 Fm E1 (Or.inl tw34) tw13 (ty := .int) (by decide) rfl rfl (g := (mkF m 7 #[.val (.ref a1), .val (.ref e1)] [(.int (q1 + (1 : Int32))), (.ref a1)])) rfl rfl (hb hby dk94)
  have Fw102 : Fld Z h102 a1 "java/util/AbstractList" "modCount" "I" (.int (q1 + (1 : Int32))) := Fld.same W102 Fm
  have N102 := Fr.snoc X102 N0 G1
  refine Goes.step (S' := T102.setTop (mkF m 13 #[.val (.ref a1), .val (.ref e1)] [(.ref a1), (.ref e1), (.ref a1)])) (fun t k => st102 _ (XS.aloadN X102.here hx rfl (hb hby dk95) rfl rfl (XS.aloadN X102.here hx rfl (hb hby dk96) rfl rfl (XS.aloadN X102.here hx rfl (hb hby dk97) rfl rfl k)))) ?_
  obtain ⟨T103, X103, e103, st103⟩ := getF X102 hx hZ hown (host := "") (Or.inl tw36) Via.refl e102 (Fld.other W102 Fe (Or.inr (slot_ne (Or.inl tw37) (Or.inl tw34) (by decide) (t := (.array (.object "java/lang/Object"))) (t' := .int) (by decide) (by decide)))) (g := (mkF m 13 #[.val (.ref a1), .val (.ref e1)] [(.ref a1), (.ref e1), (.ref a1)])) rfl rfl (hb hby dk98)
  refine Goes.step (S' := T103.setTop (mkF m 17 #[.val (.ref a1), .val (.ref e1)] [(.ref a1), (.ref da), (.ref e1), (.ref a1)])) (fun t k => st103 _ (XS.aloadN X103.here hx rfl (hb hby dk99) rfl rfl k)) ?_
  obtain ⟨T104, X104, e104, st104⟩ := getF X103 hx hZ hown (host := "") (Or.inl tw52) Via.refl e103 (Fld.other W102 Fz (Or.inr (slot_ne (Or.inl tw53) (Or.inl tw34) (by decide) (t := .int) (t' := .int) (by decide) (by decide)))) (g := (mkF m 17 #[.val (.ref a1), .val (.ref e1)] [(.ref a1), (.ref da), (.ref e1), (.ref a1)])) rfl rfl (hb hby dk100)
  refine Goes.step (S' := T104.setTop (mkF m 20 #[.val (.ref a1), .val (.ref e1)] [(.int (0 : Int32)), (.ref da), (.ref e1), (.ref a1)])) (fun t k => st104 _ k) ?_
  obtain ⟨cq105, q105, q105'⟩ := (Exa.wr W102 E1).cell
  obtain ⟨_, _, ⟨T105, L105, k105, n105⟩, -, X105, ⟨Lc105, hQ105, l105, y105, z105⟩, st105⟩ := X104.privateBack hx (y := mth9) hown (mvT hZ tw54) (mvT hZ tw55) (mvT hZ tw57) (Cond.privateMethod_at (mvP hZ tw56 (args := #[]))) (mvT hZ tw58) (by decide) (backOf (W := 0) (addh0 l Z a0 hw [] a1 e1 (.int (q1 + (1 : Int32))) da kd h102 n0 (Nat.le_trans Z0 (Nat.le_of_eq W102.size.symm)) (Exa.wr W102 E1) Fw102 (Fld.other W102 Fe (Or.inr (slot_ne (Or.inl tw37) (Or.inl tw34) (by decide) (t := (.array (.object "java/lang/Object"))) (t' := .int) (by decide) (by decide)))) (Fld.other W102 Fz (Or.inr (slot_ne (Or.inl tw53) (Or.inl tw34) (by decide) (t := .int) (t' := .int) (by decide) (by decide)))) G1 (Sta.wr W102 SD) (VD.other W102 (Ne.symm (Exa.neArv E1 VD tw13))) (Exa.wr W102 Ee)) hZ tw58 tw14 (by decide) (by decide)) (g := (mkF m 20 #[.val (.ref a1), .val (.ref e1)] [(.int (0 : Int32)), (.ref da), (.ref e1), (.ref a1)])) rfl (by rw [hml]; rfl) (Steps.refl _) (a := a1) (by rw [e104]; exact q105) q105' (argsL := [(.ref e1), (.ref da), (.int (0 : Int32))]) (rest := []) (lenOf pd_Ljava_lang_Object__Ljava_lang_Object_I_V rfl) rfl (Nat.le_of_eq rfl) (hb hby dk101) (fun _ _ => ⟨rfl, e104, (by decide : 0 + 1 ≤ _), (by decide : 0 + 10 ≤ _)⟩)
  dsimp only [Pt.U, Pt.locs, Pt.cells, Pt.slots] at X105 l105 y105 z105 st105 hQ105
  subst y105 z105
  obtain ⟨b_105, kb_105, rfl, Nq105, q105_0, q105_1, q105_2, q105_3, q105_4, q105_5, q105_6, q105_7, q105_8⟩ := hQ105
  have N105 : Fr n0 L105 := by rw [l105]; exact Fr.app N102 Nq105
  refine Goes.step (S' := T105.setTop (mkF m 24 #[.val (.ref a1), .val (.ref e1)] [(.int (1 : Int32))])) (fun t k => st105.trans (XS.iconst X105.here hx rfl (hb hby dk102) k)) ?_
  refine Goes.leave (g := (mkF m 24 #[.val (.ref a1), .val (.ref e1)] [(.int (1 : Int32))])) X105 Bd.notSynchronized (v := (some (.int (1 : Int32)))) (fun h => by rw [Bd.returns] at h; cases h) (fun fs hr => retN X105 hx (t := .boolean) Bd.returns (by simp) (hb hby dk103) hr) rfl ?_ (by decide) (by decide)
  exact ⟨b_105, kb_105, rfl, N105, (((Keep.refl _ [a1]).wr W102 (Or.inl (List.mem_of_getElem? (i := 0) rfl))).trans q105_0 (allS (Or.inl (List.mem_of_getElem? (i := 0) rfl)) all0)), (Nat.le_trans (Nat.le_of_eq W102.size.symm) q105_1), q105_2, q105_3, q105_4, q105_5, q105_6, q105_7, q105_8⟩

theorem ef_addh1 (m : MethodId) (x0 : Addr) (x1 : Addr) (x2 : Addr) (x3 : Int32) : entryFrame m #[(.ref x0), (.ref x1), (.ref x2), (.int x3)] 4 = mkF m 0 #[.val (.ref x0), .val (.ref x1), .val (.ref x2), .val (.int x3)] [] := by first | (simp [entryFrame, mkF, argsToLocals, Value.category]; done) | rfl
def Q_addh1 (Z : State) (a1 : Addr) (e1 : Addr) (b1 : Addr) (k1 : ClassId) (u1 : Value) (x0 : Addr) (h0 : Heap) (n0 : Nat) (v : Option Value) (h : Heap) (L : List Loc) : Prop := v = none ∧ Fr n0 L ∧ Keep h0 h [a1, b1] ∧ Exa Z h a1 "java/util/ArrayList" ∧ Fld Z h a1 "java/util/AbstractList" "modCount" "I" u1 ∧ Fld Z h a1 "java/util/ArrayList" "elementData" "[Ljava/lang/Object;" (.ref b1) ∧ Fld Z h a1 "java/util/ArrayList" "size" "I" (.int (2 : Int32)) ∧ Arv Z h b1 k1 (.object "java/lang/Object") (10 : Int32) [(.ref x0), (.ref e1), .null, .null, .null, .null, .null, .null, .null, .null] .null ∧ Exa Z h b1 "[Ljava/lang/Object;"
set_option maxRecDepth 65536 in
set_option maxHeartbeats 40000000 in
theorem addh1 (l : Launch) (Z : State) (a0 : Array Value) (hw : ∀ d ∈ tables_1, d.before a0 Z = true) (ws : List Jvm.Cond) (a1 : Addr) (e1 : Addr) (b1 : Addr) (k1 : ClassId) (u1 : Value) (x0 : Addr) (h0 : Heap) (n0 : Nat) (Z0 : n0 ≤ h0.size) (E1 : Exa Z h0 a1 "java/util/ArrayList") (Fm : Fld Z h0 a1 "java/util/AbstractList" "modCount" "I" u1) (Fe : Fld Z h0 a1 "java/util/ArrayList" "elementData" "[Ljava/lang/Object;" (.ref b1)) (Fz : Fld Z h0 a1 "java/util/ArrayList" "size" "I" (.int (1 : Int32))) (V1 : Arv Z h0 b1 k1 (.object "java/lang/Object") (10 : Int32) [(.ref x0), .null, .null, .null, .null, .null, .null, .null, .null, .null] .null) (OV : Ovr Z k1 "java/lang/Object") (Eb : Exa Z h0 b1 "[Ljava/lang/Object;") (G1 : n0 ≤ a1) (G2 : n0 ≤ b1) (Ee : Exa Z h0 e1 "java/lang/Integer") :
    MetFree l mth9 (head1 (Jvm.Cond.code mth9 jdk_38_method_24_code 4 none :: ws) rom0) (fun a U => a = #[(.ref a1), (.ref e1), (.ref b1), (.int (1 : Int32))] ∧ Z.Warmed39 U.vm ∧ U.heap = h0) (fun _ _ _ _ _ => True) (fun _ U o U' => ∃ v L, o = .returned v ∧ Q_addh1 Z a1 e1 b1 k1 u1 x0 h0 n0 v U'.heap L ∧ FrameEnd U o U' L rom0.cells rom0.slots) := by
  refine MetFree.of_bodySF (plainFor_of_name pnm4) hisR ?_
  intro p e s m args below meth c s₁ Bd hml0 hP hK
  obtain ⟨rfl, hZ, hh⟩ := hP
  have hx := Bd.exec
  have hby := Bd.bytes
  have hml : c.maxLocals = 4 := hml0
  have hown : s.vm.findClass "java/util/ArrayList" = some m.cls := findClass_of_methodNamed Bd.named
  have hnm := (name_of_methodNamed Bd.named Bd.method).1
  have X0 : Stand p l e rom0 s m #[(.ref a1), (.ref e1), (.ref b1), (.int (1 : Int32))] below meth c s₁ [] 0 0 := Stand.of_body Bd
  have eh0 : s₁.heap = h0 := by rw [← hh, Bd.state]; rfl
  have N0 := Fr.nil n0
  have tw13 := hw _ (List.mem_of_getElem? (i := 13) rfl)
  have tw34 := hw _ (List.mem_of_getElem? (i := 34) rfl)
  have tw37 := hw _ (List.mem_of_getElem? (i := 37) rfl)
  have tw52 := hw _ (List.mem_of_getElem? (i := 52) rfl)
  have tw53 := hw _ (List.mem_of_getElem? (i := 53) rfl)
  have tw72 := hw _ (List.mem_of_getElem? (i := 72) rfl)
  show Goes p e below (Pq (Q_addh1 Z a1 e1 b1 k1 u1 x0 h0 n0) s rom0.cells rom0.slots) (s₁.setTop (entryFrame m #[(.ref a1), (.ref e1), (.ref b1), (.int (1 : Int32))] 4))
  refine Goes.step (S' := s₁.setTop (mkF m 0 #[.val (.ref a1), .val (.ref e1), .val (.ref b1), .val (.int (1 : Int32))] [])) (fun t k => castTop (ef_addh1 m a1 e1 b1 (1 : Int32)) k) ?_
  refine Goes.step (S' := s₁.setTop (mkF m 2 #[.val (.ref a1), .val (.ref e1), .val (.ref b1), .val (.int (1 : Int32))] [(.ref b1), (.int (1 : Int32))])) (fun t k => XS.iloadN X0.here hx rfl (hb hby dk72) rfl (XS.aloadN X0.here hx rfl (hb hby dk73) rfl rfl k)) ?_
  obtain ⟨cl101, Ar101, qk101, Sz101, Nn101, Hs101, Gs101⟩ := id V1
  refine Goes.step (S' := s₁.setTop (mkF m 3 #[.val (.ref a1), .val (.ref e1), .val (.ref b1), .val (.int (1 : Int32))] [(.int (10 : Int32)), (.int (1 : Int32))])) (fun t k => X0.arraylength hx (by rw [eh0]; exact Ar101.1) (State.isArrayOf_alike hZ.alike Ar101.2.1) (g := (mkF m 2 #[.val (.ref a1), .val (.ref e1), .val (.ref b1), .val (.int (1 : Int32))] [(.ref b1), (.int (1 : Int32))])) rfl rfl (hb hby dk74) _ (by rw [len_of Sz101 Nn101]; exact k)) ?_
  refine Goes.step (S' := s₁.setTop (mkF m 14 #[.val (.ref a1), .val (.ref e1), .val (.ref b1), .val (.int (1 : Int32))] [(.ref e1), (.int (1 : Int32)), (.ref b1)])) (fun t k => XS.icmpYes X0.here hx rfl (pc0 := 3) (pc' := 11) rfl (hb hby dk75) rfl (feq ((by decide) : ¬ ((1 : Int32) = (10 : Int32)))).2 (by decide) (by decide) (XS.aloadN X0.here hx rfl (hb hby dk79) rfl rfl (XS.iloadN X0.here hx rfl (hb hby dk80) rfl (XS.aloadN X0.here hx rfl (hb hby dk81) rfl rfl k)))) ?_
  obtain ⟨cl102, Ar102, qk102, Sz102, Nn102, Hs102, Gs102⟩ := id V1
  obtain ⟨T102, h102, X102, e102, W102, st102⟩ := stR X0 hx hZ eh0 Ar102 (j := (1 : Int32)) (inb_of (j := (1 : Int32)) Sz102 ⟨by decide, by decide⟩) rfl (Sto.ofV Ar102 qk102 OV (Ins.of_exa Ee tw72)) (g := (mkF m 14 #[.val (.ref a1), .val (.ref e1), .val (.ref b1), .val (.int (1 : Int32))] [(.ref e1), (.int (1 : Int32)), (.ref b1)])) rfl rfl (hb hby dk82)
  have V102 : Arv Z h102 b1 k1 (.object "java/lang/Object") (10 : Int32) [(.ref x0), (.ref e1), .null, .null, .null, .null, .null, .null, .null, .null] .null := Arv.set Ar102 qk102 Sz102 Nn102 Hs102 Gs102 rfl W102 1 rfl (Nat.le_of_ble_eq_true rfl)
  have N102 := Fr.snoc X102 N0 G2
  refine Goes.step (S' := T102.setTop (mkF m 19 #[.val (.ref a1), .val (.ref e1), .val (.ref b1), .val (.int (1 : Int32))] [(.int ((1 : Int32) + (1 : Int32))), (.ref a1)])) (fun t k => st102 _ (XS.aloadN X102.here hx rfl (hb hby dk83) rfl rfl (XS.iloadN X102.here hx rfl (hb hby dk84) rfl (XS.iconst X102.here hx rfl (hb hby dk85) (XS.iadd X102.here hx rfl (hb hby dk86) rfl k))))) ?_
  rw [show ((1 : Int32) + (1 : Int32)) = (2 : Int32) from by decide]
  obtain ⟨T103, h103, X103, e103, W103, st103⟩ := putF X102 hx hZ hown (host := "") (Or.inl tw52) Via.refl e102 (Fld.other W102 Fz (Or.inl (Exa.ne E1 Eb (by decide)))) (Exa.wr W102 E1) (Or.inl tw53) tw13 (ty := .int) (by decide) rfl rfl (g := (mkF m 19 #[.val (.ref a1), .val (.ref e1), .val (.ref b1), .val (.int (1 : Int32))] [(.int (2 : Int32)), (.ref a1)])) rfl rfl (hb hby dk87)
  have Fw103 : Fld Z h103 a1 "java/util/ArrayList" "size" "I" (.int (2 : Int32)) := Fld.same W103 (Fld.other W102 Fz (Or.inl (Exa.ne E1 Eb (by decide))))
  have N103 := Fr.snoc X103 N102 G1
  refine Goes.step (S' := T103.setTop (mkF m 22 #[.val (.ref a1), .val (.ref e1), .val (.ref b1), .val (.int (1 : Int32))] [])) (fun t k => st103 _ k) ?_
  refine Goes.leave (g := (mkF m 22 #[.val (.ref a1), .val (.ref e1), .val (.ref b1), .val (.int (1 : Int32))] [])) X103 Bd.notSynchronized (v := none) (fun _ => rfl) (fun fs hr => X103.returnOut hx Bd.returns (hb hby dk88) hr) e103 ?_ (by decide) (by decide)
  exact ⟨rfl, N103, (((Keep.refl _ [a1, b1]).wr W102 (Or.inl (List.mem_of_getElem? (i := 1) rfl))).wr W103 (Or.inl (List.mem_of_getElem? (i := 0) rfl))), (Exa.wr W103 (Exa.wr W102 E1)), (Fld.other W103 (Fld.other W102 Fm (Or.inl (Exa.ne E1 Eb (by decide)))) (Or.inr (slot_ne (Or.inl tw34) (Or.inl tw53) (by decide) (t := .int) (t' := .int) (by decide) (by decide)))), (Fld.other W103 (Fld.other W102 Fe (Or.inl (Exa.ne E1 Eb (by decide)))) (Or.inr (slot_ne (Or.inl tw37) (Or.inl tw53) (by decide) (t := (.array (.object "java/lang/Object"))) (t' := .int) (by decide) (by decide)))), Fw103, (V102.other W103 (Exa.ne (Exa.wr W102 Eb) (Exa.wr W102 E1) (by decide))), (Exa.wr W103 (Exa.wr W102 Eb))⟩

theorem ef_add1 (m : MethodId) (x0 : Addr) (x1 : Addr) : entryFrame m #[(.ref x0), (.ref x1)] 2 = mkF m 0 #[.val (.ref x0), .val (.ref x1)] [] := by first | (simp [entryFrame, mkF, argsToLocals, Value.category]; done) | rfl
def Q_add1 (Z : State) (a1 : Addr) (e1 : Addr) (b1 : Addr) (k1 : ClassId) (q1 : Int32) (x0 : Addr) (h0 : Heap) (n0 : Nat) (v : Option Value) (h : Heap) (L : List Loc) : Prop := v = some (.int (1 : Int32)) ∧ Fr n0 L ∧ Keep h0 h [a1, b1] ∧ Exa Z h a1 "java/util/ArrayList" ∧ Fld Z h a1 "java/util/AbstractList" "modCount" "I" (.int (q1 + (1 : Int32))) ∧ Fld Z h a1 "java/util/ArrayList" "elementData" "[Ljava/lang/Object;" (.ref b1) ∧ Fld Z h a1 "java/util/ArrayList" "size" "I" (.int (2 : Int32)) ∧ Arv Z h b1 k1 (.object "java/lang/Object") (10 : Int32) [(.ref x0), (.ref e1), .null, .null, .null, .null, .null, .null, .null, .null] .null ∧ Exa Z h b1 "[Ljava/lang/Object;"
set_option maxRecDepth 65536 in
set_option maxHeartbeats 40000000 in
theorem add1 (l : Launch) (Z : State) (a0 : Array Value) (hw : ∀ d ∈ tables_1, d.before a0 Z = true) (ws : List Jvm.Cond) (a1 : Addr) (e1 : Addr) (b1 : Addr) (k1 : ClassId) (q1 : Int32) (x0 : Addr) (h0 : Heap) (n0 : Nat) (Z0 : n0 ≤ h0.size) (E1 : Exa Z h0 a1 "java/util/ArrayList") (Fm : Fld Z h0 a1 "java/util/AbstractList" "modCount" "I" (.int q1)) (Fe : Fld Z h0 a1 "java/util/ArrayList" "elementData" "[Ljava/lang/Object;" (.ref b1)) (Fz : Fld Z h0 a1 "java/util/ArrayList" "size" "I" (.int (1 : Int32))) (V1 : Arv Z h0 b1 k1 (.object "java/lang/Object") (10 : Int32) [(.ref x0), .null, .null, .null, .null, .null, .null, .null, .null, .null] .null) (OV : Ovr Z k1 "java/lang/Object") (Eb : Exa Z h0 b1 "[Ljava/lang/Object;") (G1 : n0 ≤ a1) (G2 : n0 ≤ b1) (Ee : Exa Z h0 e1 "java/lang/Integer") :
    MetFree l mth10 (head1 (Jvm.Cond.code mth10 jdk_38_method_25_code 2 (some .boolean) :: ws) rom9) (fun a U => a = #[(.ref a1), (.ref e1)] ∧ Z.Warmed39 U.vm ∧ U.heap = h0) (fun _ _ _ _ _ => True) (fun _ U o U' => ∃ v L, o = .returned v ∧ Q_add1 Z a1 e1 b1 k1 q1 x0 h0 n0 v U'.heap L ∧ FrameEnd U o U' L rom9.cells rom9.slots) := by
  refine MetFree.of_bodySF (plainFor_of_name pnm4) hisR ?_
  intro p e s m args below meth c s₁ Bd hml0 hP hK
  obtain ⟨rfl, hZ, hh⟩ := hP
  have hx := Bd.exec
  have hby := Bd.bytes
  have hml : c.maxLocals = 2 := hml0
  have hown : s.vm.findClass "java/util/ArrayList" = some m.cls := findClass_of_methodNamed Bd.named
  have hnm := (name_of_methodNamed Bd.named Bd.method).1
  have X0 : Stand p l e rom9 s m #[(.ref a1), (.ref e1)] below meth c s₁ [] 0 0 := Stand.of_body Bd
  have eh0 : s₁.heap = h0 := by rw [← hh, Bd.state]; rfl
  have N0 := Fr.nil n0
  have tw13 := hw _ (List.mem_of_getElem? (i := 13) rfl)
  have tw14 := hw _ (List.mem_of_getElem? (i := 14) rfl)
  have tw34 := hw _ (List.mem_of_getElem? (i := 34) rfl)
  have tw36 := hw _ (List.mem_of_getElem? (i := 36) rfl)
  have tw37 := hw _ (List.mem_of_getElem? (i := 37) rfl)
  have tw50 := hw _ (List.mem_of_getElem? (i := 50) rfl)
  have tw51 := hw _ (List.mem_of_getElem? (i := 51) rfl)
  have tw52 := hw _ (List.mem_of_getElem? (i := 52) rfl)
  have tw53 := hw _ (List.mem_of_getElem? (i := 53) rfl)
  have tw54 := hw _ (List.mem_of_getElem? (i := 54) rfl)
  have tw55 := hw _ (List.mem_of_getElem? (i := 55) rfl)
  have tw56 := hw _ (List.mem_of_getElem? (i := 56) rfl)
  have tw57 := hw _ (List.mem_of_getElem? (i := 57) rfl)
  have tw58 := hw _ (List.mem_of_getElem? (i := 58) rfl)
  show Goes p e below (Pq (Q_add1 Z a1 e1 b1 k1 q1 x0 h0 n0) s rom9.cells rom9.slots) (s₁.setTop (entryFrame m #[(.ref a1), (.ref e1)] 2))
  refine Goes.step (S' := s₁.setTop (mkF m 0 #[.val (.ref a1), .val (.ref e1)] [])) (fun t k => castTop (ef_add1 m a1 e1) k) ?_
  refine Goes.step (S' := s₁.setTop (mkF m 2 #[.val (.ref a1), .val (.ref e1)] [(.ref a1), (.ref a1)])) (fun t k => XS.aloadN X0.here hx rfl (hb hby dk89) rfl rfl (XS.dup X0.here hx rfl (hb hby dk90) rfl rfl k)) ?_
  obtain ⟨T101, X101, e101, st101⟩ := getF X0 hx hZ hown (host := "") (Or.inl tw50) (Via.of tw51) eh0 Fm (g := (mkF m 2 #[.val (.ref a1), .val (.ref e1)] [(.ref a1), (.ref a1)])) rfl rfl (hb hby dk91)
  refine Goes.step (S' := T101.setTop (mkF m 7 #[.val (.ref a1), .val (.ref e1)] [(.int (q1 + (1 : Int32))), (.ref a1)])) (fun t k => st101 _ (XS.iconst X101.here hx rfl (hb hby dk92) (XS.iadd X101.here hx rfl (hb hby dk93) rfl k))) ?_
  obtain ⟨T102, h102, X102, e102, W102, st102⟩ := putF X101 hx hZ hown (host := "") (Or.inl tw50) (Via.of tw51) e101 Fm E1 (Or.inl tw34) tw13 (ty := .int) (by decide) rfl rfl (g := (mkF m 7 #[.val (.ref a1), .val (.ref e1)] [(.int (q1 + (1 : Int32))), (.ref a1)])) rfl rfl (hb hby dk94)
  have Fw102 : Fld Z h102 a1 "java/util/AbstractList" "modCount" "I" (.int (q1 + (1 : Int32))) := Fld.same W102 Fm
  have N102 := Fr.snoc X102 N0 G1
  refine Goes.step (S' := T102.setTop (mkF m 13 #[.val (.ref a1), .val (.ref e1)] [(.ref a1), (.ref e1), (.ref a1)])) (fun t k => st102 _ (XS.aloadN X102.here hx rfl (hb hby dk95) rfl rfl (XS.aloadN X102.here hx rfl (hb hby dk96) rfl rfl (XS.aloadN X102.here hx rfl (hb hby dk97) rfl rfl k)))) ?_
  obtain ⟨T103, X103, e103, st103⟩ := getF X102 hx hZ hown (host := "") (Or.inl tw36) Via.refl e102 (Fld.other W102 Fe (Or.inr (slot_ne (Or.inl tw37) (Or.inl tw34) (by decide) (t := (.array (.object "java/lang/Object"))) (t' := .int) (by decide) (by decide)))) (g := (mkF m 13 #[.val (.ref a1), .val (.ref e1)] [(.ref a1), (.ref e1), (.ref a1)])) rfl rfl (hb hby dk98)
  refine Goes.step (S' := T103.setTop (mkF m 17 #[.val (.ref a1), .val (.ref e1)] [(.ref a1), (.ref b1), (.ref e1), (.ref a1)])) (fun t k => st103 _ (XS.aloadN X103.here hx rfl (hb hby dk99) rfl rfl k)) ?_
  obtain ⟨T104, X104, e104, st104⟩ := getF X103 hx hZ hown (host := "") (Or.inl tw52) Via.refl e103 (Fld.other W102 Fz (Or.inr (slot_ne (Or.inl tw53) (Or.inl tw34) (by decide) (t := .int) (t' := .int) (by decide) (by decide)))) (g := (mkF m 17 #[.val (.ref a1), .val (.ref e1)] [(.ref a1), (.ref b1), (.ref e1), (.ref a1)])) rfl rfl (hb hby dk100)
  refine Goes.step (S' := T104.setTop (mkF m 20 #[.val (.ref a1), .val (.ref e1)] [(.int (1 : Int32)), (.ref b1), (.ref e1), (.ref a1)])) (fun t k => st104 _ k) ?_
  obtain ⟨cq105, q105, q105'⟩ := (Exa.wr W102 E1).cell
  obtain ⟨_, _, ⟨T105, L105, k105, n105⟩, -, X105, ⟨Lc105, hQ105, l105, y105, z105⟩, st105⟩ := X104.privateBack hx (y := mth9) hown (mvT hZ tw54) (mvT hZ tw55) (mvT hZ tw57) (Cond.privateMethod_at (mvP hZ tw56 (args := #[]))) (mvT hZ tw58) (by decide) (backOf (W := 0) (addh1 l Z a0 hw [] a1 e1 b1 k1 (.int (q1 + (1 : Int32))) x0 h102 n0 (Nat.le_trans Z0 (Nat.le_of_eq W102.size.symm)) (Exa.wr W102 E1) Fw102 (Fld.other W102 Fe (Or.inr (slot_ne (Or.inl tw37) (Or.inl tw34) (by decide) (t := (.array (.object "java/lang/Object"))) (t' := .int) (by decide) (by decide)))) (Fld.other W102 Fz (Or.inr (slot_ne (Or.inl tw53) (Or.inl tw34) (by decide) (t := .int) (t' := .int) (by decide) (by decide)))) (V1.other W102 (Exa.ne Eb E1 (by decide))) OV (Exa.wr W102 Eb) G1 G2 (Exa.wr W102 Ee)) hZ tw58 tw14 (by decide) (by decide)) (g := (mkF m 20 #[.val (.ref a1), .val (.ref e1)] [(.int (1 : Int32)), (.ref b1), (.ref e1), (.ref a1)])) rfl (by rw [hml]; rfl) (Steps.refl _) (a := a1) (by rw [e104]; exact q105) q105' (argsL := [(.ref e1), (.ref b1), (.int (1 : Int32))]) (rest := []) (lenOf pd_Ljava_lang_Object__Ljava_lang_Object_I_V rfl) rfl (Nat.le_of_eq rfl) (hb hby dk101) (fun _ _ => ⟨rfl, e104, (by decide : 0 + 0 ≤ _), (by decide : 0 + 0 ≤ _)⟩)
  dsimp only [Pt.U, Pt.locs, Pt.cells, Pt.slots] at X105 l105 y105 z105 st105 hQ105
  subst y105 z105
  obtain ⟨rfl, Nq105, q105_0, q105_1, q105_2, q105_3, q105_4, q105_5, q105_6⟩ := hQ105
  have N105 : Fr n0 L105 := by rw [l105]; exact Fr.app N102 Nq105
  refine Goes.step (S' := T105.setTop (mkF m 24 #[.val (.ref a1), .val (.ref e1)] [(.int (1 : Int32))])) (fun t k => st105.trans (XS.iconst X105.here hx rfl (hb hby dk102) k)) ?_
  refine Goes.leave (g := (mkF m 24 #[.val (.ref a1), .val (.ref e1)] [(.int (1 : Int32))])) X105 Bd.notSynchronized (v := (some (.int (1 : Int32)))) (fun h => by rw [Bd.returns] at h; cases h) (fun fs hr => retN X105 hx (t := .boolean) Bd.returns (by simp) (hb hby dk103) hr) rfl ?_ (by decide) (by decide)
  exact ⟨rfl, N105, (((Keep.refl _ [a1, b1]).wr W102 (Or.inl (List.mem_of_getElem? (i := 0) rfl))).trans q105_0 (allS (Or.inl (List.mem_of_getElem? (i := 0) rfl)) (allS (Or.inl (List.mem_of_getElem? (i := 1) rfl)) all0))), q105_1, q105_2, q105_3, q105_4, q105_5, q105_6⟩

theorem ef_addh2 (m : MethodId) (x0 : Addr) (x1 : Addr) (x2 : Addr) (x3 : Int32) : entryFrame m #[(.ref x0), (.ref x1), (.ref x2), (.int x3)] 4 = mkF m 0 #[.val (.ref x0), .val (.ref x1), .val (.ref x2), .val (.int x3)] [] := by first | (simp [entryFrame, mkF, argsToLocals, Value.category]; done) | rfl
def Q_addh2 (Z : State) (a1 : Addr) (e1 : Addr) (b1 : Addr) (k1 : ClassId) (u1 : Value) (x0 : Addr) (x1 : Addr) (h0 : Heap) (n0 : Nat) (v : Option Value) (h : Heap) (L : List Loc) : Prop := v = none ∧ Fr n0 L ∧ Keep h0 h [a1, b1] ∧ Exa Z h a1 "java/util/ArrayList" ∧ Fld Z h a1 "java/util/AbstractList" "modCount" "I" u1 ∧ Fld Z h a1 "java/util/ArrayList" "elementData" "[Ljava/lang/Object;" (.ref b1) ∧ Fld Z h a1 "java/util/ArrayList" "size" "I" (.int (3 : Int32)) ∧ Arv Z h b1 k1 (.object "java/lang/Object") (10 : Int32) [(.ref x0), (.ref x1), (.ref e1), .null, .null, .null, .null, .null, .null, .null] .null ∧ Exa Z h b1 "[Ljava/lang/Object;"
set_option maxRecDepth 65536 in
set_option maxHeartbeats 40000000 in
theorem addh2 (l : Launch) (Z : State) (a0 : Array Value) (hw : ∀ d ∈ tables_1, d.before a0 Z = true) (ws : List Jvm.Cond) (a1 : Addr) (e1 : Addr) (b1 : Addr) (k1 : ClassId) (u1 : Value) (x0 : Addr) (x1 : Addr) (h0 : Heap) (n0 : Nat) (Z0 : n0 ≤ h0.size) (E1 : Exa Z h0 a1 "java/util/ArrayList") (Fm : Fld Z h0 a1 "java/util/AbstractList" "modCount" "I" u1) (Fe : Fld Z h0 a1 "java/util/ArrayList" "elementData" "[Ljava/lang/Object;" (.ref b1)) (Fz : Fld Z h0 a1 "java/util/ArrayList" "size" "I" (.int (2 : Int32))) (V1 : Arv Z h0 b1 k1 (.object "java/lang/Object") (10 : Int32) [(.ref x0), (.ref x1), .null, .null, .null, .null, .null, .null, .null, .null] .null) (OV : Ovr Z k1 "java/lang/Object") (Eb : Exa Z h0 b1 "[Ljava/lang/Object;") (G1 : n0 ≤ a1) (G2 : n0 ≤ b1) (Ee : Exa Z h0 e1 "java/lang/Integer") :
    MetFree l mth9 (head1 (Jvm.Cond.code mth9 jdk_38_method_24_code 4 none :: ws) rom0) (fun a U => a = #[(.ref a1), (.ref e1), (.ref b1), (.int (2 : Int32))] ∧ Z.Warmed39 U.vm ∧ U.heap = h0) (fun _ _ _ _ _ => True) (fun _ U o U' => ∃ v L, o = .returned v ∧ Q_addh2 Z a1 e1 b1 k1 u1 x0 x1 h0 n0 v U'.heap L ∧ FrameEnd U o U' L rom0.cells rom0.slots) := by
  refine MetFree.of_bodySF (plainFor_of_name pnm4) hisR ?_
  intro p e s m args below meth c s₁ Bd hml0 hP hK
  obtain ⟨rfl, hZ, hh⟩ := hP
  have hx := Bd.exec
  have hby := Bd.bytes
  have hml : c.maxLocals = 4 := hml0
  have hown : s.vm.findClass "java/util/ArrayList" = some m.cls := findClass_of_methodNamed Bd.named
  have hnm := (name_of_methodNamed Bd.named Bd.method).1
  have X0 : Stand p l e rom0 s m #[(.ref a1), (.ref e1), (.ref b1), (.int (2 : Int32))] below meth c s₁ [] 0 0 := Stand.of_body Bd
  have eh0 : s₁.heap = h0 := by rw [← hh, Bd.state]; rfl
  have N0 := Fr.nil n0
  have tw13 := hw _ (List.mem_of_getElem? (i := 13) rfl)
  have tw34 := hw _ (List.mem_of_getElem? (i := 34) rfl)
  have tw37 := hw _ (List.mem_of_getElem? (i := 37) rfl)
  have tw52 := hw _ (List.mem_of_getElem? (i := 52) rfl)
  have tw53 := hw _ (List.mem_of_getElem? (i := 53) rfl)
  have tw72 := hw _ (List.mem_of_getElem? (i := 72) rfl)
  show Goes p e below (Pq (Q_addh2 Z a1 e1 b1 k1 u1 x0 x1 h0 n0) s rom0.cells rom0.slots) (s₁.setTop (entryFrame m #[(.ref a1), (.ref e1), (.ref b1), (.int (2 : Int32))] 4))
  refine Goes.step (S' := s₁.setTop (mkF m 0 #[.val (.ref a1), .val (.ref e1), .val (.ref b1), .val (.int (2 : Int32))] [])) (fun t k => castTop (ef_addh2 m a1 e1 b1 (2 : Int32)) k) ?_
  refine Goes.step (S' := s₁.setTop (mkF m 2 #[.val (.ref a1), .val (.ref e1), .val (.ref b1), .val (.int (2 : Int32))] [(.ref b1), (.int (2 : Int32))])) (fun t k => XS.iloadN X0.here hx rfl (hb hby dk72) rfl (XS.aloadN X0.here hx rfl (hb hby dk73) rfl rfl k)) ?_
  obtain ⟨cl101, Ar101, qk101, Sz101, Nn101, Hs101, Gs101⟩ := id V1
  refine Goes.step (S' := s₁.setTop (mkF m 3 #[.val (.ref a1), .val (.ref e1), .val (.ref b1), .val (.int (2 : Int32))] [(.int (10 : Int32)), (.int (2 : Int32))])) (fun t k => X0.arraylength hx (by rw [eh0]; exact Ar101.1) (State.isArrayOf_alike hZ.alike Ar101.2.1) (g := (mkF m 2 #[.val (.ref a1), .val (.ref e1), .val (.ref b1), .val (.int (2 : Int32))] [(.ref b1), (.int (2 : Int32))])) rfl rfl (hb hby dk74) _ (by rw [len_of Sz101 Nn101]; exact k)) ?_
  refine Goes.step (S' := s₁.setTop (mkF m 14 #[.val (.ref a1), .val (.ref e1), .val (.ref b1), .val (.int (2 : Int32))] [(.ref e1), (.int (2 : Int32)), (.ref b1)])) (fun t k => XS.icmpYes X0.here hx rfl (pc0 := 3) (pc' := 11) rfl (hb hby dk75) rfl (feq ((by decide) : ¬ ((2 : Int32) = (10 : Int32)))).2 (by decide) (by decide) (XS.aloadN X0.here hx rfl (hb hby dk79) rfl rfl (XS.iloadN X0.here hx rfl (hb hby dk80) rfl (XS.aloadN X0.here hx rfl (hb hby dk81) rfl rfl k)))) ?_
  obtain ⟨cl102, Ar102, qk102, Sz102, Nn102, Hs102, Gs102⟩ := id V1
  obtain ⟨T102, h102, X102, e102, W102, st102⟩ := stR X0 hx hZ eh0 Ar102 (j := (2 : Int32)) (inb_of (j := (2 : Int32)) Sz102 ⟨by decide, by decide⟩) rfl (Sto.ofV Ar102 qk102 OV (Ins.of_exa Ee tw72)) (g := (mkF m 14 #[.val (.ref a1), .val (.ref e1), .val (.ref b1), .val (.int (2 : Int32))] [(.ref e1), (.int (2 : Int32)), (.ref b1)])) rfl rfl (hb hby dk82)
  have V102 : Arv Z h102 b1 k1 (.object "java/lang/Object") (10 : Int32) [(.ref x0), (.ref x1), (.ref e1), .null, .null, .null, .null, .null, .null, .null] .null := Arv.set Ar102 qk102 Sz102 Nn102 Hs102 Gs102 rfl W102 2 rfl (Nat.le_of_ble_eq_true rfl)
  have N102 := Fr.snoc X102 N0 G2
  refine Goes.step (S' := T102.setTop (mkF m 19 #[.val (.ref a1), .val (.ref e1), .val (.ref b1), .val (.int (2 : Int32))] [(.int ((2 : Int32) + (1 : Int32))), (.ref a1)])) (fun t k => st102 _ (XS.aloadN X102.here hx rfl (hb hby dk83) rfl rfl (XS.iloadN X102.here hx rfl (hb hby dk84) rfl (XS.iconst X102.here hx rfl (hb hby dk85) (XS.iadd X102.here hx rfl (hb hby dk86) rfl k))))) ?_
  rw [show ((2 : Int32) + (1 : Int32)) = (3 : Int32) from by decide]
  obtain ⟨T103, h103, X103, e103, W103, st103⟩ := putF X102 hx hZ hown (host := "") (Or.inl tw52) Via.refl e102 (Fld.other W102 Fz (Or.inl (Exa.ne E1 Eb (by decide)))) (Exa.wr W102 E1) (Or.inl tw53) tw13 (ty := .int) (by decide) rfl rfl (g := (mkF m 19 #[.val (.ref a1), .val (.ref e1), .val (.ref b1), .val (.int (2 : Int32))] [(.int (3 : Int32)), (.ref a1)])) rfl rfl (hb hby dk87)
  have Fw103 : Fld Z h103 a1 "java/util/ArrayList" "size" "I" (.int (3 : Int32)) := Fld.same W103 (Fld.other W102 Fz (Or.inl (Exa.ne E1 Eb (by decide))))
  have N103 := Fr.snoc X103 N102 G1
  refine Goes.step (S' := T103.setTop (mkF m 22 #[.val (.ref a1), .val (.ref e1), .val (.ref b1), .val (.int (2 : Int32))] [])) (fun t k => st103 _ k) ?_
  refine Goes.leave (g := (mkF m 22 #[.val (.ref a1), .val (.ref e1), .val (.ref b1), .val (.int (2 : Int32))] [])) X103 Bd.notSynchronized (v := none) (fun _ => rfl) (fun fs hr => X103.returnOut hx Bd.returns (hb hby dk88) hr) e103 ?_ (by decide) (by decide)
  exact ⟨rfl, N103, (((Keep.refl _ [a1, b1]).wr W102 (Or.inl (List.mem_of_getElem? (i := 1) rfl))).wr W103 (Or.inl (List.mem_of_getElem? (i := 0) rfl))), (Exa.wr W103 (Exa.wr W102 E1)), (Fld.other W103 (Fld.other W102 Fm (Or.inl (Exa.ne E1 Eb (by decide)))) (Or.inr (slot_ne (Or.inl tw34) (Or.inl tw53) (by decide) (t := .int) (t' := .int) (by decide) (by decide)))), (Fld.other W103 (Fld.other W102 Fe (Or.inl (Exa.ne E1 Eb (by decide)))) (Or.inr (slot_ne (Or.inl tw37) (Or.inl tw53) (by decide) (t := (.array (.object "java/lang/Object"))) (t' := .int) (by decide) (by decide)))), Fw103, (V102.other W103 (Exa.ne (Exa.wr W102 Eb) (Exa.wr W102 E1) (by decide))), (Exa.wr W103 (Exa.wr W102 Eb))⟩

theorem ef_add2 (m : MethodId) (x0 : Addr) (x1 : Addr) : entryFrame m #[(.ref x0), (.ref x1)] 2 = mkF m 0 #[.val (.ref x0), .val (.ref x1)] [] := by first | (simp [entryFrame, mkF, argsToLocals, Value.category]; done) | rfl
def Q_add2 (Z : State) (a1 : Addr) (e1 : Addr) (b1 : Addr) (k1 : ClassId) (q1 : Int32) (x0 : Addr) (x1 : Addr) (h0 : Heap) (n0 : Nat) (v : Option Value) (h : Heap) (L : List Loc) : Prop := v = some (.int (1 : Int32)) ∧ Fr n0 L ∧ Keep h0 h [a1, b1] ∧ Exa Z h a1 "java/util/ArrayList" ∧ Fld Z h a1 "java/util/AbstractList" "modCount" "I" (.int (q1 + (1 : Int32))) ∧ Fld Z h a1 "java/util/ArrayList" "elementData" "[Ljava/lang/Object;" (.ref b1) ∧ Fld Z h a1 "java/util/ArrayList" "size" "I" (.int (3 : Int32)) ∧ Arv Z h b1 k1 (.object "java/lang/Object") (10 : Int32) [(.ref x0), (.ref x1), (.ref e1), .null, .null, .null, .null, .null, .null, .null] .null ∧ Exa Z h b1 "[Ljava/lang/Object;"
set_option maxRecDepth 65536 in
set_option maxHeartbeats 40000000 in
theorem add2 (l : Launch) (Z : State) (a0 : Array Value) (hw : ∀ d ∈ tables_1, d.before a0 Z = true) (ws : List Jvm.Cond) (a1 : Addr) (e1 : Addr) (b1 : Addr) (k1 : ClassId) (q1 : Int32) (x0 : Addr) (x1 : Addr) (h0 : Heap) (n0 : Nat) (Z0 : n0 ≤ h0.size) (E1 : Exa Z h0 a1 "java/util/ArrayList") (Fm : Fld Z h0 a1 "java/util/AbstractList" "modCount" "I" (.int q1)) (Fe : Fld Z h0 a1 "java/util/ArrayList" "elementData" "[Ljava/lang/Object;" (.ref b1)) (Fz : Fld Z h0 a1 "java/util/ArrayList" "size" "I" (.int (2 : Int32))) (V1 : Arv Z h0 b1 k1 (.object "java/lang/Object") (10 : Int32) [(.ref x0), (.ref x1), .null, .null, .null, .null, .null, .null, .null, .null] .null) (OV : Ovr Z k1 "java/lang/Object") (Eb : Exa Z h0 b1 "[Ljava/lang/Object;") (G1 : n0 ≤ a1) (G2 : n0 ≤ b1) (Ee : Exa Z h0 e1 "java/lang/Integer") :
    MetFree l mth10 (head1 (Jvm.Cond.code mth10 jdk_38_method_25_code 2 (some .boolean) :: ws) rom9) (fun a U => a = #[(.ref a1), (.ref e1)] ∧ Z.Warmed39 U.vm ∧ U.heap = h0) (fun _ _ _ _ _ => True) (fun _ U o U' => ∃ v L, o = .returned v ∧ Q_add2 Z a1 e1 b1 k1 q1 x0 x1 h0 n0 v U'.heap L ∧ FrameEnd U o U' L rom9.cells rom9.slots) := by
  refine MetFree.of_bodySF (plainFor_of_name pnm4) hisR ?_
  intro p e s m args below meth c s₁ Bd hml0 hP hK
  obtain ⟨rfl, hZ, hh⟩ := hP
  have hx := Bd.exec
  have hby := Bd.bytes
  have hml : c.maxLocals = 2 := hml0
  have hown : s.vm.findClass "java/util/ArrayList" = some m.cls := findClass_of_methodNamed Bd.named
  have hnm := (name_of_methodNamed Bd.named Bd.method).1
  have X0 : Stand p l e rom9 s m #[(.ref a1), (.ref e1)] below meth c s₁ [] 0 0 := Stand.of_body Bd
  have eh0 : s₁.heap = h0 := by rw [← hh, Bd.state]; rfl
  have N0 := Fr.nil n0
  have tw13 := hw _ (List.mem_of_getElem? (i := 13) rfl)
  have tw14 := hw _ (List.mem_of_getElem? (i := 14) rfl)
  have tw34 := hw _ (List.mem_of_getElem? (i := 34) rfl)
  have tw36 := hw _ (List.mem_of_getElem? (i := 36) rfl)
  have tw37 := hw _ (List.mem_of_getElem? (i := 37) rfl)
  have tw50 := hw _ (List.mem_of_getElem? (i := 50) rfl)
  have tw51 := hw _ (List.mem_of_getElem? (i := 51) rfl)
  have tw52 := hw _ (List.mem_of_getElem? (i := 52) rfl)
  have tw53 := hw _ (List.mem_of_getElem? (i := 53) rfl)
  have tw54 := hw _ (List.mem_of_getElem? (i := 54) rfl)
  have tw55 := hw _ (List.mem_of_getElem? (i := 55) rfl)
  have tw56 := hw _ (List.mem_of_getElem? (i := 56) rfl)
  have tw57 := hw _ (List.mem_of_getElem? (i := 57) rfl)
  have tw58 := hw _ (List.mem_of_getElem? (i := 58) rfl)
  show Goes p e below (Pq (Q_add2 Z a1 e1 b1 k1 q1 x0 x1 h0 n0) s rom9.cells rom9.slots) (s₁.setTop (entryFrame m #[(.ref a1), (.ref e1)] 2))
  refine Goes.step (S' := s₁.setTop (mkF m 0 #[.val (.ref a1), .val (.ref e1)] [])) (fun t k => castTop (ef_add2 m a1 e1) k) ?_
  refine Goes.step (S' := s₁.setTop (mkF m 2 #[.val (.ref a1), .val (.ref e1)] [(.ref a1), (.ref a1)])) (fun t k => XS.aloadN X0.here hx rfl (hb hby dk89) rfl rfl (XS.dup X0.here hx rfl (hb hby dk90) rfl rfl k)) ?_
  obtain ⟨T101, X101, e101, st101⟩ := getF X0 hx hZ hown (host := "") (Or.inl tw50) (Via.of tw51) eh0 Fm (g := (mkF m 2 #[.val (.ref a1), .val (.ref e1)] [(.ref a1), (.ref a1)])) rfl rfl (hb hby dk91)
  refine Goes.step (S' := T101.setTop (mkF m 7 #[.val (.ref a1), .val (.ref e1)] [(.int (q1 + (1 : Int32))), (.ref a1)])) (fun t k => st101 _ (XS.iconst X101.here hx rfl (hb hby dk92) (XS.iadd X101.here hx rfl (hb hby dk93) rfl k))) ?_
  obtain ⟨T102, h102, X102, e102, W102, st102⟩ := putF X101 hx hZ hown (host := "") (Or.inl tw50) (Via.of tw51) e101 Fm E1 (Or.inl tw34) tw13 (ty := .int) (by decide) rfl rfl (g := (mkF m 7 #[.val (.ref a1), .val (.ref e1)] [(.int (q1 + (1 : Int32))), (.ref a1)])) rfl rfl (hb hby dk94)
  have Fw102 : Fld Z h102 a1 "java/util/AbstractList" "modCount" "I" (.int (q1 + (1 : Int32))) := Fld.same W102 Fm
  have N102 := Fr.snoc X102 N0 G1
  refine Goes.step (S' := T102.setTop (mkF m 13 #[.val (.ref a1), .val (.ref e1)] [(.ref a1), (.ref e1), (.ref a1)])) (fun t k => st102 _ (XS.aloadN X102.here hx rfl (hb hby dk95) rfl rfl (XS.aloadN X102.here hx rfl (hb hby dk96) rfl rfl (XS.aloadN X102.here hx rfl (hb hby dk97) rfl rfl k)))) ?_
  obtain ⟨T103, X103, e103, st103⟩ := getF X102 hx hZ hown (host := "") (Or.inl tw36) Via.refl e102 (Fld.other W102 Fe (Or.inr (slot_ne (Or.inl tw37) (Or.inl tw34) (by decide) (t := (.array (.object "java/lang/Object"))) (t' := .int) (by decide) (by decide)))) (g := (mkF m 13 #[.val (.ref a1), .val (.ref e1)] [(.ref a1), (.ref e1), (.ref a1)])) rfl rfl (hb hby dk98)
  refine Goes.step (S' := T103.setTop (mkF m 17 #[.val (.ref a1), .val (.ref e1)] [(.ref a1), (.ref b1), (.ref e1), (.ref a1)])) (fun t k => st103 _ (XS.aloadN X103.here hx rfl (hb hby dk99) rfl rfl k)) ?_
  obtain ⟨T104, X104, e104, st104⟩ := getF X103 hx hZ hown (host := "") (Or.inl tw52) Via.refl e103 (Fld.other W102 Fz (Or.inr (slot_ne (Or.inl tw53) (Or.inl tw34) (by decide) (t := .int) (t' := .int) (by decide) (by decide)))) (g := (mkF m 17 #[.val (.ref a1), .val (.ref e1)] [(.ref a1), (.ref b1), (.ref e1), (.ref a1)])) rfl rfl (hb hby dk100)
  refine Goes.step (S' := T104.setTop (mkF m 20 #[.val (.ref a1), .val (.ref e1)] [(.int (2 : Int32)), (.ref b1), (.ref e1), (.ref a1)])) (fun t k => st104 _ k) ?_
  obtain ⟨cq105, q105, q105'⟩ := (Exa.wr W102 E1).cell
  obtain ⟨_, _, ⟨T105, L105, k105, n105⟩, -, X105, ⟨Lc105, hQ105, l105, y105, z105⟩, st105⟩ := X104.privateBack hx (y := mth9) hown (mvT hZ tw54) (mvT hZ tw55) (mvT hZ tw57) (Cond.privateMethod_at (mvP hZ tw56 (args := #[]))) (mvT hZ tw58) (by decide) (backOf (W := 0) (addh2 l Z a0 hw [] a1 e1 b1 k1 (.int (q1 + (1 : Int32))) x0 x1 h102 n0 (Nat.le_trans Z0 (Nat.le_of_eq W102.size.symm)) (Exa.wr W102 E1) Fw102 (Fld.other W102 Fe (Or.inr (slot_ne (Or.inl tw37) (Or.inl tw34) (by decide) (t := (.array (.object "java/lang/Object"))) (t' := .int) (by decide) (by decide)))) (Fld.other W102 Fz (Or.inr (slot_ne (Or.inl tw53) (Or.inl tw34) (by decide) (t := .int) (t' := .int) (by decide) (by decide)))) (V1.other W102 (Exa.ne Eb E1 (by decide))) OV (Exa.wr W102 Eb) G1 G2 (Exa.wr W102 Ee)) hZ tw58 tw14 (by decide) (by decide)) (g := (mkF m 20 #[.val (.ref a1), .val (.ref e1)] [(.int (2 : Int32)), (.ref b1), (.ref e1), (.ref a1)])) rfl (by rw [hml]; rfl) (Steps.refl _) (a := a1) (by rw [e104]; exact q105) q105' (argsL := [(.ref e1), (.ref b1), (.int (2 : Int32))]) (rest := []) (lenOf pd_Ljava_lang_Object__Ljava_lang_Object_I_V rfl) rfl (Nat.le_of_eq rfl) (hb hby dk101) (fun _ _ => ⟨rfl, e104, (by decide : 0 + 0 ≤ _), (by decide : 0 + 0 ≤ _)⟩)
  dsimp only [Pt.U, Pt.locs, Pt.cells, Pt.slots] at X105 l105 y105 z105 st105 hQ105
  subst y105 z105
  obtain ⟨rfl, Nq105, q105_0, q105_1, q105_2, q105_3, q105_4, q105_5, q105_6⟩ := hQ105
  have N105 : Fr n0 L105 := by rw [l105]; exact Fr.app N102 Nq105
  refine Goes.step (S' := T105.setTop (mkF m 24 #[.val (.ref a1), .val (.ref e1)] [(.int (1 : Int32))])) (fun t k => st105.trans (XS.iconst X105.here hx rfl (hb hby dk102) k)) ?_
  refine Goes.leave (g := (mkF m 24 #[.val (.ref a1), .val (.ref e1)] [(.int (1 : Int32))])) X105 Bd.notSynchronized (v := (some (.int (1 : Int32)))) (fun h => by rw [Bd.returns] at h; cases h) (fun fs hr => retN X105 hx (t := .boolean) Bd.returns (by simp) (hb hby dk103) hr) rfl ?_ (by decide) (by decide)
  exact ⟨rfl, N105, (((Keep.refl _ [a1, b1]).wr W102 (Or.inl (List.mem_of_getElem? (i := 0) rfl))).trans q105_0 (allS (Or.inl (List.mem_of_getElem? (i := 0) rfl)) (allS (Or.inl (List.mem_of_getElem? (i := 1) rfl)) all0))), q105_1, q105_2, q105_3, q105_4, q105_5, q105_6⟩

theorem ef_addh3 (m : MethodId) (x0 : Addr) (x1 : Addr) (x2 : Addr) (x3 : Int32) : entryFrame m #[(.ref x0), (.ref x1), (.ref x2), (.int x3)] 4 = mkF m 0 #[.val (.ref x0), .val (.ref x1), .val (.ref x2), .val (.int x3)] [] := by first | (simp [entryFrame, mkF, argsToLocals, Value.category]; done) | rfl
def Q_addh3 (Z : State) (a1 : Addr) (e1 : Addr) (b1 : Addr) (k1 : ClassId) (u1 : Value) (x0 : Addr) (x1 : Addr) (x2 : Addr) (h0 : Heap) (n0 : Nat) (v : Option Value) (h : Heap) (L : List Loc) : Prop := v = none ∧ Fr n0 L ∧ Keep h0 h [a1, b1] ∧ Exa Z h a1 "java/util/ArrayList" ∧ Fld Z h a1 "java/util/AbstractList" "modCount" "I" u1 ∧ Fld Z h a1 "java/util/ArrayList" "elementData" "[Ljava/lang/Object;" (.ref b1) ∧ Fld Z h a1 "java/util/ArrayList" "size" "I" (.int (4 : Int32)) ∧ Arv Z h b1 k1 (.object "java/lang/Object") (10 : Int32) [(.ref x0), (.ref x1), (.ref x2), (.ref e1), .null, .null, .null, .null, .null, .null] .null ∧ Exa Z h b1 "[Ljava/lang/Object;"
set_option maxRecDepth 65536 in
set_option maxHeartbeats 40000000 in
theorem addh3 (l : Launch) (Z : State) (a0 : Array Value) (hw : ∀ d ∈ tables_1, d.before a0 Z = true) (ws : List Jvm.Cond) (a1 : Addr) (e1 : Addr) (b1 : Addr) (k1 : ClassId) (u1 : Value) (x0 : Addr) (x1 : Addr) (x2 : Addr) (h0 : Heap) (n0 : Nat) (Z0 : n0 ≤ h0.size) (E1 : Exa Z h0 a1 "java/util/ArrayList") (Fm : Fld Z h0 a1 "java/util/AbstractList" "modCount" "I" u1) (Fe : Fld Z h0 a1 "java/util/ArrayList" "elementData" "[Ljava/lang/Object;" (.ref b1)) (Fz : Fld Z h0 a1 "java/util/ArrayList" "size" "I" (.int (3 : Int32))) (V1 : Arv Z h0 b1 k1 (.object "java/lang/Object") (10 : Int32) [(.ref x0), (.ref x1), (.ref x2), .null, .null, .null, .null, .null, .null, .null] .null) (OV : Ovr Z k1 "java/lang/Object") (Eb : Exa Z h0 b1 "[Ljava/lang/Object;") (G1 : n0 ≤ a1) (G2 : n0 ≤ b1) (Ee : Exa Z h0 e1 "java/lang/Integer") :
    MetFree l mth9 (head1 (Jvm.Cond.code mth9 jdk_38_method_24_code 4 none :: ws) rom0) (fun a U => a = #[(.ref a1), (.ref e1), (.ref b1), (.int (3 : Int32))] ∧ Z.Warmed39 U.vm ∧ U.heap = h0) (fun _ _ _ _ _ => True) (fun _ U o U' => ∃ v L, o = .returned v ∧ Q_addh3 Z a1 e1 b1 k1 u1 x0 x1 x2 h0 n0 v U'.heap L ∧ FrameEnd U o U' L rom0.cells rom0.slots) := by
  refine MetFree.of_bodySF (plainFor_of_name pnm4) hisR ?_
  intro p e s m args below meth c s₁ Bd hml0 hP hK
  obtain ⟨rfl, hZ, hh⟩ := hP
  have hx := Bd.exec
  have hby := Bd.bytes
  have hml : c.maxLocals = 4 := hml0
  have hown : s.vm.findClass "java/util/ArrayList" = some m.cls := findClass_of_methodNamed Bd.named
  have hnm := (name_of_methodNamed Bd.named Bd.method).1
  have X0 : Stand p l e rom0 s m #[(.ref a1), (.ref e1), (.ref b1), (.int (3 : Int32))] below meth c s₁ [] 0 0 := Stand.of_body Bd
  have eh0 : s₁.heap = h0 := by rw [← hh, Bd.state]; rfl
  have N0 := Fr.nil n0
  have tw13 := hw _ (List.mem_of_getElem? (i := 13) rfl)
  have tw34 := hw _ (List.mem_of_getElem? (i := 34) rfl)
  have tw37 := hw _ (List.mem_of_getElem? (i := 37) rfl)
  have tw52 := hw _ (List.mem_of_getElem? (i := 52) rfl)
  have tw53 := hw _ (List.mem_of_getElem? (i := 53) rfl)
  have tw72 := hw _ (List.mem_of_getElem? (i := 72) rfl)
  show Goes p e below (Pq (Q_addh3 Z a1 e1 b1 k1 u1 x0 x1 x2 h0 n0) s rom0.cells rom0.slots) (s₁.setTop (entryFrame m #[(.ref a1), (.ref e1), (.ref b1), (.int (3 : Int32))] 4))
  refine Goes.step (S' := s₁.setTop (mkF m 0 #[.val (.ref a1), .val (.ref e1), .val (.ref b1), .val (.int (3 : Int32))] [])) (fun t k => castTop (ef_addh3 m a1 e1 b1 (3 : Int32)) k) ?_
  refine Goes.step (S' := s₁.setTop (mkF m 2 #[.val (.ref a1), .val (.ref e1), .val (.ref b1), .val (.int (3 : Int32))] [(.ref b1), (.int (3 : Int32))])) (fun t k => XS.iloadN X0.here hx rfl (hb hby dk72) rfl (XS.aloadN X0.here hx rfl (hb hby dk73) rfl rfl k)) ?_
  obtain ⟨cl101, Ar101, qk101, Sz101, Nn101, Hs101, Gs101⟩ := id V1
  refine Goes.step (S' := s₁.setTop (mkF m 3 #[.val (.ref a1), .val (.ref e1), .val (.ref b1), .val (.int (3 : Int32))] [(.int (10 : Int32)), (.int (3 : Int32))])) (fun t k => X0.arraylength hx (by rw [eh0]; exact Ar101.1) (State.isArrayOf_alike hZ.alike Ar101.2.1) (g := (mkF m 2 #[.val (.ref a1), .val (.ref e1), .val (.ref b1), .val (.int (3 : Int32))] [(.ref b1), (.int (3 : Int32))])) rfl rfl (hb hby dk74) _ (by rw [len_of Sz101 Nn101]; exact k)) ?_
  refine Goes.step (S' := s₁.setTop (mkF m 14 #[.val (.ref a1), .val (.ref e1), .val (.ref b1), .val (.int (3 : Int32))] [(.ref e1), (.int (3 : Int32)), (.ref b1)])) (fun t k => XS.icmpYes X0.here hx rfl (pc0 := 3) (pc' := 11) rfl (hb hby dk75) rfl (feq ((by decide) : ¬ ((3 : Int32) = (10 : Int32)))).2 (by decide) (by decide) (XS.aloadN X0.here hx rfl (hb hby dk79) rfl rfl (XS.iloadN X0.here hx rfl (hb hby dk80) rfl (XS.aloadN X0.here hx rfl (hb hby dk81) rfl rfl k)))) ?_
  obtain ⟨cl102, Ar102, qk102, Sz102, Nn102, Hs102, Gs102⟩ := id V1
  obtain ⟨T102, h102, X102, e102, W102, st102⟩ := stR X0 hx hZ eh0 Ar102 (j := (3 : Int32)) (inb_of (j := (3 : Int32)) Sz102 ⟨by decide, by decide⟩) rfl (Sto.ofV Ar102 qk102 OV (Ins.of_exa Ee tw72)) (g := (mkF m 14 #[.val (.ref a1), .val (.ref e1), .val (.ref b1), .val (.int (3 : Int32))] [(.ref e1), (.int (3 : Int32)), (.ref b1)])) rfl rfl (hb hby dk82)
  have V102 : Arv Z h102 b1 k1 (.object "java/lang/Object") (10 : Int32) [(.ref x0), (.ref x1), (.ref x2), (.ref e1), .null, .null, .null, .null, .null, .null] .null := Arv.set Ar102 qk102 Sz102 Nn102 Hs102 Gs102 rfl W102 3 rfl (Nat.le_of_ble_eq_true rfl)
  have N102 := Fr.snoc X102 N0 G2
  refine Goes.step (S' := T102.setTop (mkF m 19 #[.val (.ref a1), .val (.ref e1), .val (.ref b1), .val (.int (3 : Int32))] [(.int ((3 : Int32) + (1 : Int32))), (.ref a1)])) (fun t k => st102 _ (XS.aloadN X102.here hx rfl (hb hby dk83) rfl rfl (XS.iloadN X102.here hx rfl (hb hby dk84) rfl (XS.iconst X102.here hx rfl (hb hby dk85) (XS.iadd X102.here hx rfl (hb hby dk86) rfl k))))) ?_
  rw [show ((3 : Int32) + (1 : Int32)) = (4 : Int32) from by decide]
  obtain ⟨T103, h103, X103, e103, W103, st103⟩ := putF X102 hx hZ hown (host := "") (Or.inl tw52) Via.refl e102 (Fld.other W102 Fz (Or.inl (Exa.ne E1 Eb (by decide)))) (Exa.wr W102 E1) (Or.inl tw53) tw13 (ty := .int) (by decide) rfl rfl (g := (mkF m 19 #[.val (.ref a1), .val (.ref e1), .val (.ref b1), .val (.int (3 : Int32))] [(.int (4 : Int32)), (.ref a1)])) rfl rfl (hb hby dk87)
  have Fw103 : Fld Z h103 a1 "java/util/ArrayList" "size" "I" (.int (4 : Int32)) := Fld.same W103 (Fld.other W102 Fz (Or.inl (Exa.ne E1 Eb (by decide))))
  have N103 := Fr.snoc X103 N102 G1
  refine Goes.step (S' := T103.setTop (mkF m 22 #[.val (.ref a1), .val (.ref e1), .val (.ref b1), .val (.int (3 : Int32))] [])) (fun t k => st103 _ k) ?_
  refine Goes.leave (g := (mkF m 22 #[.val (.ref a1), .val (.ref e1), .val (.ref b1), .val (.int (3 : Int32))] [])) X103 Bd.notSynchronized (v := none) (fun _ => rfl) (fun fs hr => X103.returnOut hx Bd.returns (hb hby dk88) hr) e103 ?_ (by decide) (by decide)
  exact ⟨rfl, N103, (((Keep.refl _ [a1, b1]).wr W102 (Or.inl (List.mem_of_getElem? (i := 1) rfl))).wr W103 (Or.inl (List.mem_of_getElem? (i := 0) rfl))), (Exa.wr W103 (Exa.wr W102 E1)), (Fld.other W103 (Fld.other W102 Fm (Or.inl (Exa.ne E1 Eb (by decide)))) (Or.inr (slot_ne (Or.inl tw34) (Or.inl tw53) (by decide) (t := .int) (t' := .int) (by decide) (by decide)))), (Fld.other W103 (Fld.other W102 Fe (Or.inl (Exa.ne E1 Eb (by decide)))) (Or.inr (slot_ne (Or.inl tw37) (Or.inl tw53) (by decide) (t := (.array (.object "java/lang/Object"))) (t' := .int) (by decide) (by decide)))), Fw103, (V102.other W103 (Exa.ne (Exa.wr W102 Eb) (Exa.wr W102 E1) (by decide))), (Exa.wr W103 (Exa.wr W102 Eb))⟩

theorem ef_add3 (m : MethodId) (x0 : Addr) (x1 : Addr) : entryFrame m #[(.ref x0), (.ref x1)] 2 = mkF m 0 #[.val (.ref x0), .val (.ref x1)] [] := by first | (simp [entryFrame, mkF, argsToLocals, Value.category]; done) | rfl
def Q_add3 (Z : State) (a1 : Addr) (e1 : Addr) (b1 : Addr) (k1 : ClassId) (q1 : Int32) (x0 : Addr) (x1 : Addr) (x2 : Addr) (h0 : Heap) (n0 : Nat) (v : Option Value) (h : Heap) (L : List Loc) : Prop := v = some (.int (1 : Int32)) ∧ Fr n0 L ∧ Keep h0 h [a1, b1] ∧ Exa Z h a1 "java/util/ArrayList" ∧ Fld Z h a1 "java/util/AbstractList" "modCount" "I" (.int (q1 + (1 : Int32))) ∧ Fld Z h a1 "java/util/ArrayList" "elementData" "[Ljava/lang/Object;" (.ref b1) ∧ Fld Z h a1 "java/util/ArrayList" "size" "I" (.int (4 : Int32)) ∧ Arv Z h b1 k1 (.object "java/lang/Object") (10 : Int32) [(.ref x0), (.ref x1), (.ref x2), (.ref e1), .null, .null, .null, .null, .null, .null] .null ∧ Exa Z h b1 "[Ljava/lang/Object;"
set_option maxRecDepth 65536 in
set_option maxHeartbeats 40000000 in
theorem add3 (l : Launch) (Z : State) (a0 : Array Value) (hw : ∀ d ∈ tables_1, d.before a0 Z = true) (ws : List Jvm.Cond) (a1 : Addr) (e1 : Addr) (b1 : Addr) (k1 : ClassId) (q1 : Int32) (x0 : Addr) (x1 : Addr) (x2 : Addr) (h0 : Heap) (n0 : Nat) (Z0 : n0 ≤ h0.size) (E1 : Exa Z h0 a1 "java/util/ArrayList") (Fm : Fld Z h0 a1 "java/util/AbstractList" "modCount" "I" (.int q1)) (Fe : Fld Z h0 a1 "java/util/ArrayList" "elementData" "[Ljava/lang/Object;" (.ref b1)) (Fz : Fld Z h0 a1 "java/util/ArrayList" "size" "I" (.int (3 : Int32))) (V1 : Arv Z h0 b1 k1 (.object "java/lang/Object") (10 : Int32) [(.ref x0), (.ref x1), (.ref x2), .null, .null, .null, .null, .null, .null, .null] .null) (OV : Ovr Z k1 "java/lang/Object") (Eb : Exa Z h0 b1 "[Ljava/lang/Object;") (G1 : n0 ≤ a1) (G2 : n0 ≤ b1) (Ee : Exa Z h0 e1 "java/lang/Integer") :
    MetFree l mth10 (head1 (Jvm.Cond.code mth10 jdk_38_method_25_code 2 (some .boolean) :: ws) rom9) (fun a U => a = #[(.ref a1), (.ref e1)] ∧ Z.Warmed39 U.vm ∧ U.heap = h0) (fun _ _ _ _ _ => True) (fun _ U o U' => ∃ v L, o = .returned v ∧ Q_add3 Z a1 e1 b1 k1 q1 x0 x1 x2 h0 n0 v U'.heap L ∧ FrameEnd U o U' L rom9.cells rom9.slots) := by
  refine MetFree.of_bodySF (plainFor_of_name pnm4) hisR ?_
  intro p e s m args below meth c s₁ Bd hml0 hP hK
  obtain ⟨rfl, hZ, hh⟩ := hP
  have hx := Bd.exec
  have hby := Bd.bytes
  have hml : c.maxLocals = 2 := hml0
  have hown : s.vm.findClass "java/util/ArrayList" = some m.cls := findClass_of_methodNamed Bd.named
  have hnm := (name_of_methodNamed Bd.named Bd.method).1
  have X0 : Stand p l e rom9 s m #[(.ref a1), (.ref e1)] below meth c s₁ [] 0 0 := Stand.of_body Bd
  have eh0 : s₁.heap = h0 := by rw [← hh, Bd.state]; rfl
  have N0 := Fr.nil n0
  have tw13 := hw _ (List.mem_of_getElem? (i := 13) rfl)
  have tw14 := hw _ (List.mem_of_getElem? (i := 14) rfl)
  have tw34 := hw _ (List.mem_of_getElem? (i := 34) rfl)
  have tw36 := hw _ (List.mem_of_getElem? (i := 36) rfl)
  have tw37 := hw _ (List.mem_of_getElem? (i := 37) rfl)
  have tw50 := hw _ (List.mem_of_getElem? (i := 50) rfl)
  have tw51 := hw _ (List.mem_of_getElem? (i := 51) rfl)
  have tw52 := hw _ (List.mem_of_getElem? (i := 52) rfl)
  have tw53 := hw _ (List.mem_of_getElem? (i := 53) rfl)
  have tw54 := hw _ (List.mem_of_getElem? (i := 54) rfl)
  have tw55 := hw _ (List.mem_of_getElem? (i := 55) rfl)
  have tw56 := hw _ (List.mem_of_getElem? (i := 56) rfl)
  have tw57 := hw _ (List.mem_of_getElem? (i := 57) rfl)
  have tw58 := hw _ (List.mem_of_getElem? (i := 58) rfl)
  show Goes p e below (Pq (Q_add3 Z a1 e1 b1 k1 q1 x0 x1 x2 h0 n0) s rom9.cells rom9.slots) (s₁.setTop (entryFrame m #[(.ref a1), (.ref e1)] 2))
  refine Goes.step (S' := s₁.setTop (mkF m 0 #[.val (.ref a1), .val (.ref e1)] [])) (fun t k => castTop (ef_add3 m a1 e1) k) ?_
  refine Goes.step (S' := s₁.setTop (mkF m 2 #[.val (.ref a1), .val (.ref e1)] [(.ref a1), (.ref a1)])) (fun t k => XS.aloadN X0.here hx rfl (hb hby dk89) rfl rfl (XS.dup X0.here hx rfl (hb hby dk90) rfl rfl k)) ?_
  obtain ⟨T101, X101, e101, st101⟩ := getF X0 hx hZ hown (host := "") (Or.inl tw50) (Via.of tw51) eh0 Fm (g := (mkF m 2 #[.val (.ref a1), .val (.ref e1)] [(.ref a1), (.ref a1)])) rfl rfl (hb hby dk91)
  refine Goes.step (S' := T101.setTop (mkF m 7 #[.val (.ref a1), .val (.ref e1)] [(.int (q1 + (1 : Int32))), (.ref a1)])) (fun t k => st101 _ (XS.iconst X101.here hx rfl (hb hby dk92) (XS.iadd X101.here hx rfl (hb hby dk93) rfl k))) ?_
  obtain ⟨T102, h102, X102, e102, W102, st102⟩ := putF X101 hx hZ hown (host := "") (Or.inl tw50) (Via.of tw51) e101 Fm E1 (Or.inl tw34) tw13 (ty := .int) (by decide) rfl rfl (g := (mkF m 7 #[.val (.ref a1), .val (.ref e1)] [(.int (q1 + (1 : Int32))), (.ref a1)])) rfl rfl (hb hby dk94)
  have Fw102 : Fld Z h102 a1 "java/util/AbstractList" "modCount" "I" (.int (q1 + (1 : Int32))) := Fld.same W102 Fm
  have N102 := Fr.snoc X102 N0 G1
  refine Goes.step (S' := T102.setTop (mkF m 13 #[.val (.ref a1), .val (.ref e1)] [(.ref a1), (.ref e1), (.ref a1)])) (fun t k => st102 _ (XS.aloadN X102.here hx rfl (hb hby dk95) rfl rfl (XS.aloadN X102.here hx rfl (hb hby dk96) rfl rfl (XS.aloadN X102.here hx rfl (hb hby dk97) rfl rfl k)))) ?_
  obtain ⟨T103, X103, e103, st103⟩ := getF X102 hx hZ hown (host := "") (Or.inl tw36) Via.refl e102 (Fld.other W102 Fe (Or.inr (slot_ne (Or.inl tw37) (Or.inl tw34) (by decide) (t := (.array (.object "java/lang/Object"))) (t' := .int) (by decide) (by decide)))) (g := (mkF m 13 #[.val (.ref a1), .val (.ref e1)] [(.ref a1), (.ref e1), (.ref a1)])) rfl rfl (hb hby dk98)
  refine Goes.step (S' := T103.setTop (mkF m 17 #[.val (.ref a1), .val (.ref e1)] [(.ref a1), (.ref b1), (.ref e1), (.ref a1)])) (fun t k => st103 _ (XS.aloadN X103.here hx rfl (hb hby dk99) rfl rfl k)) ?_
  obtain ⟨T104, X104, e104, st104⟩ := getF X103 hx hZ hown (host := "") (Or.inl tw52) Via.refl e103 (Fld.other W102 Fz (Or.inr (slot_ne (Or.inl tw53) (Or.inl tw34) (by decide) (t := .int) (t' := .int) (by decide) (by decide)))) (g := (mkF m 17 #[.val (.ref a1), .val (.ref e1)] [(.ref a1), (.ref b1), (.ref e1), (.ref a1)])) rfl rfl (hb hby dk100)
  refine Goes.step (S' := T104.setTop (mkF m 20 #[.val (.ref a1), .val (.ref e1)] [(.int (3 : Int32)), (.ref b1), (.ref e1), (.ref a1)])) (fun t k => st104 _ k) ?_
  obtain ⟨cq105, q105, q105'⟩ := (Exa.wr W102 E1).cell
  obtain ⟨_, _, ⟨T105, L105, k105, n105⟩, -, X105, ⟨Lc105, hQ105, l105, y105, z105⟩, st105⟩ := X104.privateBack hx (y := mth9) hown (mvT hZ tw54) (mvT hZ tw55) (mvT hZ tw57) (Cond.privateMethod_at (mvP hZ tw56 (args := #[]))) (mvT hZ tw58) (by decide) (backOf (W := 0) (addh3 l Z a0 hw [] a1 e1 b1 k1 (.int (q1 + (1 : Int32))) x0 x1 x2 h102 n0 (Nat.le_trans Z0 (Nat.le_of_eq W102.size.symm)) (Exa.wr W102 E1) Fw102 (Fld.other W102 Fe (Or.inr (slot_ne (Or.inl tw37) (Or.inl tw34) (by decide) (t := (.array (.object "java/lang/Object"))) (t' := .int) (by decide) (by decide)))) (Fld.other W102 Fz (Or.inr (slot_ne (Or.inl tw53) (Or.inl tw34) (by decide) (t := .int) (t' := .int) (by decide) (by decide)))) (V1.other W102 (Exa.ne Eb E1 (by decide))) OV (Exa.wr W102 Eb) G1 G2 (Exa.wr W102 Ee)) hZ tw58 tw14 (by decide) (by decide)) (g := (mkF m 20 #[.val (.ref a1), .val (.ref e1)] [(.int (3 : Int32)), (.ref b1), (.ref e1), (.ref a1)])) rfl (by rw [hml]; rfl) (Steps.refl _) (a := a1) (by rw [e104]; exact q105) q105' (argsL := [(.ref e1), (.ref b1), (.int (3 : Int32))]) (rest := []) (lenOf pd_Ljava_lang_Object__Ljava_lang_Object_I_V rfl) rfl (Nat.le_of_eq rfl) (hb hby dk101) (fun _ _ => ⟨rfl, e104, (by decide : 0 + 0 ≤ _), (by decide : 0 + 0 ≤ _)⟩)
  dsimp only [Pt.U, Pt.locs, Pt.cells, Pt.slots] at X105 l105 y105 z105 st105 hQ105
  subst y105 z105
  obtain ⟨rfl, Nq105, q105_0, q105_1, q105_2, q105_3, q105_4, q105_5, q105_6⟩ := hQ105
  have N105 : Fr n0 L105 := by rw [l105]; exact Fr.app N102 Nq105
  refine Goes.step (S' := T105.setTop (mkF m 24 #[.val (.ref a1), .val (.ref e1)] [(.int (1 : Int32))])) (fun t k => st105.trans (XS.iconst X105.here hx rfl (hb hby dk102) k)) ?_
  refine Goes.leave (g := (mkF m 24 #[.val (.ref a1), .val (.ref e1)] [(.int (1 : Int32))])) X105 Bd.notSynchronized (v := (some (.int (1 : Int32)))) (fun h => by rw [Bd.returns] at h; cases h) (fun fs hr => retN X105 hx (t := .boolean) Bd.returns (by simp) (hb hby dk103) hr) rfl ?_ (by decide) (by decide)
  exact ⟨rfl, N105, (((Keep.refl _ [a1, b1]).wr W102 (Or.inl (List.mem_of_getElem? (i := 0) rfl))).trans q105_0 (allS (Or.inl (List.mem_of_getElem? (i := 0) rfl)) (allS (Or.inl (List.mem_of_getElem? (i := 1) rfl)) all0))), q105_1, q105_2, q105_3, q105_4, q105_5, q105_6⟩

theorem ef_ise (m : MethodId) (x0 : Addr) : entryFrame m #[(.ref x0)] 1 = mkF m 0 #[.val (.ref x0)] [] := by first | (simp [entryFrame, mkF, argsToLocals, Value.category]; done) | rfl
def Q_ise (Z : State) (a1 : Addr) (p1 : Int32) (h0 : Heap) (n0 : Nat) (v : Option Value) (h : Heap) (L : List Loc) : Prop := v = some (.int (0 : Int32)) ∧ Fr n0 L ∧ h = h0
set_option maxRecDepth 65536 in
set_option maxHeartbeats 40000000 in
theorem ise (l : Launch) (Z : State) (a0 : Array Value) (hw : ∀ d ∈ tables_1, d.before a0 Z = true) (ws : List Jvm.Cond) (a1 : Addr) (p1 : Int32) (h0 : Heap) (n0 : Nat) (Z0 : n0 ≤ h0.size) (Fz : Fld Z h0 a1 "java/util/ArrayList" "size" "I" (.int p1)) (H : ¬ (p1 = (0 : Int32))) :
    MetFree l mth11 (head1 (Jvm.Cond.code mth11 jdk_38_method_9_code 1 (some .boolean) :: ws) rom0) (fun a U => a = #[(.ref a1)] ∧ Z.Warmed39 U.vm ∧ U.heap = h0) (fun _ _ _ _ _ => True) (fun _ U o U' => ∃ v L, o = .returned v ∧ Q_ise Z a1 p1 h0 n0 v U'.heap L ∧ FrameEnd U o U' L rom0.cells rom0.slots) := by
  refine MetFree.of_bodySF (plainFor_of_name pnm4) hisR ?_
  intro p e s m args below meth c s₁ Bd hml0 hP hK
  obtain ⟨rfl, hZ, hh⟩ := hP
  have hx := Bd.exec
  have hby := Bd.bytes
  have hml : c.maxLocals = 1 := hml0
  have hown : s.vm.findClass "java/util/ArrayList" = some m.cls := findClass_of_methodNamed Bd.named
  have hnm := (name_of_methodNamed Bd.named Bd.method).1
  have X0 : Stand p l e rom0 s m #[(.ref a1)] below meth c s₁ [] 0 0 := Stand.of_body Bd
  have eh0 : s₁.heap = h0 := by rw [← hh, Bd.state]; rfl
  have N0 := Fr.nil n0
  have tw52 := hw _ (List.mem_of_getElem? (i := 52) rfl)
  show Goes p e below (Pq (Q_ise Z a1 p1 h0 n0) s rom0.cells rom0.slots) (s₁.setTop (entryFrame m #[(.ref a1)] 1))
  refine Goes.step (S' := s₁.setTop (mkF m 0 #[.val (.ref a1)] [])) (fun t k => castTop (ef_ise m a1) k) ?_
  refine Goes.step (S' := s₁.setTop (mkF m 1 #[.val (.ref a1)] [(.ref a1)])) (fun t k => XS.aloadN X0.here hx rfl (hb hby dk104) rfl rfl k) ?_
  obtain ⟨T101, X101, e101, st101⟩ := getF X0 hx hZ hown (host := "") (Or.inl tw52) Via.refl eh0 Fz (g := (mkF m 1 #[.val (.ref a1)] [(.ref a1)])) rfl rfl (hb hby dk105)
  refine Goes.step (S' := T101.setTop (mkF m 12 #[.val (.ref a1)] [(.int (0 : Int32))])) (fun t k => st101 _ (XS.ifYes X101.here hx rfl (pc0 := 4) (pc' := 11) rfl (hb hby dk106) rfl ((if0 _ _).trans (feq (H : ¬ (p1 = (0 : Int32)))).2) (by decide) (by decide) (XS.iconst X101.here hx rfl (hb hby dk107) k))) ?_
  refine Goes.leave (g := (mkF m 12 #[.val (.ref a1)] [(.int (0 : Int32))])) X101 Bd.notSynchronized (v := (some (.int (0 : Int32)))) (fun h => by rw [Bd.returns] at h; cases h) (fun fs hr => retN X101 hx (t := .boolean) Bd.returns (by simp) (hb hby dk108) hr) e101 ?_ (by decide) (by decide)
  exact ⟨rfl, N0, rfl⟩

theorem ef_rqn (m : MethodId) (x0 : Addr) : entryFrame m #[(.ref x0)] 1 = mkF m 0 #[.val (.ref x0)] [] := by first | (simp [entryFrame, mkF, argsToLocals, Value.category]; done) | rfl
def Q_rqn (Z : State) (a1 : Addr) (h0 : Heap) (n0 : Nat) (v : Option Value) (h : Heap) (L : List Loc) : Prop := v = some (.ref a1) ∧ Fr n0 L ∧ h = h0
set_option maxRecDepth 65536 in
set_option maxHeartbeats 40000000 in
theorem rqn (l : Launch) (Z : State) (a0 : Array Value) (hw : ∀ d ∈ tables_1, d.before a0 Z = true) (ws : List Jvm.Cond) (a1 : Addr) (h0 : Heap) (n0 : Nat) (Z0 : n0 ≤ h0.size) :
    MetFree l mth12 (head1 (Jvm.Cond.code mth12 jdk_31_method_10_code 1 (some (.object "java/lang/Object")) :: ws) rom0) (fun a U => a = #[(.ref a1)] ∧ Z.Warmed39 U.vm ∧ U.heap = h0) (fun _ _ _ _ _ => True) (fun _ U o U' => ∃ v L, o = .returned v ∧ Q_rqn Z a1 h0 n0 v U'.heap L ∧ FrameEnd U o U' L rom0.cells rom0.slots) := by
  refine MetFree.of_bodySF (plainFor_of_name pnm5) hisR ?_
  intro p e s m args below meth c s₁ Bd hml0 hP hK
  obtain ⟨rfl, hZ, hh⟩ := hP
  have hx := Bd.exec
  have hby := Bd.bytes
  have hml : c.maxLocals = 1 := hml0
  have hown : s.vm.findClass "java/util/Objects" = some m.cls := findClass_of_methodNamed Bd.named
  have hnm := (name_of_methodNamed Bd.named Bd.method).1
  have X0 : Stand p l e rom0 s m #[(.ref a1)] below meth c s₁ [] 0 0 := Stand.of_body Bd
  have eh0 : s₁.heap = h0 := by rw [← hh, Bd.state]; rfl
  have N0 := Fr.nil n0
  show Goes p e below (Pq (Q_rqn Z a1 h0 n0) s rom0.cells rom0.slots) (s₁.setTop (entryFrame m #[(.ref a1)] 1))
  refine Goes.step (S' := s₁.setTop (mkF m 0 #[.val (.ref a1)] [])) (fun t k => castTop (ef_rqn m a1) k) ?_
  refine Goes.step (S' := s₁.setTop (mkF m 13 #[.val (.ref a1)] [(.ref a1)])) (fun t k => XS.aloadN X0.here hx rfl (hb hby dk109) rfl rfl (XS.ifnonnullYes X0.here hx rfl (pc0 := 1) (pc' := 12) rfl (hb hby dk110) rfl (by decide) (by decide) (XS.aloadN X0.here hx rfl (hb hby dk111) rfl rfl k))) ?_
  refine Goes.leave (g := (mkF m 13 #[.val (.ref a1)] [(.ref a1)])) X0 Bd.notSynchronized (v := (some (.ref a1))) (fun h => by rw [Bd.returns] at h; cases h) (fun fs hr => by jvm_step X0.here [X0.here.top, hx, (hb hby dk112), X0.method', Bd.returns, Value.isRef, FieldType.isReference]; (first | (intro acts; rw [hr _ acts rfl rfl rfl]) | rw [hr _ _ rfl rfl rfl]); exact Steps.refl _) eh0 ?_ (by decide) (by decide)
  exact ⟨rfl, N0, rfl⟩

theorem ef_aici (m : MethodId) (x0 : Addr) : entryFrame m #[(.ref x0)] 1 = mkF m 0 #[.val (.ref x0)] [] := by first | (simp [entryFrame, mkF, argsToLocals, Value.category]; done) | rfl
def Q_aici (Z : State) (a1 : Addr) (h0 : Heap) (n0 : Nat) (v : Option Value) (h : Heap) (L : List Loc) : Prop := v = none ∧ Fr n0 L ∧ h = h0
set_option maxRecDepth 65536 in
set_option maxHeartbeats 40000000 in
theorem aici (l : Launch) (Z : State) (a0 : Array Value) (hw : ∀ d ∈ tables_1, d.before a0 Z = true) (ws : List Jvm.Cond) (a1 : Addr) (h0 : Heap) (n0 : Nat) (Z0 : n0 ≤ h0.size) :
    MetFree l mth13 (head1 (Jvm.Cond.code mth13 jdk_47_method_1_code 1 none :: ws) rom3) (fun a U => a = #[(.ref a1)] ∧ Z.Warmed39 U.vm ∧ U.heap = h0) (fun _ _ _ _ _ => True) (fun _ U o U' => ∃ v L, o = .returned v ∧ Q_aici Z a1 h0 n0 v U'.heap L ∧ FrameEnd U o U' L rom3.cells rom3.slots) := by
  refine MetFree.of_bodySF (plainFor_of_name pnm6) hisR ?_
  intro p e s m args below meth c s₁ Bd hml0 hP hK
  obtain ⟨rfl, hZ, hh⟩ := hP
  have hx := Bd.exec
  have hby := Bd.bytes
  have hml : c.maxLocals = 1 := hml0
  have hown : s.vm.findClass "java/util/ImmutableCollections$AbstractImmutableCollection" = some m.cls := findClass_of_methodNamed Bd.named
  have hnm := (name_of_methodNamed Bd.named Bd.method).1
  have X0 : Stand p l e rom3 s m #[(.ref a1)] below meth c s₁ [] 0 0 := Stand.of_body Bd
  have eh0 : s₁.heap = h0 := by rw [← hh, Bd.state]; rfl
  have N0 := Fr.nil n0
  have tw25 := hw _ (List.mem_of_getElem? (i := 25) rfl)
  have tw28 := hw _ (List.mem_of_getElem? (i := 28) rfl)
  have tw29 := hw _ (List.mem_of_getElem? (i := 29) rfl)
  have tw164 := hw _ (List.mem_of_getElem? (i := 164) rfl)
  show Goes p e below (Pq (Q_aici Z a1 h0 n0) s rom3.cells rom3.slots) (s₁.setTop (entryFrame m #[(.ref a1)] 1))
  refine Goes.step (S' := s₁.setTop (mkF m 0 #[.val (.ref a1)] [])) (fun t k => castTop (ef_aici m a1) k) ?_
  refine Goes.step (S' := s₁.setTop (mkF m 1 #[.val (.ref a1)] [(.ref a1)])) (fun t k => XS.aloadN X0.here hx rfl (hb hby dk113) rfl rfl k) ?_
  obtain ⟨_, _, ⟨T101, L101, k101, n101⟩, -, X101, ⟨Lc101, hQ101, l101, y101, z101⟩, st101⟩ := X0.specialBack hx (y := mth4) rfl hown (mvT hZ tw164) (mvT hZ tw25) (mvT hZ tw29) (by decide) (backOf (W := 0) (aci l Z a0 hw [] a1 h0 n0 Z0 ) hZ tw29 tw28 (by decide) (by decide)) (g := (mkF m 1 #[.val (.ref a1)] [(.ref a1)])) rfl (by rw [hml]; rfl) (Steps.refl _) (a := a1) (argsL := []) (rest := []) (lenOf pd_V rfl) rfl (Nat.le_of_eq rfl) (hb hby dk114) (fun _ _ => ⟨rfl, eh0, (by decide : 0 + 0 ≤ _), (by decide : 0 + 0 ≤ _)⟩)
  dsimp only [Pt.U, Pt.locs, Pt.cells, Pt.slots] at X101 l101 y101 z101 st101 hQ101
  subst y101 z101
  obtain ⟨rfl, Nq101, q101_0⟩ := hQ101
  have N101 : Fr n0 L101 := by rw [l101]; exact Fr.app N0 Nq101
  refine Goes.step (S' := T101.setTop (mkF m 4 #[.val (.ref a1)] [])) (fun t k => st101.trans k) ?_
  refine Goes.leave (g := (mkF m 4 #[.val (.ref a1)] [])) X101 Bd.notSynchronized (v := none) (fun _ => rfl) (fun fs hr => X101.returnOut hx Bd.returns (hb hby dk115) hr) q101_0 ?_ (by decide) (by decide)
  exact ⟨rfl, N101, rfl⟩

theorem ef_aili (m : MethodId) (x0 : Addr) : entryFrame m #[(.ref x0)] 1 = mkF m 0 #[.val (.ref x0)] [] := by first | (simp [entryFrame, mkF, argsToLocals, Value.category]; done) | rfl
def Q_aili (Z : State) (a1 : Addr) (h0 : Heap) (n0 : Nat) (v : Option Value) (h : Heap) (L : List Loc) : Prop := v = none ∧ Fr n0 L ∧ h = h0
set_option maxRecDepth 65536 in
set_option maxHeartbeats 40000000 in
theorem aili (l : Launch) (Z : State) (a0 : Array Value) (hw : ∀ d ∈ tables_1, d.before a0 Z = true) (ws : List Jvm.Cond) (a1 : Addr) (h0 : Heap) (n0 : Nat) (Z0 : n0 ≤ h0.size) :
    MetFree l mth14 (head1 (Jvm.Cond.code mth14 jdk_46_method_1_code 1 none :: ws) rom4) (fun a U => a = #[(.ref a1)] ∧ Z.Warmed39 U.vm ∧ U.heap = h0) (fun _ _ _ _ _ => True) (fun _ U o U' => ∃ v L, o = .returned v ∧ Q_aili Z a1 h0 n0 v U'.heap L ∧ FrameEnd U o U' L rom4.cells rom4.slots) := by
  refine MetFree.of_bodySF (plainFor_of_name pnm7) hisR ?_
  intro p e s m args below meth c s₁ Bd hml0 hP hK
  obtain ⟨rfl, hZ, hh⟩ := hP
  have hx := Bd.exec
  have hby := Bd.bytes
  have hml : c.maxLocals = 1 := hml0
  have hown : s.vm.findClass "java/util/ImmutableCollections$AbstractImmutableList" = some m.cls := findClass_of_methodNamed Bd.named
  have hnm := (name_of_methodNamed Bd.named Bd.method).1
  have X0 : Stand p l e rom4 s m #[(.ref a1)] below meth c s₁ [] 0 0 := Stand.of_body Bd
  have eh0 : s₁.heap = h0 := by rw [← hh, Bd.state]; rfl
  have N0 := Fr.nil n0
  have tw158 := hw _ (List.mem_of_getElem? (i := 158) rfl)
  have tw159 := hw _ (List.mem_of_getElem? (i := 159) rfl)
  have tw162 := hw _ (List.mem_of_getElem? (i := 162) rfl)
  have tw163 := hw _ (List.mem_of_getElem? (i := 163) rfl)
  show Goes p e below (Pq (Q_aili Z a1 h0 n0) s rom4.cells rom4.slots) (s₁.setTop (entryFrame m #[(.ref a1)] 1))
  refine Goes.step (S' := s₁.setTop (mkF m 0 #[.val (.ref a1)] [])) (fun t k => castTop (ef_aili m a1) k) ?_
  refine Goes.step (S' := s₁.setTop (mkF m 1 #[.val (.ref a1)] [(.ref a1)])) (fun t k => XS.aloadN X0.here hx rfl (hb hby dk116) rfl rfl k) ?_
  obtain ⟨_, _, ⟨T101, L101, k101, n101⟩, -, X101, ⟨Lc101, hQ101, l101, y101, z101⟩, st101⟩ := X0.specialBack hx (y := mth13) rfl hown (mvT hZ tw158) (mvT hZ tw159) (mvT hZ tw163) (by decide) (backOf (W := 0) (aici l Z a0 hw [] a1 h0 n0 Z0 ) hZ tw163 tw162 (by decide) (by decide)) (g := (mkF m 1 #[.val (.ref a1)] [(.ref a1)])) rfl (by rw [hml]; rfl) (Steps.refl _) (a := a1) (argsL := []) (rest := []) (lenOf pd_V rfl) rfl (Nat.le_of_eq rfl) (hb hby dk117) (fun _ _ => ⟨rfl, eh0, (by decide : 0 + 0 ≤ _), (by decide : 0 + 0 ≤ _)⟩)
  dsimp only [Pt.U, Pt.locs, Pt.cells, Pt.slots] at X101 l101 y101 z101 st101 hQ101
  subst y101 z101
  obtain ⟨rfl, Nq101, q101_0⟩ := hQ101
  have N101 : Fr n0 L101 := by rw [l101]; exact Fr.app N0 Nq101
  refine Goes.step (S' := T101.setTop (mkF m 4 #[.val (.ref a1)] [])) (fun t k => st101.trans k) ?_
  refine Goes.leave (g := (mkF m 4 #[.val (.ref a1)] [])) X101 Bd.notSynchronized (v := none) (fun _ => rfl) (fun fs hr => X101.returnOut hx Bd.returns (hb hby dk118) hr) q101_0 ?_ (by decide) (by decide)
  exact ⟨rfl, N101, rfl⟩

theorem ef_l12a (m : MethodId) (x0 : Addr) (x1 : Addr) : entryFrame m #[(.ref x0), (.ref x1)] 2 = mkF m 0 #[.val (.ref x0), .val (.ref x1)] [] := by first | (simp [entryFrame, mkF, argsToLocals, Value.category]; done) | rfl
def Q_l12a (Z : State) (a1 : Addr) (x0 : Addr) (em : Addr) (h0 : Heap) (n0 : Nat) (v : Option Value) (h : Heap) (L : List Loc) : Prop := v = none ∧ Fr n0 L ∧ Keep h0 h [a1] ∧ Exa Z h a1 "java/util/ImmutableCollections$List12" ∧ Fld Z h a1 "java/util/ImmutableCollections$List12" "e0" "Ljava/lang/Object;" (.ref x0) ∧ Fld Z h a1 "java/util/ImmutableCollections$List12" "e1" "Ljava/lang/Object;" (.ref em)
set_option maxRecDepth 65536 in
set_option maxHeartbeats 40000000 in
theorem l12a (l : Launch) (Z : State) (a0 : Array Value) (hw : ∀ d ∈ tables_1, d.before a0 Z = true) (ws : List Jvm.Cond) (a1 : Addr) (x0 : Addr) (em : Addr) (h0 : Heap) (n0 : Nat) (Z0 : n0 ≤ h0.size) (E1 : Exa Z h0 a1 "java/util/ImmutableCollections$List12") (F0 : Fld Z h0 a1 "java/util/ImmutableCollections$List12" "e0" "Ljava/lang/Object;" .null) (F1 : Fld Z h0 a1 "java/util/ImmutableCollections$List12" "e1" "Ljava/lang/Object;" .null) (G1 : n0 ≤ a1) (SE : Sta Z h0 "java/util/ImmutableCollections" "EMPTY" "Ljava/lang/Object;" (.ref em)) :
    MetFree l mth15 (head1 (Jvm.Cond.code mth15 jdk_44_method_1_code 2 none :: ws) rom10) (fun a U => a = #[(.ref a1), (.ref x0)] ∧ Z.Warmed39 U.vm ∧ U.heap = h0) (fun _ _ _ _ _ => True) (fun _ U o U' => ∃ v L, o = .returned v ∧ Q_l12a Z a1 x0 em h0 n0 v U'.heap L ∧ FrameEnd U o U' L rom10.cells rom10.slots) := by
  refine MetFree.of_bodySF (plainFor_of_name pnm8) hisR ?_
  intro p e s m args below meth c s₁ Bd hml0 hP hK
  obtain ⟨rfl, hZ, hh⟩ := hP
  have hx := Bd.exec
  have hby := Bd.bytes
  have hml : c.maxLocals = 2 := hml0
  have hown : s.vm.findClass "java/util/ImmutableCollections$List12" = some m.cls := findClass_of_methodNamed Bd.named
  have hnm := (name_of_methodNamed Bd.named Bd.method).1
  have X0 : Stand p l e rom10 s m #[(.ref a1), (.ref x0)] below meth c s₁ [] 0 0 := Stand.of_body Bd
  have eh0 : s₁.heap = h0 := by rw [← hh, Bd.state]; rfl
  have N0 := Fr.nil n0
  have tw143 := hw _ (List.mem_of_getElem? (i := 143) rfl)
  have tw144 := hw _ (List.mem_of_getElem? (i := 144) rfl)
  have tw145 := hw _ (List.mem_of_getElem? (i := 145) rfl)
  have tw153 := hw _ (List.mem_of_getElem? (i := 153) rfl)
  have tw156 := hw _ (List.mem_of_getElem? (i := 156) rfl)
  have tw157 := hw _ (List.mem_of_getElem? (i := 157) rfl)
  have tw205 := hw _ (List.mem_of_getElem? (i := 205) rfl)
  have tw211 := hw _ (List.mem_of_getElem? (i := 211) rfl)
  have tw215 := hw _ (List.mem_of_getElem? (i := 215) rfl)
  have tw216 := hw _ (List.mem_of_getElem? (i := 216) rfl)
  have tw217 := hw _ (List.mem_of_getElem? (i := 217) rfl)
  have tw218 := hw _ (List.mem_of_getElem? (i := 218) rfl)
  have tw219 := hw _ (List.mem_of_getElem? (i := 219) rfl)
  have tw220 := hw _ (List.mem_of_getElem? (i := 220) rfl)
  show Goes p e below (Pq (Q_l12a Z a1 x0 em h0 n0) s rom10.cells rom10.slots) (s₁.setTop (entryFrame m #[(.ref a1), (.ref x0)] 2))
  refine Goes.step (S' := s₁.setTop (mkF m 0 #[.val (.ref a1), .val (.ref x0)] [])) (fun t k => castTop (ef_l12a m a1 x0) k) ?_
  refine Goes.step (S' := s₁.setTop (mkF m 1 #[.val (.ref a1), .val (.ref x0)] [(.ref a1)])) (fun t k => XS.aloadN X0.here hx rfl (hb hby dk119) rfl rfl k) ?_
  obtain ⟨_, _, ⟨T101, L101, k101, n101⟩, -, X101, ⟨Lc101, hQ101, l101, y101, z101⟩, st101⟩ := X0.specialBack hx (y := mth14) rfl hown (mvT hZ tw211) (mvT hZ tw153) (mvT hZ tw157) (by decide) (backOf (W := 0) (aili l Z a0 hw [] a1 h0 n0 Z0 ) hZ tw157 tw156 (by decide) (by decide)) (g := (mkF m 1 #[.val (.ref a1), .val (.ref x0)] [(.ref a1)])) rfl (by rw [hml]; rfl) (Steps.refl _) (a := a1) (argsL := []) (rest := []) (lenOf pd_V rfl) rfl (Nat.le_of_eq rfl) (hb hby dk120) (fun _ _ => ⟨rfl, eh0, (by decide : 0 + 0 ≤ _), (by decide : 0 + 0 ≤ _)⟩)
  dsimp only [Pt.U, Pt.locs, Pt.cells, Pt.slots] at X101 l101 y101 z101 st101 hQ101
  subst y101 z101
  obtain ⟨rfl, Nq101, q101_0⟩ := hQ101
  have N101 : Fr n0 L101 := by rw [l101]; exact Fr.app N0 Nq101
  refine Goes.step (S' := T101.setTop (mkF m 6 #[.val (.ref a1), .val (.ref x0)] [(.ref x0), (.ref a1)])) (fun t k => st101.trans (XS.aloadN X101.here hx rfl (hb hby dk121) rfl rfl (XS.aloadN X101.here hx rfl (hb hby dk122) rfl rfl k))) ?_
  obtain ⟨_, _, ⟨T102, L102, k102, n102⟩, -, X102, ⟨Lc102, hQ102, l102, y102, z102⟩, st102⟩ := Jvm.LawKit.callS X101 hx (y := mth12) hown (mvT hZ tw215) (mvT hZ tw143) (mvT hZ tw144) (mvT hZ tw145) (by decide) (backOf (W := 1) (rqn l Z a0 hw [] x0 h0 n0 Z0 ) hZ tw145 tw144 (by decide) (by decide)) (g := (mkF m 6 #[.val (.ref a1), .val (.ref x0)] [(.ref x0), (.ref a1)])) rfl (by rw [hml]; rfl) (argsL := [(.ref x0)]) (rest := [(.ref a1)]) (lenOf pd_Ljava_lang_Object__Ljava_lang_Object rfl) rfl (Nat.le_of_eq rfl) (hb hby dk123) (fun _ _ => ⟨rfl, q101_0, (by decide : 0 + 0 ≤ _), (by decide : 0 + 0 ≤ _)⟩)
  dsimp only [Pt.U, Pt.locs, Pt.cells, Pt.slots] at X102 l102 y102 z102 st102 hQ102
  subst y102 z102
  obtain ⟨rfl, Nq102, q102_0⟩ := hQ102
  have N102 : Fr n0 L102 := by rw [l102]; exact Fr.app N101 Nq102
  refine Goes.step (S' := T102.setTop (mkF m 9 #[.val (.ref a1), .val (.ref x0)] [(.ref x0), (.ref a1)])) (fun t k => st102 _ k) ?_
  obtain ⟨T103, h103, X103, e103, W103, st103⟩ := putF X102 hx hZ hown (host := "") (Or.inl tw216) Via.refl q102_0 F0 E1 (Or.inr ⟨tw217, rfl, hnm⟩) tw205 (ty := (.object "java/lang/Object")) (by decide) rfl rfl (g := (mkF m 9 #[.val (.ref a1), .val (.ref x0)] [(.ref x0), (.ref a1)])) rfl rfl (hb hby dk124)
  have Fw103 : Fld Z h103 a1 "java/util/ImmutableCollections$List12" "e0" "Ljava/lang/Object;" (.ref x0) := Fld.same W103 F0
  have N103 := Fr.snoc X103 N102 G1
  refine Goes.step (S' := T103.setTop (mkF m 13 #[.val (.ref a1), .val (.ref x0)] [(.ref a1)])) (fun t k => st103 _ (XS.aloadN X103.here hx rfl (hb hby dk125) rfl rfl k)) ?_
  obtain ⟨T104, X104, e104, st104⟩ := getS2 X103 hx hZ hown (Or.inr tw218) Via.refl e103 (Sta.wr W103 SE) (g := (mkF m 13 #[.val (.ref a1), .val (.ref x0)] [(.ref a1)])) rfl (hb hby dk126)
  refine Goes.step (S' := T104.setTop (mkF m 16 #[.val (.ref a1), .val (.ref x0)] [(.ref em), (.ref a1)])) (fun t k => st104 _ k) ?_
  obtain ⟨T105, h105, X105, e105, W105, st105⟩ := putF X104 hx hZ hown (host := "") (Or.inl tw219) Via.refl e104 (Fld.other W103 F1 (Or.inr (slot_ne (Or.inr tw220) (Or.inr tw217) (by decide) (t := (.object "java/lang/Object")) (t' := (.object "java/lang/Object")) (by decide) (by decide)))) (Exa.wr W103 E1) (Or.inr ⟨tw220, rfl, hnm⟩) tw205 (ty := (.object "java/lang/Object")) (by decide) rfl rfl (g := (mkF m 16 #[.val (.ref a1), .val (.ref x0)] [(.ref em), (.ref a1)])) rfl rfl (hb hby dk127)
  have Fw105 : Fld Z h105 a1 "java/util/ImmutableCollections$List12" "e1" "Ljava/lang/Object;" (.ref em) := Fld.same W105 (Fld.other W103 F1 (Or.inr (slot_ne (Or.inr tw220) (Or.inr tw217) (by decide) (t := (.object "java/lang/Object")) (t' := (.object "java/lang/Object")) (by decide) (by decide))))
  have N105 := Fr.snoc X105 N103 G1
  refine Goes.step (S' := T105.setTop (mkF m 19 #[.val (.ref a1), .val (.ref x0)] [])) (fun t k => st105 _ k) ?_
  refine Goes.leave (g := (mkF m 19 #[.val (.ref a1), .val (.ref x0)] [])) X105 Bd.notSynchronized (v := none) (fun _ => rfl) (fun fs hr => X105.returnOut hx Bd.returns (hb hby dk128) hr) e105 ?_ (by decide) (by decide)
  exact ⟨rfl, N105, (((Keep.refl _ [a1]).wr W103 (Or.inl (List.mem_of_getElem? (i := 0) rfl))).wr W105 (Or.inl (List.mem_of_getElem? (i := 0) rfl))), (Exa.wr W105 (Exa.wr W103 E1)), (Fld.other W105 Fw103 (Or.inr (slot_ne (Or.inr tw217) (Or.inr tw220) (by decide) (t := (.object "java/lang/Object")) (t' := (.object "java/lang/Object")) (by decide) (by decide)))), Fw105⟩

theorem ef_l12b (m : MethodId) (x0 : Addr) (x1 : Addr) (x2 : Addr) : entryFrame m #[(.ref x0), (.ref x1), (.ref x2)] 3 = mkF m 0 #[.val (.ref x0), .val (.ref x1), .val (.ref x2)] [] := by first | (simp [entryFrame, mkF, argsToLocals, Value.category]; done) | rfl
def Q_l12b (Z : State) (a1 : Addr) (x0 : Addr) (x1 : Addr) (h0 : Heap) (n0 : Nat) (v : Option Value) (h : Heap) (L : List Loc) : Prop := v = none ∧ Fr n0 L ∧ Keep h0 h [a1] ∧ Exa Z h a1 "java/util/ImmutableCollections$List12" ∧ Fld Z h a1 "java/util/ImmutableCollections$List12" "e0" "Ljava/lang/Object;" (.ref x0) ∧ Fld Z h a1 "java/util/ImmutableCollections$List12" "e1" "Ljava/lang/Object;" (.ref x1)
set_option maxRecDepth 65536 in
set_option maxHeartbeats 40000000 in
theorem l12b (l : Launch) (Z : State) (a0 : Array Value) (hw : ∀ d ∈ tables_1, d.before a0 Z = true) (ws : List Jvm.Cond) (a1 : Addr) (x0 : Addr) (x1 : Addr) (h0 : Heap) (n0 : Nat) (Z0 : n0 ≤ h0.size) (E1 : Exa Z h0 a1 "java/util/ImmutableCollections$List12") (F0 : Fld Z h0 a1 "java/util/ImmutableCollections$List12" "e0" "Ljava/lang/Object;" .null) (F1 : Fld Z h0 a1 "java/util/ImmutableCollections$List12" "e1" "Ljava/lang/Object;" .null) (G1 : n0 ≤ a1) :
    MetFree l mth16 (head1 (Jvm.Cond.code mth16 jdk_44_method_2_code 3 none :: ws) rom10) (fun a U => a = #[(.ref a1), (.ref x0), (.ref x1)] ∧ Z.Warmed39 U.vm ∧ U.heap = h0) (fun _ _ _ _ _ => True) (fun _ U o U' => ∃ v L, o = .returned v ∧ Q_l12b Z a1 x0 x1 h0 n0 v U'.heap L ∧ FrameEnd U o U' L rom10.cells rom10.slots) := by
  refine MetFree.of_bodySF (plainFor_of_name pnm8) hisR ?_
  intro p e s m args below meth c s₁ Bd hml0 hP hK
  obtain ⟨rfl, hZ, hh⟩ := hP
  have hx := Bd.exec
  have hby := Bd.bytes
  have hml : c.maxLocals = 3 := hml0
  have hown : s.vm.findClass "java/util/ImmutableCollections$List12" = some m.cls := findClass_of_methodNamed Bd.named
  have hnm := (name_of_methodNamed Bd.named Bd.method).1
  have X0 : Stand p l e rom10 s m #[(.ref a1), (.ref x0), (.ref x1)] below meth c s₁ [] 0 0 := Stand.of_body Bd
  have eh0 : s₁.heap = h0 := by rw [← hh, Bd.state]; rfl
  have N0 := Fr.nil n0
  have tw143 := hw _ (List.mem_of_getElem? (i := 143) rfl)
  have tw144 := hw _ (List.mem_of_getElem? (i := 144) rfl)
  have tw145 := hw _ (List.mem_of_getElem? (i := 145) rfl)
  have tw153 := hw _ (List.mem_of_getElem? (i := 153) rfl)
  have tw156 := hw _ (List.mem_of_getElem? (i := 156) rfl)
  have tw157 := hw _ (List.mem_of_getElem? (i := 157) rfl)
  have tw205 := hw _ (List.mem_of_getElem? (i := 205) rfl)
  have tw211 := hw _ (List.mem_of_getElem? (i := 211) rfl)
  have tw215 := hw _ (List.mem_of_getElem? (i := 215) rfl)
  have tw216 := hw _ (List.mem_of_getElem? (i := 216) rfl)
  have tw217 := hw _ (List.mem_of_getElem? (i := 217) rfl)
  have tw219 := hw _ (List.mem_of_getElem? (i := 219) rfl)
  have tw220 := hw _ (List.mem_of_getElem? (i := 220) rfl)
  show Goes p e below (Pq (Q_l12b Z a1 x0 x1 h0 n0) s rom10.cells rom10.slots) (s₁.setTop (entryFrame m #[(.ref a1), (.ref x0), (.ref x1)] 3))
  refine Goes.step (S' := s₁.setTop (mkF m 0 #[.val (.ref a1), .val (.ref x0), .val (.ref x1)] [])) (fun t k => castTop (ef_l12b m a1 x0 x1) k) ?_
  refine Goes.step (S' := s₁.setTop (mkF m 1 #[.val (.ref a1), .val (.ref x0), .val (.ref x1)] [(.ref a1)])) (fun t k => XS.aloadN X0.here hx rfl (hb hby dk129) rfl rfl k) ?_
  obtain ⟨_, _, ⟨T101, L101, k101, n101⟩, -, X101, ⟨Lc101, hQ101, l101, y101, z101⟩, st101⟩ := X0.specialBack hx (y := mth14) rfl hown (mvT hZ tw211) (mvT hZ tw153) (mvT hZ tw157) (by decide) (backOf (W := 0) (aili l Z a0 hw [] a1 h0 n0 Z0 ) hZ tw157 tw156 (by decide) (by decide)) (g := (mkF m 1 #[.val (.ref a1), .val (.ref x0), .val (.ref x1)] [(.ref a1)])) rfl (by rw [hml]; rfl) (Steps.refl _) (a := a1) (argsL := []) (rest := []) (lenOf pd_V rfl) rfl (Nat.le_of_eq rfl) (hb hby dk130) (fun _ _ => ⟨rfl, eh0, (by decide : 0 + 0 ≤ _), (by decide : 0 + 0 ≤ _)⟩)
  dsimp only [Pt.U, Pt.locs, Pt.cells, Pt.slots] at X101 l101 y101 z101 st101 hQ101
  subst y101 z101
  obtain ⟨rfl, Nq101, q101_0⟩ := hQ101
  have N101 : Fr n0 L101 := by rw [l101]; exact Fr.app N0 Nq101
  refine Goes.step (S' := T101.setTop (mkF m 6 #[.val (.ref a1), .val (.ref x0), .val (.ref x1)] [(.ref x0), (.ref a1)])) (fun t k => st101.trans (XS.aloadN X101.here hx rfl (hb hby dk131) rfl rfl (XS.aloadN X101.here hx rfl (hb hby dk132) rfl rfl k))) ?_
  obtain ⟨_, _, ⟨T102, L102, k102, n102⟩, -, X102, ⟨Lc102, hQ102, l102, y102, z102⟩, st102⟩ := Jvm.LawKit.callS X101 hx (y := mth12) hown (mvT hZ tw215) (mvT hZ tw143) (mvT hZ tw144) (mvT hZ tw145) (by decide) (backOf (W := 1) (rqn l Z a0 hw [] x0 h0 n0 Z0 ) hZ tw145 tw144 (by decide) (by decide)) (g := (mkF m 6 #[.val (.ref a1), .val (.ref x0), .val (.ref x1)] [(.ref x0), (.ref a1)])) rfl (by rw [hml]; rfl) (argsL := [(.ref x0)]) (rest := [(.ref a1)]) (lenOf pd_Ljava_lang_Object__Ljava_lang_Object rfl) rfl (Nat.le_of_eq rfl) (hb hby dk133) (fun _ _ => ⟨rfl, q101_0, (by decide : 0 + 0 ≤ _), (by decide : 0 + 0 ≤ _)⟩)
  dsimp only [Pt.U, Pt.locs, Pt.cells, Pt.slots] at X102 l102 y102 z102 st102 hQ102
  subst y102 z102
  obtain ⟨rfl, Nq102, q102_0⟩ := hQ102
  have N102 : Fr n0 L102 := by rw [l102]; exact Fr.app N101 Nq102
  refine Goes.step (S' := T102.setTop (mkF m 9 #[.val (.ref a1), .val (.ref x0), .val (.ref x1)] [(.ref x0), (.ref a1)])) (fun t k => st102 _ k) ?_
  obtain ⟨T103, h103, X103, e103, W103, st103⟩ := putF X102 hx hZ hown (host := "") (Or.inl tw216) Via.refl q102_0 F0 E1 (Or.inr ⟨tw217, rfl, hnm⟩) tw205 (ty := (.object "java/lang/Object")) (by decide) rfl rfl (g := (mkF m 9 #[.val (.ref a1), .val (.ref x0), .val (.ref x1)] [(.ref x0), (.ref a1)])) rfl rfl (hb hby dk134)
  have Fw103 : Fld Z h103 a1 "java/util/ImmutableCollections$List12" "e0" "Ljava/lang/Object;" (.ref x0) := Fld.same W103 F0
  have N103 := Fr.snoc X103 N102 G1
  refine Goes.step (S' := T103.setTop (mkF m 14 #[.val (.ref a1), .val (.ref x0), .val (.ref x1)] [(.ref x1), (.ref a1)])) (fun t k => st103 _ (XS.aloadN X103.here hx rfl (hb hby dk135) rfl rfl (XS.aloadN X103.here hx rfl (hb hby dk136) rfl rfl k))) ?_
  obtain ⟨_, _, ⟨T104, L104, k104, n104⟩, -, X104, ⟨Lc104, hQ104, l104, y104, z104⟩, st104⟩ := Jvm.LawKit.callS X103 hx (y := mth12) hown (mvT hZ tw215) (mvT hZ tw143) (mvT hZ tw144) (mvT hZ tw145) (by decide) (backOf (W := 1) (rqn l Z a0 hw [] x1 h103 n0 (Nat.le_trans Z0 (Nat.le_of_eq W103.size.symm)) ) hZ tw145 tw144 (by decide) (by decide)) (g := (mkF m 14 #[.val (.ref a1), .val (.ref x0), .val (.ref x1)] [(.ref x1), (.ref a1)])) rfl (by rw [hml]; rfl) (argsL := [(.ref x1)]) (rest := [(.ref a1)]) (lenOf pd_Ljava_lang_Object__Ljava_lang_Object rfl) rfl (Nat.le_of_eq rfl) (hb hby dk137) (fun _ _ => ⟨rfl, e103, (by decide : 0 + 0 ≤ _), (by decide : 0 + 0 ≤ _)⟩)
  dsimp only [Pt.U, Pt.locs, Pt.cells, Pt.slots] at X104 l104 y104 z104 st104 hQ104
  subst y104 z104
  obtain ⟨rfl, Nq104, q104_0⟩ := hQ104
  have N104 : Fr n0 L104 := by rw [l104]; exact Fr.app N103 Nq104
  refine Goes.step (S' := T104.setTop (mkF m 17 #[.val (.ref a1), .val (.ref x0), .val (.ref x1)] [(.ref x1), (.ref a1)])) (fun t k => st104 _ k) ?_
  obtain ⟨T105, h105, X105, e105, W105, st105⟩ := putF X104 hx hZ hown (host := "") (Or.inl tw219) Via.refl q104_0 (Fld.other W103 F1 (Or.inr (slot_ne (Or.inr tw220) (Or.inr tw217) (by decide) (t := (.object "java/lang/Object")) (t' := (.object "java/lang/Object")) (by decide) (by decide)))) (Exa.wr W103 E1) (Or.inr ⟨tw220, rfl, hnm⟩) tw205 (ty := (.object "java/lang/Object")) (by decide) rfl rfl (g := (mkF m 17 #[.val (.ref a1), .val (.ref x0), .val (.ref x1)] [(.ref x1), (.ref a1)])) rfl rfl (hb hby dk138)
  have Fw105 : Fld Z h105 a1 "java/util/ImmutableCollections$List12" "e1" "Ljava/lang/Object;" (.ref x1) := Fld.same W105 (Fld.other W103 F1 (Or.inr (slot_ne (Or.inr tw220) (Or.inr tw217) (by decide) (t := (.object "java/lang/Object")) (t' := (.object "java/lang/Object")) (by decide) (by decide))))
  have N105 := Fr.snoc X105 N104 G1
  refine Goes.step (S' := T105.setTop (mkF m 20 #[.val (.ref a1), .val (.ref x0), .val (.ref x1)] [])) (fun t k => st105 _ k) ?_
  refine Goes.leave (g := (mkF m 20 #[.val (.ref a1), .val (.ref x0), .val (.ref x1)] [])) X105 Bd.notSynchronized (v := none) (fun _ => rfl) (fun fs hr => X105.returnOut hx Bd.returns (hb hby dk139) hr) e105 ?_ (by decide) (by decide)
  exact ⟨rfl, N105, (((Keep.refl _ [a1]).wr W103 (Or.inl (List.mem_of_getElem? (i := 0) rfl))).wr W105 (Or.inl (List.mem_of_getElem? (i := 0) rfl))), (Exa.wr W105 (Exa.wr W103 E1)), (Fld.other W105 Fw103 (Or.inr (slot_ne (Or.inr tw217) (Or.inr tw220) (by decide) (t := (.object "java/lang/Object")) (t' := (.object "java/lang/Object")) (by decide) (by decide)))), Fw105⟩

theorem ef_lni (m : MethodId) (x0 : Addr) (x1 : Addr) (x2 : Int32) : entryFrame m #[(.ref x0), (.ref x1), (.int x2)] 3 = mkF m 0 #[.val (.ref x0), .val (.ref x1), .val (.int x2)] [] := by first | (simp [entryFrame, mkF, argsToLocals, Value.category]; done) | rfl
def Q_lni (Z : State) (a1 : Addr) (b1 : Addr) (h0 : Heap) (n0 : Nat) (v : Option Value) (h : Heap) (L : List Loc) : Prop := v = none ∧ Fr n0 L ∧ Keep h0 h [a1] ∧ Exa Z h a1 "java/util/ImmutableCollections$ListN" ∧ Fld Z h a1 "java/util/ImmutableCollections$ListN" "elements" "[Ljava/lang/Object;" (.ref b1)
set_option maxRecDepth 65536 in
set_option maxHeartbeats 40000000 in
theorem lni (l : Launch) (Z : State) (a0 : Array Value) (hw : ∀ d ∈ tables_1, d.before a0 Z = true) (ws : List Jvm.Cond) (a1 : Addr) (b1 : Addr) (h0 : Heap) (n0 : Nat) (Z0 : n0 ≤ h0.size) (E1 : Exa Z h0 a1 "java/util/ImmutableCollections$ListN") (Fn : Fld Z h0 a1 "java/util/ImmutableCollections$ListN" "elements" "[Ljava/lang/Object;" .null) (Fa : Fld Z h0 a1 "java/util/ImmutableCollections$ListN" "allowNulls" "Z" (.int (0 : Int32))) (G1 : n0 ≤ a1) :
    MetFree l mth17 (head1 (Jvm.Cond.code mth17 jdk_45_method_1_code 3 none :: ws) rom10) (fun a U => a = #[(.ref a1), (.ref b1), (.int (0 : Int32))] ∧ Z.Warmed39 U.vm ∧ U.heap = h0) (fun _ _ _ _ _ => True) (fun _ U o U' => ∃ v L, o = .returned v ∧ Q_lni Z a1 b1 h0 n0 v U'.heap L ∧ FrameEnd U o U' L rom10.cells rom10.slots) := by
  refine MetFree.of_bodySF (plainFor_of_name pnm9) hisR ?_
  intro p e s m args below meth c s₁ Bd hml0 hP hK
  obtain ⟨rfl, hZ, hh⟩ := hP
  have hx := Bd.exec
  have hby := Bd.bytes
  have hml : c.maxLocals = 3 := hml0
  have hown : s.vm.findClass "java/util/ImmutableCollections$ListN" = some m.cls := findClass_of_methodNamed Bd.named
  have hnm := (name_of_methodNamed Bd.named Bd.method).1
  have X0 : Stand p l e rom10 s m #[(.ref a1), (.ref b1), (.int (0 : Int32))] below meth c s₁ [] 0 0 := Stand.of_body Bd
  have eh0 : s₁.heap = h0 := by rw [← hh, Bd.state]; rfl
  have N0 := Fr.nil n0
  have tw146 := hw _ (List.mem_of_getElem? (i := 146) rfl)
  have tw152 := hw _ (List.mem_of_getElem? (i := 152) rfl)
  have tw153 := hw _ (List.mem_of_getElem? (i := 153) rfl)
  have tw156 := hw _ (List.mem_of_getElem? (i := 156) rfl)
  have tw157 := hw _ (List.mem_of_getElem? (i := 157) rfl)
  have tw166 := hw _ (List.mem_of_getElem? (i := 166) rfl)
  have tw167 := hw _ (List.mem_of_getElem? (i := 167) rfl)
  have tw168 := hw _ (List.mem_of_getElem? (i := 168) rfl)
  have tw169 := hw _ (List.mem_of_getElem? (i := 169) rfl)
  show Goes p e below (Pq (Q_lni Z a1 b1 h0 n0) s rom10.cells rom10.slots) (s₁.setTop (entryFrame m #[(.ref a1), (.ref b1), (.int (0 : Int32))] 3))
  refine Goes.step (S' := s₁.setTop (mkF m 0 #[.val (.ref a1), .val (.ref b1), .val (.int (0 : Int32))] [])) (fun t k => castTop (ef_lni m a1 b1 (0 : Int32)) k) ?_
  refine Goes.step (S' := s₁.setTop (mkF m 1 #[.val (.ref a1), .val (.ref b1), .val (.int (0 : Int32))] [(.ref a1)])) (fun t k => XS.aloadN X0.here hx rfl (hb hby dk140) rfl rfl k) ?_
  obtain ⟨_, _, ⟨T101, L101, k101, n101⟩, -, X101, ⟨Lc101, hQ101, l101, y101, z101⟩, st101⟩ := X0.specialBack hx (y := mth14) rfl hown (mvT hZ tw152) (mvT hZ tw153) (mvT hZ tw157) (by decide) (backOf (W := 0) (aili l Z a0 hw [] a1 h0 n0 Z0 ) hZ tw157 tw156 (by decide) (by decide)) (g := (mkF m 1 #[.val (.ref a1), .val (.ref b1), .val (.int (0 : Int32))] [(.ref a1)])) rfl (by rw [hml]; rfl) (Steps.refl _) (a := a1) (argsL := []) (rest := []) (lenOf pd_V rfl) rfl (Nat.le_of_eq rfl) (hb hby dk141) (fun _ _ => ⟨rfl, eh0, (by decide : 0 + 0 ≤ _), (by decide : 0 + 0 ≤ _)⟩)
  dsimp only [Pt.U, Pt.locs, Pt.cells, Pt.slots] at X101 l101 y101 z101 st101 hQ101
  subst y101 z101
  obtain ⟨rfl, Nq101, q101_0⟩ := hQ101
  have N101 : Fr n0 L101 := by rw [l101]; exact Fr.app N0 Nq101
  refine Goes.step (S' := T101.setTop (mkF m 6 #[.val (.ref a1), .val (.ref b1), .val (.int (0 : Int32))] [(.ref b1), (.ref a1)])) (fun t k => st101.trans (XS.aloadN X101.here hx rfl (hb hby dk142) rfl rfl (XS.aloadN X101.here hx rfl (hb hby dk143) rfl rfl k))) ?_
  obtain ⟨T102, h102, X102, e102, W102, st102⟩ := putF X101 hx hZ hown (host := "") (Or.inl tw166) Via.refl q101_0 Fn E1 (Or.inr ⟨tw167, rfl, hnm⟩) tw146 (ty := (.array (.object "java/lang/Object"))) (by decide) rfl rfl (g := (mkF m 6 #[.val (.ref a1), .val (.ref b1), .val (.int (0 : Int32))] [(.ref b1), (.ref a1)])) rfl rfl (hb hby dk144)
  have Fw102 : Fld Z h102 a1 "java/util/ImmutableCollections$ListN" "elements" "[Ljava/lang/Object;" (.ref b1) := Fld.same W102 Fn
  have N102 := Fr.snoc X102 N101 G1
  refine Goes.step (S' := T102.setTop (mkF m 11 #[.val (.ref a1), .val (.ref b1), .val (.int (0 : Int32))] [(.int (0 : Int32)), (.ref a1)])) (fun t k => st102 _ (XS.aloadN X102.here hx rfl (hb hby dk145) rfl rfl (XS.iloadN X102.here hx rfl (hb hby dk146) rfl k))) ?_
  obtain ⟨T103, h103, X103, e103, W103, st103⟩ := putFN X102 hx hZ hown tw168 Via.refl e102 (Fld.other W102 Fa (Or.inr (slot_ne (Or.inr tw169) (Or.inr tw167) (by decide) (t := .boolean) (t' := (.array (.object "java/lang/Object"))) (by decide) (by decide)))) (Exa.wr W102 E1) (Or.inr ⟨tw169, rfl, hnm⟩) tw146 (ty := .boolean) (v' := (.int (0 : Int32))) (by decide) rfl (by decide) (g := (mkF m 11 #[.val (.ref a1), .val (.ref b1), .val (.int (0 : Int32))] [(.int (0 : Int32)), (.ref a1)])) rfl rfl (hb hby dk147)
  have Fw103 : Fld Z h103 a1 "java/util/ImmutableCollections$ListN" "allowNulls" "Z" (.int (0 : Int32)) := Fld.same W103 (Fld.other W102 Fa (Or.inr (slot_ne (Or.inr tw169) (Or.inr tw167) (by decide) (t := .boolean) (t' := (.array (.object "java/lang/Object"))) (by decide) (by decide))))
  have N103 := Fr.snoc X103 N102 G1
  refine Goes.step (S' := T103.setTop (mkF m 14 #[.val (.ref a1), .val (.ref b1), .val (.int (0 : Int32))] [])) (fun t k => st103 _ k) ?_
  refine Goes.leave (g := (mkF m 14 #[.val (.ref a1), .val (.ref b1), .val (.int (0 : Int32))] [])) X103 Bd.notSynchronized (v := none) (fun _ => rfl) (fun fs hr => X103.returnOut hx Bd.returns (hb hby dk148) hr) e103 ?_ (by decide) (by decide)
  exact ⟨rfl, N103, (((Keep.refl _ [a1]).wr W102 (Or.inl (List.mem_of_getElem? (i := 0) rfl))).wr W103 (Or.inl (List.mem_of_getElem? (i := 0) rfl))), (Exa.wr W103 (Exa.wr W102 E1)), (Fld.other W103 Fw102 (Or.inr (slot_ne (Or.inr tw167) (Or.inr tw169) (by decide) (t := (.array (.object "java/lang/Object"))) (t' := .boolean) (by decide) (by decide))))⟩

theorem ef_cp3_1 (m : MethodId) (x0 : Addr) (x1 : Int32) (x2 : Addr) : entryFrame m #[(.ref x0), (.int x1), (.ref x2)] 4 = mkF m 0 #[.val (.ref x0), .val (.int x1), .val (.ref x2), .unset] [] := by first | (simp [entryFrame, mkF, argsToLocals, Value.category]; done) | rfl
def Q_cp3_1 (Z : State) (b1 : Addr) (k1 : ClassId) (mr : Addr) (x0 : Addr) (h0 : Heap) (n0 : Nat) (v : Option Value) (h : Heap) (L : List Loc) : Prop := ∃ (b : Addr) (kb : ClassId), v = some (.ref b) ∧ Fr n0 L ∧ Keep h0 h [] ∧ h0.size ≤ b ∧ Exa Z h b "[Ljava/lang/Object;" ∧ Arv Z h b kb (.object "java/lang/Object") (1 : Int32) [(.ref x0)] .null
set_option maxRecDepth 65536 in
set_option maxHeartbeats 40000000 in
theorem cp3_1 (l : Launch) (Z : State) (a0 : Array Value) (hw : ∀ d ∈ tables_1, d.before a0 Z = true) (ws : List Jvm.Cond) (b1 : Addr) (k1 : ClassId) (mr : Addr) (x0 : Addr) (h0 : Heap) (n0 : Nat) (Z0 : n0 ≤ h0.size) (V1 : Arv Z h0 b1 k1 (.object "java/lang/Object") (10 : Int32) [(.ref x0), .null, .null, .null, .null, .null, .null, .null, .null, .null] .null) (Eb : Exa Z h0 b1 "[Ljava/lang/Object;") (Ex0 : Exa Z h0 x0 "java/lang/Integer") (MI : MirO Z "[Ljava/lang/Object;" mr) :
    MetFree l mth18 (head1 (Jvm.Cond.code mth18 jdk_65_method_120_code 4 (some (.array (.object "java/lang/Object"))) :: ws) rom11) (fun a U => a = #[(.ref b1), (.int (1 : Int32)), (.ref mr)] ∧ Z.Warmed39 U.vm ∧ U.heap = h0) (fun _ _ _ _ _ => True) (fun _ U o U' => ∃ v L, o = .returned v ∧ Q_cp3_1 Z b1 k1 mr x0 h0 n0 v U'.heap L ∧ FrameEnd U o U' L rom11.cells rom11.slots) := by
  refine MetFree.of_bodySF (plainFor_of_name pnm10) hisR ?_
  intro p e s m args below meth c s₁ Bd hml0 hP hK
  obtain ⟨rfl, hZ, hh⟩ := hP
  have hx := Bd.exec
  have hby := Bd.bytes
  have hml : c.maxLocals = 4 := hml0
  have hown : s.vm.findClass "java/util/Arrays" = some m.cls := findClass_of_methodNamed Bd.named
  have hnm := (name_of_methodNamed Bd.named Bd.method).1
  have X0 : Stand p l e rom11 s m #[(.ref b1), (.int (1 : Int32)), (.ref mr)] below meth c s₁ [] 0 0 := Stand.of_body Bd
  have eh0 : s₁.heap = h0 := by rw [← hh, Bd.state]; rfl
  have N0 := Fr.nil n0
  have tw6 := hw _ (List.mem_of_getElem? (i := 6) rfl)
  have tw7 := hw _ (List.mem_of_getElem? (i := 7) rfl)
  have tw8 := hw _ (List.mem_of_getElem? (i := 8) rfl)
  have tw71 := hw _ (List.mem_of_getElem? (i := 71) rfl)
  have tw72 := hw _ (List.mem_of_getElem? (i := 72) rfl)
  have tw128 := hw _ (List.mem_of_getElem? (i := 128) rfl)
  have tw129 := hw _ (List.mem_of_getElem? (i := 129) rfl)
  have tw130 := hw _ (List.mem_of_getElem? (i := 130) rfl)
  have tw131 := hw _ (List.mem_of_getElem? (i := 131) rfl)
  have tw132 := hw _ (List.mem_of_getElem? (i := 132) rfl)
  have tw133 := hw _ (List.mem_of_getElem? (i := 133) rfl)
  have tw134 := hw _ (List.mem_of_getElem? (i := 134) rfl)
  show Goes p e below (Pq (Q_cp3_1 Z b1 k1 mr x0 h0 n0) s rom11.cells rom11.slots) (s₁.setTop (entryFrame m #[(.ref b1), (.int (1 : Int32)), (.ref mr)] 4))
  refine Goes.step (S' := s₁.setTop (mkF m 0 #[.val (.ref b1), .val (.int (1 : Int32)), .val (.ref mr), .unset] [])) (fun t k => castTop (ef_cp3_1 m b1 (1 : Int32) mr) k) ?_
  refine Goes.step (S' := s₁.setTop (mkF m 1 #[.val (.ref b1), .val (.int (1 : Int32)), .val (.ref mr), .unset] [(.ref mr)])) (fun t k => XS.aloadN X0.here hx rfl (hb hby dk149) rfl rfl k) ?_
  obtain ⟨T101, X101, e101, st101⟩ := own_ldcMir X0 hx hZ hown tw128 MI eh0 (g := (mkF m 1 #[.val (.ref b1), .val (.int (1 : Int32)), .val (.ref mr), .unset] [(.ref mr)])) rfl (hb hby dk150)
  refine Goes.step (S' := T101.setTop (mkF m 7 #[.val (.ref b1), .val (.int (1 : Int32)), .val (.ref mr), .unset] [(.int (1 : Int32))])) (fun t k => st101 _ (Jvm.RoadKit.acmp (g := (mkF m 3 #[.val (.ref b1), .val (.int (1 : Int32)), .val (.ref mr), .unset] [(.ref mr), (.ref mr)])) X101 hx rfl rfl rfl (pc0 := 3) (pc' := 6) (same := true) rfl (hb hby dk151) rfl (decide_eq_true rfl) (by decide) (by decide) (XS.iloadN X101.here hx rfl (hb hby dk152) rfl k))) ?_
  obtain ⟨T102, h102, k102, X102, e102, E102, A102, AE102, O102, st102⟩ := newRE X101 hx hZ hown tw129 tw71 e101 (g := (mkF m 7 #[.val (.ref b1), .val (.int (1 : Int32)), .val (.ref mr), .unset] [(.int (1 : Int32))])) rfl (hb hby dk153) rfl (by decide) (cap := 1) (by decide) (by decide) (by decide) (by decide) (ad := "[Ljava/lang/Object;") rfl
  obtain ⟨b102, g102⟩ : ∃ z, z = h0.size := ⟨_, rfl⟩
  rw [← g102] at A102 AE102 st102
  have V102 : Arv Z h102 b102 k102 (.object "java/lang/Object") (1 : Int32) [.null] .null := (Arv.new A102 (by decide)).pad (pad_rep [] .null 1)
  refine Goes.step (S' := T102.setTop (mkF m 30 #[.val (.ref b1), .val (.int (1 : Int32)), .val (.ref mr), .val (.ref b102)] [(.ref b1), (.int (0 : Int32)), (.ref b102), (.int (0 : Int32)), (.ref b1)])) (fun t k => st102 _ (XS.goto X102.here hx rfl (pc0 := 10) (pc' := 24) rfl (hb hby dk154) (by decide) (by decide) (XS.astoreN X102.here hx rfl (hb hby dk155) rfl rfl (l' := #[.val (.ref b1), .val (.int (1 : Int32)), .val (.ref mr), .val (.ref b102)]) rfl (XS.aloadN X102.here hx rfl (hb hby dk156) rfl rfl (XS.iconst X102.here hx rfl (hb hby dk157) (XS.aloadN X102.here hx rfl (hb hby dk158) rfl rfl (XS.iconst X102.here hx rfl (hb hby dk159) (XS.aloadN X102.here hx rfl (hb hby dk160) rfl rfl k)))))))) ?_
  obtain ⟨cl103, Ar103, qk103, Sz103, Nn103, Hs103, Gs103⟩ := id (V1.ext E102)
  refine Goes.step (S' := T102.setTop (mkF m 31 #[.val (.ref b1), .val (.int (1 : Int32)), .val (.ref mr), .val (.ref b102)] [(.int (10 : Int32)), (.int (0 : Int32)), (.ref b102), (.int (0 : Int32)), (.ref b1)])) (fun t k => X102.arraylength hx (by rw [e102]; exact Ar103.1) (State.isArrayOf_alike hZ.alike Ar103.2.1) (g := (mkF m 30 #[.val (.ref b1), .val (.int (1 : Int32)), .val (.ref mr), .val (.ref b102)] [(.ref b1), (.int (0 : Int32)), (.ref b102), (.int (0 : Int32)), (.ref b1)])) rfl rfl (hb hby dk161) _ (by rw [len_of Sz103 Nn103]; exact k)) ?_
  refine Goes.step (S' := T102.setTop (mkF m 32 #[.val (.ref b1), .val (.int (1 : Int32)), .val (.ref mr), .val (.ref b102)] [(.int (1 : Int32)), (.int (10 : Int32)), (.int (0 : Int32)), (.ref b102), (.int (0 : Int32)), (.ref b1)])) (fun t k => XS.iloadN X102.here hx rfl (hb hby dk162) rfl k) ?_
  obtain ⟨_, _, ⟨T104, L104, k104, n104⟩, -, X104, ⟨Lc104, hQ104, l104, y104, z104⟩, st104⟩ := Jvm.LawKit.callS X102 hx (y := mth1) hown (mvT hZ tw130) (mvT hZ tw6) (mvT hZ tw7) (mvT hZ tw8) (by decide) (backOf (W := 4) (mn1 l Z a0 hw [] (10 : Int32) (1 : Int32) h102 n0 (Nat.le_trans Z0 E102.1) ((by decide) : (1 : Int32) < (10 : Int32))) hZ tw8 tw7 (by decide) (by decide)) (g := (mkF m 32 #[.val (.ref b1), .val (.int (1 : Int32)), .val (.ref mr), .val (.ref b102)] [(.int (1 : Int32)), (.int (10 : Int32)), (.int (0 : Int32)), (.ref b102), (.int (0 : Int32)), (.ref b1)])) rfl (by rw [hml]; rfl) (argsL := [(.int (10 : Int32)), (.int (1 : Int32))]) (rest := [(.int (0 : Int32)), (.ref b102), (.int (0 : Int32)), (.ref b1)]) (lenOf pd_II_I rfl) rfl (Nat.le_of_eq rfl) (hb hby dk163) (fun _ _ => ⟨rfl, e102, (by decide : 1 + 0 ≤ _), (by decide : 1 + 0 ≤ _)⟩)
  dsimp only [Pt.U, Pt.locs, Pt.cells, Pt.slots] at X104 l104 y104 z104 st104 hQ104
  subst y104 z104
  obtain ⟨rfl, Nq104, q104_0⟩ := hQ104
  have N104 : Fr n0 L104 := by rw [l104]; exact Fr.app N0 Nq104
  refine Goes.step (S' := T104.setTop (mkF m 35 #[.val (.ref b1), .val (.int (1 : Int32)), .val (.ref mr), .val (.ref b102)] [(.int (1 : Int32)), (.int (0 : Int32)), (.ref b102), (.int (0 : Int32)), (.ref b1)])) (fun t k => st104 _ k) ?_
  obtain ⟨cl106, Ar106, qk106, Sz106, Nn106, Hs106, Gs106⟩ := id V102
  obtain ⟨T105, h105, L105, X105, e105, N105, K105, Vr105, st105⟩ := cpA X104 hx hZ hown tw131 tw134 tw132 tw133 q104_0 (sp := (0 : Int32)) (dp := (0 : Int32)) (nn := (1 : Int32)) (us := [(.ref x0)]) (V1.ext E102) V102 (Or.inr ⟨rfl, rfl, ⟨(Sto.ofV Ar106 qk106 O102 (Ins.of_exa (Exa.ext E102 Ex0) tw72)), trivial⟩⟩) (by decide) (by decide) (by decide) (by decide) (by decide) rfl (by decide) N104 (Nat.le_trans Z0 (Nat.le_of_eq g102.symm)) (g := (mkF m 35 #[.val (.ref b1), .val (.int (1 : Int32)), .val (.ref mr), .val (.ref b102)] [(.int (1 : Int32)), (.int (0 : Int32)), (.ref b102), (.int (0 : Int32)), (.ref b1)])) rfl (by rw [hml]; rfl) rfl (hb hby dk164) (by decide) (W := 0) (Nat.le_of_eq rfl) (by decide)
  have V105 : Arv Z h105 b102 k102 (.object "java/lang/Object") (1 : Int32) [(.ref x0)] .null := Vr105
  refine Goes.step (S' := T105.setTop (mkF m 39 #[.val (.ref b1), .val (.int (1 : Int32)), .val (.ref mr), .val (.ref b102)] [(.ref b102)])) (fun t k => st105 _ (XS.aloadN X105.here hx rfl (hb hby dk165) rfl rfl k)) ?_
  refine Goes.leave (g := (mkF m 39 #[.val (.ref b1), .val (.int (1 : Int32)), .val (.ref mr), .val (.ref b102)] [(.ref b102)])) X105 Bd.notSynchronized (v := (some (.ref b102))) (fun h => by rw [Bd.returns] at h; cases h) (fun fs hr => by jvm_step X105.here [X105.here.top, hx, (hb hby dk166), X105.method', Bd.returns, Value.isRef, FieldType.isReference]; (first | (intro acts; rw [hr _ acts rfl rfl rfl]) | rw [hr _ _ rfl rfl rfl]); exact Steps.refl _) e105 ?_ (by decide) (by decide)
  exact ⟨b102, k102, rfl, N105, (((Keep.refl _ []).ext E102).trans K105 (allS (Or.inr (Nat.le_of_eq g102.symm)) all0)), (Nat.le_of_eq g102.symm), (AE102.keep K105), V105⟩

theorem ef_cp2_1 (m : MethodId) (x0 : Addr) (x1 : Int32) : entryFrame m #[(.ref x0), (.int x1)] 2 = mkF m 0 #[.val (.ref x0), .val (.int x1)] [] := by first | (simp [entryFrame, mkF, argsToLocals, Value.category]; done) | rfl
def Q_cp2_1 (Z : State) (b1 : Addr) (k1 : ClassId) (mr : Addr) (x0 : Addr) (h0 : Heap) (n0 : Nat) (v : Option Value) (h : Heap) (L : List Loc) : Prop := ∃ (b : Addr) (kb : ClassId), v = some (.ref b) ∧ Fr n0 L ∧ Keep h0 h [] ∧ h0.size ≤ b ∧ Exa Z h b "[Ljava/lang/Object;" ∧ Arv Z h b kb (.object "java/lang/Object") (1 : Int32) [(.ref x0)] .null
set_option maxRecDepth 65536 in
set_option maxHeartbeats 40000000 in
theorem cp2_1 (l : Launch) (Z : State) (a0 : Array Value) (hw : ∀ d ∈ tables_1, d.before a0 Z = true) (ws : List Jvm.Cond) (b1 : Addr) (k1 : ClassId) (mr : Addr) (x0 : Addr) (h0 : Heap) (n0 : Nat) (Z0 : n0 ≤ h0.size) (V1 : Arv Z h0 b1 k1 (.object "java/lang/Object") (10 : Int32) [(.ref x0), .null, .null, .null, .null, .null, .null, .null, .null, .null] .null) (Eb : Exa Z h0 b1 "[Ljava/lang/Object;") (Ex0 : Exa Z h0 x0 "java/lang/Integer") (MI : MirO Z "[Ljava/lang/Object;" mr) :
    MetFree l mth19 (head1 (Jvm.Cond.code mth19 jdk_65_method_119_code 2 (some (.array (.object "java/lang/Object"))) :: ws) rom12) (fun a U => a = #[(.ref b1), (.int (1 : Int32))] ∧ Z.Warmed39 U.vm ∧ U.heap = h0) (fun _ _ _ _ _ => True) (fun _ U o U' => ∃ v L, o = .returned v ∧ Q_cp2_1 Z b1 k1 mr x0 h0 n0 v U'.heap L ∧ FrameEnd U o U' L rom12.cells rom12.slots) := by
  refine MetFree.of_bodySF (plainFor_of_name pnm10) hisR ?_
  intro p e s m args below meth c s₁ Bd hml0 hP hK
  obtain ⟨rfl, hZ, hh⟩ := hP
  have hx := Bd.exec
  have hby := Bd.bytes
  have hml : c.maxLocals = 2 := hml0
  have hown : s.vm.findClass "java/util/Arrays" = some m.cls := findClass_of_methodNamed Bd.named
  have hnm := (name_of_methodNamed Bd.named Bd.method).1
  have X0 : Stand p l e rom12 s m #[(.ref b1), (.int (1 : Int32))] below meth c s₁ [] 0 0 := Stand.of_body Bd
  have eh0 : s₁.heap = h0 := by rw [← hh, Bd.state]; rfl
  have N0 := Fr.nil n0
  have tw96 := hw _ (List.mem_of_getElem? (i := 96) rfl)
  have tw117 := hw _ (List.mem_of_getElem? (i := 117) rfl)
  have tw119 := hw _ (List.mem_of_getElem? (i := 119) rfl)
  have tw120 := hw _ (List.mem_of_getElem? (i := 120) rfl)
  have tw121 := hw _ (List.mem_of_getElem? (i := 121) rfl)
  have tw122 := hw _ (List.mem_of_getElem? (i := 122) rfl)
  have tw123 := hw _ (List.mem_of_getElem? (i := 123) rfl)
  have tw125 := hw _ (List.mem_of_getElem? (i := 125) rfl)
  have tw126 := hw _ (List.mem_of_getElem? (i := 126) rfl)
  have tw127 := hw _ (List.mem_of_getElem? (i := 127) rfl)
  show Goes p e below (Pq (Q_cp2_1 Z b1 k1 mr x0 h0 n0) s rom12.cells rom12.slots) (s₁.setTop (entryFrame m #[(.ref b1), (.int (1 : Int32))] 2))
  refine Goes.step (S' := s₁.setTop (mkF m 0 #[.val (.ref b1), .val (.int (1 : Int32))] [])) (fun t k => castTop (ef_cp2_1 m b1 (1 : Int32)) k) ?_
  refine Goes.step (S' := s₁.setTop (mkF m 3 #[.val (.ref b1), .val (.int (1 : Int32))] [(.ref b1), (.int (1 : Int32)), (.ref b1)])) (fun t k => XS.aloadN X0.here hx rfl (hb hby dk167) rfl rfl (XS.iloadN X0.here hx rfl (hb hby dk168) rfl (XS.aloadN X0.here hx rfl (hb hby dk169) rfl rfl k))) ?_
  obtain ⟨T101, X101, e101, st101⟩ := own_gcls X0 hx hZ hown tw119 tw120 tw96 tw122 tw121 tw123 eh0 Eb MI (g := (mkF m 3 #[.val (.ref b1), .val (.int (1 : Int32))] [(.ref b1), (.int (1 : Int32)), (.ref b1)])) rfl (by rw [hml]; rfl) rfl (hb hby dk170) (by decide) (W := 2) (Nat.le_of_eq rfl) (by decide)
  refine Goes.step (S' := T101.setTop (mkF m 6 #[.val (.ref b1), .val (.int (1 : Int32))] [(.ref mr), (.int (1 : Int32)), (.ref b1)])) (fun t k => st101 _ k) ?_
  obtain ⟨_, _, ⟨T102, L102, k102, n102⟩, -, X102, ⟨Lc102, hQ102, l102, y102, z102⟩, st102⟩ := Jvm.LawKit.callS X101 hx (y := mth18) hown (mvT hZ tw125) (mvT hZ tw126) (mvT hZ tw117) (mvT hZ tw127) (by decide) (backOf (W := 0) (cp3_1 l Z a0 hw [] b1 k1 mr x0 h0 n0 Z0 V1 Eb Ex0 MI) hZ tw127 tw117 (by decide) (by decide)) (g := (mkF m 6 #[.val (.ref b1), .val (.int (1 : Int32))] [(.ref mr), (.int (1 : Int32)), (.ref b1)])) rfl (by rw [hml]; rfl) (argsL := [(.ref b1), (.int (1 : Int32)), (.ref mr)]) (rest := []) (lenOf pd_Ljava_lang_Object_ILjava_lang_Class___Ljava_lang_Object rfl) rfl (Nat.le_of_eq rfl) (hb hby dk171) (fun _ _ => ⟨rfl, e101, (by decide : 0 + 1 ≤ _), (by decide : 0 + 1 ≤ _)⟩)
  dsimp only [Pt.U, Pt.locs, Pt.cells, Pt.slots] at X102 l102 y102 z102 st102 hQ102
  subst y102 z102
  obtain ⟨b_102, kb_102, rfl, Nq102, q102_0, q102_1, q102_2, q102_3⟩ := hQ102
  have N102 : Fr n0 L102 := by rw [l102]; exact Fr.app N0 Nq102
  refine Goes.step (S' := T102.setTop (mkF m 9 #[.val (.ref b1), .val (.int (1 : Int32))] [(.ref b_102)])) (fun t k => st102 _ k) ?_
  refine Goes.leave (g := (mkF m 9 #[.val (.ref b1), .val (.int (1 : Int32))] [(.ref b_102)])) X102 Bd.notSynchronized (v := (some (.ref b_102))) (fun h => by rw [Bd.returns] at h; cases h) (fun fs hr => by jvm_step X102.here [X102.here.top, hx, (hb hby dk172), X102.method', Bd.returns, Value.isRef, FieldType.isReference]; (first | (intro acts; rw [hr _ acts rfl rfl rfl]) | rw [hr _ _ rfl rfl rfl]); exact Steps.refl _) rfl ?_ (by decide) (by decide)
  exact ⟨b_102, kb_102, rfl, N102, ((Keep.refl _ []).trans q102_0 all0), q102_1, q102_2, q102_3⟩

theorem ef_toa1 (m : MethodId) (x0 : Addr) : entryFrame m #[(.ref x0)] 1 = mkF m 0 #[.val (.ref x0)] [] := by first | (simp [entryFrame, mkF, argsToLocals, Value.category]; done) | rfl
def Q_toa1 (Z : State) (a1 : Addr) (b1 : Addr) (k1 : ClassId) (mr : Addr) (x0 : Addr) (h0 : Heap) (n0 : Nat) (v : Option Value) (h : Heap) (L : List Loc) : Prop := ∃ (b : Addr) (kb : ClassId), v = some (.ref b) ∧ Fr n0 L ∧ Keep h0 h [] ∧ h0.size ≤ b ∧ Exa Z h b "[Ljava/lang/Object;" ∧ Arv Z h b kb (.object "java/lang/Object") (1 : Int32) [(.ref x0)] .null
set_option maxRecDepth 65536 in
set_option maxHeartbeats 40000000 in
theorem toa1 (l : Launch) (Z : State) (a0 : Array Value) (hw : ∀ d ∈ tables_1, d.before a0 Z = true) (ws : List Jvm.Cond) (a1 : Addr) (b1 : Addr) (k1 : ClassId) (mr : Addr) (x0 : Addr) (h0 : Heap) (n0 : Nat) (Z0 : n0 ≤ h0.size) (E1 : Exa Z h0 a1 "java/util/ArrayList") (Fe : Fld Z h0 a1 "java/util/ArrayList" "elementData" "[Ljava/lang/Object;" (.ref b1)) (Fz : Fld Z h0 a1 "java/util/ArrayList" "size" "I" (.int (1 : Int32))) (V1 : Arv Z h0 b1 k1 (.object "java/lang/Object") (10 : Int32) [(.ref x0), .null, .null, .null, .null, .null, .null, .null, .null, .null] .null) (Eb : Exa Z h0 b1 "[Ljava/lang/Object;") (Ex0 : Exa Z h0 x0 "java/lang/Integer") (MI : MirO Z "[Ljava/lang/Object;" mr) :
    MetFree l mth20 (head1 (Jvm.Cond.code mth20 jdk_38_method_16_code 1 (some (.array (.object "java/lang/Object"))) :: ws) rom13) (fun a U => a = #[(.ref a1)] ∧ Z.Warmed39 U.vm ∧ U.heap = h0) (fun _ _ _ _ _ => True) (fun _ U o U' => ∃ v L, o = .returned v ∧ Q_toa1 Z a1 b1 k1 mr x0 h0 n0 v U'.heap L ∧ FrameEnd U o U' L rom13.cells rom13.slots) := by
  refine MetFree.of_bodySF (plainFor_of_name pnm4) hisR ?_
  intro p e s m args below meth c s₁ Bd hml0 hP hK
  obtain ⟨rfl, hZ, hh⟩ := hP
  have hx := Bd.exec
  have hby := Bd.bytes
  have hml : c.maxLocals = 1 := hml0
  have hown : s.vm.findClass "java/util/ArrayList" = some m.cls := findClass_of_methodNamed Bd.named
  have hnm := (name_of_methodNamed Bd.named Bd.method).1
  have X0 : Stand p l e rom13 s m #[(.ref a1)] below meth c s₁ [] 0 0 := Stand.of_body Bd
  have eh0 : s₁.heap = h0 := by rw [← hh, Bd.state]; rfl
  have N0 := Fr.nil n0
  have tw36 := hw _ (List.mem_of_getElem? (i := 36) rfl)
  have tw52 := hw _ (List.mem_of_getElem? (i := 52) rfl)
  have tw115 := hw _ (List.mem_of_getElem? (i := 115) rfl)
  have tw116 := hw _ (List.mem_of_getElem? (i := 116) rfl)
  have tw117 := hw _ (List.mem_of_getElem? (i := 117) rfl)
  have tw118 := hw _ (List.mem_of_getElem? (i := 118) rfl)
  show Goes p e below (Pq (Q_toa1 Z a1 b1 k1 mr x0 h0 n0) s rom13.cells rom13.slots) (s₁.setTop (entryFrame m #[(.ref a1)] 1))
  refine Goes.step (S' := s₁.setTop (mkF m 0 #[.val (.ref a1)] [])) (fun t k => castTop (ef_toa1 m a1) k) ?_
  refine Goes.step (S' := s₁.setTop (mkF m 1 #[.val (.ref a1)] [(.ref a1)])) (fun t k => XS.aloadN X0.here hx rfl (hb hby dk173) rfl rfl k) ?_
  obtain ⟨T101, X101, e101, st101⟩ := getF X0 hx hZ hown (host := "") (Or.inl tw36) Via.refl eh0 Fe (g := (mkF m 1 #[.val (.ref a1)] [(.ref a1)])) rfl rfl (hb hby dk174)
  refine Goes.step (S' := T101.setTop (mkF m 5 #[.val (.ref a1)] [(.ref a1), (.ref b1)])) (fun t k => st101 _ (XS.aloadN X101.here hx rfl (hb hby dk175) rfl rfl k)) ?_
  obtain ⟨T102, X102, e102, st102⟩ := getF X101 hx hZ hown (host := "") (Or.inl tw52) Via.refl e101 Fz (g := (mkF m 5 #[.val (.ref a1)] [(.ref a1), (.ref b1)])) rfl rfl (hb hby dk176)
  refine Goes.step (S' := T102.setTop (mkF m 8 #[.val (.ref a1)] [(.int (1 : Int32)), (.ref b1)])) (fun t k => st102 _ k) ?_
  obtain ⟨_, _, ⟨T103, L103, k103, n103⟩, -, X103, ⟨Lc103, hQ103, l103, y103, z103⟩, st103⟩ := Jvm.LawKit.callS X102 hx (y := mth19) hown (mvT hZ tw115) (mvT hZ tw116) (mvT hZ tw117) (mvT hZ tw118) (by decide) (backOf (W := 0) (cp2_1 l Z a0 hw [] b1 k1 mr x0 h0 n0 Z0 V1 Eb Ex0 MI) hZ tw118 tw117 (by decide) (by decide)) (g := (mkF m 8 #[.val (.ref a1)] [(.int (1 : Int32)), (.ref b1)])) rfl (by rw [hml]; rfl) (argsL := [(.ref b1), (.int (1 : Int32))]) (rest := []) (lenOf pd_Ljava_lang_Object_I__Ljava_lang_Object rfl) rfl (Nat.le_of_eq rfl) (hb hby dk177) (fun _ _ => ⟨rfl, e102, (by decide : 0 + 1 ≤ _), (by decide : 0 + 1 ≤ _)⟩)
  dsimp only [Pt.U, Pt.locs, Pt.cells, Pt.slots] at X103 l103 y103 z103 st103 hQ103
  subst y103 z103
  obtain ⟨b_103, kb_103, rfl, Nq103, q103_0, q103_1, q103_2, q103_3⟩ := hQ103
  have N103 : Fr n0 L103 := by rw [l103]; exact Fr.app N0 Nq103
  refine Goes.step (S' := T103.setTop (mkF m 11 #[.val (.ref a1)] [(.ref b_103)])) (fun t k => st103 _ k) ?_
  refine Goes.leave (g := (mkF m 11 #[.val (.ref a1)] [(.ref b_103)])) X103 Bd.notSynchronized (v := (some (.ref b_103))) (fun h => by rw [Bd.returns] at h; cases h) (fun fs hr => by jvm_step X103.here [X103.here.top, hx, (hb hby dk178), X103.method', Bd.returns, Value.isRef, FieldType.isReference]; (first | (intro acts; rw [hr _ acts rfl rfl rfl]) | rw [hr _ _ rfl rfl rfl]); exact Steps.refl _) rfl ?_ (by decide) (by decide)
  exact ⟨b_103, kb_103, rfl, N103, ((Keep.refl _ []).trans q103_0 all0), q103_1, q103_2, q103_3⟩

theorem ef_lof1 (m : MethodId) (x0 : Addr) : entryFrame m #[(.ref x0)] 2 = mkF m 0 #[.val (.ref x0), .unset] [] := by first | (simp [entryFrame, mkF, argsToLocals, Value.category]; done) | rfl
def Q_lof1 (Z : State) (b1 : Addr) (k1 : ClassId) (x0 : Addr) (em : Addr) (h0 : Heap) (n0 : Nat) (v : Option Value) (h : Heap) (L : List Loc) : Prop := ∃ (r : Addr), v = some (.ref r) ∧ Fr n0 L ∧ Keep h0 h [] ∧ h0.size ≤ r ∧ Exa Z h r "java/util/ImmutableCollections$List12" ∧ Fld Z h r "java/util/ImmutableCollections$List12" "e0" "Ljava/lang/Object;" (.ref x0) ∧ Fld Z h r "java/util/ImmutableCollections$List12" "e1" "Ljava/lang/Object;" (.ref em)
set_option maxRecDepth 65536 in
set_option maxHeartbeats 40000000 in
theorem lof1 (l : Launch) (Z : State) (a0 : Array Value) (hw : ∀ d ∈ tables_1, d.before a0 Z = true) (ws : List Jvm.Cond) (b1 : Addr) (k1 : ClassId) (x0 : Addr) (em : Addr) (h0 : Heap) (n0 : Nat) (Z0 : n0 ≤ h0.size) (V1 : Arv Z h0 b1 k1 (.object "java/lang/Object") (1 : Int32) [(.ref x0)] .null) (Eb : Exa Z h0 b1 "[Ljava/lang/Object;") (Ex0 : Exa Z h0 x0 "java/lang/Integer") (SE : Sta Z h0 "java/util/ImmutableCollections" "EMPTY" "Ljava/lang/Object;" (.ref em)) :
    MetFree l mth21 (head1 (Jvm.Cond.code mth21 jdk_40_method_47_code 2 (some (.object "java/util/List")) :: ws) rom14) (fun a U => a = #[(.ref b1)] ∧ Z.Warmed39 U.vm ∧ U.heap = h0) (fun _ _ _ _ _ => True) (fun _ U o U' => ∃ v L, o = .returned v ∧ Q_lof1 Z b1 k1 x0 em h0 n0 v U'.heap L ∧ FrameEnd U o U' L rom14.cells rom14.slots) := by
  refine MetFree.of_bodySF (plainFor_of_name pnm11) hisR ?_
  intro p e s m args below meth c s₁ Bd hml0 hP hK
  obtain ⟨rfl, hZ, hh⟩ := hP
  have hx := Bd.exec
  have hby := Bd.bytes
  have hml : c.maxLocals = 2 := hml0
  have hown : s.vm.findClass "java/util/List" = some m.cls := findClass_of_methodNamed Bd.named
  have hnm := (name_of_methodNamed Bd.named Bd.method).1
  have X0 : Stand p l e rom14 s m #[(.ref b1)] below meth c s₁ [] 0 0 := Stand.of_body Bd
  have eh0 : s₁.heap = h0 := by rw [← hh, Bd.state]; rfl
  have N0 := Fr.nil n0
  have tw204 := hw _ (List.mem_of_getElem? (i := 204) rfl)
  have tw205 := hw _ (List.mem_of_getElem? (i := 205) rfl)
  have tw206 := hw _ (List.mem_of_getElem? (i := 206) rfl)
  have tw207 := hw _ (List.mem_of_getElem? (i := 207) rfl)
  have tw208 := hw _ (List.mem_of_getElem? (i := 208) rfl)
  have tw210 := hw _ (List.mem_of_getElem? (i := 210) rfl)
  have tw217 := hw _ (List.mem_of_getElem? (i := 217) rfl)
  have tw220 := hw _ (List.mem_of_getElem? (i := 220) rfl)
  show Goes p e below (Pq (Q_lof1 Z b1 k1 x0 em h0 n0) s rom14.cells rom14.slots) (s₁.setTop (entryFrame m #[(.ref b1)] 2))
  refine Goes.step (S' := s₁.setTop (mkF m 0 #[.val (.ref b1), .unset] [])) (fun t k => castTop (ef_lof1 m b1) k) ?_
  refine Goes.step (S' := s₁.setTop (mkF m 1 #[.val (.ref b1), .unset] [(.ref b1)])) (fun t k => XS.aloadN X0.here hx rfl (hb hby dk179) rfl rfl k) ?_
  obtain ⟨cl101, Ar101, qk101, Sz101, Nn101, Hs101, Gs101⟩ := id V1
  refine Goes.step (S' := s₁.setTop (mkF m 2 #[.val (.ref b1), .unset] [(.int (1 : Int32))])) (fun t k => X0.arraylength hx (by rw [eh0]; exact Ar101.1) (State.isArrayOf_alike hZ.alike Ar101.2.1) (g := (mkF m 1 #[.val (.ref b1), .unset] [(.ref b1)])) rfl rfl (hb hby dk180) _ (by rw [len_of Sz101 Nn101]; exact k)) ?_
  refine Goes.step (S' := s₁.setTop (mkF m 34 #[.val (.ref b1), .unset] [])) (fun t k => XS.tswIn X0.here hx rfl (pc0 := 2) (pc' := 34) (o := 32) rfl (hb hby dk181) rfl (by rw [(rfl : (1 : Int32) = (1 : Int32))]; decide) (by rw [(rfl : (1 : Int32) = (1 : Int32))]; rfl) (by decide) (by decide) k) ?_
  obtain ⟨T102, h102, X102, e102, E102, A102, D102, U102, st102⟩ := newO X0 hx hZ hown tw204 tw205 tw206 eh0 (g := (mkF m 34 #[.val (.ref b1), .unset] [])) rfl (hb hby dk182) (by decide) (by decide)
  obtain ⟨b102, g102⟩ : ∃ z, z = h0.size := ⟨_, rfl⟩
  rw [← g102] at A102 D102 U102 st102
  have F102_e0 : Fld Z h102 b102 "java/util/ImmutableCollections$List12" "e0" "Ljava/lang/Object;" .null := D102 (Or.inr tw217) (ty := (.object "java/lang/Object")) (by decide)
  have F102_e1 : Fld Z h102 b102 "java/util/ImmutableCollections$List12" "e1" "Ljava/lang/Object;" .null := D102 (Or.inr tw220) (ty := (.object "java/lang/Object")) (by decide)
  refine Goes.step (S' := T102.setTop (mkF m 40 #[.val (.ref b1), .unset] [(.int (0 : Int32)), (.ref b1), (.ref b102), (.ref b102)])) (fun t k => st102 _ (XS.dup X102.here hx rfl (hb hby dk183) rfl rfl (XS.aloadN X102.here hx rfl (hb hby dk184) rfl rfl (XS.iconst X102.here hx rfl (hb hby dk185) k)))) ?_
  obtain ⟨cl103, Ar103, qk103, Sz103, Nn103, Hs103, Gs103⟩ := id (V1.ext E102)
  have hin103 := (inb_of (j := (0 : Int32)) Sz103 ⟨by decide, by decide⟩)
  refine Goes.step (S' := T102.setTop (mkF m 41 #[.val (.ref b1), .unset] [(.ref x0), (.ref b102), (.ref b102)])) (fun t k => X102.aaload hx (j := (0 : Int32)) (v := (.ref x0)) (by rw [e102]; exact Ar103.1) (State.isArrayOf_alike hZ.alike Ar103.2.1) rfl Ar103.2.2 hin103 (Has.at Hs103 hin103 rfl) (g := (mkF m 40 #[.val (.ref b1), .unset] [(.int (0 : Int32)), (.ref b1), (.ref b102), (.ref b102)])) rfl rfl (hb hby dk186) _ k) ?_
  obtain ⟨_, _, ⟨T104, L104, k104, n104⟩, -, X104, ⟨Lc104, hQ104, l104, y104, z104⟩, st104⟩ := X102.specialBack hx (y := mth15) rfl hown (mvT hZ tw207) (mvT hZ tw208) (mvT hZ tw210) (by decide) (backOf (W := 1) (l12a l Z a0 hw [] b102 x0 em h102 n0 (Nat.le_trans Z0 E102.1) A102 F102_e0 F102_e1 (Nat.le_trans Z0 (Nat.le_of_eq g102.symm)) (Sta.ext E102 SE)) hZ tw210 tw206 (by decide) (by decide)) (g := (mkF m 41 #[.val (.ref b1), .unset] [(.ref x0), (.ref b102), (.ref b102)])) rfl (by rw [hml]; rfl) (Steps.refl _) (a := b102) (argsL := [(.ref x0)]) (rest := [(.ref b102)]) (lenOf pd_Ljava_lang_Object__V rfl) rfl (Nat.le_of_eq rfl) (hb hby dk187) (fun _ _ => ⟨rfl, e102, (by decide : 1 + 0 ≤ _), (by decide : 2 + 0 ≤ _)⟩)
  dsimp only [Pt.U, Pt.locs, Pt.cells, Pt.slots] at X104 l104 y104 z104 st104 hQ104
  subst y104 z104
  obtain ⟨rfl, Nq104, q104_0, q104_1, q104_2, q104_3⟩ := hQ104
  have N104 : Fr n0 L104 := by rw [l104]; exact Fr.app N0 Nq104
  refine Goes.step (S' := T104.setTop (mkF m 44 #[.val (.ref b1), .unset] [(.ref b102)])) (fun t k => st104.trans k) ?_
  refine Goes.leave (g := (mkF m 44 #[.val (.ref b1), .unset] [(.ref b102)])) X104 Bd.notSynchronized (v := (some (.ref b102))) (fun h => by rw [Bd.returns] at h; cases h) (fun fs hr => by jvm_step X104.here [X104.here.top, hx, (hb hby dk188), X104.method', Bd.returns, Value.isRef, FieldType.isReference]; (first | (intro acts; rw [hr _ acts rfl rfl rfl]) | rw [hr _ _ rfl rfl rfl]); exact Steps.refl _) rfl ?_ (by decide) (by decide)
  exact ⟨b102, rfl, N104, (((Keep.refl _ []).ext E102).trans q104_0 (allS (Or.inr (Nat.le_of_eq g102.symm)) all0)), (Nat.le_of_eq g102.symm), q104_1, q104_2, q104_3⟩

theorem ef_lcp1 (m : MethodId) (x0 : Addr) : entryFrame m #[(.ref x0)] 2 = mkF m 0 #[.val (.ref x0), .unset] [] := by first | (simp [entryFrame, mkF, argsToLocals, Value.category]; done) | rfl
def Q_lcp1 (Z : State) (a1 : Addr) (b1 : Addr) (k1 : ClassId) (mr : Addr) (x0 : Addr) (em : Addr) (h0 : Heap) (n0 : Nat) (v : Option Value) (h : Heap) (L : List Loc) : Prop := ∃ (r : Addr), v = some (.ref r) ∧ Fr n0 L ∧ Keep h0 h [] ∧ h0.size ≤ r ∧ Exa Z h r "java/util/ImmutableCollections$List12" ∧ Fld Z h r "java/util/ImmutableCollections$List12" "e0" "Ljava/lang/Object;" (.ref x0) ∧ Fld Z h r "java/util/ImmutableCollections$List12" "e1" "Ljava/lang/Object;" (.ref em)
set_option maxRecDepth 65536 in
set_option maxHeartbeats 40000000 in
theorem lcp1 (l : Launch) (Z : State) (a0 : Array Value) (hw : ∀ d ∈ tables_1, d.before a0 Z = true) (ws : List Jvm.Cond) (a1 : Addr) (b1 : Addr) (k1 : ClassId) (mr : Addr) (x0 : Addr) (em : Addr) (h0 : Heap) (n0 : Nat) (Z0 : n0 ≤ h0.size) (E1 : Exa Z h0 a1 "java/util/ArrayList") (Fe : Fld Z h0 a1 "java/util/ArrayList" "elementData" "[Ljava/lang/Object;" (.ref b1)) (Fz : Fld Z h0 a1 "java/util/ArrayList" "size" "I" (.int (1 : Int32))) (V1 : Arv Z h0 b1 k1 (.object "java/lang/Object") (10 : Int32) [(.ref x0), .null, .null, .null, .null, .null, .null, .null, .null, .null] .null) (Eb : Exa Z h0 b1 "[Ljava/lang/Object;") (Ex0 : Exa Z h0 x0 "java/lang/Integer") (SE : Sta Z h0 "java/util/ImmutableCollections" "EMPTY" "Ljava/lang/Object;" (.ref em)) (MI : MirO Z "[Ljava/lang/Object;" mr) :
    MetFree l mth24 (head1 (Jvm.Cond.code mth24 jdk_56_method_3_code 2 (some (.object "java/util/List")) :: ws) rom15) (fun a U => a = #[(.ref a1)] ∧ Z.Warmed39 U.vm ∧ U.heap = h0) (fun _ _ _ _ _ => True) (fun _ U o U' => ∃ v L, o = .returned v ∧ Q_lcp1 Z a1 b1 k1 mr x0 em h0 n0 v U'.heap L ∧ FrameEnd U o U' L rom15.cells rom15.slots) := by
  refine MetFree.of_bodySF (plainFor_of_name pnm12) hisR ?_
  intro p e s m args below meth c s₁ Bd hml0 hP hK
  obtain ⟨rfl, hZ, hh⟩ := hP
  have hx := Bd.exec
  have hby := Bd.bytes
  have hml : c.maxLocals = 2 := hml0
  have hown : s.vm.findClass "java/util/ImmutableCollections" = some m.cls := findClass_of_methodNamed Bd.named
  have hnm := (name_of_methodNamed Bd.named Bd.method).1
  have X0 : Stand p l e rom15 s m #[(.ref a1)] below meth c s₁ [] 0 0 := Stand.of_body Bd
  have eh0 : s₁.heap = h0 := by rw [← hh, Bd.state]; rfl
  have N0 := Fr.nil n0
  have tw14 := hw _ (List.mem_of_getElem? (i := 14) rfl)
  have tw86 := hw _ (List.mem_of_getElem? (i := 86) rfl)
  have tw92 := hw _ (List.mem_of_getElem? (i := 92) rfl)
  have tw93 := hw _ (List.mem_of_getElem? (i := 93) rfl)
  have tw94 := hw _ (List.mem_of_getElem? (i := 94) rfl)
  have tw95 := hw _ (List.mem_of_getElem? (i := 95) rfl)
  have tw96 := hw _ (List.mem_of_getElem? (i := 96) rfl)
  have tw97 := hw _ (List.mem_of_getElem? (i := 97) rfl)
  have tw98 := hw _ (List.mem_of_getElem? (i := 98) rfl)
  have tw99 := hw _ (List.mem_of_getElem? (i := 99) rfl)
  have tw100 := hw _ (List.mem_of_getElem? (i := 100) rfl)
  have tw101 := hw _ (List.mem_of_getElem? (i := 101) rfl)
  have tw102 := hw _ (List.mem_of_getElem? (i := 102) rfl)
  have tw103 := hw _ (List.mem_of_getElem? (i := 103) rfl)
  have tw104 := hw _ (List.mem_of_getElem? (i := 104) rfl)
  have tw105 := hw _ (List.mem_of_getElem? (i := 105) rfl)
  have tw106 := hw _ (List.mem_of_getElem? (i := 106) rfl)
  have tw107 := hw _ (List.mem_of_getElem? (i := 107) rfl)
  have tw108 := hw _ (List.mem_of_getElem? (i := 108) rfl)
  have tw109 := hw _ (List.mem_of_getElem? (i := 109) rfl)
  have tw110 := hw _ (List.mem_of_getElem? (i := 110) rfl)
  have tw111 := hw _ (List.mem_of_getElem? (i := 111) rfl)
  have tw112 := hw _ (List.mem_of_getElem? (i := 112) rfl)
  have tw113 := hw _ (List.mem_of_getElem? (i := 113) rfl)
  have tw114 := hw _ (List.mem_of_getElem? (i := 114) rfl)
  have tw135 := hw _ (List.mem_of_getElem? (i := 135) rfl)
  have tw136 := hw _ (List.mem_of_getElem? (i := 136) rfl)
  have tw137 := hw _ (List.mem_of_getElem? (i := 137) rfl)
  have tw146 := hw _ (List.mem_of_getElem? (i := 146) rfl)
  have tw205 := hw _ (List.mem_of_getElem? (i := 205) rfl)
  show Goes p e below (Pq (Q_lcp1 Z a1 b1 k1 mr x0 em h0 n0) s rom15.cells rom15.slots) (s₁.setTop (entryFrame m #[(.ref a1)] 2))
  refine Goes.step (S' := s₁.setTop (mkF m 0 #[.val (.ref a1), .unset] [])) (fun t k => castTop (ef_lcp1 m a1) k) ?_
  refine Goes.step (S' := s₁.setTop (mkF m 1 #[.val (.ref a1), .unset] [(.ref a1)])) (fun t k => XS.aloadN X0.here hx rfl (hb hby dk189) rfl rfl k) ?_
  obtain ⟨T101, X101, e101, st101⟩ := instNo X0 hx hZ hown tw92 eh0 E1 (own_nsNo tw93 tw205 (NS.step tw93 (NS.step tw94 (NS.step tw95 (own_nsRoot tw96 tw205 (by decide)) (by decide)) (by decide)) (by decide)) (by decide)) (g := (mkF m 1 #[.val (.ref a1), .unset] [(.ref a1)])) rfl rfl (hb hby dk190)
  refine Goes.step (S' := T101.setTop (mkF m 8 #[.val (.ref a1), .unset] [(.ref a1)])) (fun t k => st101 _ (XS.ifNo X101.here hx rfl (hb hby dk191) rfl ((if0 _ _).trans (teq ((by decide) : (0 : Int32) = (0 : Int32))).2) (XS.aloadN X101.here hx rfl (hb hby dk192) rfl rfl k))) ?_
  obtain ⟨T102, X102, e102, st102⟩ := instNo X101 hx hZ hown tw97 e101 E1 (own_nsNo tw93 tw146 (NS.step tw93 (NS.step tw94 (NS.step tw95 (own_nsRoot tw96 tw146 (by decide)) (by decide)) (by decide)) (by decide)) (by decide)) (g := (mkF m 8 #[.val (.ref a1), .unset] [(.ref a1)])) rfl rfl (hb hby dk193)
  refine Goes.step (S' := T102.setTop (mkF m 32 #[.val (.ref a1), .unset] [(.ref a1)])) (fun t k => st102 _ (XS.ifYes X102.here hx rfl (pc0 := 11) (pc' := 31) rfl (hb hby dk194) rfl ((if0 _ _).trans (teq ((by decide) : (0 : Int32) = (0 : Int32))).1) (by decide) (by decide) (XS.aloadN X102.here hx rfl (hb hby dk195) rfl rfl k))) ?_
  obtain ⟨cq103, kq103, q103a, q103b, q103c⟩ := isOf hZ e102 E1
  obtain ⟨_, _, ⟨T103, L103, k103, n103⟩, -, X103, ⟨Lc103, hQ103, l103, y103, z103⟩, st103⟩ := X102.interfaceBack hx (xi := mth22) (y := mth11) hown (mvT hZ tw98) (mvT hZ tw99) (mvT hZ tw100) (mvT hZ tw101) (mvT hZ tw102) (mvT hZ tw103) (mvT hZ tw104) (mvT hZ tw105) (by decide) (backOf (W := 0) (ise l Z a0 hw [] a1 (1 : Int32) h0 n0 Z0 Fz ((by decide) : ¬ ((1 : Int32) = (0 : Int32)))) hZ tw106 tw14 (by decide) (by decide)) q103a q103b q103c (g := (mkF m 32 #[.val (.ref a1), .unset] [(.ref a1)])) rfl (by rw [hml]; rfl) (Steps.refl _) (argsL := []) (rest := []) (lenOf pd_Z rfl) rfl (Nat.le_of_eq rfl) (hb hby dk196) (fun _ _ => ⟨rfl, e102, (by decide : 0 + 0 ≤ _), (by decide : 0 + 0 ≤ _)⟩)
  dsimp only [Pt.U, Pt.locs, Pt.cells, Pt.slots] at X103 l103 y103 z103 st103 hQ103
  subst y103 z103
  obtain ⟨rfl, Nq103, q103_0⟩ := hQ103
  have N103 : Fr n0 L103 := by rw [l103]; exact Fr.app N0 Nq103
  refine Goes.step (S' := T103.setTop (mkF m 45 #[.val (.ref a1), .unset] [(.ref a1)])) (fun t k => st103.trans (XS.ifYes X103.here hx rfl (pc0 := 37) (pc' := 44) rfl (hb hby dk197) rfl ((if0 _ _).trans (teq ((by decide) : (0 : Int32) = (0 : Int32))).1) (by decide) (by decide) (XS.aloadN X103.here hx rfl (hb hby dk198) rfl rfl k))) ?_
  obtain ⟨cq104, kq104, q104a, q104b, q104c⟩ := isOf hZ q103_0 E1
  obtain ⟨_, _, ⟨T104, L104, k104, n104⟩, -, X104, ⟨Lc104, hQ104, l104, y104, z104⟩, st104⟩ := X103.interfaceBack hx (xi := mth23) (y := mth20) hown (mvT hZ tw107) (mvT hZ tw108) (mvT hZ tw109) (mvT hZ tw110) (mvT hZ tw111) (mvT hZ tw112) (mvT hZ tw113) (mvT hZ tw105) (by decide) (backOf (W := 0) (toa1 l Z a0 hw [] a1 b1 k1 mr x0 h0 n0 Z0 E1 Fe Fz V1 Eb Ex0 MI) hZ tw114 tw14 (by decide) (by decide)) q104a q104b q104c (g := (mkF m 45 #[.val (.ref a1), .unset] [(.ref a1)])) rfl (by rw [hml]; rfl) (Steps.refl _) (argsL := []) (rest := []) (lenOf pd_Ljava_lang_Object rfl) rfl (Nat.le_of_eq rfl) (hb hby dk199) (fun _ _ => ⟨rfl, q103_0, (by decide : 0 + 1 ≤ _), (by decide : 0 + 1 ≤ _)⟩)
  dsimp only [Pt.U, Pt.locs, Pt.cells, Pt.slots] at X104 l104 y104 z104 st104 hQ104
  subst y104 z104
  obtain ⟨b_104, kb_104, rfl, Nq104, q104_0, q104_1, q104_2, q104_3⟩ := hQ104
  have N104 : Fr n0 L104 := by rw [l104]; exact Fr.app N103 Nq104
  refine Goes.step (S' := T104.setTop (mkF m 50 #[.val (.ref a1), .unset] [(.ref b_104)])) (fun t k => st104.trans k) ?_
  obtain ⟨_, _, ⟨T105, L105, k105, n105⟩, -, X105, ⟨Lc105, hQ105, l105, y105, z105⟩, st105⟩ := Jvm.LawKit.callS X104 hx (y := mth21) hown (mvT hZ tw135) (mvT hZ tw136) (mvT hZ tw86) (mvT hZ tw137) (by decide) (backOf (W := 0) (lof1 l Z a0 hw [] b_104 kb_104 x0 em T104.heap n0 (Nat.le_trans Z0 q104_0.1) q104_3 q104_2 (Ex0.keep q104_0) (own_stakeep SE q104_0 ns0)) hZ tw137 tw86 (by decide) (by decide)) (g := (mkF m 50 #[.val (.ref a1), .unset] [(.ref b_104)])) rfl (by rw [hml]; rfl) (argsL := [(.ref b_104)]) (rest := []) (lenOf pd_Ljava_lang_Object__Ljava_util_List rfl) rfl (Nat.le_of_eq rfl) (hb hby dk200) (fun _ _ => ⟨rfl, rfl, (by decide : 1 + 1 ≤ _), (by decide : 1 + 2 ≤ _)⟩)
  dsimp only [Pt.U, Pt.locs, Pt.cells, Pt.slots] at X105 l105 y105 z105 st105 hQ105
  subst y105 z105
  obtain ⟨r_105, rfl, Nq105, q105_0, q105_1, q105_2, q105_3, q105_4⟩ := hQ105
  have N105 : Fr n0 L105 := by rw [l105]; exact Fr.app N104 Nq105
  refine Goes.step (S' := T105.setTop (mkF m 53 #[.val (.ref a1), .unset] [(.ref r_105)])) (fun t k => st105 _ k) ?_
  refine Goes.leave (g := (mkF m 53 #[.val (.ref a1), .unset] [(.ref r_105)])) X105 Bd.notSynchronized (v := (some (.ref r_105))) (fun h => by rw [Bd.returns] at h; cases h) (fun fs hr => by jvm_step X105.here [X105.here.top, hx, (hb hby dk201), X105.method', Bd.returns, Value.isRef, FieldType.isReference]; (first | (intro acts; rw [hr _ acts rfl rfl rfl]) | rw [hr _ _ rfl rfl rfl]); exact Steps.refl _) rfl ?_ (by decide) (by decide)
  exact ⟨r_105, rfl, N105, (((Keep.refl _ []).trans q104_0 all0).trans q105_0 all0), (Nat.le_trans q104_0.1 q105_1), q105_2, q105_3, q105_4⟩

theorem ef_lco1 (m : MethodId) (x0 : Addr) : entryFrame m #[(.ref x0)] 1 = mkF m 0 #[.val (.ref x0)] [] := by first | (simp [entryFrame, mkF, argsToLocals, Value.category]; done) | rfl
def Q_lco1 (Z : State) (a1 : Addr) (b1 : Addr) (k1 : ClassId) (mr : Addr) (x0 : Addr) (em : Addr) (h0 : Heap) (n0 : Nat) (v : Option Value) (h : Heap) (L : List Loc) : Prop := ∃ (r : Addr), v = some (.ref r) ∧ Fr n0 L ∧ Keep h0 h [] ∧ h0.size ≤ r ∧ Exa Z h r "java/util/ImmutableCollections$List12" ∧ Fld Z h r "java/util/ImmutableCollections$List12" "e0" "Ljava/lang/Object;" (.ref x0) ∧ Fld Z h r "java/util/ImmutableCollections$List12" "e1" "Ljava/lang/Object;" (.ref em)
set_option maxRecDepth 65536 in
set_option maxHeartbeats 40000000 in
theorem lco1 (l : Launch) (Z : State) (a0 : Array Value) (hw : ∀ d ∈ tables_1, d.before a0 Z = true) (ws : List Jvm.Cond) (a1 : Addr) (b1 : Addr) (k1 : ClassId) (mr : Addr) (x0 : Addr) (em : Addr) (h0 : Heap) (n0 : Nat) (Z0 : n0 ≤ h0.size) (E1 : Exa Z h0 a1 "java/util/ArrayList") (Fe : Fld Z h0 a1 "java/util/ArrayList" "elementData" "[Ljava/lang/Object;" (.ref b1)) (Fz : Fld Z h0 a1 "java/util/ArrayList" "size" "I" (.int (1 : Int32))) (V1 : Arv Z h0 b1 k1 (.object "java/lang/Object") (10 : Int32) [(.ref x0), .null, .null, .null, .null, .null, .null, .null, .null, .null] .null) (Eb : Exa Z h0 b1 "[Ljava/lang/Object;") (Ex0 : Exa Z h0 x0 "java/lang/Integer") (SE : Sta Z h0 "java/util/ImmutableCollections" "EMPTY" "Ljava/lang/Object;" (.ref em)) (MI : MirO Z "[Ljava/lang/Object;" mr) :
    MetFree l mth25 (head1 (Jvm.Cond.code mth25 jdk_40_method_48_code 1 (some (.object "java/util/List")) :: ws) rom16) (fun a U => a = #[(.ref a1)] ∧ Z.Warmed39 U.vm ∧ U.heap = h0) (fun _ _ _ _ _ => True) (fun _ U o U' => ∃ v L, o = .returned v ∧ Q_lco1 Z a1 b1 k1 mr x0 em h0 n0 v U'.heap L ∧ FrameEnd U o U' L rom16.cells rom16.slots) := by
  refine MetFree.of_bodySF (plainFor_of_name pnm11) hisR ?_
  intro p e s m args below meth c s₁ Bd hml0 hP hK
  obtain ⟨rfl, hZ, hh⟩ := hP
  have hx := Bd.exec
  have hby := Bd.bytes
  have hml : c.maxLocals = 1 := hml0
  have hown : s.vm.findClass "java/util/List" = some m.cls := findClass_of_methodNamed Bd.named
  have hnm := (name_of_methodNamed Bd.named Bd.method).1
  have X0 : Stand p l e rom16 s m #[(.ref a1)] below meth c s₁ [] 0 0 := Stand.of_body Bd
  have eh0 : s₁.heap = h0 := by rw [← hh, Bd.state]; rfl
  have N0 := Fr.nil n0
  have tw88 := hw _ (List.mem_of_getElem? (i := 88) rfl)
  have tw89 := hw _ (List.mem_of_getElem? (i := 89) rfl)
  have tw90 := hw _ (List.mem_of_getElem? (i := 90) rfl)
  have tw91 := hw _ (List.mem_of_getElem? (i := 91) rfl)
  show Goes p e below (Pq (Q_lco1 Z a1 b1 k1 mr x0 em h0 n0) s rom16.cells rom16.slots) (s₁.setTop (entryFrame m #[(.ref a1)] 1))
  refine Goes.step (S' := s₁.setTop (mkF m 0 #[.val (.ref a1)] [])) (fun t k => castTop (ef_lco1 m a1) k) ?_
  refine Goes.step (S' := s₁.setTop (mkF m 1 #[.val (.ref a1)] [(.ref a1)])) (fun t k => XS.aloadN X0.here hx rfl (hb hby dk202) rfl rfl k) ?_
  obtain ⟨_, _, ⟨T101, L101, k101, n101⟩, -, X101, ⟨Lc101, hQ101, l101, y101, z101⟩, st101⟩ := Jvm.LawKit.callS X0 hx (y := mth24) hown (mvT hZ tw88) (mvT hZ tw89) (mvT hZ tw90) (mvT hZ tw91) (by decide) (backOf (W := 0) (lcp1 l Z a0 hw [] a1 b1 k1 mr x0 em h0 n0 Z0 E1 Fe Fz V1 Eb Ex0 SE MI) hZ tw91 tw90 (by decide) (by decide)) (g := (mkF m 1 #[.val (.ref a1)] [(.ref a1)])) rfl (by rw [hml]; rfl) (argsL := [(.ref a1)]) (rest := []) (lenOf pd_Ljava_util_Collection__Ljava_util_List rfl) rfl (Nat.le_of_eq rfl) (hb hby dk203) (fun _ _ => ⟨rfl, eh0, (by decide : 0 + 2 ≤ _), (by decide : 0 + 3 ≤ _)⟩)
  dsimp only [Pt.U, Pt.locs, Pt.cells, Pt.slots] at X101 l101 y101 z101 st101 hQ101
  subst y101 z101
  obtain ⟨r_101, rfl, Nq101, q101_0, q101_1, q101_2, q101_3, q101_4⟩ := hQ101
  have N101 : Fr n0 L101 := by rw [l101]; exact Fr.app N0 Nq101
  refine Goes.step (S' := T101.setTop (mkF m 4 #[.val (.ref a1)] [(.ref r_101)])) (fun t k => st101 _ k) ?_
  refine Goes.leave (g := (mkF m 4 #[.val (.ref a1)] [(.ref r_101)])) X101 Bd.notSynchronized (v := (some (.ref r_101))) (fun h => by rw [Bd.returns] at h; cases h) (fun fs hr => by jvm_step X101.here [X101.here.top, hx, (hb hby dk204), X101.method', Bd.returns, Value.isRef, FieldType.isReference]; (first | (intro acts; rw [hr _ acts rfl rfl rfl]) | rw [hr _ _ rfl rfl rfl]); exact Steps.refl _) rfl ?_ (by decide) (by decide)
  exact ⟨r_101, rfl, N101, ((Keep.refl _ []).trans q101_0 all0), q101_1, q101_2, q101_3, q101_4⟩

theorem ef_vpi1 (m : MethodId) (x0 : Addr) (x1 : Int32) (x2 : Int32) (x3 : Addr) : entryFrame m #[(.ref x0), (.int x1), (.int x2), (.ref x3)] 4 = mkF m 0 #[.val (.ref x0), .val (.int x1), .val (.int x2), .val (.ref x3)] [] := by first | (simp [entryFrame, mkF, argsToLocals, Value.category]; done) | rfl
def Q_vpi1 (Z : State) (a1 : Addr) (q1 : Int32) (q2 : Int32) (a2 : Addr) (b1 : Addr) (k1 : ClassId) (mr : Addr) (x0 : Addr) (em : Addr) (h0 : Heap) (n0 : Nat) (v : Option Value) (h : Heap) (L : List Loc) : Prop := ∃ (r : Addr), v = none ∧ Fr n0 L ∧ Keep h0 h [a1] ∧ Exa Z h a1 "com/example/planwright/planwright/model/VestingProvisions" ∧ Fld Z h a1 "com/example/planwright/planwright/model/VestingProvisions" "vestedPercentByYears" "Ljava/util/List;" (.ref r) ∧ h0.size ≤ r ∧ Exa Z h r "java/util/ImmutableCollections$List12" ∧ Fld Z h r "java/util/ImmutableCollections$List12" "e0" "Ljava/lang/Object;" (.ref x0) ∧ Fld Z h r "java/util/ImmutableCollections$List12" "e1" "Ljava/lang/Object;" (.ref em)
set_option maxRecDepth 65536 in
set_option maxHeartbeats 40000000 in
theorem vpi1 (l : Launch) (Z : State) (a0 : Array Value) (hw : ∀ d ∈ tables_1, d.before a0 Z = true) (ws : List Jvm.Cond) (a1 : Addr) (q1 : Int32) (q2 : Int32) (a2 : Addr) (b1 : Addr) (k1 : ClassId) (mr : Addr) (x0 : Addr) (em : Addr) (h0 : Heap) (n0 : Nat) (Z0 : n0 ≤ h0.size) (E1 : Exa Z h0 a1 "com/example/planwright/planwright/model/VestingProvisions") (Fy : Fld Z h0 a1 "com/example/planwright/planwright/model/VestingProvisions" "yearOfServiceHours" "I" (.int (0 : Int32))) (Fk : Fld Z h0 a1 "com/example/planwright/planwright/model/VestingProvisions" "breakInServiceBelowHours" "I" (.int (0 : Int32))) (Fv : Fld Z h0 a1 "com/example/planwright/planwright/model/VestingProvisions" "vestedPercentByYears" "Ljava/util/List;" .null) (G1 : n0 ≤ a1) (E2 : Exa Z h0 a2 "java/util/ArrayList") (Fe : Fld Z h0 a2 "java/util/ArrayList" "elementData" "[Ljava/lang/Object;" (.ref b1)) (Fz : Fld Z h0 a2 "java/util/ArrayList" "size" "I" (.int (1 : Int32))) (V1 : Arv Z h0 b1 k1 (.object "java/lang/Object") (10 : Int32) [(.ref x0), .null, .null, .null, .null, .null, .null, .null, .null, .null] .null) (Eb : Exa Z h0 b1 "[Ljava/lang/Object;") (Ex0 : Exa Z h0 x0 "java/lang/Integer") (SE : Sta Z h0 "java/util/ImmutableCollections" "EMPTY" "Ljava/lang/Object;" (.ref em)) (MI : MirO Z "[Ljava/lang/Object;" mr) :
    MetFree l mth26 (head1 (Jvm.Cond.code mth26 prog_32_method_1_code 4 none :: ws) rom17) (fun a U => a = #[(.ref a1), (.int q1), (.int q2), (.ref a2)] ∧ Z.Warmed39 U.vm ∧ U.heap = h0) (fun _ _ _ _ _ => True) (fun _ U o U' => ∃ v L, o = .returned v ∧ Q_vpi1 Z a1 q1 q2 a2 b1 k1 mr x0 em h0 n0 v U'.heap L ∧ FrameEnd U o U' L rom17.cells rom17.slots) := by
  refine MetFree.of_bodySF (plainFor_of_name pnm13) hisR ?_
  intro p e s m args below meth c s₁ Bd hml0 hP hK
  obtain ⟨rfl, hZ, hh⟩ := hP
  have hx := Bd.exec
  have hby := Bd.bytes
  have hml : c.maxLocals = 4 := hml0
  have hown : s.vm.findClass "com/example/planwright/planwright/model/VestingProvisions" = some m.cls := findClass_of_methodNamed Bd.named
  have hnm := (name_of_methodNamed Bd.named Bd.method).1
  have X0 : Stand p l e rom17 s m #[(.ref a1), (.int q1), (.int q2), (.ref a2)] below meth c s₁ [] 0 0 := Stand.of_body Bd
  have eh0 : s₁.heap = h0 := by rw [← hh, Bd.state]; rfl
  have N0 := Fr.nil n0
  have tw31 := hw _ (List.mem_of_getElem? (i := 31) rfl)
  have tw32 := hw _ (List.mem_of_getElem? (i := 32) rfl)
  have tw74 := hw _ (List.mem_of_getElem? (i := 74) rfl)
  have tw79 := hw _ (List.mem_of_getElem? (i := 79) rfl)
  have tw80 := hw _ (List.mem_of_getElem? (i := 80) rfl)
  have tw81 := hw _ (List.mem_of_getElem? (i := 81) rfl)
  have tw82 := hw _ (List.mem_of_getElem? (i := 82) rfl)
  have tw83 := hw _ (List.mem_of_getElem? (i := 83) rfl)
  have tw84 := hw _ (List.mem_of_getElem? (i := 84) rfl)
  have tw85 := hw _ (List.mem_of_getElem? (i := 85) rfl)
  have tw86 := hw _ (List.mem_of_getElem? (i := 86) rfl)
  have tw87 := hw _ (List.mem_of_getElem? (i := 87) rfl)
  have tw170 := hw _ (List.mem_of_getElem? (i := 170) rfl)
  have tw171 := hw _ (List.mem_of_getElem? (i := 171) rfl)
  show Goes p e below (Pq (Q_vpi1 Z a1 q1 q2 a2 b1 k1 mr x0 em h0 n0) s rom17.cells rom17.slots) (s₁.setTop (entryFrame m #[(.ref a1), (.int q1), (.int q2), (.ref a2)] 4))
  refine Goes.step (S' := s₁.setTop (mkF m 0 #[.val (.ref a1), .val (.int q1), .val (.int q2), .val (.ref a2)] [])) (fun t k => castTop (ef_vpi1 m a1 q1 q2 a2) k) ?_
  refine Goes.step (S' := s₁.setTop (mkF m 1 #[.val (.ref a1), .val (.int q1), .val (.int q2), .val (.ref a2)] [(.ref a1)])) (fun t k => XS.aloadN X0.here hx rfl (hb hby dk205) rfl rfl k) ?_
  obtain ⟨T101, X101, e101, st101⟩ := initO X0 hx hZ hown tw79 tw31 tw32 eh0 (g := (mkF m 1 #[.val (.ref a1), .val (.int q1), .val (.int q2), .val (.ref a2)] [(.ref a1)])) rfl (by rw [hml]; rfl) rfl (hb hby dk206) (by decide) (W := 0) (Nat.le_of_eq rfl) (by decide)
  refine Goes.step (S' := T101.setTop (mkF m 6 #[.val (.ref a1), .val (.int q1), .val (.int q2), .val (.ref a2)] [(.int q1), (.ref a1)])) (fun t k => st101 _ (XS.aloadN X101.here hx rfl (hb hby dk207) rfl rfl (XS.iloadN X101.here hx rfl (hb hby dk208) rfl k))) ?_
  obtain ⟨T102, h102, X102, e102, W102, st102⟩ := putF X101 hx hZ hown (host := "") (Or.inl tw80) Via.refl e101 Fy E1 (Or.inr ⟨tw81, rfl, hnm⟩) tw74 (ty := .int) (by decide) rfl rfl (g := (mkF m 6 #[.val (.ref a1), .val (.int q1), .val (.int q2), .val (.ref a2)] [(.int q1), (.ref a1)])) rfl rfl (hb hby dk209)
  have Fw102 : Fld Z h102 a1 "com/example/planwright/planwright/model/VestingProvisions" "yearOfServiceHours" "I" (.int q1) := Fld.same W102 Fy
  have N102 := Fr.snoc X102 N0 G1
  refine Goes.step (S' := T102.setTop (mkF m 11 #[.val (.ref a1), .val (.int q1), .val (.int q2), .val (.ref a2)] [(.int q2), (.ref a1)])) (fun t k => st102 _ (XS.aloadN X102.here hx rfl (hb hby dk210) rfl rfl (XS.iloadN X102.here hx rfl (hb hby dk211) rfl k))) ?_
  obtain ⟨T103, h103, X103, e103, W103, st103⟩ := putF X102 hx hZ hown (host := "") (Or.inl tw82) Via.refl e102 (Fld.other W102 Fk (Or.inr (slot_ne (Or.inr tw83) (Or.inr tw81) (by decide) (t := .int) (t' := .int) (by decide) (by decide)))) (Exa.wr W102 E1) (Or.inr ⟨tw83, rfl, hnm⟩) tw74 (ty := .int) (by decide) rfl rfl (g := (mkF m 11 #[.val (.ref a1), .val (.int q1), .val (.int q2), .val (.ref a2)] [(.int q2), (.ref a1)])) rfl rfl (hb hby dk212)
  have Fw103 : Fld Z h103 a1 "com/example/planwright/planwright/model/VestingProvisions" "breakInServiceBelowHours" "I" (.int q2) := Fld.same W103 (Fld.other W102 Fk (Or.inr (slot_ne (Or.inr tw83) (Or.inr tw81) (by decide) (t := .int) (t' := .int) (by decide) (by decide))))
  have N103 := Fr.snoc X103 N102 G1
  refine Goes.step (S' := T103.setTop (mkF m 16 #[.val (.ref a1), .val (.int q1), .val (.int q2), .val (.ref a2)] [(.ref a2), (.ref a1)])) (fun t k => st103 _ (XS.aloadN X103.here hx rfl (hb hby dk213) rfl rfl (XS.aloadN X103.here hx rfl (hb hby dk214) rfl rfl k))) ?_
  obtain ⟨_, _, ⟨T104, L104, k104, n104⟩, -, X104, ⟨Lc104, hQ104, l104, y104, z104⟩, st104⟩ := Jvm.LawKit.callS X103 hx (y := mth25) hown (mvT hZ tw84) (mvT hZ tw85) (mvT hZ tw86) (mvT hZ tw87) (by decide) (backOf (W := 1) (lco1 l Z a0 hw [] a2 b1 k1 mr x0 em h103 n0 (Nat.le_trans Z0 (Nat.le_trans (Nat.le_of_eq W102.size.symm) (Nat.le_of_eq W103.size.symm))) (Exa.wr W103 (Exa.wr W102 E2)) (Fld.other W103 (Fld.other W102 Fe (Or.inl (Exa.ne E2 E1 (by decide)))) (Or.inl (Exa.ne (Exa.wr W102 E2) (Exa.wr W102 E1) (by decide)))) (Fld.other W103 (Fld.other W102 Fz (Or.inl (Exa.ne E2 E1 (by decide)))) (Or.inl (Exa.ne (Exa.wr W102 E2) (Exa.wr W102 E1) (by decide)))) ((V1.other W102 (Exa.ne Eb E1 (by decide))).other W103 (Exa.ne (Exa.wr W102 Eb) (Exa.wr W102 E1) (by decide))) (Exa.wr W103 (Exa.wr W102 Eb)) (Exa.wr W103 (Exa.wr W102 Ex0)) (Sta.wr W103 (Sta.wr W102 SE)) MI) hZ tw87 tw86 (by decide) (by decide)) (g := (mkF m 16 #[.val (.ref a1), .val (.int q1), .val (.int q2), .val (.ref a2)] [(.ref a2), (.ref a1)])) rfl (by rw [hml]; rfl) (argsL := [(.ref a2)]) (rest := [(.ref a1)]) (lenOf pd_Ljava_util_Collection__Ljava_util_List rfl) rfl (Nat.le_of_eq rfl) (hb hby dk215) (fun _ _ => ⟨rfl, e103, (by decide : 0 + 2 ≤ _), (by decide : 0 + 3 ≤ _)⟩)
  dsimp only [Pt.U, Pt.locs, Pt.cells, Pt.slots] at X104 l104 y104 z104 st104 hQ104
  subst y104 z104
  obtain ⟨r_104, rfl, Nq104, q104_0, q104_1, q104_2, q104_3, q104_4⟩ := hQ104
  have N104 : Fr n0 L104 := by rw [l104]; exact Fr.app N103 Nq104
  refine Goes.step (S' := T104.setTop (mkF m 19 #[.val (.ref a1), .val (.int q1), .val (.int q2), .val (.ref a2)] [(.ref r_104), (.ref a1)])) (fun t k => st104 _ k) ?_
  obtain ⟨T105, h105, X105, e105, W105, st105⟩ := putF X104 hx hZ hown (host := "") (Or.inl tw170) Via.refl rfl ((Fld.other W103 (Fld.other W102 Fv (Or.inr (slot_ne (Or.inr tw171) (Or.inr tw81) (by decide) (t := (.object "java/util/List")) (t' := .int) (by decide) (by decide)))) (Or.inr (slot_ne (Or.inr tw171) (Or.inr tw83) (by decide) (t := (.object "java/util/List")) (t' := .int) (by decide) (by decide)))).keep q104_0 nin0) ((Exa.wr W103 (Exa.wr W102 E1)).keep q104_0) (Or.inr ⟨tw171, rfl, hnm⟩) tw74 (ty := (.object "java/util/List")) (by decide) rfl rfl (g := (mkF m 19 #[.val (.ref a1), .val (.int q1), .val (.int q2), .val (.ref a2)] [(.ref r_104), (.ref a1)])) rfl rfl (hb hby dk216)
  have Fw105 : Fld Z h105 a1 "com/example/planwright/planwright/model/VestingProvisions" "vestedPercentByYears" "Ljava/util/List;" (.ref r_104) := Fld.same W105 ((Fld.other W103 (Fld.other W102 Fv (Or.inr (slot_ne (Or.inr tw171) (Or.inr tw81) (by decide) (t := (.object "java/util/List")) (t' := .int) (by decide) (by decide)))) (Or.inr (slot_ne (Or.inr tw171) (Or.inr tw83) (by decide) (t := (.object "java/util/List")) (t' := .int) (by decide) (by decide)))).keep q104_0 nin0)
  have N105 := Fr.snoc X105 N104 G1
  refine Goes.step (S' := T105.setTop (mkF m 22 #[.val (.ref a1), .val (.int q1), .val (.int q2), .val (.ref a2)] [])) (fun t k => st105 _ k) ?_
  refine Goes.leave (g := (mkF m 22 #[.val (.ref a1), .val (.int q1), .val (.int q2), .val (.ref a2)] [])) X105 Bd.notSynchronized (v := none) (fun _ => rfl) (fun fs hr => X105.returnOut hx Bd.returns (hb hby dk217) hr) e105 ?_ (by decide) (by decide)
  exact ⟨r_104, rfl, N105, (((((Keep.refl _ [a1]).wr W102 (Or.inl (List.mem_of_getElem? (i := 0) rfl))).wr W103 (Or.inl (List.mem_of_getElem? (i := 0) rfl))).trans q104_0 all0).wr W105 (Or.inl (List.mem_of_getElem? (i := 0) rfl))), (Exa.wr W105 ((Exa.wr W103 (Exa.wr W102 E1)).keep q104_0)), Fw105, (Nat.le_trans (Nat.le_trans (Nat.le_of_eq W102.size.symm) (Nat.le_of_eq W103.size.symm)) q104_1), (Exa.wr W105 q104_2), (Fld.other W105 q104_3 (Or.inl (Ne.symm (Nat.ne_of_lt (Nat.lt_of_lt_of_le E1.lt (Nat.le_trans (Nat.le_trans (Nat.le_of_eq W102.size.symm) (Nat.le_of_eq W103.size.symm)) q104_1)))))), (Fld.other W105 q104_4 (Or.inl (Ne.symm (Nat.ne_of_lt (Nat.lt_of_lt_of_le E1.lt (Nat.le_trans (Nat.le_trans (Nat.le_of_eq W102.size.symm) (Nat.le_of_eq W103.size.symm)) q104_1))))))⟩

theorem ef_siz1 (m : MethodId) (x0 : Addr) : entryFrame m #[(.ref x0)] 1 = mkF m 0 #[.val (.ref x0)] [] := by first | (simp [entryFrame, mkF, argsToLocals, Value.category]; done) | rfl
def Q_siz1 (Z : State) (a1 : Addr) (em : Addr) (h0 : Heap) (n0 : Nat) (v : Option Value) (h : Heap) (L : List Loc) : Prop := v = some (.int (1 : Int32)) ∧ Fr n0 L ∧ h = h0
set_option maxRecDepth 65536 in
set_option maxHeartbeats 40000000 in
theorem siz1 (l : Launch) (Z : State) (a0 : Array Value) (hw : ∀ d ∈ tables_1, d.before a0 Z = true) (ws : List Jvm.Cond) (a1 : Addr) (em : Addr) (h0 : Heap) (n0 : Nat) (Z0 : n0 ≤ h0.size) (F1 : Fld Z h0 a1 "java/util/ImmutableCollections$List12" "e1" "Ljava/lang/Object;" (.ref em)) (SE : Sta Z h0 "java/util/ImmutableCollections" "EMPTY" "Ljava/lang/Object;" (.ref em)) :
    MetFree l mth27 (head1 (Jvm.Cond.code mth27 jdk_44_method_3_code 1 (some .int) :: ws) rom0) (fun a U => a = #[(.ref a1)] ∧ Z.Warmed39 U.vm ∧ U.heap = h0) (fun _ _ _ _ _ => True) (fun _ U o U' => ∃ v L, o = .returned v ∧ Q_siz1 Z a1 em h0 n0 v U'.heap L ∧ FrameEnd U o U' L rom0.cells rom0.slots) := by
  refine MetFree.of_bodySF (plainFor_of_name pnm8) hisR ?_
  intro p e s m args below meth c s₁ Bd hml0 hP hK
  obtain ⟨rfl, hZ, hh⟩ := hP
  have hx := Bd.exec
  have hby := Bd.bytes
  have hml : c.maxLocals = 1 := hml0
  have hown : s.vm.findClass "java/util/ImmutableCollections$List12" = some m.cls := findClass_of_methodNamed Bd.named
  have hnm := (name_of_methodNamed Bd.named Bd.method).1
  have X0 : Stand p l e rom0 s m #[(.ref a1)] below meth c s₁ [] 0 0 := Stand.of_body Bd
  have eh0 : s₁.heap = h0 := by rw [← hh, Bd.state]; rfl
  have N0 := Fr.nil n0
  have tw218 := hw _ (List.mem_of_getElem? (i := 218) rfl)
  have tw219 := hw _ (List.mem_of_getElem? (i := 219) rfl)
  show Goes p e below (Pq (Q_siz1 Z a1 em h0 n0) s rom0.cells rom0.slots) (s₁.setTop (entryFrame m #[(.ref a1)] 1))
  refine Goes.step (S' := s₁.setTop (mkF m 0 #[.val (.ref a1)] [])) (fun t k => castTop (ef_siz1 m a1) k) ?_
  refine Goes.step (S' := s₁.setTop (mkF m 1 #[.val (.ref a1)] [(.ref a1)])) (fun t k => XS.aloadN X0.here hx rfl (hb hby dk218) rfl rfl k) ?_
  obtain ⟨T101, X101, e101, st101⟩ := getF X0 hx hZ hown (host := "") (Or.inl tw219) Via.refl eh0 F1 (g := (mkF m 1 #[.val (.ref a1)] [(.ref a1)])) rfl rfl (hb hby dk219)
  refine Goes.step (S' := T101.setTop (mkF m 4 #[.val (.ref a1)] [(.ref em)])) (fun t k => st101 _ k) ?_
  obtain ⟨T102, X102, e102, st102⟩ := getS2 X101 hx hZ hown (Or.inr tw218) Via.refl e101 SE (g := (mkF m 4 #[.val (.ref a1)] [(.ref em)])) rfl (hb hby dk220)
  refine Goes.step (S' := T102.setTop (mkF m 15 #[.val (.ref a1)] [(.int (1 : Int32))])) (fun t k => st102 _ (Jvm.RoadKit.acmp (g := (mkF m 7 #[.val (.ref a1)] [(.ref em), (.ref em)])) X102 hx rfl rfl rfl (pc0 := 7) (pc' := 14) (same := true) rfl (hb hby dk221) rfl (decide_eq_true rfl) (by decide) (by decide) (XS.iconst X102.here hx rfl (hb hby dk222) k))) ?_
  refine Goes.leave (g := (mkF m 15 #[.val (.ref a1)] [(.int (1 : Int32))])) X102 Bd.notSynchronized (v := (some (.int (1 : Int32)))) (fun h => by rw [Bd.returns] at h; cases h) (fun fs hr => retI X102 hx Bd.returns (hb hby dk223) hr) e102 ?_ (by decide) (by decide)
  exact ⟨rfl, N0, rfl⟩

theorem ef_get1_0 (m : MethodId) (x0 : Addr) (x1 : Int32) : entryFrame m #[(.ref x0), (.int x1)] 2 = mkF m 0 #[.val (.ref x0), .val (.int x1)] [] := by first | (simp [entryFrame, mkF, argsToLocals, Value.category]; done) | rfl
def Q_get1_0 (Z : State) (a1 : Addr) (x0 : Addr) (h0 : Heap) (n0 : Nat) (v : Option Value) (h : Heap) (L : List Loc) : Prop := v = some (.ref x0) ∧ Fr n0 L ∧ h = h0
set_option maxRecDepth 65536 in
set_option maxHeartbeats 40000000 in
theorem get1_0 (l : Launch) (Z : State) (a0 : Array Value) (hw : ∀ d ∈ tables_1, d.before a0 Z = true) (ws : List Jvm.Cond) (a1 : Addr) (x0 : Addr) (h0 : Heap) (n0 : Nat) (Z0 : n0 ≤ h0.size) (F0 : Fld Z h0 a1 "java/util/ImmutableCollections$List12" "e0" "Ljava/lang/Object;" (.ref x0)) :
    MetFree l mth28 (head1 (Jvm.Cond.code mth28 jdk_44_method_5_code 2 (some (.object "java/lang/Object")) :: ws) rom0) (fun a U => a = #[(.ref a1), (.int (0 : Int32))] ∧ Z.Warmed39 U.vm ∧ U.heap = h0) (fun _ _ _ _ _ => True) (fun _ U o U' => ∃ v L, o = .returned v ∧ Q_get1_0 Z a1 x0 h0 n0 v U'.heap L ∧ FrameEnd U o U' L rom0.cells rom0.slots) := by
  refine MetFree.of_bodySF (plainFor_of_name pnm8) hisR ?_
  intro p e s m args below meth c s₁ Bd hml0 hP hK
  obtain ⟨rfl, hZ, hh⟩ := hP
  have hx := Bd.exec
  have hby := Bd.bytes
  have hml : c.maxLocals = 2 := hml0
  have hown : s.vm.findClass "java/util/ImmutableCollections$List12" = some m.cls := findClass_of_methodNamed Bd.named
  have hnm := (name_of_methodNamed Bd.named Bd.method).1
  have X0 : Stand p l e rom0 s m #[(.ref a1), (.int (0 : Int32))] below meth c s₁ [] 0 0 := Stand.of_body Bd
  have eh0 : s₁.heap = h0 := by rw [← hh, Bd.state]; rfl
  have N0 := Fr.nil n0
  have tw216 := hw _ (List.mem_of_getElem? (i := 216) rfl)
  show Goes p e below (Pq (Q_get1_0 Z a1 x0 h0 n0) s rom0.cells rom0.slots) (s₁.setTop (entryFrame m #[(.ref a1), (.int (0 : Int32))] 2))
  refine Goes.step (S' := s₁.setTop (mkF m 0 #[.val (.ref a1), .val (.int (0 : Int32))] [])) (fun t k => castTop (ef_get1_0 m a1 (0 : Int32)) k) ?_
  refine Goes.step (S' := s₁.setTop (mkF m 5 #[.val (.ref a1), .val (.int (0 : Int32))] [(.ref a1)])) (fun t k => XS.iloadN X0.here hx rfl (hb hby dk224) rfl (XS.ifNo X0.here hx rfl (hb hby dk225) rfl ((if0 _ _).trans (teq ((by decide) : (0 : Int32) = (0 : Int32))).2) (XS.aloadN X0.here hx rfl (hb hby dk226) rfl rfl k))) ?_
  obtain ⟨T101, X101, e101, st101⟩ := getF X0 hx hZ hown (host := "") (Or.inl tw216) Via.refl eh0 F0 (g := (mkF m 5 #[.val (.ref a1), .val (.int (0 : Int32))] [(.ref a1)])) rfl rfl (hb hby dk227)
  refine Goes.step (S' := T101.setTop (mkF m 8 #[.val (.ref a1), .val (.int (0 : Int32))] [(.ref x0)])) (fun t k => st101 _ k) ?_
  refine Goes.leave (g := (mkF m 8 #[.val (.ref a1), .val (.int (0 : Int32))] [(.ref x0)])) X101 Bd.notSynchronized (v := (some (.ref x0))) (fun h => by rw [Bd.returns] at h; cases h) (fun fs hr => by jvm_step X101.here [X101.here.top, hx, (hb hby dk228), X101.method', Bd.returns, Value.isRef, FieldType.isReference]; (first | (intro acts; rw [hr _ acts rfl rfl rfl]) | rw [hr _ _ rfl rfl rfl]); exact Steps.refl _) e101 ?_ (by decide) (by decide)
  exact ⟨rfl, N0, rfl⟩

theorem ef_cp3_2 (m : MethodId) (x0 : Addr) (x1 : Int32) (x2 : Addr) : entryFrame m #[(.ref x0), (.int x1), (.ref x2)] 4 = mkF m 0 #[.val (.ref x0), .val (.int x1), .val (.ref x2), .unset] [] := by first | (simp [entryFrame, mkF, argsToLocals, Value.category]; done) | rfl
def Q_cp3_2 (Z : State) (b1 : Addr) (k1 : ClassId) (mr : Addr) (x0 : Addr) (x1 : Addr) (h0 : Heap) (n0 : Nat) (v : Option Value) (h : Heap) (L : List Loc) : Prop := ∃ (b : Addr) (kb : ClassId), v = some (.ref b) ∧ Fr n0 L ∧ Keep h0 h [] ∧ h0.size ≤ b ∧ Exa Z h b "[Ljava/lang/Object;" ∧ Arv Z h b kb (.object "java/lang/Object") (2 : Int32) [(.ref x0), (.ref x1)] .null
set_option maxRecDepth 65536 in
set_option maxHeartbeats 40000000 in
theorem cp3_2 (l : Launch) (Z : State) (a0 : Array Value) (hw : ∀ d ∈ tables_1, d.before a0 Z = true) (ws : List Jvm.Cond) (b1 : Addr) (k1 : ClassId) (mr : Addr) (x0 : Addr) (x1 : Addr) (h0 : Heap) (n0 : Nat) (Z0 : n0 ≤ h0.size) (V1 : Arv Z h0 b1 k1 (.object "java/lang/Object") (10 : Int32) [(.ref x0), (.ref x1), .null, .null, .null, .null, .null, .null, .null, .null] .null) (Eb : Exa Z h0 b1 "[Ljava/lang/Object;") (Ex0 : Exa Z h0 x0 "java/lang/Integer") (Ex1 : Exa Z h0 x1 "java/lang/Integer") (MI : MirO Z "[Ljava/lang/Object;" mr) :
    MetFree l mth18 (head1 (Jvm.Cond.code mth18 jdk_65_method_120_code 4 (some (.array (.object "java/lang/Object"))) :: ws) rom18) (fun a U => a = #[(.ref b1), (.int (2 : Int32)), (.ref mr)] ∧ Z.Warmed39 U.vm ∧ U.heap = h0) (fun _ _ _ _ _ => True) (fun _ U o U' => ∃ v L, o = .returned v ∧ Q_cp3_2 Z b1 k1 mr x0 x1 h0 n0 v U'.heap L ∧ FrameEnd U o U' L rom18.cells rom18.slots) := by
  refine MetFree.of_bodySF (plainFor_of_name pnm10) hisR ?_
  intro p e s m args below meth c s₁ Bd hml0 hP hK
  obtain ⟨rfl, hZ, hh⟩ := hP
  have hx := Bd.exec
  have hby := Bd.bytes
  have hml : c.maxLocals = 4 := hml0
  have hown : s.vm.findClass "java/util/Arrays" = some m.cls := findClass_of_methodNamed Bd.named
  have hnm := (name_of_methodNamed Bd.named Bd.method).1
  have X0 : Stand p l e rom18 s m #[(.ref b1), (.int (2 : Int32)), (.ref mr)] below meth c s₁ [] 0 0 := Stand.of_body Bd
  have eh0 : s₁.heap = h0 := by rw [← hh, Bd.state]; rfl
  have N0 := Fr.nil n0
  have tw6 := hw _ (List.mem_of_getElem? (i := 6) rfl)
  have tw7 := hw _ (List.mem_of_getElem? (i := 7) rfl)
  have tw8 := hw _ (List.mem_of_getElem? (i := 8) rfl)
  have tw71 := hw _ (List.mem_of_getElem? (i := 71) rfl)
  have tw72 := hw _ (List.mem_of_getElem? (i := 72) rfl)
  have tw128 := hw _ (List.mem_of_getElem? (i := 128) rfl)
  have tw129 := hw _ (List.mem_of_getElem? (i := 129) rfl)
  have tw130 := hw _ (List.mem_of_getElem? (i := 130) rfl)
  have tw131 := hw _ (List.mem_of_getElem? (i := 131) rfl)
  have tw132 := hw _ (List.mem_of_getElem? (i := 132) rfl)
  have tw133 := hw _ (List.mem_of_getElem? (i := 133) rfl)
  have tw134 := hw _ (List.mem_of_getElem? (i := 134) rfl)
  show Goes p e below (Pq (Q_cp3_2 Z b1 k1 mr x0 x1 h0 n0) s rom18.cells rom18.slots) (s₁.setTop (entryFrame m #[(.ref b1), (.int (2 : Int32)), (.ref mr)] 4))
  refine Goes.step (S' := s₁.setTop (mkF m 0 #[.val (.ref b1), .val (.int (2 : Int32)), .val (.ref mr), .unset] [])) (fun t k => castTop (ef_cp3_2 m b1 (2 : Int32) mr) k) ?_
  refine Goes.step (S' := s₁.setTop (mkF m 1 #[.val (.ref b1), .val (.int (2 : Int32)), .val (.ref mr), .unset] [(.ref mr)])) (fun t k => XS.aloadN X0.here hx rfl (hb hby dk149) rfl rfl k) ?_
  obtain ⟨T101, X101, e101, st101⟩ := own_ldcMir X0 hx hZ hown tw128 MI eh0 (g := (mkF m 1 #[.val (.ref b1), .val (.int (2 : Int32)), .val (.ref mr), .unset] [(.ref mr)])) rfl (hb hby dk150)
  refine Goes.step (S' := T101.setTop (mkF m 7 #[.val (.ref b1), .val (.int (2 : Int32)), .val (.ref mr), .unset] [(.int (2 : Int32))])) (fun t k => st101 _ (Jvm.RoadKit.acmp (g := (mkF m 3 #[.val (.ref b1), .val (.int (2 : Int32)), .val (.ref mr), .unset] [(.ref mr), (.ref mr)])) X101 hx rfl rfl rfl (pc0 := 3) (pc' := 6) (same := true) rfl (hb hby dk151) rfl (decide_eq_true rfl) (by decide) (by decide) (XS.iloadN X101.here hx rfl (hb hby dk152) rfl k))) ?_
  obtain ⟨T102, h102, k102, X102, e102, E102, A102, AE102, O102, st102⟩ := newRE X101 hx hZ hown tw129 tw71 e101 (g := (mkF m 7 #[.val (.ref b1), .val (.int (2 : Int32)), .val (.ref mr), .unset] [(.int (2 : Int32))])) rfl (hb hby dk153) rfl (by decide) (cap := 2) (by decide) (by decide) (by decide) (by decide) (ad := "[Ljava/lang/Object;") rfl
  obtain ⟨b102, g102⟩ : ∃ z, z = h0.size := ⟨_, rfl⟩
  rw [← g102] at A102 AE102 st102
  have V102 : Arv Z h102 b102 k102 (.object "java/lang/Object") (2 : Int32) [.null, .null] .null := (Arv.new A102 (by decide)).pad (pad_rep [] .null 2)
  refine Goes.step (S' := T102.setTop (mkF m 30 #[.val (.ref b1), .val (.int (2 : Int32)), .val (.ref mr), .val (.ref b102)] [(.ref b1), (.int (0 : Int32)), (.ref b102), (.int (0 : Int32)), (.ref b1)])) (fun t k => st102 _ (XS.goto X102.here hx rfl (pc0 := 10) (pc' := 24) rfl (hb hby dk154) (by decide) (by decide) (XS.astoreN X102.here hx rfl (hb hby dk155) rfl rfl (l' := #[.val (.ref b1), .val (.int (2 : Int32)), .val (.ref mr), .val (.ref b102)]) rfl (XS.aloadN X102.here hx rfl (hb hby dk156) rfl rfl (XS.iconst X102.here hx rfl (hb hby dk157) (XS.aloadN X102.here hx rfl (hb hby dk158) rfl rfl (XS.iconst X102.here hx rfl (hb hby dk159) (XS.aloadN X102.here hx rfl (hb hby dk160) rfl rfl k)))))))) ?_
  obtain ⟨cl103, Ar103, qk103, Sz103, Nn103, Hs103, Gs103⟩ := id (V1.ext E102)
  refine Goes.step (S' := T102.setTop (mkF m 31 #[.val (.ref b1), .val (.int (2 : Int32)), .val (.ref mr), .val (.ref b102)] [(.int (10 : Int32)), (.int (0 : Int32)), (.ref b102), (.int (0 : Int32)), (.ref b1)])) (fun t k => X102.arraylength hx (by rw [e102]; exact Ar103.1) (State.isArrayOf_alike hZ.alike Ar103.2.1) (g := (mkF m 30 #[.val (.ref b1), .val (.int (2 : Int32)), .val (.ref mr), .val (.ref b102)] [(.ref b1), (.int (0 : Int32)), (.ref b102), (.int (0 : Int32)), (.ref b1)])) rfl rfl (hb hby dk161) _ (by rw [len_of Sz103 Nn103]; exact k)) ?_
  refine Goes.step (S' := T102.setTop (mkF m 32 #[.val (.ref b1), .val (.int (2 : Int32)), .val (.ref mr), .val (.ref b102)] [(.int (2 : Int32)), (.int (10 : Int32)), (.int (0 : Int32)), (.ref b102), (.int (0 : Int32)), (.ref b1)])) (fun t k => XS.iloadN X102.here hx rfl (hb hby dk162) rfl k) ?_
  obtain ⟨_, _, ⟨T104, L104, k104, n104⟩, -, X104, ⟨Lc104, hQ104, l104, y104, z104⟩, st104⟩ := Jvm.LawKit.callS X102 hx (y := mth1) hown (mvT hZ tw130) (mvT hZ tw6) (mvT hZ tw7) (mvT hZ tw8) (by decide) (backOf (W := 4) (mn1 l Z a0 hw [] (10 : Int32) (2 : Int32) h102 n0 (Nat.le_trans Z0 E102.1) ((by decide) : (2 : Int32) < (10 : Int32))) hZ tw8 tw7 (by decide) (by decide)) (g := (mkF m 32 #[.val (.ref b1), .val (.int (2 : Int32)), .val (.ref mr), .val (.ref b102)] [(.int (2 : Int32)), (.int (10 : Int32)), (.int (0 : Int32)), (.ref b102), (.int (0 : Int32)), (.ref b1)])) rfl (by rw [hml]; rfl) (argsL := [(.int (10 : Int32)), (.int (2 : Int32))]) (rest := [(.int (0 : Int32)), (.ref b102), (.int (0 : Int32)), (.ref b1)]) (lenOf pd_II_I rfl) rfl (Nat.le_of_eq rfl) (hb hby dk163) (fun _ _ => ⟨rfl, e102, (by decide : 1 + 0 ≤ _), (by decide : 2 + 0 ≤ _)⟩)
  dsimp only [Pt.U, Pt.locs, Pt.cells, Pt.slots] at X104 l104 y104 z104 st104 hQ104
  subst y104 z104
  obtain ⟨rfl, Nq104, q104_0⟩ := hQ104
  have N104 : Fr n0 L104 := by rw [l104]; exact Fr.app N0 Nq104
  refine Goes.step (S' := T104.setTop (mkF m 35 #[.val (.ref b1), .val (.int (2 : Int32)), .val (.ref mr), .val (.ref b102)] [(.int (2 : Int32)), (.int (0 : Int32)), (.ref b102), (.int (0 : Int32)), (.ref b1)])) (fun t k => st104 _ k) ?_
  obtain ⟨cl106, Ar106, qk106, Sz106, Nn106, Hs106, Gs106⟩ := id V102
  obtain ⟨T105, h105, L105, X105, e105, N105, K105, Vr105, st105⟩ := cpA X104 hx hZ hown tw131 tw134 tw132 tw133 q104_0 (sp := (0 : Int32)) (dp := (0 : Int32)) (nn := (2 : Int32)) (us := [(.ref x0), (.ref x1)]) (V1.ext E102) V102 (Or.inr ⟨rfl, rfl, ⟨(Sto.ofV Ar106 qk106 O102 (Ins.of_exa (Exa.ext E102 Ex0) tw72)), ⟨(Sto.ofV Ar106 qk106 O102 (Ins.of_exa (Exa.ext E102 Ex1) tw72)), trivial⟩⟩⟩) (by decide) (by decide) (by decide) (by decide) (by decide) rfl (by decide) N104 (Nat.le_trans Z0 (Nat.le_of_eq g102.symm)) (g := (mkF m 35 #[.val (.ref b1), .val (.int (2 : Int32)), .val (.ref mr), .val (.ref b102)] [(.int (2 : Int32)), (.int (0 : Int32)), (.ref b102), (.int (0 : Int32)), (.ref b1)])) rfl (by rw [hml]; rfl) rfl (hb hby dk164) (by decide) (W := 0) (Nat.le_of_eq rfl) (by decide)
  have V105 : Arv Z h105 b102 k102 (.object "java/lang/Object") (2 : Int32) [(.ref x0), (.ref x1)] .null := Vr105
  refine Goes.step (S' := T105.setTop (mkF m 39 #[.val (.ref b1), .val (.int (2 : Int32)), .val (.ref mr), .val (.ref b102)] [(.ref b102)])) (fun t k => st105 _ (XS.aloadN X105.here hx rfl (hb hby dk165) rfl rfl k)) ?_
  refine Goes.leave (g := (mkF m 39 #[.val (.ref b1), .val (.int (2 : Int32)), .val (.ref mr), .val (.ref b102)] [(.ref b102)])) X105 Bd.notSynchronized (v := (some (.ref b102))) (fun h => by rw [Bd.returns] at h; cases h) (fun fs hr => by jvm_step X105.here [X105.here.top, hx, (hb hby dk166), X105.method', Bd.returns, Value.isRef, FieldType.isReference]; (first | (intro acts; rw [hr _ acts rfl rfl rfl]) | rw [hr _ _ rfl rfl rfl]); exact Steps.refl _) e105 ?_ (by decide) (by decide)
  exact ⟨b102, k102, rfl, N105, (((Keep.refl _ []).ext E102).trans K105 (allS (Or.inr (Nat.le_of_eq g102.symm)) all0)), (Nat.le_of_eq g102.symm), (AE102.keep K105), V105⟩

theorem ef_cp2_2 (m : MethodId) (x0 : Addr) (x1 : Int32) : entryFrame m #[(.ref x0), (.int x1)] 2 = mkF m 0 #[.val (.ref x0), .val (.int x1)] [] := by first | (simp [entryFrame, mkF, argsToLocals, Value.category]; done) | rfl
def Q_cp2_2 (Z : State) (b1 : Addr) (k1 : ClassId) (mr : Addr) (x0 : Addr) (x1 : Addr) (h0 : Heap) (n0 : Nat) (v : Option Value) (h : Heap) (L : List Loc) : Prop := ∃ (b : Addr) (kb : ClassId), v = some (.ref b) ∧ Fr n0 L ∧ Keep h0 h [] ∧ h0.size ≤ b ∧ Exa Z h b "[Ljava/lang/Object;" ∧ Arv Z h b kb (.object "java/lang/Object") (2 : Int32) [(.ref x0), (.ref x1)] .null
set_option maxRecDepth 65536 in
set_option maxHeartbeats 40000000 in
theorem cp2_2 (l : Launch) (Z : State) (a0 : Array Value) (hw : ∀ d ∈ tables_1, d.before a0 Z = true) (ws : List Jvm.Cond) (b1 : Addr) (k1 : ClassId) (mr : Addr) (x0 : Addr) (x1 : Addr) (h0 : Heap) (n0 : Nat) (Z0 : n0 ≤ h0.size) (V1 : Arv Z h0 b1 k1 (.object "java/lang/Object") (10 : Int32) [(.ref x0), (.ref x1), .null, .null, .null, .null, .null, .null, .null, .null] .null) (Eb : Exa Z h0 b1 "[Ljava/lang/Object;") (Ex0 : Exa Z h0 x0 "java/lang/Integer") (Ex1 : Exa Z h0 x1 "java/lang/Integer") (MI : MirO Z "[Ljava/lang/Object;" mr) :
    MetFree l mth19 (head1 (Jvm.Cond.code mth19 jdk_65_method_119_code 2 (some (.array (.object "java/lang/Object"))) :: ws) rom19) (fun a U => a = #[(.ref b1), (.int (2 : Int32))] ∧ Z.Warmed39 U.vm ∧ U.heap = h0) (fun _ _ _ _ _ => True) (fun _ U o U' => ∃ v L, o = .returned v ∧ Q_cp2_2 Z b1 k1 mr x0 x1 h0 n0 v U'.heap L ∧ FrameEnd U o U' L rom19.cells rom19.slots) := by
  refine MetFree.of_bodySF (plainFor_of_name pnm10) hisR ?_
  intro p e s m args below meth c s₁ Bd hml0 hP hK
  obtain ⟨rfl, hZ, hh⟩ := hP
  have hx := Bd.exec
  have hby := Bd.bytes
  have hml : c.maxLocals = 2 := hml0
  have hown : s.vm.findClass "java/util/Arrays" = some m.cls := findClass_of_methodNamed Bd.named
  have hnm := (name_of_methodNamed Bd.named Bd.method).1
  have X0 : Stand p l e rom19 s m #[(.ref b1), (.int (2 : Int32))] below meth c s₁ [] 0 0 := Stand.of_body Bd
  have eh0 : s₁.heap = h0 := by rw [← hh, Bd.state]; rfl
  have N0 := Fr.nil n0
  have tw96 := hw _ (List.mem_of_getElem? (i := 96) rfl)
  have tw117 := hw _ (List.mem_of_getElem? (i := 117) rfl)
  have tw119 := hw _ (List.mem_of_getElem? (i := 119) rfl)
  have tw120 := hw _ (List.mem_of_getElem? (i := 120) rfl)
  have tw121 := hw _ (List.mem_of_getElem? (i := 121) rfl)
  have tw122 := hw _ (List.mem_of_getElem? (i := 122) rfl)
  have tw123 := hw _ (List.mem_of_getElem? (i := 123) rfl)
  have tw125 := hw _ (List.mem_of_getElem? (i := 125) rfl)
  have tw126 := hw _ (List.mem_of_getElem? (i := 126) rfl)
  have tw127 := hw _ (List.mem_of_getElem? (i := 127) rfl)
  show Goes p e below (Pq (Q_cp2_2 Z b1 k1 mr x0 x1 h0 n0) s rom19.cells rom19.slots) (s₁.setTop (entryFrame m #[(.ref b1), (.int (2 : Int32))] 2))
  refine Goes.step (S' := s₁.setTop (mkF m 0 #[.val (.ref b1), .val (.int (2 : Int32))] [])) (fun t k => castTop (ef_cp2_2 m b1 (2 : Int32)) k) ?_
  refine Goes.step (S' := s₁.setTop (mkF m 3 #[.val (.ref b1), .val (.int (2 : Int32))] [(.ref b1), (.int (2 : Int32)), (.ref b1)])) (fun t k => XS.aloadN X0.here hx rfl (hb hby dk167) rfl rfl (XS.iloadN X0.here hx rfl (hb hby dk168) rfl (XS.aloadN X0.here hx rfl (hb hby dk169) rfl rfl k))) ?_
  obtain ⟨T101, X101, e101, st101⟩ := own_gcls X0 hx hZ hown tw119 tw120 tw96 tw122 tw121 tw123 eh0 Eb MI (g := (mkF m 3 #[.val (.ref b1), .val (.int (2 : Int32))] [(.ref b1), (.int (2 : Int32)), (.ref b1)])) rfl (by rw [hml]; rfl) rfl (hb hby dk170) (by decide) (W := 2) (Nat.le_of_eq rfl) (by decide)
  refine Goes.step (S' := T101.setTop (mkF m 6 #[.val (.ref b1), .val (.int (2 : Int32))] [(.ref mr), (.int (2 : Int32)), (.ref b1)])) (fun t k => st101 _ k) ?_
  obtain ⟨_, _, ⟨T102, L102, k102, n102⟩, -, X102, ⟨Lc102, hQ102, l102, y102, z102⟩, st102⟩ := Jvm.LawKit.callS X101 hx (y := mth18) hown (mvT hZ tw125) (mvT hZ tw126) (mvT hZ tw117) (mvT hZ tw127) (by decide) (backOf (W := 0) (cp3_2 l Z a0 hw [] b1 k1 mr x0 x1 h0 n0 Z0 V1 Eb Ex0 Ex1 MI) hZ tw127 tw117 (by decide) (by decide)) (g := (mkF m 6 #[.val (.ref b1), .val (.int (2 : Int32))] [(.ref mr), (.int (2 : Int32)), (.ref b1)])) rfl (by rw [hml]; rfl) (argsL := [(.ref b1), (.int (2 : Int32)), (.ref mr)]) (rest := []) (lenOf pd_Ljava_lang_Object_ILjava_lang_Class___Ljava_lang_Object rfl) rfl (Nat.le_of_eq rfl) (hb hby dk171) (fun _ _ => ⟨rfl, e101, (by decide : 0 + 1 ≤ _), (by decide : 0 + 2 ≤ _)⟩)
  dsimp only [Pt.U, Pt.locs, Pt.cells, Pt.slots] at X102 l102 y102 z102 st102 hQ102
  subst y102 z102
  obtain ⟨b_102, kb_102, rfl, Nq102, q102_0, q102_1, q102_2, q102_3⟩ := hQ102
  have N102 : Fr n0 L102 := by rw [l102]; exact Fr.app N0 Nq102
  refine Goes.step (S' := T102.setTop (mkF m 9 #[.val (.ref b1), .val (.int (2 : Int32))] [(.ref b_102)])) (fun t k => st102 _ k) ?_
  refine Goes.leave (g := (mkF m 9 #[.val (.ref b1), .val (.int (2 : Int32))] [(.ref b_102)])) X102 Bd.notSynchronized (v := (some (.ref b_102))) (fun h => by rw [Bd.returns] at h; cases h) (fun fs hr => by jvm_step X102.here [X102.here.top, hx, (hb hby dk172), X102.method', Bd.returns, Value.isRef, FieldType.isReference]; (first | (intro acts; rw [hr _ acts rfl rfl rfl]) | rw [hr _ _ rfl rfl rfl]); exact Steps.refl _) rfl ?_ (by decide) (by decide)
  exact ⟨b_102, kb_102, rfl, N102, ((Keep.refl _ []).trans q102_0 all0), q102_1, q102_2, q102_3⟩

theorem ef_toa2 (m : MethodId) (x0 : Addr) : entryFrame m #[(.ref x0)] 1 = mkF m 0 #[.val (.ref x0)] [] := by first | (simp [entryFrame, mkF, argsToLocals, Value.category]; done) | rfl
def Q_toa2 (Z : State) (a1 : Addr) (b1 : Addr) (k1 : ClassId) (mr : Addr) (x0 : Addr) (x1 : Addr) (h0 : Heap) (n0 : Nat) (v : Option Value) (h : Heap) (L : List Loc) : Prop := ∃ (b : Addr) (kb : ClassId), v = some (.ref b) ∧ Fr n0 L ∧ Keep h0 h [] ∧ h0.size ≤ b ∧ Exa Z h b "[Ljava/lang/Object;" ∧ Arv Z h b kb (.object "java/lang/Object") (2 : Int32) [(.ref x0), (.ref x1)] .null
set_option maxRecDepth 65536 in
set_option maxHeartbeats 40000000 in
theorem toa2 (l : Launch) (Z : State) (a0 : Array Value) (hw : ∀ d ∈ tables_1, d.before a0 Z = true) (ws : List Jvm.Cond) (a1 : Addr) (b1 : Addr) (k1 : ClassId) (mr : Addr) (x0 : Addr) (x1 : Addr) (h0 : Heap) (n0 : Nat) (Z0 : n0 ≤ h0.size) (E1 : Exa Z h0 a1 "java/util/ArrayList") (Fe : Fld Z h0 a1 "java/util/ArrayList" "elementData" "[Ljava/lang/Object;" (.ref b1)) (Fz : Fld Z h0 a1 "java/util/ArrayList" "size" "I" (.int (2 : Int32))) (V1 : Arv Z h0 b1 k1 (.object "java/lang/Object") (10 : Int32) [(.ref x0), (.ref x1), .null, .null, .null, .null, .null, .null, .null, .null] .null) (Eb : Exa Z h0 b1 "[Ljava/lang/Object;") (Ex0 : Exa Z h0 x0 "java/lang/Integer") (Ex1 : Exa Z h0 x1 "java/lang/Integer") (MI : MirO Z "[Ljava/lang/Object;" mr) :
    MetFree l mth20 (head1 (Jvm.Cond.code mth20 jdk_38_method_16_code 1 (some (.array (.object "java/lang/Object"))) :: ws) rom20) (fun a U => a = #[(.ref a1)] ∧ Z.Warmed39 U.vm ∧ U.heap = h0) (fun _ _ _ _ _ => True) (fun _ U o U' => ∃ v L, o = .returned v ∧ Q_toa2 Z a1 b1 k1 mr x0 x1 h0 n0 v U'.heap L ∧ FrameEnd U o U' L rom20.cells rom20.slots) := by
  refine MetFree.of_bodySF (plainFor_of_name pnm4) hisR ?_
  intro p e s m args below meth c s₁ Bd hml0 hP hK
  obtain ⟨rfl, hZ, hh⟩ := hP
  have hx := Bd.exec
  have hby := Bd.bytes
  have hml : c.maxLocals = 1 := hml0
  have hown : s.vm.findClass "java/util/ArrayList" = some m.cls := findClass_of_methodNamed Bd.named
  have hnm := (name_of_methodNamed Bd.named Bd.method).1
  have X0 : Stand p l e rom20 s m #[(.ref a1)] below meth c s₁ [] 0 0 := Stand.of_body Bd
  have eh0 : s₁.heap = h0 := by rw [← hh, Bd.state]; rfl
  have N0 := Fr.nil n0
  have tw36 := hw _ (List.mem_of_getElem? (i := 36) rfl)
  have tw52 := hw _ (List.mem_of_getElem? (i := 52) rfl)
  have tw115 := hw _ (List.mem_of_getElem? (i := 115) rfl)
  have tw116 := hw _ (List.mem_of_getElem? (i := 116) rfl)
  have tw117 := hw _ (List.mem_of_getElem? (i := 117) rfl)
  have tw118 := hw _ (List.mem_of_getElem? (i := 118) rfl)
  show Goes p e below (Pq (Q_toa2 Z a1 b1 k1 mr x0 x1 h0 n0) s rom20.cells rom20.slots) (s₁.setTop (entryFrame m #[(.ref a1)] 1))
  refine Goes.step (S' := s₁.setTop (mkF m 0 #[.val (.ref a1)] [])) (fun t k => castTop (ef_toa2 m a1) k) ?_
  refine Goes.step (S' := s₁.setTop (mkF m 1 #[.val (.ref a1)] [(.ref a1)])) (fun t k => XS.aloadN X0.here hx rfl (hb hby dk173) rfl rfl k) ?_
  obtain ⟨T101, X101, e101, st101⟩ := getF X0 hx hZ hown (host := "") (Or.inl tw36) Via.refl eh0 Fe (g := (mkF m 1 #[.val (.ref a1)] [(.ref a1)])) rfl rfl (hb hby dk174)
  refine Goes.step (S' := T101.setTop (mkF m 5 #[.val (.ref a1)] [(.ref a1), (.ref b1)])) (fun t k => st101 _ (XS.aloadN X101.here hx rfl (hb hby dk175) rfl rfl k)) ?_
  obtain ⟨T102, X102, e102, st102⟩ := getF X101 hx hZ hown (host := "") (Or.inl tw52) Via.refl e101 Fz (g := (mkF m 5 #[.val (.ref a1)] [(.ref a1), (.ref b1)])) rfl rfl (hb hby dk176)
  refine Goes.step (S' := T102.setTop (mkF m 8 #[.val (.ref a1)] [(.int (2 : Int32)), (.ref b1)])) (fun t k => st102 _ k) ?_
  obtain ⟨_, _, ⟨T103, L103, k103, n103⟩, -, X103, ⟨Lc103, hQ103, l103, y103, z103⟩, st103⟩ := Jvm.LawKit.callS X102 hx (y := mth19) hown (mvT hZ tw115) (mvT hZ tw116) (mvT hZ tw117) (mvT hZ tw118) (by decide) (backOf (W := 0) (cp2_2 l Z a0 hw [] b1 k1 mr x0 x1 h0 n0 Z0 V1 Eb Ex0 Ex1 MI) hZ tw118 tw117 (by decide) (by decide)) (g := (mkF m 8 #[.val (.ref a1)] [(.int (2 : Int32)), (.ref b1)])) rfl (by rw [hml]; rfl) (argsL := [(.ref b1), (.int (2 : Int32))]) (rest := []) (lenOf pd_Ljava_lang_Object_I__Ljava_lang_Object rfl) rfl (Nat.le_of_eq rfl) (hb hby dk177) (fun _ _ => ⟨rfl, e102, (by decide : 0 + 1 ≤ _), (by decide : 0 + 2 ≤ _)⟩)
  dsimp only [Pt.U, Pt.locs, Pt.cells, Pt.slots] at X103 l103 y103 z103 st103 hQ103
  subst y103 z103
  obtain ⟨b_103, kb_103, rfl, Nq103, q103_0, q103_1, q103_2, q103_3⟩ := hQ103
  have N103 : Fr n0 L103 := by rw [l103]; exact Fr.app N0 Nq103
  refine Goes.step (S' := T103.setTop (mkF m 11 #[.val (.ref a1)] [(.ref b_103)])) (fun t k => st103 _ k) ?_
  refine Goes.leave (g := (mkF m 11 #[.val (.ref a1)] [(.ref b_103)])) X103 Bd.notSynchronized (v := (some (.ref b_103))) (fun h => by rw [Bd.returns] at h; cases h) (fun fs hr => by jvm_step X103.here [X103.here.top, hx, (hb hby dk178), X103.method', Bd.returns, Value.isRef, FieldType.isReference]; (first | (intro acts; rw [hr _ acts rfl rfl rfl]) | rw [hr _ _ rfl rfl rfl]); exact Steps.refl _) rfl ?_ (by decide) (by decide)
  exact ⟨b_103, kb_103, rfl, N103, ((Keep.refl _ []).trans q103_0 all0), q103_1, q103_2, q103_3⟩

theorem ef_lof2 (m : MethodId) (x0 : Addr) : entryFrame m #[(.ref x0)] 2 = mkF m 0 #[.val (.ref x0), .unset] [] := by first | (simp [entryFrame, mkF, argsToLocals, Value.category]; done) | rfl
def Q_lof2 (Z : State) (b1 : Addr) (k1 : ClassId) (x0 : Addr) (x1 : Addr) (h0 : Heap) (n0 : Nat) (v : Option Value) (h : Heap) (L : List Loc) : Prop := ∃ (r : Addr), v = some (.ref r) ∧ Fr n0 L ∧ Keep h0 h [] ∧ h0.size ≤ r ∧ Exa Z h r "java/util/ImmutableCollections$List12" ∧ Fld Z h r "java/util/ImmutableCollections$List12" "e0" "Ljava/lang/Object;" (.ref x0) ∧ Fld Z h r "java/util/ImmutableCollections$List12" "e1" "Ljava/lang/Object;" (.ref x1)
set_option maxRecDepth 65536 in
set_option maxHeartbeats 40000000 in
theorem lof2 (l : Launch) (Z : State) (a0 : Array Value) (hw : ∀ d ∈ tables_1, d.before a0 Z = true) (ws : List Jvm.Cond) (b1 : Addr) (k1 : ClassId) (x0 : Addr) (x1 : Addr) (h0 : Heap) (n0 : Nat) (Z0 : n0 ≤ h0.size) (V1 : Arv Z h0 b1 k1 (.object "java/lang/Object") (2 : Int32) [(.ref x0), (.ref x1)] .null) (Eb : Exa Z h0 b1 "[Ljava/lang/Object;") (Ex0 : Exa Z h0 x0 "java/lang/Integer") (Ex1 : Exa Z h0 x1 "java/lang/Integer") :
    MetFree l mth21 (head1 (Jvm.Cond.code mth21 jdk_40_method_47_code 2 (some (.object "java/util/List")) :: ws) rom21) (fun a U => a = #[(.ref b1)] ∧ Z.Warmed39 U.vm ∧ U.heap = h0) (fun _ _ _ _ _ => True) (fun _ U o U' => ∃ v L, o = .returned v ∧ Q_lof2 Z b1 k1 x0 x1 h0 n0 v U'.heap L ∧ FrameEnd U o U' L rom21.cells rom21.slots) := by
  refine MetFree.of_bodySF (plainFor_of_name pnm11) hisR ?_
  intro p e s m args below meth c s₁ Bd hml0 hP hK
  obtain ⟨rfl, hZ, hh⟩ := hP
  have hx := Bd.exec
  have hby := Bd.bytes
  have hml : c.maxLocals = 2 := hml0
  have hown : s.vm.findClass "java/util/List" = some m.cls := findClass_of_methodNamed Bd.named
  have hnm := (name_of_methodNamed Bd.named Bd.method).1
  have X0 : Stand p l e rom21 s m #[(.ref b1)] below meth c s₁ [] 0 0 := Stand.of_body Bd
  have eh0 : s₁.heap = h0 := by rw [← hh, Bd.state]; rfl
  have N0 := Fr.nil n0
  have tw204 := hw _ (List.mem_of_getElem? (i := 204) rfl)
  have tw205 := hw _ (List.mem_of_getElem? (i := 205) rfl)
  have tw206 := hw _ (List.mem_of_getElem? (i := 206) rfl)
  have tw217 := hw _ (List.mem_of_getElem? (i := 217) rfl)
  have tw220 := hw _ (List.mem_of_getElem? (i := 220) rfl)
  have tw232 := hw _ (List.mem_of_getElem? (i := 232) rfl)
  have tw233 := hw _ (List.mem_of_getElem? (i := 233) rfl)
  have tw234 := hw _ (List.mem_of_getElem? (i := 234) rfl)
  show Goes p e below (Pq (Q_lof2 Z b1 k1 x0 x1 h0 n0) s rom21.cells rom21.slots) (s₁.setTop (entryFrame m #[(.ref b1)] 2))
  refine Goes.step (S' := s₁.setTop (mkF m 0 #[.val (.ref b1), .unset] [])) (fun t k => castTop (ef_lof2 m b1) k) ?_
  refine Goes.step (S' := s₁.setTop (mkF m 1 #[.val (.ref b1), .unset] [(.ref b1)])) (fun t k => XS.aloadN X0.here hx rfl (hb hby dk179) rfl rfl k) ?_
  obtain ⟨cl101, Ar101, qk101, Sz101, Nn101, Hs101, Gs101⟩ := id V1
  refine Goes.step (S' := s₁.setTop (mkF m 2 #[.val (.ref b1), .unset] [(.int (2 : Int32))])) (fun t k => X0.arraylength hx (by rw [eh0]; exact Ar101.1) (State.isArrayOf_alike hZ.alike Ar101.2.1) (g := (mkF m 1 #[.val (.ref b1), .unset] [(.ref b1)])) rfl rfl (hb hby dk180) _ (by rw [len_of Sz101 Nn101]; exact k)) ?_
  refine Goes.step (S' := s₁.setTop (mkF m 45 #[.val (.ref b1), .unset] [])) (fun t k => XS.tswIn X0.here hx rfl (pc0 := 2) (pc' := 45) (o := 43) rfl (hb hby dk181) rfl (by rw [(rfl : (2 : Int32) = (2 : Int32))]; decide) (by rw [(rfl : (2 : Int32) = (2 : Int32))]; rfl) (by decide) (by decide) k) ?_
  obtain ⟨T102, h102, X102, e102, E102, A102, D102, U102, st102⟩ := newO X0 hx hZ hown tw204 tw205 tw206 eh0 (g := (mkF m 45 #[.val (.ref b1), .unset] [])) rfl (hb hby dk229) (by decide) (by decide)
  obtain ⟨b102, g102⟩ : ∃ z, z = h0.size := ⟨_, rfl⟩
  rw [← g102] at A102 D102 U102 st102
  have F102_e0 : Fld Z h102 b102 "java/util/ImmutableCollections$List12" "e0" "Ljava/lang/Object;" .null := D102 (Or.inr tw217) (ty := (.object "java/lang/Object")) (by decide)
  have F102_e1 : Fld Z h102 b102 "java/util/ImmutableCollections$List12" "e1" "Ljava/lang/Object;" .null := D102 (Or.inr tw220) (ty := (.object "java/lang/Object")) (by decide)
  refine Goes.step (S' := T102.setTop (mkF m 51 #[.val (.ref b1), .unset] [(.int (0 : Int32)), (.ref b1), (.ref b102), (.ref b102)])) (fun t k => st102 _ (XS.dup X102.here hx rfl (hb hby dk230) rfl rfl (XS.aloadN X102.here hx rfl (hb hby dk231) rfl rfl (XS.iconst X102.here hx rfl (hb hby dk232) k)))) ?_
  obtain ⟨cl103, Ar103, qk103, Sz103, Nn103, Hs103, Gs103⟩ := id (V1.ext E102)
  have hin103 := (inb_of (j := (0 : Int32)) Sz103 ⟨by decide, by decide⟩)
  refine Goes.step (S' := T102.setTop (mkF m 54 #[.val (.ref b1), .unset] [(.int (1 : Int32)), (.ref b1), (.ref x0), (.ref b102), (.ref b102)])) (fun t k => X102.aaload hx (j := (0 : Int32)) (v := (.ref x0)) (by rw [e102]; exact Ar103.1) (State.isArrayOf_alike hZ.alike Ar103.2.1) rfl Ar103.2.2 hin103 (Has.at Hs103 hin103 rfl) (g := (mkF m 51 #[.val (.ref b1), .unset] [(.int (0 : Int32)), (.ref b1), (.ref b102), (.ref b102)])) rfl rfl (hb hby dk233) _ (XS.aloadN X102.here hx rfl (hb hby dk234) rfl rfl (XS.iconst X102.here hx rfl (hb hby dk235) k))) ?_
  obtain ⟨cl104, Ar104, qk104, Sz104, Nn104, Hs104, Gs104⟩ := id (V1.ext E102)
  have hin104 := (inb_of (j := (1 : Int32)) Sz104 ⟨by decide, by decide⟩)
  refine Goes.step (S' := T102.setTop (mkF m 55 #[.val (.ref b1), .unset] [(.ref x1), (.ref x0), (.ref b102), (.ref b102)])) (fun t k => X102.aaload hx (j := (1 : Int32)) (v := (.ref x1)) (by rw [e102]; exact Ar104.1) (State.isArrayOf_alike hZ.alike Ar104.2.1) rfl Ar104.2.2 hin104 (Has.at Hs104 hin104 rfl) (g := (mkF m 54 #[.val (.ref b1), .unset] [(.int (1 : Int32)), (.ref b1), (.ref x0), (.ref b102), (.ref b102)])) rfl rfl (hb hby dk236) _ k) ?_
  obtain ⟨_, _, ⟨T105, L105, k105, n105⟩, -, X105, ⟨Lc105, hQ105, l105, y105, z105⟩, st105⟩ := X102.specialBack hx (y := mth16) rfl hown (mvT hZ tw232) (mvT hZ tw233) (mvT hZ tw234) (by decide) (backOf (W := 1) (l12b l Z a0 hw [] b102 x0 x1 h102 n0 (Nat.le_trans Z0 E102.1) A102 F102_e0 F102_e1 (Nat.le_trans Z0 (Nat.le_of_eq g102.symm))) hZ tw234 tw206 (by decide) (by decide)) (g := (mkF m 55 #[.val (.ref b1), .unset] [(.ref x1), (.ref x0), (.ref b102), (.ref b102)])) rfl (by rw [hml]; rfl) (Steps.refl _) (a := b102) (argsL := [(.ref x0), (.ref x1)]) (rest := [(.ref b102)]) (lenOf pd_Ljava_lang_Object_Ljava_lang_Object__V rfl) rfl (Nat.le_of_eq rfl) (hb hby dk237) (fun _ _ => ⟨rfl, e102, (by decide : 1 + 0 ≤ _), (by decide : 2 + 0 ≤ _)⟩)
  dsimp only [Pt.U, Pt.locs, Pt.cells, Pt.slots] at X105 l105 y105 z105 st105 hQ105
  subst y105 z105
  obtain ⟨rfl, Nq105, q105_0, q105_1, q105_2, q105_3⟩ := hQ105
  have N105 : Fr n0 L105 := by rw [l105]; exact Fr.app N0 Nq105
  refine Goes.step (S' := T105.setTop (mkF m 58 #[.val (.ref b1), .unset] [(.ref b102)])) (fun t k => st105.trans k) ?_
  refine Goes.leave (g := (mkF m 58 #[.val (.ref b1), .unset] [(.ref b102)])) X105 Bd.notSynchronized (v := (some (.ref b102))) (fun h => by rw [Bd.returns] at h; cases h) (fun fs hr => by jvm_step X105.here [X105.here.top, hx, (hb hby dk238), X105.method', Bd.returns, Value.isRef, FieldType.isReference]; (first | (intro acts; rw [hr _ acts rfl rfl rfl]) | rw [hr _ _ rfl rfl rfl]); exact Steps.refl _) rfl ?_ (by decide) (by decide)
  exact ⟨b102, rfl, N105, (((Keep.refl _ []).ext E102).trans q105_0 (allS (Or.inr (Nat.le_of_eq g102.symm)) all0)), (Nat.le_of_eq g102.symm), q105_1, q105_2, q105_3⟩

theorem ef_lcp2 (m : MethodId) (x0 : Addr) : entryFrame m #[(.ref x0)] 2 = mkF m 0 #[.val (.ref x0), .unset] [] := by first | (simp [entryFrame, mkF, argsToLocals, Value.category]; done) | rfl
def Q_lcp2 (Z : State) (a1 : Addr) (b1 : Addr) (k1 : ClassId) (mr : Addr) (x0 : Addr) (x1 : Addr) (h0 : Heap) (n0 : Nat) (v : Option Value) (h : Heap) (L : List Loc) : Prop := ∃ (r : Addr), v = some (.ref r) ∧ Fr n0 L ∧ Keep h0 h [] ∧ h0.size ≤ r ∧ Exa Z h r "java/util/ImmutableCollections$List12" ∧ Fld Z h r "java/util/ImmutableCollections$List12" "e0" "Ljava/lang/Object;" (.ref x0) ∧ Fld Z h r "java/util/ImmutableCollections$List12" "e1" "Ljava/lang/Object;" (.ref x1)
set_option maxRecDepth 65536 in
set_option maxHeartbeats 40000000 in
theorem lcp2 (l : Launch) (Z : State) (a0 : Array Value) (hw : ∀ d ∈ tables_1, d.before a0 Z = true) (ws : List Jvm.Cond) (a1 : Addr) (b1 : Addr) (k1 : ClassId) (mr : Addr) (x0 : Addr) (x1 : Addr) (h0 : Heap) (n0 : Nat) (Z0 : n0 ≤ h0.size) (E1 : Exa Z h0 a1 "java/util/ArrayList") (Fe : Fld Z h0 a1 "java/util/ArrayList" "elementData" "[Ljava/lang/Object;" (.ref b1)) (Fz : Fld Z h0 a1 "java/util/ArrayList" "size" "I" (.int (2 : Int32))) (V1 : Arv Z h0 b1 k1 (.object "java/lang/Object") (10 : Int32) [(.ref x0), (.ref x1), .null, .null, .null, .null, .null, .null, .null, .null] .null) (Eb : Exa Z h0 b1 "[Ljava/lang/Object;") (Ex0 : Exa Z h0 x0 "java/lang/Integer") (Ex1 : Exa Z h0 x1 "java/lang/Integer") (MI : MirO Z "[Ljava/lang/Object;" mr) :
    MetFree l mth24 (head1 (Jvm.Cond.code mth24 jdk_56_method_3_code 2 (some (.object "java/util/List")) :: ws) rom22) (fun a U => a = #[(.ref a1)] ∧ Z.Warmed39 U.vm ∧ U.heap = h0) (fun _ _ _ _ _ => True) (fun _ U o U' => ∃ v L, o = .returned v ∧ Q_lcp2 Z a1 b1 k1 mr x0 x1 h0 n0 v U'.heap L ∧ FrameEnd U o U' L rom22.cells rom22.slots) := by
  refine MetFree.of_bodySF (plainFor_of_name pnm12) hisR ?_
  intro p e s m args below meth c s₁ Bd hml0 hP hK
  obtain ⟨rfl, hZ, hh⟩ := hP
  have hx := Bd.exec
  have hby := Bd.bytes
  have hml : c.maxLocals = 2 := hml0
  have hown : s.vm.findClass "java/util/ImmutableCollections" = some m.cls := findClass_of_methodNamed Bd.named
  have hnm := (name_of_methodNamed Bd.named Bd.method).1
  have X0 : Stand p l e rom22 s m #[(.ref a1)] below meth c s₁ [] 0 0 := Stand.of_body Bd
  have eh0 : s₁.heap = h0 := by rw [← hh, Bd.state]; rfl
  have N0 := Fr.nil n0
  have tw14 := hw _ (List.mem_of_getElem? (i := 14) rfl)
  have tw86 := hw _ (List.mem_of_getElem? (i := 86) rfl)
  have tw92 := hw _ (List.mem_of_getElem? (i := 92) rfl)
  have tw93 := hw _ (List.mem_of_getElem? (i := 93) rfl)
  have tw94 := hw _ (List.mem_of_getElem? (i := 94) rfl)
  have tw95 := hw _ (List.mem_of_getElem? (i := 95) rfl)
  have tw96 := hw _ (List.mem_of_getElem? (i := 96) rfl)
  have tw97 := hw _ (List.mem_of_getElem? (i := 97) rfl)
  have tw98 := hw _ (List.mem_of_getElem? (i := 98) rfl)
  have tw99 := hw _ (List.mem_of_getElem? (i := 99) rfl)
  have tw100 := hw _ (List.mem_of_getElem? (i := 100) rfl)
  have tw101 := hw _ (List.mem_of_getElem? (i := 101) rfl)
  have tw102 := hw _ (List.mem_of_getElem? (i := 102) rfl)
  have tw103 := hw _ (List.mem_of_getElem? (i := 103) rfl)
  have tw104 := hw _ (List.mem_of_getElem? (i := 104) rfl)
  have tw105 := hw _ (List.mem_of_getElem? (i := 105) rfl)
  have tw106 := hw _ (List.mem_of_getElem? (i := 106) rfl)
  have tw107 := hw _ (List.mem_of_getElem? (i := 107) rfl)
  have tw108 := hw _ (List.mem_of_getElem? (i := 108) rfl)
  have tw109 := hw _ (List.mem_of_getElem? (i := 109) rfl)
  have tw110 := hw _ (List.mem_of_getElem? (i := 110) rfl)
  have tw111 := hw _ (List.mem_of_getElem? (i := 111) rfl)
  have tw112 := hw _ (List.mem_of_getElem? (i := 112) rfl)
  have tw113 := hw _ (List.mem_of_getElem? (i := 113) rfl)
  have tw114 := hw _ (List.mem_of_getElem? (i := 114) rfl)
  have tw135 := hw _ (List.mem_of_getElem? (i := 135) rfl)
  have tw136 := hw _ (List.mem_of_getElem? (i := 136) rfl)
  have tw137 := hw _ (List.mem_of_getElem? (i := 137) rfl)
  have tw146 := hw _ (List.mem_of_getElem? (i := 146) rfl)
  have tw205 := hw _ (List.mem_of_getElem? (i := 205) rfl)
  show Goes p e below (Pq (Q_lcp2 Z a1 b1 k1 mr x0 x1 h0 n0) s rom22.cells rom22.slots) (s₁.setTop (entryFrame m #[(.ref a1)] 2))
  refine Goes.step (S' := s₁.setTop (mkF m 0 #[.val (.ref a1), .unset] [])) (fun t k => castTop (ef_lcp2 m a1) k) ?_
  refine Goes.step (S' := s₁.setTop (mkF m 1 #[.val (.ref a1), .unset] [(.ref a1)])) (fun t k => XS.aloadN X0.here hx rfl (hb hby dk189) rfl rfl k) ?_
  obtain ⟨T101, X101, e101, st101⟩ := instNo X0 hx hZ hown tw92 eh0 E1 (own_nsNo tw93 tw205 (NS.step tw93 (NS.step tw94 (NS.step tw95 (own_nsRoot tw96 tw205 (by decide)) (by decide)) (by decide)) (by decide)) (by decide)) (g := (mkF m 1 #[.val (.ref a1), .unset] [(.ref a1)])) rfl rfl (hb hby dk190)
  refine Goes.step (S' := T101.setTop (mkF m 8 #[.val (.ref a1), .unset] [(.ref a1)])) (fun t k => st101 _ (XS.ifNo X101.here hx rfl (hb hby dk191) rfl ((if0 _ _).trans (teq ((by decide) : (0 : Int32) = (0 : Int32))).2) (XS.aloadN X101.here hx rfl (hb hby dk192) rfl rfl k))) ?_
  obtain ⟨T102, X102, e102, st102⟩ := instNo X101 hx hZ hown tw97 e101 E1 (own_nsNo tw93 tw146 (NS.step tw93 (NS.step tw94 (NS.step tw95 (own_nsRoot tw96 tw146 (by decide)) (by decide)) (by decide)) (by decide)) (by decide)) (g := (mkF m 8 #[.val (.ref a1), .unset] [(.ref a1)])) rfl rfl (hb hby dk193)
  refine Goes.step (S' := T102.setTop (mkF m 32 #[.val (.ref a1), .unset] [(.ref a1)])) (fun t k => st102 _ (XS.ifYes X102.here hx rfl (pc0 := 11) (pc' := 31) rfl (hb hby dk194) rfl ((if0 _ _).trans (teq ((by decide) : (0 : Int32) = (0 : Int32))).1) (by decide) (by decide) (XS.aloadN X102.here hx rfl (hb hby dk195) rfl rfl k))) ?_
  obtain ⟨cq103, kq103, q103a, q103b, q103c⟩ := isOf hZ e102 E1
  obtain ⟨_, _, ⟨T103, L103, k103, n103⟩, -, X103, ⟨Lc103, hQ103, l103, y103, z103⟩, st103⟩ := X102.interfaceBack hx (xi := mth22) (y := mth11) hown (mvT hZ tw98) (mvT hZ tw99) (mvT hZ tw100) (mvT hZ tw101) (mvT hZ tw102) (mvT hZ tw103) (mvT hZ tw104) (mvT hZ tw105) (by decide) (backOf (W := 0) (ise l Z a0 hw [] a1 (2 : Int32) h0 n0 Z0 Fz ((by decide) : ¬ ((2 : Int32) = (0 : Int32)))) hZ tw106 tw14 (by decide) (by decide)) q103a q103b q103c (g := (mkF m 32 #[.val (.ref a1), .unset] [(.ref a1)])) rfl (by rw [hml]; rfl) (Steps.refl _) (argsL := []) (rest := []) (lenOf pd_Z rfl) rfl (Nat.le_of_eq rfl) (hb hby dk196) (fun _ _ => ⟨rfl, e102, (by decide : 0 + 0 ≤ _), (by decide : 0 + 0 ≤ _)⟩)
  dsimp only [Pt.U, Pt.locs, Pt.cells, Pt.slots] at X103 l103 y103 z103 st103 hQ103
  subst y103 z103
  obtain ⟨rfl, Nq103, q103_0⟩ := hQ103
  have N103 : Fr n0 L103 := by rw [l103]; exact Fr.app N0 Nq103
  refine Goes.step (S' := T103.setTop (mkF m 45 #[.val (.ref a1), .unset] [(.ref a1)])) (fun t k => st103.trans (XS.ifYes X103.here hx rfl (pc0 := 37) (pc' := 44) rfl (hb hby dk197) rfl ((if0 _ _).trans (teq ((by decide) : (0 : Int32) = (0 : Int32))).1) (by decide) (by decide) (XS.aloadN X103.here hx rfl (hb hby dk198) rfl rfl k))) ?_
  obtain ⟨cq104, kq104, q104a, q104b, q104c⟩ := isOf hZ q103_0 E1
  obtain ⟨_, _, ⟨T104, L104, k104, n104⟩, -, X104, ⟨Lc104, hQ104, l104, y104, z104⟩, st104⟩ := X103.interfaceBack hx (xi := mth23) (y := mth20) hown (mvT hZ tw107) (mvT hZ tw108) (mvT hZ tw109) (mvT hZ tw110) (mvT hZ tw111) (mvT hZ tw112) (mvT hZ tw113) (mvT hZ tw105) (by decide) (backOf (W := 0) (toa2 l Z a0 hw [] a1 b1 k1 mr x0 x1 h0 n0 Z0 E1 Fe Fz V1 Eb Ex0 Ex1 MI) hZ tw114 tw14 (by decide) (by decide)) q104a q104b q104c (g := (mkF m 45 #[.val (.ref a1), .unset] [(.ref a1)])) rfl (by rw [hml]; rfl) (Steps.refl _) (argsL := []) (rest := []) (lenOf pd_Ljava_lang_Object rfl) rfl (Nat.le_of_eq rfl) (hb hby dk199) (fun _ _ => ⟨rfl, q103_0, (by decide : 0 + 1 ≤ _), (by decide : 0 + 2 ≤ _)⟩)
  dsimp only [Pt.U, Pt.locs, Pt.cells, Pt.slots] at X104 l104 y104 z104 st104 hQ104
  subst y104 z104
  obtain ⟨b_104, kb_104, rfl, Nq104, q104_0, q104_1, q104_2, q104_3⟩ := hQ104
  have N104 : Fr n0 L104 := by rw [l104]; exact Fr.app N103 Nq104
  refine Goes.step (S' := T104.setTop (mkF m 50 #[.val (.ref a1), .unset] [(.ref b_104)])) (fun t k => st104.trans k) ?_
  obtain ⟨_, _, ⟨T105, L105, k105, n105⟩, -, X105, ⟨Lc105, hQ105, l105, y105, z105⟩, st105⟩ := Jvm.LawKit.callS X104 hx (y := mth21) hown (mvT hZ tw135) (mvT hZ tw136) (mvT hZ tw86) (mvT hZ tw137) (by decide) (backOf (W := 0) (lof2 l Z a0 hw [] b_104 kb_104 x0 x1 T104.heap n0 (Nat.le_trans Z0 q104_0.1) q104_3 q104_2 (Ex0.keep q104_0) (Ex1.keep q104_0)) hZ tw137 tw86 (by decide) (by decide)) (g := (mkF m 50 #[.val (.ref a1), .unset] [(.ref b_104)])) rfl (by rw [hml]; rfl) (argsL := [(.ref b_104)]) (rest := []) (lenOf pd_Ljava_lang_Object__Ljava_util_List rfl) rfl (Nat.le_of_eq rfl) (hb hby dk200) (fun _ _ => ⟨rfl, rfl, (by decide : 1 + 1 ≤ _), (by decide : 2 + 2 ≤ _)⟩)
  dsimp only [Pt.U, Pt.locs, Pt.cells, Pt.slots] at X105 l105 y105 z105 st105 hQ105
  subst y105 z105
  obtain ⟨r_105, rfl, Nq105, q105_0, q105_1, q105_2, q105_3, q105_4⟩ := hQ105
  have N105 : Fr n0 L105 := by rw [l105]; exact Fr.app N104 Nq105
  refine Goes.step (S' := T105.setTop (mkF m 53 #[.val (.ref a1), .unset] [(.ref r_105)])) (fun t k => st105 _ k) ?_
  refine Goes.leave (g := (mkF m 53 #[.val (.ref a1), .unset] [(.ref r_105)])) X105 Bd.notSynchronized (v := (some (.ref r_105))) (fun h => by rw [Bd.returns] at h; cases h) (fun fs hr => by jvm_step X105.here [X105.here.top, hx, (hb hby dk201), X105.method', Bd.returns, Value.isRef, FieldType.isReference]; (first | (intro acts; rw [hr _ acts rfl rfl rfl]) | rw [hr _ _ rfl rfl rfl]); exact Steps.refl _) rfl ?_ (by decide) (by decide)
  exact ⟨r_105, rfl, N105, (((Keep.refl _ []).trans q104_0 all0).trans q105_0 all0), (Nat.le_trans q104_0.1 q105_1), q105_2, q105_3, q105_4⟩

theorem ef_lco2 (m : MethodId) (x0 : Addr) : entryFrame m #[(.ref x0)] 1 = mkF m 0 #[.val (.ref x0)] [] := by first | (simp [entryFrame, mkF, argsToLocals, Value.category]; done) | rfl
def Q_lco2 (Z : State) (a1 : Addr) (b1 : Addr) (k1 : ClassId) (mr : Addr) (x0 : Addr) (x1 : Addr) (h0 : Heap) (n0 : Nat) (v : Option Value) (h : Heap) (L : List Loc) : Prop := ∃ (r : Addr), v = some (.ref r) ∧ Fr n0 L ∧ Keep h0 h [] ∧ h0.size ≤ r ∧ Exa Z h r "java/util/ImmutableCollections$List12" ∧ Fld Z h r "java/util/ImmutableCollections$List12" "e0" "Ljava/lang/Object;" (.ref x0) ∧ Fld Z h r "java/util/ImmutableCollections$List12" "e1" "Ljava/lang/Object;" (.ref x1)
set_option maxRecDepth 65536 in
set_option maxHeartbeats 40000000 in
theorem lco2 (l : Launch) (Z : State) (a0 : Array Value) (hw : ∀ d ∈ tables_1, d.before a0 Z = true) (ws : List Jvm.Cond) (a1 : Addr) (b1 : Addr) (k1 : ClassId) (mr : Addr) (x0 : Addr) (x1 : Addr) (h0 : Heap) (n0 : Nat) (Z0 : n0 ≤ h0.size) (E1 : Exa Z h0 a1 "java/util/ArrayList") (Fe : Fld Z h0 a1 "java/util/ArrayList" "elementData" "[Ljava/lang/Object;" (.ref b1)) (Fz : Fld Z h0 a1 "java/util/ArrayList" "size" "I" (.int (2 : Int32))) (V1 : Arv Z h0 b1 k1 (.object "java/lang/Object") (10 : Int32) [(.ref x0), (.ref x1), .null, .null, .null, .null, .null, .null, .null, .null] .null) (Eb : Exa Z h0 b1 "[Ljava/lang/Object;") (Ex0 : Exa Z h0 x0 "java/lang/Integer") (Ex1 : Exa Z h0 x1 "java/lang/Integer") (MI : MirO Z "[Ljava/lang/Object;" mr) :
    MetFree l mth25 (head1 (Jvm.Cond.code mth25 jdk_40_method_48_code 1 (some (.object "java/util/List")) :: ws) rom23) (fun a U => a = #[(.ref a1)] ∧ Z.Warmed39 U.vm ∧ U.heap = h0) (fun _ _ _ _ _ => True) (fun _ U o U' => ∃ v L, o = .returned v ∧ Q_lco2 Z a1 b1 k1 mr x0 x1 h0 n0 v U'.heap L ∧ FrameEnd U o U' L rom23.cells rom23.slots) := by
  refine MetFree.of_bodySF (plainFor_of_name pnm11) hisR ?_
  intro p e s m args below meth c s₁ Bd hml0 hP hK
  obtain ⟨rfl, hZ, hh⟩ := hP
  have hx := Bd.exec
  have hby := Bd.bytes
  have hml : c.maxLocals = 1 := hml0
  have hown : s.vm.findClass "java/util/List" = some m.cls := findClass_of_methodNamed Bd.named
  have hnm := (name_of_methodNamed Bd.named Bd.method).1
  have X0 : Stand p l e rom23 s m #[(.ref a1)] below meth c s₁ [] 0 0 := Stand.of_body Bd
  have eh0 : s₁.heap = h0 := by rw [← hh, Bd.state]; rfl
  have N0 := Fr.nil n0
  have tw88 := hw _ (List.mem_of_getElem? (i := 88) rfl)
  have tw89 := hw _ (List.mem_of_getElem? (i := 89) rfl)
  have tw90 := hw _ (List.mem_of_getElem? (i := 90) rfl)
  have tw91 := hw _ (List.mem_of_getElem? (i := 91) rfl)
  show Goes p e below (Pq (Q_lco2 Z a1 b1 k1 mr x0 x1 h0 n0) s rom23.cells rom23.slots) (s₁.setTop (entryFrame m #[(.ref a1)] 1))
  refine Goes.step (S' := s₁.setTop (mkF m 0 #[.val (.ref a1)] [])) (fun t k => castTop (ef_lco2 m a1) k) ?_
  refine Goes.step (S' := s₁.setTop (mkF m 1 #[.val (.ref a1)] [(.ref a1)])) (fun t k => XS.aloadN X0.here hx rfl (hb hby dk202) rfl rfl k) ?_
  obtain ⟨_, _, ⟨T101, L101, k101, n101⟩, -, X101, ⟨Lc101, hQ101, l101, y101, z101⟩, st101⟩ := Jvm.LawKit.callS X0 hx (y := mth24) hown (mvT hZ tw88) (mvT hZ tw89) (mvT hZ tw90) (mvT hZ tw91) (by decide) (backOf (W := 0) (lcp2 l Z a0 hw [] a1 b1 k1 mr x0 x1 h0 n0 Z0 E1 Fe Fz V1 Eb Ex0 Ex1 MI) hZ tw91 tw90 (by decide) (by decide)) (g := (mkF m 1 #[.val (.ref a1)] [(.ref a1)])) rfl (by rw [hml]; rfl) (argsL := [(.ref a1)]) (rest := []) (lenOf pd_Ljava_util_Collection__Ljava_util_List rfl) rfl (Nat.le_of_eq rfl) (hb hby dk203) (fun _ _ => ⟨rfl, eh0, (by decide : 0 + 2 ≤ _), (by decide : 0 + 4 ≤ _)⟩)
  dsimp only [Pt.U, Pt.locs, Pt.cells, Pt.slots] at X101 l101 y101 z101 st101 hQ101
  subst y101 z101
  obtain ⟨r_101, rfl, Nq101, q101_0, q101_1, q101_2, q101_3, q101_4⟩ := hQ101
  have N101 : Fr n0 L101 := by rw [l101]; exact Fr.app N0 Nq101
  refine Goes.step (S' := T101.setTop (mkF m 4 #[.val (.ref a1)] [(.ref r_101)])) (fun t k => st101 _ k) ?_
  refine Goes.leave (g := (mkF m 4 #[.val (.ref a1)] [(.ref r_101)])) X101 Bd.notSynchronized (v := (some (.ref r_101))) (fun h => by rw [Bd.returns] at h; cases h) (fun fs hr => by jvm_step X101.here [X101.here.top, hx, (hb hby dk204), X101.method', Bd.returns, Value.isRef, FieldType.isReference]; (first | (intro acts; rw [hr _ acts rfl rfl rfl]) | rw [hr _ _ rfl rfl rfl]); exact Steps.refl _) rfl ?_ (by decide) (by decide)
  exact ⟨r_101, rfl, N101, ((Keep.refl _ []).trans q101_0 all0), q101_1, q101_2, q101_3, q101_4⟩

theorem ef_vpi2 (m : MethodId) (x0 : Addr) (x1 : Int32) (x2 : Int32) (x3 : Addr) : entryFrame m #[(.ref x0), (.int x1), (.int x2), (.ref x3)] 4 = mkF m 0 #[.val (.ref x0), .val (.int x1), .val (.int x2), .val (.ref x3)] [] := by first | (simp [entryFrame, mkF, argsToLocals, Value.category]; done) | rfl
def Q_vpi2 (Z : State) (a1 : Addr) (q1 : Int32) (q2 : Int32) (a2 : Addr) (b1 : Addr) (k1 : ClassId) (mr : Addr) (x0 : Addr) (x1 : Addr) (h0 : Heap) (n0 : Nat) (v : Option Value) (h : Heap) (L : List Loc) : Prop := ∃ (r : Addr), v = none ∧ Fr n0 L ∧ Keep h0 h [a1] ∧ Exa Z h a1 "com/example/planwright/planwright/model/VestingProvisions" ∧ Fld Z h a1 "com/example/planwright/planwright/model/VestingProvisions" "vestedPercentByYears" "Ljava/util/List;" (.ref r) ∧ h0.size ≤ r ∧ Exa Z h r "java/util/ImmutableCollections$List12" ∧ Fld Z h r "java/util/ImmutableCollections$List12" "e0" "Ljava/lang/Object;" (.ref x0) ∧ Fld Z h r "java/util/ImmutableCollections$List12" "e1" "Ljava/lang/Object;" (.ref x1)
set_option maxRecDepth 65536 in
set_option maxHeartbeats 40000000 in
theorem vpi2 (l : Launch) (Z : State) (a0 : Array Value) (hw : ∀ d ∈ tables_1, d.before a0 Z = true) (ws : List Jvm.Cond) (a1 : Addr) (q1 : Int32) (q2 : Int32) (a2 : Addr) (b1 : Addr) (k1 : ClassId) (mr : Addr) (x0 : Addr) (x1 : Addr) (h0 : Heap) (n0 : Nat) (Z0 : n0 ≤ h0.size) (E1 : Exa Z h0 a1 "com/example/planwright/planwright/model/VestingProvisions") (Fy : Fld Z h0 a1 "com/example/planwright/planwright/model/VestingProvisions" "yearOfServiceHours" "I" (.int (0 : Int32))) (Fk : Fld Z h0 a1 "com/example/planwright/planwright/model/VestingProvisions" "breakInServiceBelowHours" "I" (.int (0 : Int32))) (Fv : Fld Z h0 a1 "com/example/planwright/planwright/model/VestingProvisions" "vestedPercentByYears" "Ljava/util/List;" .null) (G1 : n0 ≤ a1) (E2 : Exa Z h0 a2 "java/util/ArrayList") (Fe : Fld Z h0 a2 "java/util/ArrayList" "elementData" "[Ljava/lang/Object;" (.ref b1)) (Fz : Fld Z h0 a2 "java/util/ArrayList" "size" "I" (.int (2 : Int32))) (V1 : Arv Z h0 b1 k1 (.object "java/lang/Object") (10 : Int32) [(.ref x0), (.ref x1), .null, .null, .null, .null, .null, .null, .null, .null] .null) (Eb : Exa Z h0 b1 "[Ljava/lang/Object;") (Ex0 : Exa Z h0 x0 "java/lang/Integer") (Ex1 : Exa Z h0 x1 "java/lang/Integer") (MI : MirO Z "[Ljava/lang/Object;" mr) :
    MetFree l mth26 (head1 (Jvm.Cond.code mth26 prog_32_method_1_code 4 none :: ws) rom24) (fun a U => a = #[(.ref a1), (.int q1), (.int q2), (.ref a2)] ∧ Z.Warmed39 U.vm ∧ U.heap = h0) (fun _ _ _ _ _ => True) (fun _ U o U' => ∃ v L, o = .returned v ∧ Q_vpi2 Z a1 q1 q2 a2 b1 k1 mr x0 x1 h0 n0 v U'.heap L ∧ FrameEnd U o U' L rom24.cells rom24.slots) := by
  refine MetFree.of_bodySF (plainFor_of_name pnm13) hisR ?_
  intro p e s m args below meth c s₁ Bd hml0 hP hK
  obtain ⟨rfl, hZ, hh⟩ := hP
  have hx := Bd.exec
  have hby := Bd.bytes
  have hml : c.maxLocals = 4 := hml0
  have hown : s.vm.findClass "com/example/planwright/planwright/model/VestingProvisions" = some m.cls := findClass_of_methodNamed Bd.named
  have hnm := (name_of_methodNamed Bd.named Bd.method).1
  have X0 : Stand p l e rom24 s m #[(.ref a1), (.int q1), (.int q2), (.ref a2)] below meth c s₁ [] 0 0 := Stand.of_body Bd
  have eh0 : s₁.heap = h0 := by rw [← hh, Bd.state]; rfl
  have N0 := Fr.nil n0
  have tw31 := hw _ (List.mem_of_getElem? (i := 31) rfl)
  have tw32 := hw _ (List.mem_of_getElem? (i := 32) rfl)
  have tw74 := hw _ (List.mem_of_getElem? (i := 74) rfl)
  have tw79 := hw _ (List.mem_of_getElem? (i := 79) rfl)
  have tw80 := hw _ (List.mem_of_getElem? (i := 80) rfl)
  have tw81 := hw _ (List.mem_of_getElem? (i := 81) rfl)
  have tw82 := hw _ (List.mem_of_getElem? (i := 82) rfl)
  have tw83 := hw _ (List.mem_of_getElem? (i := 83) rfl)
  have tw84 := hw _ (List.mem_of_getElem? (i := 84) rfl)
  have tw85 := hw _ (List.mem_of_getElem? (i := 85) rfl)
  have tw86 := hw _ (List.mem_of_getElem? (i := 86) rfl)
  have tw87 := hw _ (List.mem_of_getElem? (i := 87) rfl)
  have tw170 := hw _ (List.mem_of_getElem? (i := 170) rfl)
  have tw171 := hw _ (List.mem_of_getElem? (i := 171) rfl)
  show Goes p e below (Pq (Q_vpi2 Z a1 q1 q2 a2 b1 k1 mr x0 x1 h0 n0) s rom24.cells rom24.slots) (s₁.setTop (entryFrame m #[(.ref a1), (.int q1), (.int q2), (.ref a2)] 4))
  refine Goes.step (S' := s₁.setTop (mkF m 0 #[.val (.ref a1), .val (.int q1), .val (.int q2), .val (.ref a2)] [])) (fun t k => castTop (ef_vpi2 m a1 q1 q2 a2) k) ?_
  refine Goes.step (S' := s₁.setTop (mkF m 1 #[.val (.ref a1), .val (.int q1), .val (.int q2), .val (.ref a2)] [(.ref a1)])) (fun t k => XS.aloadN X0.here hx rfl (hb hby dk205) rfl rfl k) ?_
  obtain ⟨T101, X101, e101, st101⟩ := initO X0 hx hZ hown tw79 tw31 tw32 eh0 (g := (mkF m 1 #[.val (.ref a1), .val (.int q1), .val (.int q2), .val (.ref a2)] [(.ref a1)])) rfl (by rw [hml]; rfl) rfl (hb hby dk206) (by decide) (W := 0) (Nat.le_of_eq rfl) (by decide)
  refine Goes.step (S' := T101.setTop (mkF m 6 #[.val (.ref a1), .val (.int q1), .val (.int q2), .val (.ref a2)] [(.int q1), (.ref a1)])) (fun t k => st101 _ (XS.aloadN X101.here hx rfl (hb hby dk207) rfl rfl (XS.iloadN X101.here hx rfl (hb hby dk208) rfl k))) ?_
  obtain ⟨T102, h102, X102, e102, W102, st102⟩ := putF X101 hx hZ hown (host := "") (Or.inl tw80) Via.refl e101 Fy E1 (Or.inr ⟨tw81, rfl, hnm⟩) tw74 (ty := .int) (by decide) rfl rfl (g := (mkF m 6 #[.val (.ref a1), .val (.int q1), .val (.int q2), .val (.ref a2)] [(.int q1), (.ref a1)])) rfl rfl (hb hby dk209)
  have Fw102 : Fld Z h102 a1 "com/example/planwright/planwright/model/VestingProvisions" "yearOfServiceHours" "I" (.int q1) := Fld.same W102 Fy
  have N102 := Fr.snoc X102 N0 G1
  refine Goes.step (S' := T102.setTop (mkF m 11 #[.val (.ref a1), .val (.int q1), .val (.int q2), .val (.ref a2)] [(.int q2), (.ref a1)])) (fun t k => st102 _ (XS.aloadN X102.here hx rfl (hb hby dk210) rfl rfl (XS.iloadN X102.here hx rfl (hb hby dk211) rfl k))) ?_
  obtain ⟨T103, h103, X103, e103, W103, st103⟩ := putF X102 hx hZ hown (host := "") (Or.inl tw82) Via.refl e102 (Fld.other W102 Fk (Or.inr (slot_ne (Or.inr tw83) (Or.inr tw81) (by decide) (t := .int) (t' := .int) (by decide) (by decide)))) (Exa.wr W102 E1) (Or.inr ⟨tw83, rfl, hnm⟩) tw74 (ty := .int) (by decide) rfl rfl (g := (mkF m 11 #[.val (.ref a1), .val (.int q1), .val (.int q2), .val (.ref a2)] [(.int q2), (.ref a1)])) rfl rfl (hb hby dk212)
  have Fw103 : Fld Z h103 a1 "com/example/planwright/planwright/model/VestingProvisions" "breakInServiceBelowHours" "I" (.int q2) := Fld.same W103 (Fld.other W102 Fk (Or.inr (slot_ne (Or.inr tw83) (Or.inr tw81) (by decide) (t := .int) (t' := .int) (by decide) (by decide))))
  have N103 := Fr.snoc X103 N102 G1
  refine Goes.step (S' := T103.setTop (mkF m 16 #[.val (.ref a1), .val (.int q1), .val (.int q2), .val (.ref a2)] [(.ref a2), (.ref a1)])) (fun t k => st103 _ (XS.aloadN X103.here hx rfl (hb hby dk213) rfl rfl (XS.aloadN X103.here hx rfl (hb hby dk214) rfl rfl k))) ?_
  obtain ⟨_, _, ⟨T104, L104, k104, n104⟩, -, X104, ⟨Lc104, hQ104, l104, y104, z104⟩, st104⟩ := Jvm.LawKit.callS X103 hx (y := mth25) hown (mvT hZ tw84) (mvT hZ tw85) (mvT hZ tw86) (mvT hZ tw87) (by decide) (backOf (W := 1) (lco2 l Z a0 hw [] a2 b1 k1 mr x0 x1 h103 n0 (Nat.le_trans Z0 (Nat.le_trans (Nat.le_of_eq W102.size.symm) (Nat.le_of_eq W103.size.symm))) (Exa.wr W103 (Exa.wr W102 E2)) (Fld.other W103 (Fld.other W102 Fe (Or.inl (Exa.ne E2 E1 (by decide)))) (Or.inl (Exa.ne (Exa.wr W102 E2) (Exa.wr W102 E1) (by decide)))) (Fld.other W103 (Fld.other W102 Fz (Or.inl (Exa.ne E2 E1 (by decide)))) (Or.inl (Exa.ne (Exa.wr W102 E2) (Exa.wr W102 E1) (by decide)))) ((V1.other W102 (Exa.ne Eb E1 (by decide))).other W103 (Exa.ne (Exa.wr W102 Eb) (Exa.wr W102 E1) (by decide))) (Exa.wr W103 (Exa.wr W102 Eb)) (Exa.wr W103 (Exa.wr W102 Ex0)) (Exa.wr W103 (Exa.wr W102 Ex1)) MI) hZ tw87 tw86 (by decide) (by decide)) (g := (mkF m 16 #[.val (.ref a1), .val (.int q1), .val (.int q2), .val (.ref a2)] [(.ref a2), (.ref a1)])) rfl (by rw [hml]; rfl) (argsL := [(.ref a2)]) (rest := [(.ref a1)]) (lenOf pd_Ljava_util_Collection__Ljava_util_List rfl) rfl (Nat.le_of_eq rfl) (hb hby dk215) (fun _ _ => ⟨rfl, e103, (by decide : 0 + 2 ≤ _), (by decide : 0 + 4 ≤ _)⟩)
  dsimp only [Pt.U, Pt.locs, Pt.cells, Pt.slots] at X104 l104 y104 z104 st104 hQ104
  subst y104 z104
  obtain ⟨r_104, rfl, Nq104, q104_0, q104_1, q104_2, q104_3, q104_4⟩ := hQ104
  have N104 : Fr n0 L104 := by rw [l104]; exact Fr.app N103 Nq104
  refine Goes.step (S' := T104.setTop (mkF m 19 #[.val (.ref a1), .val (.int q1), .val (.int q2), .val (.ref a2)] [(.ref r_104), (.ref a1)])) (fun t k => st104 _ k) ?_
  obtain ⟨T105, h105, X105, e105, W105, st105⟩ := putF X104 hx hZ hown (host := "") (Or.inl tw170) Via.refl rfl ((Fld.other W103 (Fld.other W102 Fv (Or.inr (slot_ne (Or.inr tw171) (Or.inr tw81) (by decide) (t := (.object "java/util/List")) (t' := .int) (by decide) (by decide)))) (Or.inr (slot_ne (Or.inr tw171) (Or.inr tw83) (by decide) (t := (.object "java/util/List")) (t' := .int) (by decide) (by decide)))).keep q104_0 nin0) ((Exa.wr W103 (Exa.wr W102 E1)).keep q104_0) (Or.inr ⟨tw171, rfl, hnm⟩) tw74 (ty := (.object "java/util/List")) (by decide) rfl rfl (g := (mkF m 19 #[.val (.ref a1), .val (.int q1), .val (.int q2), .val (.ref a2)] [(.ref r_104), (.ref a1)])) rfl rfl (hb hby dk216)
  have Fw105 : Fld Z h105 a1 "com/example/planwright/planwright/model/VestingProvisions" "vestedPercentByYears" "Ljava/util/List;" (.ref r_104) := Fld.same W105 ((Fld.other W103 (Fld.other W102 Fv (Or.inr (slot_ne (Or.inr tw171) (Or.inr tw81) (by decide) (t := (.object "java/util/List")) (t' := .int) (by decide) (by decide)))) (Or.inr (slot_ne (Or.inr tw171) (Or.inr tw83) (by decide) (t := (.object "java/util/List")) (t' := .int) (by decide) (by decide)))).keep q104_0 nin0)
  have N105 := Fr.snoc X105 N104 G1
  refine Goes.step (S' := T105.setTop (mkF m 22 #[.val (.ref a1), .val (.int q1), .val (.int q2), .val (.ref a2)] [])) (fun t k => st105 _ k) ?_
  refine Goes.leave (g := (mkF m 22 #[.val (.ref a1), .val (.int q1), .val (.int q2), .val (.ref a2)] [])) X105 Bd.notSynchronized (v := none) (fun _ => rfl) (fun fs hr => X105.returnOut hx Bd.returns (hb hby dk217) hr) e105 ?_ (by decide) (by decide)
  exact ⟨r_104, rfl, N105, (((((Keep.refl _ [a1]).wr W102 (Or.inl (List.mem_of_getElem? (i := 0) rfl))).wr W103 (Or.inl (List.mem_of_getElem? (i := 0) rfl))).trans q104_0 all0).wr W105 (Or.inl (List.mem_of_getElem? (i := 0) rfl))), (Exa.wr W105 ((Exa.wr W103 (Exa.wr W102 E1)).keep q104_0)), Fw105, (Nat.le_trans (Nat.le_trans (Nat.le_of_eq W102.size.symm) (Nat.le_of_eq W103.size.symm)) q104_1), (Exa.wr W105 q104_2), (Fld.other W105 q104_3 (Or.inl (Ne.symm (Nat.ne_of_lt (Nat.lt_of_lt_of_le E1.lt (Nat.le_trans (Nat.le_trans (Nat.le_of_eq W102.size.symm) (Nat.le_of_eq W103.size.symm)) q104_1)))))), (Fld.other W105 q104_4 (Or.inl (Ne.symm (Nat.ne_of_lt (Nat.lt_of_lt_of_le E1.lt (Nat.le_trans (Nat.le_trans (Nat.le_of_eq W102.size.symm) (Nat.le_of_eq W103.size.symm)) q104_1))))))⟩

theorem ef_siz2 (m : MethodId) (x0 : Addr) : entryFrame m #[(.ref x0)] 1 = mkF m 0 #[.val (.ref x0)] [] := by first | (simp [entryFrame, mkF, argsToLocals, Value.category]; done) | rfl
def Q_siz2 (Z : State) (a1 : Addr) (x1 : Addr) (em : Addr) (h0 : Heap) (n0 : Nat) (v : Option Value) (h : Heap) (L : List Loc) : Prop := v = some (.int (2 : Int32)) ∧ Fr n0 L ∧ h = h0
set_option maxRecDepth 65536 in
set_option maxHeartbeats 40000000 in
theorem siz2 (l : Launch) (Z : State) (a0 : Array Value) (hw : ∀ d ∈ tables_1, d.before a0 Z = true) (ws : List Jvm.Cond) (a1 : Addr) (x1 : Addr) (em : Addr) (h0 : Heap) (n0 : Nat) (Z0 : n0 ≤ h0.size) (F1 : Fld Z h0 a1 "java/util/ImmutableCollections$List12" "e1" "Ljava/lang/Object;" (.ref x1)) (SE : Sta Z h0 "java/util/ImmutableCollections" "EMPTY" "Ljava/lang/Object;" (.ref em)) (Hn : x1 ≠ em) :
    MetFree l mth27 (head1 (Jvm.Cond.code mth27 jdk_44_method_3_code 1 (some .int) :: ws) rom0) (fun a U => a = #[(.ref a1)] ∧ Z.Warmed39 U.vm ∧ U.heap = h0) (fun _ _ _ _ _ => True) (fun _ U o U' => ∃ v L, o = .returned v ∧ Q_siz2 Z a1 x1 em h0 n0 v U'.heap L ∧ FrameEnd U o U' L rom0.cells rom0.slots) := by
  refine MetFree.of_bodySF (plainFor_of_name pnm8) hisR ?_
  intro p e s m args below meth c s₁ Bd hml0 hP hK
  obtain ⟨rfl, hZ, hh⟩ := hP
  have hx := Bd.exec
  have hby := Bd.bytes
  have hml : c.maxLocals = 1 := hml0
  have hown : s.vm.findClass "java/util/ImmutableCollections$List12" = some m.cls := findClass_of_methodNamed Bd.named
  have hnm := (name_of_methodNamed Bd.named Bd.method).1
  have X0 : Stand p l e rom0 s m #[(.ref a1)] below meth c s₁ [] 0 0 := Stand.of_body Bd
  have eh0 : s₁.heap = h0 := by rw [← hh, Bd.state]; rfl
  have N0 := Fr.nil n0
  have tw218 := hw _ (List.mem_of_getElem? (i := 218) rfl)
  have tw219 := hw _ (List.mem_of_getElem? (i := 219) rfl)
  show Goes p e below (Pq (Q_siz2 Z a1 x1 em h0 n0) s rom0.cells rom0.slots) (s₁.setTop (entryFrame m #[(.ref a1)] 1))
  refine Goes.step (S' := s₁.setTop (mkF m 0 #[.val (.ref a1)] [])) (fun t k => castTop (ef_siz2 m a1) k) ?_
  refine Goes.step (S' := s₁.setTop (mkF m 1 #[.val (.ref a1)] [(.ref a1)])) (fun t k => XS.aloadN X0.here hx rfl (hb hby dk218) rfl rfl k) ?_
  obtain ⟨T101, X101, e101, st101⟩ := getF X0 hx hZ hown (host := "") (Or.inl tw219) Via.refl eh0 F1 (g := (mkF m 1 #[.val (.ref a1)] [(.ref a1)])) rfl rfl (hb hby dk219)
  refine Goes.step (S' := T101.setTop (mkF m 4 #[.val (.ref a1)] [(.ref x1)])) (fun t k => st101 _ k) ?_
  obtain ⟨T102, X102, e102, st102⟩ := getS2 X101 hx hZ hown (Or.inr tw218) Via.refl e101 SE (g := (mkF m 4 #[.val (.ref a1)] [(.ref x1)])) rfl (hb hby dk220)
  refine Goes.step (S' := T102.setTop (mkF m 15 #[.val (.ref a1)] [(.int (2 : Int32))])) (fun t k => st102 _ (Jvm.RoadKit.acmp (g := (mkF m 7 #[.val (.ref a1)] [(.ref em), (.ref x1)])) X102 hx rfl rfl rfl (pc0 := 7) (pc' := 10) (same := false) rfl (hb hby dk221) rfl (decide_eq_false fun q => Hn (Value.ref.inj q)) (by decide) (by decide) (XS.iconst X102.here hx rfl (hb hby dk239) (XS.goto X102.here hx rfl (pc0 := 11) (pc' := 15) rfl (hb hby dk240) (by decide) (by decide) k)))) ?_
  refine Goes.leave (g := (mkF m 15 #[.val (.ref a1)] [(.int (2 : Int32))])) X102 Bd.notSynchronized (v := (some (.int (2 : Int32)))) (fun h => by rw [Bd.returns] at h; cases h) (fun fs hr => retI X102 hx Bd.returns (hb hby dk223) hr) e102 ?_ (by decide) (by decide)
  exact ⟨rfl, N0, rfl⟩

theorem ef_get2_0 (m : MethodId) (x0 : Addr) (x1 : Int32) : entryFrame m #[(.ref x0), (.int x1)] 2 = mkF m 0 #[.val (.ref x0), .val (.int x1)] [] := by first | (simp [entryFrame, mkF, argsToLocals, Value.category]; done) | rfl
def Q_get2_0 (Z : State) (a1 : Addr) (x0 : Addr) (h0 : Heap) (n0 : Nat) (v : Option Value) (h : Heap) (L : List Loc) : Prop := v = some (.ref x0) ∧ Fr n0 L ∧ h = h0
set_option maxRecDepth 65536 in
set_option maxHeartbeats 40000000 in
theorem get2_0 (l : Launch) (Z : State) (a0 : Array Value) (hw : ∀ d ∈ tables_1, d.before a0 Z = true) (ws : List Jvm.Cond) (a1 : Addr) (x0 : Addr) (h0 : Heap) (n0 : Nat) (Z0 : n0 ≤ h0.size) (F0 : Fld Z h0 a1 "java/util/ImmutableCollections$List12" "e0" "Ljava/lang/Object;" (.ref x0)) :
    MetFree l mth28 (head1 (Jvm.Cond.code mth28 jdk_44_method_5_code 2 (some (.object "java/lang/Object")) :: ws) rom0) (fun a U => a = #[(.ref a1), (.int (0 : Int32))] ∧ Z.Warmed39 U.vm ∧ U.heap = h0) (fun _ _ _ _ _ => True) (fun _ U o U' => ∃ v L, o = .returned v ∧ Q_get2_0 Z a1 x0 h0 n0 v U'.heap L ∧ FrameEnd U o U' L rom0.cells rom0.slots) := by
  refine MetFree.of_bodySF (plainFor_of_name pnm8) hisR ?_
  intro p e s m args below meth c s₁ Bd hml0 hP hK
  obtain ⟨rfl, hZ, hh⟩ := hP
  have hx := Bd.exec
  have hby := Bd.bytes
  have hml : c.maxLocals = 2 := hml0
  have hown : s.vm.findClass "java/util/ImmutableCollections$List12" = some m.cls := findClass_of_methodNamed Bd.named
  have hnm := (name_of_methodNamed Bd.named Bd.method).1
  have X0 : Stand p l e rom0 s m #[(.ref a1), (.int (0 : Int32))] below meth c s₁ [] 0 0 := Stand.of_body Bd
  have eh0 : s₁.heap = h0 := by rw [← hh, Bd.state]; rfl
  have N0 := Fr.nil n0
  have tw216 := hw _ (List.mem_of_getElem? (i := 216) rfl)
  show Goes p e below (Pq (Q_get2_0 Z a1 x0 h0 n0) s rom0.cells rom0.slots) (s₁.setTop (entryFrame m #[(.ref a1), (.int (0 : Int32))] 2))
  refine Goes.step (S' := s₁.setTop (mkF m 0 #[.val (.ref a1), .val (.int (0 : Int32))] [])) (fun t k => castTop (ef_get2_0 m a1 (0 : Int32)) k) ?_
  refine Goes.step (S' := s₁.setTop (mkF m 5 #[.val (.ref a1), .val (.int (0 : Int32))] [(.ref a1)])) (fun t k => XS.iloadN X0.here hx rfl (hb hby dk224) rfl (XS.ifNo X0.here hx rfl (hb hby dk225) rfl ((if0 _ _).trans (teq ((by decide) : (0 : Int32) = (0 : Int32))).2) (XS.aloadN X0.here hx rfl (hb hby dk226) rfl rfl k))) ?_
  obtain ⟨T101, X101, e101, st101⟩ := getF X0 hx hZ hown (host := "") (Or.inl tw216) Via.refl eh0 F0 (g := (mkF m 5 #[.val (.ref a1), .val (.int (0 : Int32))] [(.ref a1)])) rfl rfl (hb hby dk227)
  refine Goes.step (S' := T101.setTop (mkF m 8 #[.val (.ref a1), .val (.int (0 : Int32))] [(.ref x0)])) (fun t k => st101 _ k) ?_
  refine Goes.leave (g := (mkF m 8 #[.val (.ref a1), .val (.int (0 : Int32))] [(.ref x0)])) X101 Bd.notSynchronized (v := (some (.ref x0))) (fun h => by rw [Bd.returns] at h; cases h) (fun fs hr => by jvm_step X101.here [X101.here.top, hx, (hb hby dk228), X101.method', Bd.returns, Value.isRef, FieldType.isReference]; (first | (intro acts; rw [hr _ acts rfl rfl rfl]) | rw [hr _ _ rfl rfl rfl]); exact Steps.refl _) e101 ?_ (by decide) (by decide)
  exact ⟨rfl, N0, rfl⟩

theorem ef_get2_1 (m : MethodId) (x0 : Addr) (x1 : Int32) : entryFrame m #[(.ref x0), (.int x1)] 2 = mkF m 0 #[.val (.ref x0), .val (.int x1)] [] := by first | (simp [entryFrame, mkF, argsToLocals, Value.category]; done) | rfl
def Q_get2_1 (Z : State) (a1 : Addr) (x1 : Addr) (em : Addr) (h0 : Heap) (n0 : Nat) (v : Option Value) (h : Heap) (L : List Loc) : Prop := v = some (.ref x1) ∧ Fr n0 L ∧ h = h0
set_option maxRecDepth 65536 in
set_option maxHeartbeats 40000000 in
theorem get2_1 (l : Launch) (Z : State) (a0 : Array Value) (hw : ∀ d ∈ tables_1, d.before a0 Z = true) (ws : List Jvm.Cond) (a1 : Addr) (x1 : Addr) (em : Addr) (h0 : Heap) (n0 : Nat) (Z0 : n0 ≤ h0.size) (F1 : Fld Z h0 a1 "java/util/ImmutableCollections$List12" "e1" "Ljava/lang/Object;" (.ref x1)) (SE : Sta Z h0 "java/util/ImmutableCollections" "EMPTY" "Ljava/lang/Object;" (.ref em)) (Hn : x1 ≠ em) :
    MetFree l mth28 (head1 (Jvm.Cond.code mth28 jdk_44_method_5_code 2 (some (.object "java/lang/Object")) :: ws) rom0) (fun a U => a = #[(.ref a1), (.int (1 : Int32))] ∧ Z.Warmed39 U.vm ∧ U.heap = h0) (fun _ _ _ _ _ => True) (fun _ U o U' => ∃ v L, o = .returned v ∧ Q_get2_1 Z a1 x1 em h0 n0 v U'.heap L ∧ FrameEnd U o U' L rom0.cells rom0.slots) := by
  refine MetFree.of_bodySF (plainFor_of_name pnm8) hisR ?_
  intro p e s m args below meth c s₁ Bd hml0 hP hK
  obtain ⟨rfl, hZ, hh⟩ := hP
  have hx := Bd.exec
  have hby := Bd.bytes
  have hml : c.maxLocals = 2 := hml0
  have hown : s.vm.findClass "java/util/ImmutableCollections$List12" = some m.cls := findClass_of_methodNamed Bd.named
  have hnm := (name_of_methodNamed Bd.named Bd.method).1
  have X0 : Stand p l e rom0 s m #[(.ref a1), (.int (1 : Int32))] below meth c s₁ [] 0 0 := Stand.of_body Bd
  have eh0 : s₁.heap = h0 := by rw [← hh, Bd.state]; rfl
  have N0 := Fr.nil n0
  have tw218 := hw _ (List.mem_of_getElem? (i := 218) rfl)
  have tw219 := hw _ (List.mem_of_getElem? (i := 219) rfl)
  show Goes p e below (Pq (Q_get2_1 Z a1 x1 em h0 n0) s rom0.cells rom0.slots) (s₁.setTop (entryFrame m #[(.ref a1), (.int (1 : Int32))] 2))
  refine Goes.step (S' := s₁.setTop (mkF m 0 #[.val (.ref a1), .val (.int (1 : Int32))] [])) (fun t k => castTop (ef_get2_1 m a1 (1 : Int32)) k) ?_
  refine Goes.step (S' := s₁.setTop (mkF m 15 #[.val (.ref a1), .val (.int (1 : Int32))] [(.ref a1)])) (fun t k => XS.iloadN X0.here hx rfl (hb hby dk224) rfl (XS.ifYes X0.here hx rfl (pc0 := 1) (pc' := 9) rfl (hb hby dk225) rfl ((if0 _ _).trans (feq ((by decide) : ¬ ((1 : Int32) = (0 : Int32)))).2) (by decide) (by decide) (XS.iloadN X0.here hx rfl (hb hby dk241) rfl (XS.iconst X0.here hx rfl (hb hby dk242) (XS.icmpNo X0.here hx rfl (hb hby dk243) rfl (teq ((by decide) : (1 : Int32) = (1 : Int32))).2 (XS.aloadN X0.here hx rfl (hb hby dk244) rfl rfl k)))))) ?_
  obtain ⟨T101, X101, e101, st101⟩ := getF X0 hx hZ hown (host := "") (Or.inl tw219) Via.refl eh0 F1 (g := (mkF m 15 #[.val (.ref a1), .val (.int (1 : Int32))] [(.ref a1)])) rfl rfl (hb hby dk245)
  refine Goes.step (S' := T101.setTop (mkF m 18 #[.val (.ref a1), .val (.int (1 : Int32))] [(.ref x1)])) (fun t k => st101 _ k) ?_
  obtain ⟨T102, X102, e102, st102⟩ := getS2 X101 hx hZ hown (Or.inr tw218) Via.refl e101 SE (g := (mkF m 18 #[.val (.ref a1), .val (.int (1 : Int32))] [(.ref x1)])) rfl (hb hby dk246)
  refine Goes.step (S' := T102.setTop (mkF m 25 #[.val (.ref a1), .val (.int (1 : Int32))] [(.ref a1)])) (fun t k => st102 _ (Jvm.RoadKit.acmp (g := (mkF m 21 #[.val (.ref a1), .val (.int (1 : Int32))] [(.ref em), (.ref x1)])) X102 hx rfl rfl rfl (pc0 := 21) (pc' := 24) (same := false) rfl (hb hby dk247) rfl (decide_eq_false fun q => Hn (Value.ref.inj q)) (by decide) (by decide) (XS.aloadN X102.here hx rfl (hb hby dk248) rfl rfl k))) ?_
  obtain ⟨T103, X103, e103, st103⟩ := getF X102 hx hZ hown (host := "") (Or.inl tw219) Via.refl e102 F1 (g := (mkF m 25 #[.val (.ref a1), .val (.int (1 : Int32))] [(.ref a1)])) rfl rfl (hb hby dk249)
  refine Goes.step (S' := T103.setTop (mkF m 28 #[.val (.ref a1), .val (.int (1 : Int32))] [(.ref x1)])) (fun t k => st103 _ k) ?_
  refine Goes.leave (g := (mkF m 28 #[.val (.ref a1), .val (.int (1 : Int32))] [(.ref x1)])) X103 Bd.notSynchronized (v := (some (.ref x1))) (fun h => by rw [Bd.returns] at h; cases h) (fun fs hr => by jvm_step X103.here [X103.here.top, hx, (hb hby dk250), X103.method', Bd.returns, Value.isRef, FieldType.isReference]; (first | (intro acts; rw [hr _ acts rfl rfl rfl]) | rw [hr _ _ rfl rfl rfl]); exact Steps.refl _) e103 ?_ (by decide) (by decide)
  exact ⟨rfl, N0, rfl⟩

theorem ef_cp3_3 (m : MethodId) (x0 : Addr) (x1 : Int32) (x2 : Addr) : entryFrame m #[(.ref x0), (.int x1), (.ref x2)] 4 = mkF m 0 #[.val (.ref x0), .val (.int x1), .val (.ref x2), .unset] [] := by first | (simp [entryFrame, mkF, argsToLocals, Value.category]; done) | rfl
def Q_cp3_3 (Z : State) (b1 : Addr) (k1 : ClassId) (mr : Addr) (x0 : Addr) (x1 : Addr) (x2 : Addr) (h0 : Heap) (n0 : Nat) (v : Option Value) (h : Heap) (L : List Loc) : Prop := ∃ (b : Addr) (kb : ClassId), v = some (.ref b) ∧ Fr n0 L ∧ Keep h0 h [] ∧ h0.size ≤ b ∧ Exa Z h b "[Ljava/lang/Object;" ∧ Arv Z h b kb (.object "java/lang/Object") (3 : Int32) [(.ref x0), (.ref x1), (.ref x2)] .null
set_option maxRecDepth 65536 in
set_option maxHeartbeats 40000000 in
theorem cp3_3 (l : Launch) (Z : State) (a0 : Array Value) (hw : ∀ d ∈ tables_1, d.before a0 Z = true) (ws : List Jvm.Cond) (b1 : Addr) (k1 : ClassId) (mr : Addr) (x0 : Addr) (x1 : Addr) (x2 : Addr) (h0 : Heap) (n0 : Nat) (Z0 : n0 ≤ h0.size) (V1 : Arv Z h0 b1 k1 (.object "java/lang/Object") (10 : Int32) [(.ref x0), (.ref x1), (.ref x2), .null, .null, .null, .null, .null, .null, .null] .null) (Eb : Exa Z h0 b1 "[Ljava/lang/Object;") (Ex0 : Exa Z h0 x0 "java/lang/Integer") (Ex1 : Exa Z h0 x1 "java/lang/Integer") (Ex2 : Exa Z h0 x2 "java/lang/Integer") (MI : MirO Z "[Ljava/lang/Object;" mr) :
    MetFree l mth18 (head1 (Jvm.Cond.code mth18 jdk_65_method_120_code 4 (some (.array (.object "java/lang/Object"))) :: ws) rom25) (fun a U => a = #[(.ref b1), (.int (3 : Int32)), (.ref mr)] ∧ Z.Warmed39 U.vm ∧ U.heap = h0) (fun _ _ _ _ _ => True) (fun _ U o U' => ∃ v L, o = .returned v ∧ Q_cp3_3 Z b1 k1 mr x0 x1 x2 h0 n0 v U'.heap L ∧ FrameEnd U o U' L rom25.cells rom25.slots) := by
  refine MetFree.of_bodySF (plainFor_of_name pnm10) hisR ?_
  intro p e s m args below meth c s₁ Bd hml0 hP hK
  obtain ⟨rfl, hZ, hh⟩ := hP
  have hx := Bd.exec
  have hby := Bd.bytes
  have hml : c.maxLocals = 4 := hml0
  have hown : s.vm.findClass "java/util/Arrays" = some m.cls := findClass_of_methodNamed Bd.named
  have hnm := (name_of_methodNamed Bd.named Bd.method).1
  have X0 : Stand p l e rom25 s m #[(.ref b1), (.int (3 : Int32)), (.ref mr)] below meth c s₁ [] 0 0 := Stand.of_body Bd
  have eh0 : s₁.heap = h0 := by rw [← hh, Bd.state]; rfl
  have N0 := Fr.nil n0
  have tw6 := hw _ (List.mem_of_getElem? (i := 6) rfl)
  have tw7 := hw _ (List.mem_of_getElem? (i := 7) rfl)
  have tw8 := hw _ (List.mem_of_getElem? (i := 8) rfl)
  have tw71 := hw _ (List.mem_of_getElem? (i := 71) rfl)
  have tw72 := hw _ (List.mem_of_getElem? (i := 72) rfl)
  have tw128 := hw _ (List.mem_of_getElem? (i := 128) rfl)
  have tw129 := hw _ (List.mem_of_getElem? (i := 129) rfl)
  have tw130 := hw _ (List.mem_of_getElem? (i := 130) rfl)
  have tw131 := hw _ (List.mem_of_getElem? (i := 131) rfl)
  have tw132 := hw _ (List.mem_of_getElem? (i := 132) rfl)
  have tw133 := hw _ (List.mem_of_getElem? (i := 133) rfl)
  have tw134 := hw _ (List.mem_of_getElem? (i := 134) rfl)
  show Goes p e below (Pq (Q_cp3_3 Z b1 k1 mr x0 x1 x2 h0 n0) s rom25.cells rom25.slots) (s₁.setTop (entryFrame m #[(.ref b1), (.int (3 : Int32)), (.ref mr)] 4))
  refine Goes.step (S' := s₁.setTop (mkF m 0 #[.val (.ref b1), .val (.int (3 : Int32)), .val (.ref mr), .unset] [])) (fun t k => castTop (ef_cp3_3 m b1 (3 : Int32) mr) k) ?_
  refine Goes.step (S' := s₁.setTop (mkF m 1 #[.val (.ref b1), .val (.int (3 : Int32)), .val (.ref mr), .unset] [(.ref mr)])) (fun t k => XS.aloadN X0.here hx rfl (hb hby dk149) rfl rfl k) ?_
  obtain ⟨T101, X101, e101, st101⟩ := own_ldcMir X0 hx hZ hown tw128 MI eh0 (g := (mkF m 1 #[.val (.ref b1), .val (.int (3 : Int32)), .val (.ref mr), .unset] [(.ref mr)])) rfl (hb hby dk150)
  refine Goes.step (S' := T101.setTop (mkF m 7 #[.val (.ref b1), .val (.int (3 : Int32)), .val (.ref mr), .unset] [(.int (3 : Int32))])) (fun t k => st101 _ (Jvm.RoadKit.acmp (g := (mkF m 3 #[.val (.ref b1), .val (.int (3 : Int32)), .val (.ref mr), .unset] [(.ref mr), (.ref mr)])) X101 hx rfl rfl rfl (pc0 := 3) (pc' := 6) (same := true) rfl (hb hby dk151) rfl (decide_eq_true rfl) (by decide) (by decide) (XS.iloadN X101.here hx rfl (hb hby dk152) rfl k))) ?_
  obtain ⟨T102, h102, k102, X102, e102, E102, A102, AE102, O102, st102⟩ := newRE X101 hx hZ hown tw129 tw71 e101 (g := (mkF m 7 #[.val (.ref b1), .val (.int (3 : Int32)), .val (.ref mr), .unset] [(.int (3 : Int32))])) rfl (hb hby dk153) rfl (by decide) (cap := 3) (by decide) (by decide) (by decide) (by decide) (ad := "[Ljava/lang/Object;") rfl
  obtain ⟨b102, g102⟩ : ∃ z, z = h0.size := ⟨_, rfl⟩
  rw [← g102] at A102 AE102 st102
  have V102 : Arv Z h102 b102 k102 (.object "java/lang/Object") (3 : Int32) [.null, .null, .null] .null := (Arv.new A102 (by decide)).pad (pad_rep [] .null 3)
  refine Goes.step (S' := T102.setTop (mkF m 30 #[.val (.ref b1), .val (.int (3 : Int32)), .val (.ref mr), .val (.ref b102)] [(.ref b1), (.int (0 : Int32)), (.ref b102), (.int (0 : Int32)), (.ref b1)])) (fun t k => st102 _ (XS.goto X102.here hx rfl (pc0 := 10) (pc' := 24) rfl (hb hby dk154) (by decide) (by decide) (XS.astoreN X102.here hx rfl (hb hby dk155) rfl rfl (l' := #[.val (.ref b1), .val (.int (3 : Int32)), .val (.ref mr), .val (.ref b102)]) rfl (XS.aloadN X102.here hx rfl (hb hby dk156) rfl rfl (XS.iconst X102.here hx rfl (hb hby dk157) (XS.aloadN X102.here hx rfl (hb hby dk158) rfl rfl (XS.iconst X102.here hx rfl (hb hby dk159) (XS.aloadN X102.here hx rfl (hb hby dk160) rfl rfl k)))))))) ?_
  obtain ⟨cl103, Ar103, qk103, Sz103, Nn103, Hs103, Gs103⟩ := id (V1.ext E102)
  refine Goes.step (S' := T102.setTop (mkF m 31 #[.val (.ref b1), .val (.int (3 : Int32)), .val (.ref mr), .val (.ref b102)] [(.int (10 : Int32)), (.int (0 : Int32)), (.ref b102), (.int (0 : Int32)), (.ref b1)])) (fun t k => X102.arraylength hx (by rw [e102]; exact Ar103.1) (State.isArrayOf_alike hZ.alike Ar103.2.1) (g := (mkF m 30 #[.val (.ref b1), .val (.int (3 : Int32)), .val (.ref mr), .val (.ref b102)] [(.ref b1), (.int (0 : Int32)), (.ref b102), (.int (0 : Int32)), (.ref b1)])) rfl rfl (hb hby dk161) _ (by rw [len_of Sz103 Nn103]; exact k)) ?_
  refine Goes.step (S' := T102.setTop (mkF m 32 #[.val (.ref b1), .val (.int (3 : Int32)), .val (.ref mr), .val (.ref b102)] [(.int (3 : Int32)), (.int (10 : Int32)), (.int (0 : Int32)), (.ref b102), (.int (0 : Int32)), (.ref b1)])) (fun t k => XS.iloadN X102.here hx rfl (hb hby dk162) rfl k) ?_
  obtain ⟨_, _, ⟨T104, L104, k104, n104⟩, -, X104, ⟨Lc104, hQ104, l104, y104, z104⟩, st104⟩ := Jvm.LawKit.callS X102 hx (y := mth1) hown (mvT hZ tw130) (mvT hZ tw6) (mvT hZ tw7) (mvT hZ tw8) (by decide) (backOf (W := 4) (mn1 l Z a0 hw [] (10 : Int32) (3 : Int32) h102 n0 (Nat.le_trans Z0 E102.1) ((by decide) : (3 : Int32) < (10 : Int32))) hZ tw8 tw7 (by decide) (by decide)) (g := (mkF m 32 #[.val (.ref b1), .val (.int (3 : Int32)), .val (.ref mr), .val (.ref b102)] [(.int (3 : Int32)), (.int (10 : Int32)), (.int (0 : Int32)), (.ref b102), (.int (0 : Int32)), (.ref b1)])) rfl (by rw [hml]; rfl) (argsL := [(.int (10 : Int32)), (.int (3 : Int32))]) (rest := [(.int (0 : Int32)), (.ref b102), (.int (0 : Int32)), (.ref b1)]) (lenOf pd_II_I rfl) rfl (Nat.le_of_eq rfl) (hb hby dk163) (fun _ _ => ⟨rfl, e102, (by decide : 1 + 0 ≤ _), (by decide : 3 + 0 ≤ _)⟩)
  dsimp only [Pt.U, Pt.locs, Pt.cells, Pt.slots] at X104 l104 y104 z104 st104 hQ104
  subst y104 z104
  obtain ⟨rfl, Nq104, q104_0⟩ := hQ104
  have N104 : Fr n0 L104 := by rw [l104]; exact Fr.app N0 Nq104
  refine Goes.step (S' := T104.setTop (mkF m 35 #[.val (.ref b1), .val (.int (3 : Int32)), .val (.ref mr), .val (.ref b102)] [(.int (3 : Int32)), (.int (0 : Int32)), (.ref b102), (.int (0 : Int32)), (.ref b1)])) (fun t k => st104 _ k) ?_
  obtain ⟨cl106, Ar106, qk106, Sz106, Nn106, Hs106, Gs106⟩ := id V102
  obtain ⟨T105, h105, L105, X105, e105, N105, K105, Vr105, st105⟩ := cpA X104 hx hZ hown tw131 tw134 tw132 tw133 q104_0 (sp := (0 : Int32)) (dp := (0 : Int32)) (nn := (3 : Int32)) (us := [(.ref x0), (.ref x1), (.ref x2)]) (V1.ext E102) V102 (Or.inr ⟨rfl, rfl, ⟨(Sto.ofV Ar106 qk106 O102 (Ins.of_exa (Exa.ext E102 Ex0) tw72)), ⟨(Sto.ofV Ar106 qk106 O102 (Ins.of_exa (Exa.ext E102 Ex1) tw72)), ⟨(Sto.ofV Ar106 qk106 O102 (Ins.of_exa (Exa.ext E102 Ex2) tw72)), trivial⟩⟩⟩⟩) (by decide) (by decide) (by decide) (by decide) (by decide) rfl (by decide) N104 (Nat.le_trans Z0 (Nat.le_of_eq g102.symm)) (g := (mkF m 35 #[.val (.ref b1), .val (.int (3 : Int32)), .val (.ref mr), .val (.ref b102)] [(.int (3 : Int32)), (.int (0 : Int32)), (.ref b102), (.int (0 : Int32)), (.ref b1)])) rfl (by rw [hml]; rfl) rfl (hb hby dk164) (by decide) (W := 0) (Nat.le_of_eq rfl) (by decide)
  have V105 : Arv Z h105 b102 k102 (.object "java/lang/Object") (3 : Int32) [(.ref x0), (.ref x1), (.ref x2)] .null := Vr105
  refine Goes.step (S' := T105.setTop (mkF m 39 #[.val (.ref b1), .val (.int (3 : Int32)), .val (.ref mr), .val (.ref b102)] [(.ref b102)])) (fun t k => st105 _ (XS.aloadN X105.here hx rfl (hb hby dk165) rfl rfl k)) ?_
  refine Goes.leave (g := (mkF m 39 #[.val (.ref b1), .val (.int (3 : Int32)), .val (.ref mr), .val (.ref b102)] [(.ref b102)])) X105 Bd.notSynchronized (v := (some (.ref b102))) (fun h => by rw [Bd.returns] at h; cases h) (fun fs hr => by jvm_step X105.here [X105.here.top, hx, (hb hby dk166), X105.method', Bd.returns, Value.isRef, FieldType.isReference]; (first | (intro acts; rw [hr _ acts rfl rfl rfl]) | rw [hr _ _ rfl rfl rfl]); exact Steps.refl _) e105 ?_ (by decide) (by decide)
  exact ⟨b102, k102, rfl, N105, (((Keep.refl _ []).ext E102).trans K105 (allS (Or.inr (Nat.le_of_eq g102.symm)) all0)), (Nat.le_of_eq g102.symm), (AE102.keep K105), V105⟩

theorem ef_cp2_3 (m : MethodId) (x0 : Addr) (x1 : Int32) : entryFrame m #[(.ref x0), (.int x1)] 2 = mkF m 0 #[.val (.ref x0), .val (.int x1)] [] := by first | (simp [entryFrame, mkF, argsToLocals, Value.category]; done) | rfl
def Q_cp2_3 (Z : State) (b1 : Addr) (k1 : ClassId) (mr : Addr) (x0 : Addr) (x1 : Addr) (x2 : Addr) (h0 : Heap) (n0 : Nat) (v : Option Value) (h : Heap) (L : List Loc) : Prop := ∃ (b : Addr) (kb : ClassId), v = some (.ref b) ∧ Fr n0 L ∧ Keep h0 h [] ∧ h0.size ≤ b ∧ Exa Z h b "[Ljava/lang/Object;" ∧ Arv Z h b kb (.object "java/lang/Object") (3 : Int32) [(.ref x0), (.ref x1), (.ref x2)] .null
set_option maxRecDepth 65536 in
set_option maxHeartbeats 40000000 in
theorem cp2_3 (l : Launch) (Z : State) (a0 : Array Value) (hw : ∀ d ∈ tables_1, d.before a0 Z = true) (ws : List Jvm.Cond) (b1 : Addr) (k1 : ClassId) (mr : Addr) (x0 : Addr) (x1 : Addr) (x2 : Addr) (h0 : Heap) (n0 : Nat) (Z0 : n0 ≤ h0.size) (V1 : Arv Z h0 b1 k1 (.object "java/lang/Object") (10 : Int32) [(.ref x0), (.ref x1), (.ref x2), .null, .null, .null, .null, .null, .null, .null] .null) (Eb : Exa Z h0 b1 "[Ljava/lang/Object;") (Ex0 : Exa Z h0 x0 "java/lang/Integer") (Ex1 : Exa Z h0 x1 "java/lang/Integer") (Ex2 : Exa Z h0 x2 "java/lang/Integer") (MI : MirO Z "[Ljava/lang/Object;" mr) :
    MetFree l mth19 (head1 (Jvm.Cond.code mth19 jdk_65_method_119_code 2 (some (.array (.object "java/lang/Object"))) :: ws) rom26) (fun a U => a = #[(.ref b1), (.int (3 : Int32))] ∧ Z.Warmed39 U.vm ∧ U.heap = h0) (fun _ _ _ _ _ => True) (fun _ U o U' => ∃ v L, o = .returned v ∧ Q_cp2_3 Z b1 k1 mr x0 x1 x2 h0 n0 v U'.heap L ∧ FrameEnd U o U' L rom26.cells rom26.slots) := by
  refine MetFree.of_bodySF (plainFor_of_name pnm10) hisR ?_
  intro p e s m args below meth c s₁ Bd hml0 hP hK
  obtain ⟨rfl, hZ, hh⟩ := hP
  have hx := Bd.exec
  have hby := Bd.bytes
  have hml : c.maxLocals = 2 := hml0
  have hown : s.vm.findClass "java/util/Arrays" = some m.cls := findClass_of_methodNamed Bd.named
  have hnm := (name_of_methodNamed Bd.named Bd.method).1
  have X0 : Stand p l e rom26 s m #[(.ref b1), (.int (3 : Int32))] below meth c s₁ [] 0 0 := Stand.of_body Bd
  have eh0 : s₁.heap = h0 := by rw [← hh, Bd.state]; rfl
  have N0 := Fr.nil n0
  have tw96 := hw _ (List.mem_of_getElem? (i := 96) rfl)
  have tw117 := hw _ (List.mem_of_getElem? (i := 117) rfl)
  have tw119 := hw _ (List.mem_of_getElem? (i := 119) rfl)
  have tw120 := hw _ (List.mem_of_getElem? (i := 120) rfl)
  have tw121 := hw _ (List.mem_of_getElem? (i := 121) rfl)
  have tw122 := hw _ (List.mem_of_getElem? (i := 122) rfl)
  have tw123 := hw _ (List.mem_of_getElem? (i := 123) rfl)
  have tw125 := hw _ (List.mem_of_getElem? (i := 125) rfl)
  have tw126 := hw _ (List.mem_of_getElem? (i := 126) rfl)
  have tw127 := hw _ (List.mem_of_getElem? (i := 127) rfl)
  show Goes p e below (Pq (Q_cp2_3 Z b1 k1 mr x0 x1 x2 h0 n0) s rom26.cells rom26.slots) (s₁.setTop (entryFrame m #[(.ref b1), (.int (3 : Int32))] 2))
  refine Goes.step (S' := s₁.setTop (mkF m 0 #[.val (.ref b1), .val (.int (3 : Int32))] [])) (fun t k => castTop (ef_cp2_3 m b1 (3 : Int32)) k) ?_
  refine Goes.step (S' := s₁.setTop (mkF m 3 #[.val (.ref b1), .val (.int (3 : Int32))] [(.ref b1), (.int (3 : Int32)), (.ref b1)])) (fun t k => XS.aloadN X0.here hx rfl (hb hby dk167) rfl rfl (XS.iloadN X0.here hx rfl (hb hby dk168) rfl (XS.aloadN X0.here hx rfl (hb hby dk169) rfl rfl k))) ?_
  obtain ⟨T101, X101, e101, st101⟩ := own_gcls X0 hx hZ hown tw119 tw120 tw96 tw122 tw121 tw123 eh0 Eb MI (g := (mkF m 3 #[.val (.ref b1), .val (.int (3 : Int32))] [(.ref b1), (.int (3 : Int32)), (.ref b1)])) rfl (by rw [hml]; rfl) rfl (hb hby dk170) (by decide) (W := 2) (Nat.le_of_eq rfl) (by decide)
  refine Goes.step (S' := T101.setTop (mkF m 6 #[.val (.ref b1), .val (.int (3 : Int32))] [(.ref mr), (.int (3 : Int32)), (.ref b1)])) (fun t k => st101 _ k) ?_
  obtain ⟨_, _, ⟨T102, L102, k102, n102⟩, -, X102, ⟨Lc102, hQ102, l102, y102, z102⟩, st102⟩ := Jvm.LawKit.callS X101 hx (y := mth18) hown (mvT hZ tw125) (mvT hZ tw126) (mvT hZ tw117) (mvT hZ tw127) (by decide) (backOf (W := 0) (cp3_3 l Z a0 hw [] b1 k1 mr x0 x1 x2 h0 n0 Z0 V1 Eb Ex0 Ex1 Ex2 MI) hZ tw127 tw117 (by decide) (by decide)) (g := (mkF m 6 #[.val (.ref b1), .val (.int (3 : Int32))] [(.ref mr), (.int (3 : Int32)), (.ref b1)])) rfl (by rw [hml]; rfl) (argsL := [(.ref b1), (.int (3 : Int32)), (.ref mr)]) (rest := []) (lenOf pd_Ljava_lang_Object_ILjava_lang_Class___Ljava_lang_Object rfl) rfl (Nat.le_of_eq rfl) (hb hby dk171) (fun _ _ => ⟨rfl, e101, (by decide : 0 + 1 ≤ _), (by decide : 0 + 3 ≤ _)⟩)
  dsimp only [Pt.U, Pt.locs, Pt.cells, Pt.slots] at X102 l102 y102 z102 st102 hQ102
  subst y102 z102
  obtain ⟨b_102, kb_102, rfl, Nq102, q102_0, q102_1, q102_2, q102_3⟩ := hQ102
  have N102 : Fr n0 L102 := by rw [l102]; exact Fr.app N0 Nq102
  refine Goes.step (S' := T102.setTop (mkF m 9 #[.val (.ref b1), .val (.int (3 : Int32))] [(.ref b_102)])) (fun t k => st102 _ k) ?_
  refine Goes.leave (g := (mkF m 9 #[.val (.ref b1), .val (.int (3 : Int32))] [(.ref b_102)])) X102 Bd.notSynchronized (v := (some (.ref b_102))) (fun h => by rw [Bd.returns] at h; cases h) (fun fs hr => by jvm_step X102.here [X102.here.top, hx, (hb hby dk172), X102.method', Bd.returns, Value.isRef, FieldType.isReference]; (first | (intro acts; rw [hr _ acts rfl rfl rfl]) | rw [hr _ _ rfl rfl rfl]); exact Steps.refl _) rfl ?_ (by decide) (by decide)
  exact ⟨b_102, kb_102, rfl, N102, ((Keep.refl _ []).trans q102_0 all0), q102_1, q102_2, q102_3⟩

theorem ef_toa3 (m : MethodId) (x0 : Addr) : entryFrame m #[(.ref x0)] 1 = mkF m 0 #[.val (.ref x0)] [] := by first | (simp [entryFrame, mkF, argsToLocals, Value.category]; done) | rfl
def Q_toa3 (Z : State) (a1 : Addr) (b1 : Addr) (k1 : ClassId) (mr : Addr) (x0 : Addr) (x1 : Addr) (x2 : Addr) (h0 : Heap) (n0 : Nat) (v : Option Value) (h : Heap) (L : List Loc) : Prop := ∃ (b : Addr) (kb : ClassId), v = some (.ref b) ∧ Fr n0 L ∧ Keep h0 h [] ∧ h0.size ≤ b ∧ Exa Z h b "[Ljava/lang/Object;" ∧ Arv Z h b kb (.object "java/lang/Object") (3 : Int32) [(.ref x0), (.ref x1), (.ref x2)] .null
set_option maxRecDepth 65536 in
set_option maxHeartbeats 40000000 in
theorem toa3 (l : Launch) (Z : State) (a0 : Array Value) (hw : ∀ d ∈ tables_1, d.before a0 Z = true) (ws : List Jvm.Cond) (a1 : Addr) (b1 : Addr) (k1 : ClassId) (mr : Addr) (x0 : Addr) (x1 : Addr) (x2 : Addr) (h0 : Heap) (n0 : Nat) (Z0 : n0 ≤ h0.size) (E1 : Exa Z h0 a1 "java/util/ArrayList") (Fe : Fld Z h0 a1 "java/util/ArrayList" "elementData" "[Ljava/lang/Object;" (.ref b1)) (Fz : Fld Z h0 a1 "java/util/ArrayList" "size" "I" (.int (3 : Int32))) (V1 : Arv Z h0 b1 k1 (.object "java/lang/Object") (10 : Int32) [(.ref x0), (.ref x1), (.ref x2), .null, .null, .null, .null, .null, .null, .null] .null) (Eb : Exa Z h0 b1 "[Ljava/lang/Object;") (Ex0 : Exa Z h0 x0 "java/lang/Integer") (Ex1 : Exa Z h0 x1 "java/lang/Integer") (Ex2 : Exa Z h0 x2 "java/lang/Integer") (MI : MirO Z "[Ljava/lang/Object;" mr) :
    MetFree l mth20 (head1 (Jvm.Cond.code mth20 jdk_38_method_16_code 1 (some (.array (.object "java/lang/Object"))) :: ws) rom27) (fun a U => a = #[(.ref a1)] ∧ Z.Warmed39 U.vm ∧ U.heap = h0) (fun _ _ _ _ _ => True) (fun _ U o U' => ∃ v L, o = .returned v ∧ Q_toa3 Z a1 b1 k1 mr x0 x1 x2 h0 n0 v U'.heap L ∧ FrameEnd U o U' L rom27.cells rom27.slots) := by
  refine MetFree.of_bodySF (plainFor_of_name pnm4) hisR ?_
  intro p e s m args below meth c s₁ Bd hml0 hP hK
  obtain ⟨rfl, hZ, hh⟩ := hP
  have hx := Bd.exec
  have hby := Bd.bytes
  have hml : c.maxLocals = 1 := hml0
  have hown : s.vm.findClass "java/util/ArrayList" = some m.cls := findClass_of_methodNamed Bd.named
  have hnm := (name_of_methodNamed Bd.named Bd.method).1
  have X0 : Stand p l e rom27 s m #[(.ref a1)] below meth c s₁ [] 0 0 := Stand.of_body Bd
  have eh0 : s₁.heap = h0 := by rw [← hh, Bd.state]; rfl
  have N0 := Fr.nil n0
  have tw36 := hw _ (List.mem_of_getElem? (i := 36) rfl)
  have tw52 := hw _ (List.mem_of_getElem? (i := 52) rfl)
  have tw115 := hw _ (List.mem_of_getElem? (i := 115) rfl)
  have tw116 := hw _ (List.mem_of_getElem? (i := 116) rfl)
  have tw117 := hw _ (List.mem_of_getElem? (i := 117) rfl)
  have tw118 := hw _ (List.mem_of_getElem? (i := 118) rfl)
  show Goes p e below (Pq (Q_toa3 Z a1 b1 k1 mr x0 x1 x2 h0 n0) s rom27.cells rom27.slots) (s₁.setTop (entryFrame m #[(.ref a1)] 1))
  refine Goes.step (S' := s₁.setTop (mkF m 0 #[.val (.ref a1)] [])) (fun t k => castTop (ef_toa3 m a1) k) ?_
  refine Goes.step (S' := s₁.setTop (mkF m 1 #[.val (.ref a1)] [(.ref a1)])) (fun t k => XS.aloadN X0.here hx rfl (hb hby dk173) rfl rfl k) ?_
  obtain ⟨T101, X101, e101, st101⟩ := getF X0 hx hZ hown (host := "") (Or.inl tw36) Via.refl eh0 Fe (g := (mkF m 1 #[.val (.ref a1)] [(.ref a1)])) rfl rfl (hb hby dk174)
  refine Goes.step (S' := T101.setTop (mkF m 5 #[.val (.ref a1)] [(.ref a1), (.ref b1)])) (fun t k => st101 _ (XS.aloadN X101.here hx rfl (hb hby dk175) rfl rfl k)) ?_
  obtain ⟨T102, X102, e102, st102⟩ := getF X101 hx hZ hown (host := "") (Or.inl tw52) Via.refl e101 Fz (g := (mkF m 5 #[.val (.ref a1)] [(.ref a1), (.ref b1)])) rfl rfl (hb hby dk176)
  refine Goes.step (S' := T102.setTop (mkF m 8 #[.val (.ref a1)] [(.int (3 : Int32)), (.ref b1)])) (fun t k => st102 _ k) ?_
  obtain ⟨_, _, ⟨T103, L103, k103, n103⟩, -, X103, ⟨Lc103, hQ103, l103, y103, z103⟩, st103⟩ := Jvm.LawKit.callS X102 hx (y := mth19) hown (mvT hZ tw115) (mvT hZ tw116) (mvT hZ tw117) (mvT hZ tw118) (by decide) (backOf (W := 0) (cp2_3 l Z a0 hw [] b1 k1 mr x0 x1 x2 h0 n0 Z0 V1 Eb Ex0 Ex1 Ex2 MI) hZ tw118 tw117 (by decide) (by decide)) (g := (mkF m 8 #[.val (.ref a1)] [(.int (3 : Int32)), (.ref b1)])) rfl (by rw [hml]; rfl) (argsL := [(.ref b1), (.int (3 : Int32))]) (rest := []) (lenOf pd_Ljava_lang_Object_I__Ljava_lang_Object rfl) rfl (Nat.le_of_eq rfl) (hb hby dk177) (fun _ _ => ⟨rfl, e102, (by decide : 0 + 1 ≤ _), (by decide : 0 + 3 ≤ _)⟩)
  dsimp only [Pt.U, Pt.locs, Pt.cells, Pt.slots] at X103 l103 y103 z103 st103 hQ103
  subst y103 z103
  obtain ⟨b_103, kb_103, rfl, Nq103, q103_0, q103_1, q103_2, q103_3⟩ := hQ103
  have N103 : Fr n0 L103 := by rw [l103]; exact Fr.app N0 Nq103
  refine Goes.step (S' := T103.setTop (mkF m 11 #[.val (.ref a1)] [(.ref b_103)])) (fun t k => st103 _ k) ?_
  refine Goes.leave (g := (mkF m 11 #[.val (.ref a1)] [(.ref b_103)])) X103 Bd.notSynchronized (v := (some (.ref b_103))) (fun h => by rw [Bd.returns] at h; cases h) (fun fs hr => by jvm_step X103.here [X103.here.top, hx, (hb hby dk178), X103.method', Bd.returns, Value.isRef, FieldType.isReference]; (first | (intro acts; rw [hr _ acts rfl rfl rfl]) | rw [hr _ _ rfl rfl rfl]); exact Steps.refl _) rfl ?_ (by decide) (by decide)
  exact ⟨b_103, kb_103, rfl, N103, ((Keep.refl _ []).trans q103_0 all0), q103_1, q103_2, q103_3⟩

theorem ef_lfa3 (m : MethodId) (x0 : Addr) : entryFrame m #[(.ref x0)] 3 = mkF m 0 #[.val (.ref x0), .unset, .unset] [] := by first | (simp [entryFrame, mkF, argsToLocals, Value.category]; done) | rfl
def Q_lfa3 (Z : State) (b1 : Addr) (k1 : ClassId) (x0 : Addr) (x1 : Addr) (x2 : Addr) (h0 : Heap) (n0 : Nat) (v : Option Value) (h : Heap) (L : List Loc) : Prop := ∃ (r : Addr) (b : Addr) (kb : ClassId), v = some (.ref r) ∧ Fr n0 L ∧ Keep h0 h [] ∧ h0.size ≤ r ∧ h0.size ≤ b ∧ Exa Z h r "java/util/ImmutableCollections$ListN" ∧ Fld Z h r "java/util/ImmutableCollections$ListN" "elements" "[Ljava/lang/Object;" (.ref b) ∧ Arv Z h b kb (.object "java/lang/Object") (3 : Int32) [(.ref x0), (.ref x1), (.ref x2)] .null
set_option maxRecDepth 65536 in
set_option maxHeartbeats 40000000 in
theorem lfa3 (l : Launch) (Z : State) (a0 : Array Value) (hw : ∀ d ∈ tables_1, d.before a0 Z = true) (ws : List Jvm.Cond) (b1 : Addr) (k1 : ClassId) (x0 : Addr) (x1 : Addr) (x2 : Addr) (h0 : Heap) (n0 : Nat) (Z0 : n0 ≤ h0.size) (V1 : Arv Z h0 b1 k1 (.object "java/lang/Object") (3 : Int32) [(.ref x0), (.ref x1), (.ref x2)] .null) (Eb : Exa Z h0 b1 "[Ljava/lang/Object;") (Ex0 : Exa Z h0 x0 "java/lang/Integer") (Ex1 : Exa Z h0 x1 "java/lang/Integer") (Ex2 : Exa Z h0 x2 "java/lang/Integer") :
    MetFree l mth29 (head1 (Jvm.Cond.code mth29 jdk_56_method_4_code 3 (some (.object "java/util/List")) :: ws) rom28) (fun a U => a = #[(.ref b1)] ∧ Z.Warmed39 U.vm ∧ U.heap = h0) (fun _ _ _ _ _ => True) (fun _ U o U' => ∃ v L, o = .returned v ∧ Q_lfa3 Z b1 k1 x0 x1 x2 h0 n0 v U'.heap L ∧ FrameEnd U o U' L rom28.cells rom28.slots) := by
  refine MetFree.of_bodySF (plainFor_of_name pnm12) hisR ?_
  intro p e s m args below meth c s₁ Bd hml0 hP hK
  obtain ⟨rfl, hZ, hh⟩ := hP
  have hx := Bd.exec
  have hby := Bd.bytes
  have hml : c.maxLocals = 3 := hml0
  have hown : s.vm.findClass "java/util/ImmutableCollections" = some m.cls := findClass_of_methodNamed Bd.named
  have hnm := (name_of_methodNamed Bd.named Bd.method).1
  have X0 : Stand p l e rom28 s m #[(.ref b1)] below meth c s₁ [] 0 0 := Stand.of_body Bd
  have eh0 : s₁.heap = h0 := by rw [← hh, Bd.state]; rfl
  have N0 := Fr.nil n0
  have tw71 := hw _ (List.mem_of_getElem? (i := 71) rfl)
  have tw72 := hw _ (List.mem_of_getElem? (i := 72) rfl)
  have tw97 := hw _ (List.mem_of_getElem? (i := 97) rfl)
  have tw141 := hw _ (List.mem_of_getElem? (i := 141) rfl)
  have tw142 := hw _ (List.mem_of_getElem? (i := 142) rfl)
  have tw143 := hw _ (List.mem_of_getElem? (i := 143) rfl)
  have tw144 := hw _ (List.mem_of_getElem? (i := 144) rfl)
  have tw145 := hw _ (List.mem_of_getElem? (i := 145) rfl)
  have tw146 := hw _ (List.mem_of_getElem? (i := 146) rfl)
  have tw147 := hw _ (List.mem_of_getElem? (i := 147) rfl)
  have tw148 := hw _ (List.mem_of_getElem? (i := 148) rfl)
  have tw149 := hw _ (List.mem_of_getElem? (i := 149) rfl)
  have tw151 := hw _ (List.mem_of_getElem? (i := 151) rfl)
  have tw167 := hw _ (List.mem_of_getElem? (i := 167) rfl)
  have tw169 := hw _ (List.mem_of_getElem? (i := 169) rfl)
  show Goes p e below (Pq (Q_lfa3 Z b1 k1 x0 x1 x2 h0 n0) s rom28.cells rom28.slots) (s₁.setTop (entryFrame m #[(.ref b1)] 3))
  refine Goes.step (S' := s₁.setTop (mkF m 0 #[.val (.ref b1), .unset, .unset] [])) (fun t k => castTop (ef_lfa3 m b1) k) ?_
  refine Goes.step (S' := s₁.setTop (mkF m 1 #[.val (.ref b1), .unset, .unset] [(.ref b1)])) (fun t k => XS.aloadN X0.here hx rfl (hb hby dk251) rfl rfl k) ?_
  obtain ⟨cl101, Ar101, qk101, Sz101, Nn101, Hs101, Gs101⟩ := id V1
  refine Goes.step (S' := s₁.setTop (mkF m 2 #[.val (.ref b1), .unset, .unset] [(.int (3 : Int32))])) (fun t k => X0.arraylength hx (by rw [eh0]; exact Ar101.1) (State.isArrayOf_alike hZ.alike Ar101.2.1) (g := (mkF m 1 #[.val (.ref b1), .unset, .unset] [(.ref b1)])) rfl rfl (hb hby dk252) _ (by rw [len_of Sz101 Nn101]; exact k)) ?_
  obtain ⟨T102, h102, k102, X102, e102, E102, A102, AE102, O102, st102⟩ := newRE X0 hx hZ hown tw141 tw71 eh0 (g := (mkF m 2 #[.val (.ref b1), .unset, .unset] [(.int (3 : Int32))])) rfl (hb hby dk253) rfl (by decide) (cap := 3) (by decide) (by decide) (by decide) (by decide) (ad := "[Ljava/lang/Object;") rfl
  obtain ⟨b102, g102⟩ : ∃ z, z = h0.size := ⟨_, rfl⟩
  rw [← g102] at A102 AE102 st102
  have V102 : Arv Z h102 b102 k102 (.object "java/lang/Object") (3 : Int32) [.null, .null, .null] .null := (Arv.new A102 (by decide)).pad (pad_rep [] .null 3)
  refine Goes.step (S' := T102.setTop (mkF m 10 #[.val (.ref b1), .val (.ref b102), .val (.int (0 : Int32))] [(.ref b1), (.int (0 : Int32))])) (fun t k => st102 _ (XS.astoreN X102.here hx rfl (hb hby dk254) rfl rfl (l' := #[.val (.ref b1), .val (.ref b102), .unset]) rfl (XS.iconst X102.here hx rfl (hb hby dk255) (XS.istoreN X102.here hx rfl (hb hby dk256) rfl (l' := #[.val (.ref b1), .val (.ref b102), .val (.int (0 : Int32))]) rfl (XS.iloadN X102.here hx rfl (hb hby dk257) rfl (XS.aloadN X102.here hx rfl (hb hby dk258) rfl rfl k)))))) ?_
  obtain ⟨cl103, Ar103, qk103, Sz103, Nn103, Hs103, Gs103⟩ := id (V1.ext E102)
  refine Goes.step (S' := T102.setTop (mkF m 11 #[.val (.ref b1), .val (.ref b102), .val (.int (0 : Int32))] [(.int (3 : Int32)), (.int (0 : Int32))])) (fun t k => X102.arraylength hx (by rw [e102]; exact Ar103.1) (State.isArrayOf_alike hZ.alike Ar103.2.1) (g := (mkF m 10 #[.val (.ref b1), .val (.ref b102), .val (.int (0 : Int32))] [(.ref b1), (.int (0 : Int32))])) rfl rfl (hb hby dk259) _ (by rw [len_of Sz103 Nn103]; exact k)) ?_
  refine Goes.step (S' := T102.setTop (mkF m 18 #[.val (.ref b1), .val (.ref b102), .val (.int (0 : Int32))] [(.int (0 : Int32)), (.ref b1), (.int (0 : Int32)), (.ref b102)])) (fun t k => XS.icmpNo X102.here hx rfl (hb hby dk260) rfl (tlt ((by decide) : (0 : Int32) < (3 : Int32))).2.1 (XS.aloadN X102.here hx rfl (hb hby dk261) rfl rfl (XS.iloadN X102.here hx rfl (hb hby dk262) rfl (XS.aloadN X102.here hx rfl (hb hby dk263) rfl rfl (XS.iloadN X102.here hx rfl (hb hby dk264) rfl k))))) ?_
  obtain ⟨cl104, Ar104, qk104, Sz104, Nn104, Hs104, Gs104⟩ := id (V1.ext E102)
  have hin104 := (inb_of (j := (0 : Int32)) Sz104 ⟨by decide, by decide⟩)
  refine Goes.step (S' := T102.setTop (mkF m 19 #[.val (.ref b1), .val (.ref b102), .val (.int (0 : Int32))] [(.ref x0), (.int (0 : Int32)), (.ref b102)])) (fun t k => X102.aaload hx (j := (0 : Int32)) (v := (.ref x0)) (by rw [e102]; exact Ar104.1) (State.isArrayOf_alike hZ.alike Ar104.2.1) rfl Ar104.2.2 hin104 (Has.at Hs104 hin104 rfl) (g := (mkF m 18 #[.val (.ref b1), .val (.ref b102), .val (.int (0 : Int32))] [(.int (0 : Int32)), (.ref b1), (.int (0 : Int32)), (.ref b102)])) rfl rfl (hb hby dk265) _ k) ?_
  obtain ⟨_, _, ⟨T105, L105, k105, n105⟩, -, X105, ⟨Lc105, hQ105, l105, y105, z105⟩, st105⟩ := Jvm.LawKit.callS X102 hx (y := mth12) hown (mvT hZ tw142) (mvT hZ tw143) (mvT hZ tw144) (mvT hZ tw145) (by decide) (backOf (W := 2) (rqn l Z a0 hw [] x0 h102 n0 (Nat.le_trans Z0 E102.1) ) hZ tw145 tw144 (by decide) (by decide)) (g := (mkF m 19 #[.val (.ref b1), .val (.ref b102), .val (.int (0 : Int32))] [(.ref x0), (.int (0 : Int32)), (.ref b102)])) rfl (by rw [hml]; rfl) (argsL := [(.ref x0)]) (rest := [(.int (0 : Int32)), (.ref b102)]) (lenOf pd_Ljava_lang_Object__Ljava_lang_Object rfl) rfl (Nat.le_of_eq rfl) (hb hby dk266) (fun _ _ => ⟨rfl, e102, (by decide : 1 + 0 ≤ _), (by decide : 3 + 0 ≤ _)⟩)
  dsimp only [Pt.U, Pt.locs, Pt.cells, Pt.slots] at X105 l105 y105 z105 st105 hQ105
  subst y105 z105
  obtain ⟨rfl, Nq105, q105_0⟩ := hQ105
  have N105 : Fr n0 L105 := by rw [l105]; exact Fr.app N0 Nq105
  refine Goes.step (S' := T105.setTop (mkF m 22 #[.val (.ref b1), .val (.ref b102), .val (.int (0 : Int32))] [(.ref x0), (.int (0 : Int32)), (.ref b102)])) (fun t k => st105 _ k) ?_
  obtain ⟨cl106, Ar106, qk106, Sz106, Nn106, Hs106, Gs106⟩ := id V102
  obtain ⟨T106, h106, X106, e106, W106, st106⟩ := stR X105 hx hZ q105_0 Ar106 (j := (0 : Int32)) (inb_of (j := (0 : Int32)) Sz106 ⟨by decide, by decide⟩) rfl (Sto.ofV Ar106 qk106 O102 (Ins.of_exa (Exa.ext E102 Ex0) tw72)) (g := (mkF m 22 #[.val (.ref b1), .val (.ref b102), .val (.int (0 : Int32))] [(.ref x0), (.int (0 : Int32)), (.ref b102)])) rfl rfl (hb hby dk267)
  have V106 : Arv Z h106 b102 k102 (.object "java/lang/Object") (3 : Int32) [(.ref x0), .null, .null] .null := Arv.set Ar106 qk106 Sz106 Nn106 Hs106 Gs106 rfl W106 0 rfl (Nat.le_of_ble_eq_true rfl)
  have N106 := Fr.snoc X106 N105 (Nat.le_trans Z0 (Nat.le_of_eq g102.symm))
  refine Goes.step (S' := T106.setTop (mkF m 26 #[.val (.ref b1), .val (.ref b102), .val (.int ((0 : Int32) + (1 : Int32)))] [])) (fun t k => st106 _ (XS.iinc X106.here hx rfl (hb hby dk268) rfl (l' := #[.val (.ref b1), .val (.ref b102), .val (.int ((0 : Int32) + (1 : Int32)))]) rfl k)) ?_
  rw [show ((0 : Int32) + (1 : Int32)) = (1 : Int32) from by decide]
  refine Goes.step (S' := T106.setTop (mkF m 10 #[.val (.ref b1), .val (.ref b102), .val (.int (1 : Int32))] [(.ref b1), (.int (1 : Int32))])) (fun t k => XS.goto X106.here hx rfl (pc0 := 26) (pc' := 8) rfl (hb hby dk269) (by decide) (by decide) (XS.iloadN X106.here hx rfl (hb hby dk257) rfl (XS.aloadN X106.here hx rfl (hb hby dk258) rfl rfl k))) ?_
  obtain ⟨cl107, Ar107, qk107, Sz107, Nn107, Hs107, Gs107⟩ := id ((V1.ext E102).other W106 (Nat.ne_of_lt (Nat.lt_of_lt_of_le V1.lt (Nat.le_of_eq g102.symm))))
  refine Goes.step (S' := T106.setTop (mkF m 11 #[.val (.ref b1), .val (.ref b102), .val (.int (1 : Int32))] [(.int (3 : Int32)), (.int (1 : Int32))])) (fun t k => X106.arraylength hx (by rw [e106]; exact Ar107.1) (State.isArrayOf_alike hZ.alike Ar107.2.1) (g := (mkF m 10 #[.val (.ref b1), .val (.ref b102), .val (.int (1 : Int32))] [(.ref b1), (.int (1 : Int32))])) rfl rfl (hb hby dk259) _ (by rw [len_of Sz107 Nn107]; exact k)) ?_
  refine Goes.step (S' := T106.setTop (mkF m 18 #[.val (.ref b1), .val (.ref b102), .val (.int (1 : Int32))] [(.int (1 : Int32)), (.ref b1), (.int (1 : Int32)), (.ref b102)])) (fun t k => XS.icmpNo X106.here hx rfl (hb hby dk260) rfl (tlt ((by decide) : (1 : Int32) < (3 : Int32))).2.1 (XS.aloadN X106.here hx rfl (hb hby dk261) rfl rfl (XS.iloadN X106.here hx rfl (hb hby dk262) rfl (XS.aloadN X106.here hx rfl (hb hby dk263) rfl rfl (XS.iloadN X106.here hx rfl (hb hby dk264) rfl k))))) ?_
  obtain ⟨cl108, Ar108, qk108, Sz108, Nn108, Hs108, Gs108⟩ := id ((V1.ext E102).other W106 (Nat.ne_of_lt (Nat.lt_of_lt_of_le V1.lt (Nat.le_of_eq g102.symm))))
  have hin108 := (inb_of (j := (1 : Int32)) Sz108 ⟨by decide, by decide⟩)
  refine Goes.step (S' := T106.setTop (mkF m 19 #[.val (.ref b1), .val (.ref b102), .val (.int (1 : Int32))] [(.ref x1), (.int (1 : Int32)), (.ref b102)])) (fun t k => X106.aaload hx (j := (1 : Int32)) (v := (.ref x1)) (by rw [e106]; exact Ar108.1) (State.isArrayOf_alike hZ.alike Ar108.2.1) rfl Ar108.2.2 hin108 (Has.at Hs108 hin108 rfl) (g := (mkF m 18 #[.val (.ref b1), .val (.ref b102), .val (.int (1 : Int32))] [(.int (1 : Int32)), (.ref b1), (.int (1 : Int32)), (.ref b102)])) rfl rfl (hb hby dk265) _ k) ?_
  obtain ⟨_, _, ⟨T109, L109, k109, n109⟩, -, X109, ⟨Lc109, hQ109, l109, y109, z109⟩, st109⟩ := Jvm.LawKit.callS X106 hx (y := mth12) hown (mvT hZ tw142) (mvT hZ tw143) (mvT hZ tw144) (mvT hZ tw145) (by decide) (backOf (W := 2) (rqn l Z a0 hw [] x1 h106 n0 (Nat.le_trans Z0 (Nat.le_trans E102.1 (Nat.le_of_eq W106.size.symm))) ) hZ tw145 tw144 (by decide) (by decide)) (g := (mkF m 19 #[.val (.ref b1), .val (.ref b102), .val (.int (1 : Int32))] [(.ref x1), (.int (1 : Int32)), (.ref b102)])) rfl (by rw [hml]; rfl) (argsL := [(.ref x1)]) (rest := [(.int (1 : Int32)), (.ref b102)]) (lenOf pd_Ljava_lang_Object__Ljava_lang_Object rfl) rfl (Nat.le_of_eq rfl) (hb hby dk266) (fun _ _ => ⟨rfl, e106, (by decide : 1 + 0 ≤ _), (by decide : 3 + 0 ≤ _)⟩)
  dsimp only [Pt.U, Pt.locs, Pt.cells, Pt.slots] at X109 l109 y109 z109 st109 hQ109
  subst y109 z109
  obtain ⟨rfl, Nq109, q109_0⟩ := hQ109
  have N109 : Fr n0 L109 := by rw [l109]; exact Fr.app N106 Nq109
  refine Goes.step (S' := T109.setTop (mkF m 22 #[.val (.ref b1), .val (.ref b102), .val (.int (1 : Int32))] [(.ref x1), (.int (1 : Int32)), (.ref b102)])) (fun t k => st109 _ k) ?_
  obtain ⟨cl110, Ar110, qk110, Sz110, Nn110, Hs110, Gs110⟩ := id V106
  obtain ⟨T110, h110, X110, e110, W110, st110⟩ := stR X109 hx hZ q109_0 Ar110 (j := (1 : Int32)) (inb_of (j := (1 : Int32)) Sz110 ⟨by decide, by decide⟩) rfl (Sto.ofV Ar110 qk110 O102 (Ins.of_exa (Exa.wr W106 (Exa.ext E102 Ex1)) tw72)) (g := (mkF m 22 #[.val (.ref b1), .val (.ref b102), .val (.int (1 : Int32))] [(.ref x1), (.int (1 : Int32)), (.ref b102)])) rfl rfl (hb hby dk267)
  have V110 : Arv Z h110 b102 k102 (.object "java/lang/Object") (3 : Int32) [(.ref x0), (.ref x1), .null] .null := Arv.set Ar110 qk110 Sz110 Nn110 Hs110 Gs110 rfl W110 1 rfl (Nat.le_of_ble_eq_true rfl)
  have N110 := Fr.snoc X110 N109 (Nat.le_trans Z0 (Nat.le_of_eq g102.symm))
  refine Goes.step (S' := T110.setTop (mkF m 26 #[.val (.ref b1), .val (.ref b102), .val (.int ((1 : Int32) + (1 : Int32)))] [])) (fun t k => st110 _ (XS.iinc X110.here hx rfl (hb hby dk268) rfl (l' := #[.val (.ref b1), .val (.ref b102), .val (.int ((1 : Int32) + (1 : Int32)))]) rfl k)) ?_
  rw [show ((1 : Int32) + (1 : Int32)) = (2 : Int32) from by decide]
  refine Goes.step (S' := T110.setTop (mkF m 10 #[.val (.ref b1), .val (.ref b102), .val (.int (2 : Int32))] [(.ref b1), (.int (2 : Int32))])) (fun t k => XS.goto X110.here hx rfl (pc0 := 26) (pc' := 8) rfl (hb hby dk269) (by decide) (by decide) (XS.iloadN X110.here hx rfl (hb hby dk257) rfl (XS.aloadN X110.here hx rfl (hb hby dk258) rfl rfl k))) ?_
  obtain ⟨cl111, Ar111, qk111, Sz111, Nn111, Hs111, Gs111⟩ := id (((V1.ext E102).other W106 (Nat.ne_of_lt (Nat.lt_of_lt_of_le V1.lt (Nat.le_of_eq g102.symm)))).other W110 (Nat.ne_of_lt (Nat.lt_of_lt_of_le V1.lt (Nat.le_of_eq g102.symm))))
  refine Goes.step (S' := T110.setTop (mkF m 11 #[.val (.ref b1), .val (.ref b102), .val (.int (2 : Int32))] [(.int (3 : Int32)), (.int (2 : Int32))])) (fun t k => X110.arraylength hx (by rw [e110]; exact Ar111.1) (State.isArrayOf_alike hZ.alike Ar111.2.1) (g := (mkF m 10 #[.val (.ref b1), .val (.ref b102), .val (.int (2 : Int32))] [(.ref b1), (.int (2 : Int32))])) rfl rfl (hb hby dk259) _ (by rw [len_of Sz111 Nn111]; exact k)) ?_
  refine Goes.step (S' := T110.setTop (mkF m 18 #[.val (.ref b1), .val (.ref b102), .val (.int (2 : Int32))] [(.int (2 : Int32)), (.ref b1), (.int (2 : Int32)), (.ref b102)])) (fun t k => XS.icmpNo X110.here hx rfl (hb hby dk260) rfl (tlt ((by decide) : (2 : Int32) < (3 : Int32))).2.1 (XS.aloadN X110.here hx rfl (hb hby dk261) rfl rfl (XS.iloadN X110.here hx rfl (hb hby dk262) rfl (XS.aloadN X110.here hx rfl (hb hby dk263) rfl rfl (XS.iloadN X110.here hx rfl (hb hby dk264) rfl k))))) ?_
  obtain ⟨cl112, Ar112, qk112, Sz112, Nn112, Hs112, Gs112⟩ := id (((V1.ext E102).other W106 (Nat.ne_of_lt (Nat.lt_of_lt_of_le V1.lt (Nat.le_of_eq g102.symm)))).other W110 (Nat.ne_of_lt (Nat.lt_of_lt_of_le V1.lt (Nat.le_of_eq g102.symm))))
  have hin112 := (inb_of (j := (2 : Int32)) Sz112 ⟨by decide, by decide⟩)
  refine Goes.step (S' := T110.setTop (mkF m 19 #[.val (.ref b1), .val (.ref b102), .val (.int (2 : Int32))] [(.ref x2), (.int (2 : Int32)), (.ref b102)])) (fun t k => X110.aaload hx (j := (2 : Int32)) (v := (.ref x2)) (by rw [e110]; exact Ar112.1) (State.isArrayOf_alike hZ.alike Ar112.2.1) rfl Ar112.2.2 hin112 (Has.at Hs112 hin112 rfl) (g := (mkF m 18 #[.val (.ref b1), .val (.ref b102), .val (.int (2 : Int32))] [(.int (2 : Int32)), (.ref b1), (.int (2 : Int32)), (.ref b102)])) rfl rfl (hb hby dk265) _ k) ?_
  obtain ⟨_, _, ⟨T113, L113, k113, n113⟩, -, X113, ⟨Lc113, hQ113, l113, y113, z113⟩, st113⟩ := Jvm.LawKit.callS X110 hx (y := mth12) hown (mvT hZ tw142) (mvT hZ tw143) (mvT hZ tw144) (mvT hZ tw145) (by decide) (backOf (W := 2) (rqn l Z a0 hw [] x2 h110 n0 (Nat.le_trans Z0 (Nat.le_trans (Nat.le_trans E102.1 (Nat.le_of_eq W106.size.symm)) (Nat.le_of_eq W110.size.symm))) ) hZ tw145 tw144 (by decide) (by decide)) (g := (mkF m 19 #[.val (.ref b1), .val (.ref b102), .val (.int (2 : Int32))] [(.ref x2), (.int (2 : Int32)), (.ref b102)])) rfl (by rw [hml]; rfl) (argsL := [(.ref x2)]) (rest := [(.int (2 : Int32)), (.ref b102)]) (lenOf pd_Ljava_lang_Object__Ljava_lang_Object rfl) rfl (Nat.le_of_eq rfl) (hb hby dk266) (fun _ _ => ⟨rfl, e110, (by decide : 1 + 0 ≤ _), (by decide : 3 + 0 ≤ _)⟩)
  dsimp only [Pt.U, Pt.locs, Pt.cells, Pt.slots] at X113 l113 y113 z113 st113 hQ113
  subst y113 z113
  obtain ⟨rfl, Nq113, q113_0⟩ := hQ113
  have N113 : Fr n0 L113 := by rw [l113]; exact Fr.app N110 Nq113
  refine Goes.step (S' := T113.setTop (mkF m 22 #[.val (.ref b1), .val (.ref b102), .val (.int (2 : Int32))] [(.ref x2), (.int (2 : Int32)), (.ref b102)])) (fun t k => st113 _ k) ?_
  obtain ⟨cl114, Ar114, qk114, Sz114, Nn114, Hs114, Gs114⟩ := id V110
  obtain ⟨T114, h114, X114, e114, W114, st114⟩ := stR X113 hx hZ q113_0 Ar114 (j := (2 : Int32)) (inb_of (j := (2 : Int32)) Sz114 ⟨by decide, by decide⟩) rfl (Sto.ofV Ar114 qk114 O102 (Ins.of_exa (Exa.wr W110 (Exa.wr W106 (Exa.ext E102 Ex2))) tw72)) (g := (mkF m 22 #[.val (.ref b1), .val (.ref b102), .val (.int (2 : Int32))] [(.ref x2), (.int (2 : Int32)), (.ref b102)])) rfl rfl (hb hby dk267)
  have V114 : Arv Z h114 b102 k102 (.object "java/lang/Object") (3 : Int32) [(.ref x0), (.ref x1), (.ref x2)] .null := Arv.set Ar114 qk114 Sz114 Nn114 Hs114 Gs114 rfl W114 2 rfl (Nat.le_of_ble_eq_true rfl)
  have N114 := Fr.snoc X114 N113 (Nat.le_trans Z0 (Nat.le_of_eq g102.symm))
  refine Goes.step (S' := T114.setTop (mkF m 26 #[.val (.ref b1), .val (.ref b102), .val (.int ((2 : Int32) + (1 : Int32)))] [])) (fun t k => st114 _ (XS.iinc X114.here hx rfl (hb hby dk268) rfl (l' := #[.val (.ref b1), .val (.ref b102), .val (.int ((2 : Int32) + (1 : Int32)))]) rfl k)) ?_
  rw [show ((2 : Int32) + (1 : Int32)) = (3 : Int32) from by decide]
  refine Goes.step (S' := T114.setTop (mkF m 10 #[.val (.ref b1), .val (.ref b102), .val (.int (3 : Int32))] [(.ref b1), (.int (3 : Int32))])) (fun t k => XS.goto X114.here hx rfl (pc0 := 26) (pc' := 8) rfl (hb hby dk269) (by decide) (by decide) (XS.iloadN X114.here hx rfl (hb hby dk257) rfl (XS.aloadN X114.here hx rfl (hb hby dk258) rfl rfl k))) ?_
  obtain ⟨cl115, Ar115, qk115, Sz115, Nn115, Hs115, Gs115⟩ := id ((((V1.ext E102).other W106 (Nat.ne_of_lt (Nat.lt_of_lt_of_le V1.lt (Nat.le_of_eq g102.symm)))).other W110 (Nat.ne_of_lt (Nat.lt_of_lt_of_le V1.lt (Nat.le_of_eq g102.symm)))).other W114 (Nat.ne_of_lt (Nat.lt_of_lt_of_le V1.lt (Nat.le_of_eq g102.symm))))
  refine Goes.step (S' := T114.setTop (mkF m 11 #[.val (.ref b1), .val (.ref b102), .val (.int (3 : Int32))] [(.int (3 : Int32)), (.int (3 : Int32))])) (fun t k => X114.arraylength hx (by rw [e114]; exact Ar115.1) (State.isArrayOf_alike hZ.alike Ar115.2.1) (g := (mkF m 10 #[.val (.ref b1), .val (.ref b102), .val (.int (3 : Int32))] [(.ref b1), (.int (3 : Int32))])) rfl rfl (hb hby dk259) _ (by rw [len_of Sz115 Nn115]; exact k)) ?_
  refine Goes.step (S' := T114.setTop (mkF m 29 #[.val (.ref b1), .val (.ref b102), .val (.int (3 : Int32))] [])) (fun t k => XS.icmpYes X114.here hx rfl (pc0 := 11) (pc' := 29) rfl (hb hby dk260) rfl (flt ((by decide) : ¬ ((3 : Int32) < (3 : Int32)))).2.1 (by decide) (by decide) k) ?_
  obtain ⟨T116, h116, X116, e116, E116, A116, D116, U116, st116⟩ := newO X114 hx hZ hown tw97 tw146 tw147 e114 (g := (mkF m 29 #[.val (.ref b1), .val (.ref b102), .val (.int (3 : Int32))] [])) rfl (hb hby dk270) (by decide) (by decide)
  obtain ⟨b116, g116⟩ : ∃ z, z = h114.size := ⟨_, rfl⟩
  rw [← g116] at A116 D116 U116 st116
  have F116_elements : Fld Z h116 b116 "java/util/ImmutableCollections$ListN" "elements" "[Ljava/lang/Object;" .null := D116 (Or.inr tw167) (ty := (.array (.object "java/lang/Object"))) (by decide)
  have F116_allowNulls : Fld Z h116 b116 "java/util/ImmutableCollections$ListN" "allowNulls" "Z" (.int (0 : Int32)) := D116 (Or.inr tw169) (ty := .boolean) (by decide)
  refine Goes.step (S' := T116.setTop (mkF m 35 #[.val (.ref b1), .val (.ref b102), .val (.int (3 : Int32))] [(.int (0 : Int32)), (.ref b102), (.ref b116), (.ref b116)])) (fun t k => st116 _ (XS.dup X116.here hx rfl (hb hby dk271) rfl rfl (XS.aloadN X116.here hx rfl (hb hby dk272) rfl rfl (XS.iconst X116.here hx rfl (hb hby dk273) k)))) ?_
  obtain ⟨_, _, ⟨T117, L117, k117, n117⟩, -, X117, ⟨Lc117, hQ117, l117, y117, z117⟩, st117⟩ := X116.specialBackNest hx (y := mth17) rfl hown (own_mvMN hZ tw148) (mvT hZ tw149) (mvT hZ tw151) (by decide) (backOf (W := 1) (lni l Z a0 hw [] b116 b102 h116 n0 (Nat.le_trans Z0 (Nat.le_trans (Nat.le_trans (Nat.le_trans (Nat.le_trans E102.1 (Nat.le_of_eq W106.size.symm)) (Nat.le_of_eq W110.size.symm)) (Nat.le_of_eq W114.size.symm)) E116.1)) A116 F116_elements F116_allowNulls (Nat.le_trans Z0 (Nat.le_trans (Nat.le_trans (Nat.le_trans (Nat.le_trans E102.1 (Nat.le_of_eq W106.size.symm)) (Nat.le_of_eq W110.size.symm)) (Nat.le_of_eq W114.size.symm)) (Nat.le_of_eq g116.symm)))) hZ tw151 tw147 (by decide) (by decide)) (g := (mkF m 35 #[.val (.ref b1), .val (.ref b102), .val (.int (3 : Int32))] [(.int (0 : Int32)), (.ref b102), (.ref b116), (.ref b116)])) rfl (by rw [hml]; rfl) (Steps.refl _) (a := b116) (argsL := [(.ref b102), (.int (0 : Int32))]) (rest := [(.ref b116)]) (lenOf pd_Ljava_lang_Object_Z_V rfl) rfl (Nat.le_of_eq rfl) (hb hby dk274) (fun _ _ => ⟨rfl, e116, (by decide : 2 + 0 ≤ _), (by decide : 5 + 0 ≤ _)⟩)
  dsimp only [Pt.U, Pt.locs, Pt.cells, Pt.slots] at X117 l117 y117 z117 st117 hQ117
  subst y117 z117
  obtain ⟨rfl, Nq117, q117_0, q117_1, q117_2⟩ := hQ117
  have N117 : Fr n0 L117 := by rw [l117]; exact Fr.app N114 Nq117
  refine Goes.step (S' := T117.setTop (mkF m 38 #[.val (.ref b1), .val (.ref b102), .val (.int (3 : Int32))] [(.ref b116)])) (fun t k => st117.trans k) ?_
  refine Goes.leave (g := (mkF m 38 #[.val (.ref b1), .val (.ref b102), .val (.int (3 : Int32))] [(.ref b116)])) X117 Bd.notSynchronized (v := (some (.ref b116))) (fun h => by rw [Bd.returns] at h; cases h) (fun fs hr => by jvm_step X117.here [X117.here.top, hx, (hb hby dk275), X117.method', Bd.returns, Value.isRef, FieldType.isReference]; (first | (intro acts; rw [hr _ acts rfl rfl rfl]) | rw [hr _ _ rfl rfl rfl]); exact Steps.refl _) rfl ?_ (by decide) (by decide)
  exact ⟨b116, b102, k102, rfl, N117, (((((((Keep.refl _ []).ext E102).wr W106 (Or.inr (Nat.le_of_eq g102.symm))).wr W110 (Or.inr (Nat.le_of_eq g102.symm))).wr W114 (Or.inr (Nat.le_of_eq g102.symm))).ext E116).trans q117_0 (allS (Or.inr (Nat.le_trans (Nat.le_trans (Nat.le_trans (Nat.le_trans E102.1 (Nat.le_of_eq W106.size.symm)) (Nat.le_of_eq W110.size.symm)) (Nat.le_of_eq W114.size.symm)) (Nat.le_of_eq g116.symm))) all0)), (Nat.le_trans (Nat.le_trans (Nat.le_trans (Nat.le_trans E102.1 (Nat.le_of_eq W106.size.symm)) (Nat.le_of_eq W110.size.symm)) (Nat.le_of_eq W114.size.symm)) (Nat.le_of_eq g116.symm)), (Nat.le_of_eq g102.symm), q117_1, q117_2, ((V114.ext E116).keep q117_0 (ninS (Nat.ne_of_lt (Nat.lt_of_lt_of_le V102.lt (Nat.le_trans (Nat.le_trans (Nat.le_trans (Nat.le_of_eq W106.size.symm) (Nat.le_of_eq W110.size.symm)) (Nat.le_of_eq W114.size.symm)) (Nat.le_of_eq g116.symm)))) nin0))⟩

theorem ef_lof3 (m : MethodId) (x0 : Addr) : entryFrame m #[(.ref x0)] 2 = mkF m 0 #[.val (.ref x0), .unset] [] := by first | (simp [entryFrame, mkF, argsToLocals, Value.category]; done) | rfl
def Q_lof3 (Z : State) (b1 : Addr) (k1 : ClassId) (x0 : Addr) (x1 : Addr) (x2 : Addr) (h0 : Heap) (n0 : Nat) (v : Option Value) (h : Heap) (L : List Loc) : Prop := ∃ (r : Addr) (b : Addr) (kb : ClassId), v = some (.ref r) ∧ Fr n0 L ∧ Keep h0 h [] ∧ h0.size ≤ r ∧ h0.size ≤ b ∧ Exa Z h r "java/util/ImmutableCollections$ListN" ∧ Fld Z h r "java/util/ImmutableCollections$ListN" "elements" "[Ljava/lang/Object;" (.ref b) ∧ Arv Z h b kb (.object "java/lang/Object") (3 : Int32) [(.ref x0), (.ref x1), (.ref x2)] .null
set_option maxRecDepth 65536 in
set_option maxHeartbeats 40000000 in
theorem lof3 (l : Launch) (Z : State) (a0 : Array Value) (hw : ∀ d ∈ tables_1, d.before a0 Z = true) (ws : List Jvm.Cond) (b1 : Addr) (k1 : ClassId) (x0 : Addr) (x1 : Addr) (x2 : Addr) (h0 : Heap) (n0 : Nat) (Z0 : n0 ≤ h0.size) (V1 : Arv Z h0 b1 k1 (.object "java/lang/Object") (3 : Int32) [(.ref x0), (.ref x1), (.ref x2)] .null) (Eb : Exa Z h0 b1 "[Ljava/lang/Object;") (Ex0 : Exa Z h0 x0 "java/lang/Integer") (Ex1 : Exa Z h0 x1 "java/lang/Integer") (Ex2 : Exa Z h0 x2 "java/lang/Integer") :
    MetFree l mth21 (head1 (Jvm.Cond.code mth21 jdk_40_method_47_code 2 (some (.object "java/util/List")) :: ws) rom29) (fun a U => a = #[(.ref b1)] ∧ Z.Warmed39 U.vm ∧ U.heap = h0) (fun _ _ _ _ _ => True) (fun _ U o U' => ∃ v L, o = .returned v ∧ Q_lof3 Z b1 k1 x0 x1 x2 h0 n0 v U'.heap L ∧ FrameEnd U o U' L rom29.cells rom29.slots) := by
  refine MetFree.of_bodySF (plainFor_of_name pnm11) hisR ?_
  intro p e s m args below meth c s₁ Bd hml0 hP hK
  obtain ⟨rfl, hZ, hh⟩ := hP
  have hx := Bd.exec
  have hby := Bd.bytes
  have hml : c.maxLocals = 2 := hml0
  have hown : s.vm.findClass "java/util/List" = some m.cls := findClass_of_methodNamed Bd.named
  have hnm := (name_of_methodNamed Bd.named Bd.method).1
  have X0 : Stand p l e rom29 s m #[(.ref b1)] below meth c s₁ [] 0 0 := Stand.of_body Bd
  have eh0 : s₁.heap = h0 := by rw [← hh, Bd.state]; rfl
  have N0 := Fr.nil n0
  have tw90 := hw _ (List.mem_of_getElem? (i := 90) rfl)
  have tw138 := hw _ (List.mem_of_getElem? (i := 138) rfl)
  have tw139 := hw _ (List.mem_of_getElem? (i := 139) rfl)
  have tw140 := hw _ (List.mem_of_getElem? (i := 140) rfl)
  show Goes p e below (Pq (Q_lof3 Z b1 k1 x0 x1 x2 h0 n0) s rom29.cells rom29.slots) (s₁.setTop (entryFrame m #[(.ref b1)] 2))
  refine Goes.step (S' := s₁.setTop (mkF m 0 #[.val (.ref b1), .unset] [])) (fun t k => castTop (ef_lof3 m b1) k) ?_
  refine Goes.step (S' := s₁.setTop (mkF m 1 #[.val (.ref b1), .unset] [(.ref b1)])) (fun t k => XS.aloadN X0.here hx rfl (hb hby dk179) rfl rfl k) ?_
  obtain ⟨cl101, Ar101, qk101, Sz101, Nn101, Hs101, Gs101⟩ := id V1
  refine Goes.step (S' := s₁.setTop (mkF m 2 #[.val (.ref b1), .unset] [(.int (3 : Int32))])) (fun t k => X0.arraylength hx (by rw [eh0]; exact Ar101.1) (State.isArrayOf_alike hZ.alike Ar101.2.1) (g := (mkF m 1 #[.val (.ref b1), .unset] [(.ref b1)])) rfl rfl (hb hby dk180) _ (by rw [len_of Sz101 Nn101]; exact k)) ?_
  refine Goes.step (S' := s₁.setTop (mkF m 60 #[.val (.ref b1), .unset] [(.ref b1)])) (fun t k => XS.tswOut X0.here hx rfl (pc0 := 2) (pc' := 59) rfl (hb hby dk181) rfl (by rw [(rfl : (3 : Int32) = (3 : Int32))]; decide) (by decide) (by decide) (XS.aloadN X0.here hx rfl (hb hby dk276) rfl rfl k)) ?_
  obtain ⟨_, _, ⟨T102, L102, k102, n102⟩, -, X102, ⟨Lc102, hQ102, l102, y102, z102⟩, st102⟩ := Jvm.LawKit.callS X0 hx (y := mth29) hown (mvT hZ tw138) (mvT hZ tw139) (mvT hZ tw90) (mvT hZ tw140) (by decide) (backOf (W := 0) (lfa3 l Z a0 hw [] b1 k1 x0 x1 x2 h0 n0 Z0 V1 Eb Ex0 Ex1 Ex2) hZ tw140 tw90 (by decide) (by decide)) (g := (mkF m 60 #[.val (.ref b1), .unset] [(.ref b1)])) rfl (by rw [hml]; rfl) (argsL := [(.ref b1)]) (rest := []) (lenOf pd_Ljava_lang_Object__Ljava_util_List rfl) rfl (Nat.le_of_eq rfl) (hb hby dk277) (fun _ _ => ⟨rfl, eh0, (by decide : 0 + 2 ≤ _), (by decide : 0 + 5 ≤ _)⟩)
  dsimp only [Pt.U, Pt.locs, Pt.cells, Pt.slots] at X102 l102 y102 z102 st102 hQ102
  subst y102 z102
  obtain ⟨r_102, b_102, kb_102, rfl, Nq102, q102_0, q102_1, q102_2, q102_3, q102_4, q102_5⟩ := hQ102
  have N102 : Fr n0 L102 := by rw [l102]; exact Fr.app N0 Nq102
  refine Goes.step (S' := T102.setTop (mkF m 63 #[.val (.ref b1), .unset] [(.ref r_102)])) (fun t k => st102 _ k) ?_
  refine Goes.leave (g := (mkF m 63 #[.val (.ref b1), .unset] [(.ref r_102)])) X102 Bd.notSynchronized (v := (some (.ref r_102))) (fun h => by rw [Bd.returns] at h; cases h) (fun fs hr => by jvm_step X102.here [X102.here.top, hx, (hb hby dk278), X102.method', Bd.returns, Value.isRef, FieldType.isReference]; (first | (intro acts; rw [hr _ acts rfl rfl rfl]) | rw [hr _ _ rfl rfl rfl]); exact Steps.refl _) rfl ?_ (by decide) (by decide)
  exact ⟨r_102, b_102, kb_102, rfl, N102, ((Keep.refl _ []).trans q102_0 all0), q102_1, q102_2, q102_3, q102_4, q102_5⟩

theorem ef_lcp3 (m : MethodId) (x0 : Addr) : entryFrame m #[(.ref x0)] 2 = mkF m 0 #[.val (.ref x0), .unset] [] := by first | (simp [entryFrame, mkF, argsToLocals, Value.category]; done) | rfl
def Q_lcp3 (Z : State) (a1 : Addr) (b1 : Addr) (k1 : ClassId) (mr : Addr) (x0 : Addr) (x1 : Addr) (x2 : Addr) (h0 : Heap) (n0 : Nat) (v : Option Value) (h : Heap) (L : List Loc) : Prop := ∃ (r : Addr) (b : Addr) (kb : ClassId), v = some (.ref r) ∧ Fr n0 L ∧ Keep h0 h [] ∧ h0.size ≤ r ∧ h0.size ≤ b ∧ Exa Z h r "java/util/ImmutableCollections$ListN" ∧ Fld Z h r "java/util/ImmutableCollections$ListN" "elements" "[Ljava/lang/Object;" (.ref b) ∧ Arv Z h b kb (.object "java/lang/Object") (3 : Int32) [(.ref x0), (.ref x1), (.ref x2)] .null
set_option maxRecDepth 65536 in
set_option maxHeartbeats 40000000 in
theorem lcp3 (l : Launch) (Z : State) (a0 : Array Value) (hw : ∀ d ∈ tables_1, d.before a0 Z = true) (ws : List Jvm.Cond) (a1 : Addr) (b1 : Addr) (k1 : ClassId) (mr : Addr) (x0 : Addr) (x1 : Addr) (x2 : Addr) (h0 : Heap) (n0 : Nat) (Z0 : n0 ≤ h0.size) (E1 : Exa Z h0 a1 "java/util/ArrayList") (Fe : Fld Z h0 a1 "java/util/ArrayList" "elementData" "[Ljava/lang/Object;" (.ref b1)) (Fz : Fld Z h0 a1 "java/util/ArrayList" "size" "I" (.int (3 : Int32))) (V1 : Arv Z h0 b1 k1 (.object "java/lang/Object") (10 : Int32) [(.ref x0), (.ref x1), (.ref x2), .null, .null, .null, .null, .null, .null, .null] .null) (Eb : Exa Z h0 b1 "[Ljava/lang/Object;") (Ex0 : Exa Z h0 x0 "java/lang/Integer") (Ex1 : Exa Z h0 x1 "java/lang/Integer") (Ex2 : Exa Z h0 x2 "java/lang/Integer") (MI : MirO Z "[Ljava/lang/Object;" mr) :
    MetFree l mth24 (head1 (Jvm.Cond.code mth24 jdk_56_method_3_code 2 (some (.object "java/util/List")) :: ws) rom30) (fun a U => a = #[(.ref a1)] ∧ Z.Warmed39 U.vm ∧ U.heap = h0) (fun _ _ _ _ _ => True) (fun _ U o U' => ∃ v L, o = .returned v ∧ Q_lcp3 Z a1 b1 k1 mr x0 x1 x2 h0 n0 v U'.heap L ∧ FrameEnd U o U' L rom30.cells rom30.slots) := by
  refine MetFree.of_bodySF (plainFor_of_name pnm12) hisR ?_
  intro p e s m args below meth c s₁ Bd hml0 hP hK
  obtain ⟨rfl, hZ, hh⟩ := hP
  have hx := Bd.exec
  have hby := Bd.bytes
  have hml : c.maxLocals = 2 := hml0
  have hown : s.vm.findClass "java/util/ImmutableCollections" = some m.cls := findClass_of_methodNamed Bd.named
  have hnm := (name_of_methodNamed Bd.named Bd.method).1
  have X0 : Stand p l e rom30 s m #[(.ref a1)] below meth c s₁ [] 0 0 := Stand.of_body Bd
  have eh0 : s₁.heap = h0 := by rw [← hh, Bd.state]; rfl
  have N0 := Fr.nil n0
  have tw14 := hw _ (List.mem_of_getElem? (i := 14) rfl)
  have tw86 := hw _ (List.mem_of_getElem? (i := 86) rfl)
  have tw92 := hw _ (List.mem_of_getElem? (i := 92) rfl)
  have tw93 := hw _ (List.mem_of_getElem? (i := 93) rfl)
  have tw94 := hw _ (List.mem_of_getElem? (i := 94) rfl)
  have tw95 := hw _ (List.mem_of_getElem? (i := 95) rfl)
  have tw96 := hw _ (List.mem_of_getElem? (i := 96) rfl)
  have tw97 := hw _ (List.mem_of_getElem? (i := 97) rfl)
  have tw98 := hw _ (List.mem_of_getElem? (i := 98) rfl)
  have tw99 := hw _ (List.mem_of_getElem? (i := 99) rfl)
  have tw100 := hw _ (List.mem_of_getElem? (i := 100) rfl)
  have tw101 := hw _ (List.mem_of_getElem? (i := 101) rfl)
  have tw102 := hw _ (List.mem_of_getElem? (i := 102) rfl)
  have tw103 := hw _ (List.mem_of_getElem? (i := 103) rfl)
  have tw104 := hw _ (List.mem_of_getElem? (i := 104) rfl)
  have tw105 := hw _ (List.mem_of_getElem? (i := 105) rfl)
  have tw106 := hw _ (List.mem_of_getElem? (i := 106) rfl)
  have tw107 := hw _ (List.mem_of_getElem? (i := 107) rfl)
  have tw108 := hw _ (List.mem_of_getElem? (i := 108) rfl)
  have tw109 := hw _ (List.mem_of_getElem? (i := 109) rfl)
  have tw110 := hw _ (List.mem_of_getElem? (i := 110) rfl)
  have tw111 := hw _ (List.mem_of_getElem? (i := 111) rfl)
  have tw112 := hw _ (List.mem_of_getElem? (i := 112) rfl)
  have tw113 := hw _ (List.mem_of_getElem? (i := 113) rfl)
  have tw114 := hw _ (List.mem_of_getElem? (i := 114) rfl)
  have tw135 := hw _ (List.mem_of_getElem? (i := 135) rfl)
  have tw136 := hw _ (List.mem_of_getElem? (i := 136) rfl)
  have tw137 := hw _ (List.mem_of_getElem? (i := 137) rfl)
  have tw146 := hw _ (List.mem_of_getElem? (i := 146) rfl)
  have tw205 := hw _ (List.mem_of_getElem? (i := 205) rfl)
  show Goes p e below (Pq (Q_lcp3 Z a1 b1 k1 mr x0 x1 x2 h0 n0) s rom30.cells rom30.slots) (s₁.setTop (entryFrame m #[(.ref a1)] 2))
  refine Goes.step (S' := s₁.setTop (mkF m 0 #[.val (.ref a1), .unset] [])) (fun t k => castTop (ef_lcp3 m a1) k) ?_
  refine Goes.step (S' := s₁.setTop (mkF m 1 #[.val (.ref a1), .unset] [(.ref a1)])) (fun t k => XS.aloadN X0.here hx rfl (hb hby dk189) rfl rfl k) ?_
  obtain ⟨T101, X101, e101, st101⟩ := instNo X0 hx hZ hown tw92 eh0 E1 (own_nsNo tw93 tw205 (NS.step tw93 (NS.step tw94 (NS.step tw95 (own_nsRoot tw96 tw205 (by decide)) (by decide)) (by decide)) (by decide)) (by decide)) (g := (mkF m 1 #[.val (.ref a1), .unset] [(.ref a1)])) rfl rfl (hb hby dk190)
  refine Goes.step (S' := T101.setTop (mkF m 8 #[.val (.ref a1), .unset] [(.ref a1)])) (fun t k => st101 _ (XS.ifNo X101.here hx rfl (hb hby dk191) rfl ((if0 _ _).trans (teq ((by decide) : (0 : Int32) = (0 : Int32))).2) (XS.aloadN X101.here hx rfl (hb hby dk192) rfl rfl k))) ?_
  obtain ⟨T102, X102, e102, st102⟩ := instNo X101 hx hZ hown tw97 e101 E1 (own_nsNo tw93 tw146 (NS.step tw93 (NS.step tw94 (NS.step tw95 (own_nsRoot tw96 tw146 (by decide)) (by decide)) (by decide)) (by decide)) (by decide)) (g := (mkF m 8 #[.val (.ref a1), .unset] [(.ref a1)])) rfl rfl (hb hby dk193)
  refine Goes.step (S' := T102.setTop (mkF m 32 #[.val (.ref a1), .unset] [(.ref a1)])) (fun t k => st102 _ (XS.ifYes X102.here hx rfl (pc0 := 11) (pc' := 31) rfl (hb hby dk194) rfl ((if0 _ _).trans (teq ((by decide) : (0 : Int32) = (0 : Int32))).1) (by decide) (by decide) (XS.aloadN X102.here hx rfl (hb hby dk195) rfl rfl k))) ?_
  obtain ⟨cq103, kq103, q103a, q103b, q103c⟩ := isOf hZ e102 E1
  obtain ⟨_, _, ⟨T103, L103, k103, n103⟩, -, X103, ⟨Lc103, hQ103, l103, y103, z103⟩, st103⟩ := X102.interfaceBack hx (xi := mth22) (y := mth11) hown (mvT hZ tw98) (mvT hZ tw99) (mvT hZ tw100) (mvT hZ tw101) (mvT hZ tw102) (mvT hZ tw103) (mvT hZ tw104) (mvT hZ tw105) (by decide) (backOf (W := 0) (ise l Z a0 hw [] a1 (3 : Int32) h0 n0 Z0 Fz ((by decide) : ¬ ((3 : Int32) = (0 : Int32)))) hZ tw106 tw14 (by decide) (by decide)) q103a q103b q103c (g := (mkF m 32 #[.val (.ref a1), .unset] [(.ref a1)])) rfl (by rw [hml]; rfl) (Steps.refl _) (argsL := []) (rest := []) (lenOf pd_Z rfl) rfl (Nat.le_of_eq rfl) (hb hby dk196) (fun _ _ => ⟨rfl, e102, (by decide : 0 + 0 ≤ _), (by decide : 0 + 0 ≤ _)⟩)
  dsimp only [Pt.U, Pt.locs, Pt.cells, Pt.slots] at X103 l103 y103 z103 st103 hQ103
  subst y103 z103
  obtain ⟨rfl, Nq103, q103_0⟩ := hQ103
  have N103 : Fr n0 L103 := by rw [l103]; exact Fr.app N0 Nq103
  refine Goes.step (S' := T103.setTop (mkF m 45 #[.val (.ref a1), .unset] [(.ref a1)])) (fun t k => st103.trans (XS.ifYes X103.here hx rfl (pc0 := 37) (pc' := 44) rfl (hb hby dk197) rfl ((if0 _ _).trans (teq ((by decide) : (0 : Int32) = (0 : Int32))).1) (by decide) (by decide) (XS.aloadN X103.here hx rfl (hb hby dk198) rfl rfl k))) ?_
  obtain ⟨cq104, kq104, q104a, q104b, q104c⟩ := isOf hZ q103_0 E1
  obtain ⟨_, _, ⟨T104, L104, k104, n104⟩, -, X104, ⟨Lc104, hQ104, l104, y104, z104⟩, st104⟩ := X103.interfaceBack hx (xi := mth23) (y := mth20) hown (mvT hZ tw107) (mvT hZ tw108) (mvT hZ tw109) (mvT hZ tw110) (mvT hZ tw111) (mvT hZ tw112) (mvT hZ tw113) (mvT hZ tw105) (by decide) (backOf (W := 0) (toa3 l Z a0 hw [] a1 b1 k1 mr x0 x1 x2 h0 n0 Z0 E1 Fe Fz V1 Eb Ex0 Ex1 Ex2 MI) hZ tw114 tw14 (by decide) (by decide)) q104a q104b q104c (g := (mkF m 45 #[.val (.ref a1), .unset] [(.ref a1)])) rfl (by rw [hml]; rfl) (Steps.refl _) (argsL := []) (rest := []) (lenOf pd_Ljava_lang_Object rfl) rfl (Nat.le_of_eq rfl) (hb hby dk199) (fun _ _ => ⟨rfl, q103_0, (by decide : 0 + 1 ≤ _), (by decide : 0 + 3 ≤ _)⟩)
  dsimp only [Pt.U, Pt.locs, Pt.cells, Pt.slots] at X104 l104 y104 z104 st104 hQ104
  subst y104 z104
  obtain ⟨b_104, kb_104, rfl, Nq104, q104_0, q104_1, q104_2, q104_3⟩ := hQ104
  have N104 : Fr n0 L104 := by rw [l104]; exact Fr.app N103 Nq104
  refine Goes.step (S' := T104.setTop (mkF m 50 #[.val (.ref a1), .unset] [(.ref b_104)])) (fun t k => st104.trans k) ?_
  obtain ⟨_, _, ⟨T105, L105, k105, n105⟩, -, X105, ⟨Lc105, hQ105, l105, y105, z105⟩, st105⟩ := Jvm.LawKit.callS X104 hx (y := mth21) hown (mvT hZ tw135) (mvT hZ tw136) (mvT hZ tw86) (mvT hZ tw137) (by decide) (backOf (W := 0) (lof3 l Z a0 hw [] b_104 kb_104 x0 x1 x2 T104.heap n0 (Nat.le_trans Z0 q104_0.1) q104_3 q104_2 (Ex0.keep q104_0) (Ex1.keep q104_0) (Ex2.keep q104_0)) hZ tw137 tw86 (by decide) (by decide)) (g := (mkF m 50 #[.val (.ref a1), .unset] [(.ref b_104)])) rfl (by rw [hml]; rfl) (argsL := [(.ref b_104)]) (rest := []) (lenOf pd_Ljava_lang_Object__Ljava_util_List rfl) rfl (Nat.le_of_eq rfl) (hb hby dk200) (fun _ _ => ⟨rfl, rfl, (by decide : 1 + 2 ≤ _), (by decide : 3 + 5 ≤ _)⟩)
  dsimp only [Pt.U, Pt.locs, Pt.cells, Pt.slots] at X105 l105 y105 z105 st105 hQ105
  subst y105 z105
  obtain ⟨r_105, b_105, kb_105, rfl, Nq105, q105_0, q105_1, q105_2, q105_3, q105_4, q105_5⟩ := hQ105
  have N105 : Fr n0 L105 := by rw [l105]; exact Fr.app N104 Nq105
  refine Goes.step (S' := T105.setTop (mkF m 53 #[.val (.ref a1), .unset] [(.ref r_105)])) (fun t k => st105 _ k) ?_
  refine Goes.leave (g := (mkF m 53 #[.val (.ref a1), .unset] [(.ref r_105)])) X105 Bd.notSynchronized (v := (some (.ref r_105))) (fun h => by rw [Bd.returns] at h; cases h) (fun fs hr => by jvm_step X105.here [X105.here.top, hx, (hb hby dk201), X105.method', Bd.returns, Value.isRef, FieldType.isReference]; (first | (intro acts; rw [hr _ acts rfl rfl rfl]) | rw [hr _ _ rfl rfl rfl]); exact Steps.refl _) rfl ?_ (by decide) (by decide)
  exact ⟨r_105, b_105, kb_105, rfl, N105, (((Keep.refl _ []).trans q104_0 all0).trans q105_0 all0), (Nat.le_trans q104_0.1 q105_1), (Nat.le_trans q104_0.1 q105_2), q105_3, q105_4, q105_5⟩

theorem ef_lco3 (m : MethodId) (x0 : Addr) : entryFrame m #[(.ref x0)] 1 = mkF m 0 #[.val (.ref x0)] [] := by first | (simp [entryFrame, mkF, argsToLocals, Value.category]; done) | rfl
def Q_lco3 (Z : State) (a1 : Addr) (b1 : Addr) (k1 : ClassId) (mr : Addr) (x0 : Addr) (x1 : Addr) (x2 : Addr) (h0 : Heap) (n0 : Nat) (v : Option Value) (h : Heap) (L : List Loc) : Prop := ∃ (r : Addr) (b : Addr) (kb : ClassId), v = some (.ref r) ∧ Fr n0 L ∧ Keep h0 h [] ∧ h0.size ≤ r ∧ h0.size ≤ b ∧ Exa Z h r "java/util/ImmutableCollections$ListN" ∧ Fld Z h r "java/util/ImmutableCollections$ListN" "elements" "[Ljava/lang/Object;" (.ref b) ∧ Arv Z h b kb (.object "java/lang/Object") (3 : Int32) [(.ref x0), (.ref x1), (.ref x2)] .null
set_option maxRecDepth 65536 in
set_option maxHeartbeats 40000000 in
theorem lco3 (l : Launch) (Z : State) (a0 : Array Value) (hw : ∀ d ∈ tables_1, d.before a0 Z = true) (ws : List Jvm.Cond) (a1 : Addr) (b1 : Addr) (k1 : ClassId) (mr : Addr) (x0 : Addr) (x1 : Addr) (x2 : Addr) (h0 : Heap) (n0 : Nat) (Z0 : n0 ≤ h0.size) (E1 : Exa Z h0 a1 "java/util/ArrayList") (Fe : Fld Z h0 a1 "java/util/ArrayList" "elementData" "[Ljava/lang/Object;" (.ref b1)) (Fz : Fld Z h0 a1 "java/util/ArrayList" "size" "I" (.int (3 : Int32))) (V1 : Arv Z h0 b1 k1 (.object "java/lang/Object") (10 : Int32) [(.ref x0), (.ref x1), (.ref x2), .null, .null, .null, .null, .null, .null, .null] .null) (Eb : Exa Z h0 b1 "[Ljava/lang/Object;") (Ex0 : Exa Z h0 x0 "java/lang/Integer") (Ex1 : Exa Z h0 x1 "java/lang/Integer") (Ex2 : Exa Z h0 x2 "java/lang/Integer") (MI : MirO Z "[Ljava/lang/Object;" mr) :
    MetFree l mth25 (head1 (Jvm.Cond.code mth25 jdk_40_method_48_code 1 (some (.object "java/util/List")) :: ws) rom31) (fun a U => a = #[(.ref a1)] ∧ Z.Warmed39 U.vm ∧ U.heap = h0) (fun _ _ _ _ _ => True) (fun _ U o U' => ∃ v L, o = .returned v ∧ Q_lco3 Z a1 b1 k1 mr x0 x1 x2 h0 n0 v U'.heap L ∧ FrameEnd U o U' L rom31.cells rom31.slots) := by
  refine MetFree.of_bodySF (plainFor_of_name pnm11) hisR ?_
  intro p e s m args below meth c s₁ Bd hml0 hP hK
  obtain ⟨rfl, hZ, hh⟩ := hP
  have hx := Bd.exec
  have hby := Bd.bytes
  have hml : c.maxLocals = 1 := hml0
  have hown : s.vm.findClass "java/util/List" = some m.cls := findClass_of_methodNamed Bd.named
  have hnm := (name_of_methodNamed Bd.named Bd.method).1
  have X0 : Stand p l e rom31 s m #[(.ref a1)] below meth c s₁ [] 0 0 := Stand.of_body Bd
  have eh0 : s₁.heap = h0 := by rw [← hh, Bd.state]; rfl
  have N0 := Fr.nil n0
  have tw88 := hw _ (List.mem_of_getElem? (i := 88) rfl)
  have tw89 := hw _ (List.mem_of_getElem? (i := 89) rfl)
  have tw90 := hw _ (List.mem_of_getElem? (i := 90) rfl)
  have tw91 := hw _ (List.mem_of_getElem? (i := 91) rfl)
  show Goes p e below (Pq (Q_lco3 Z a1 b1 k1 mr x0 x1 x2 h0 n0) s rom31.cells rom31.slots) (s₁.setTop (entryFrame m #[(.ref a1)] 1))
  refine Goes.step (S' := s₁.setTop (mkF m 0 #[.val (.ref a1)] [])) (fun t k => castTop (ef_lco3 m a1) k) ?_
  refine Goes.step (S' := s₁.setTop (mkF m 1 #[.val (.ref a1)] [(.ref a1)])) (fun t k => XS.aloadN X0.here hx rfl (hb hby dk202) rfl rfl k) ?_
  obtain ⟨_, _, ⟨T101, L101, k101, n101⟩, -, X101, ⟨Lc101, hQ101, l101, y101, z101⟩, st101⟩ := Jvm.LawKit.callS X0 hx (y := mth24) hown (mvT hZ tw88) (mvT hZ tw89) (mvT hZ tw90) (mvT hZ tw91) (by decide) (backOf (W := 0) (lcp3 l Z a0 hw [] a1 b1 k1 mr x0 x1 x2 h0 n0 Z0 E1 Fe Fz V1 Eb Ex0 Ex1 Ex2 MI) hZ tw91 tw90 (by decide) (by decide)) (g := (mkF m 1 #[.val (.ref a1)] [(.ref a1)])) rfl (by rw [hml]; rfl) (argsL := [(.ref a1)]) (rest := []) (lenOf pd_Ljava_util_Collection__Ljava_util_List rfl) rfl (Nat.le_of_eq rfl) (hb hby dk203) (fun _ _ => ⟨rfl, eh0, (by decide : 0 + 3 ≤ _), (by decide : 0 + 8 ≤ _)⟩)
  dsimp only [Pt.U, Pt.locs, Pt.cells, Pt.slots] at X101 l101 y101 z101 st101 hQ101
  subst y101 z101
  obtain ⟨r_101, b_101, kb_101, rfl, Nq101, q101_0, q101_1, q101_2, q101_3, q101_4, q101_5⟩ := hQ101
  have N101 : Fr n0 L101 := by rw [l101]; exact Fr.app N0 Nq101
  refine Goes.step (S' := T101.setTop (mkF m 4 #[.val (.ref a1)] [(.ref r_101)])) (fun t k => st101 _ k) ?_
  refine Goes.leave (g := (mkF m 4 #[.val (.ref a1)] [(.ref r_101)])) X101 Bd.notSynchronized (v := (some (.ref r_101))) (fun h => by rw [Bd.returns] at h; cases h) (fun fs hr => by jvm_step X101.here [X101.here.top, hx, (hb hby dk204), X101.method', Bd.returns, Value.isRef, FieldType.isReference]; (first | (intro acts; rw [hr _ acts rfl rfl rfl]) | rw [hr _ _ rfl rfl rfl]); exact Steps.refl _) rfl ?_ (by decide) (by decide)
  exact ⟨r_101, b_101, kb_101, rfl, N101, ((Keep.refl _ []).trans q101_0 all0), q101_1, q101_2, q101_3, q101_4, q101_5⟩

theorem ef_vpi3 (m : MethodId) (x0 : Addr) (x1 : Int32) (x2 : Int32) (x3 : Addr) : entryFrame m #[(.ref x0), (.int x1), (.int x2), (.ref x3)] 4 = mkF m 0 #[.val (.ref x0), .val (.int x1), .val (.int x2), .val (.ref x3)] [] := by first | (simp [entryFrame, mkF, argsToLocals, Value.category]; done) | rfl
def Q_vpi3 (Z : State) (a1 : Addr) (q1 : Int32) (q2 : Int32) (a2 : Addr) (b1 : Addr) (k1 : ClassId) (mr : Addr) (x0 : Addr) (x1 : Addr) (x2 : Addr) (h0 : Heap) (n0 : Nat) (v : Option Value) (h : Heap) (L : List Loc) : Prop := ∃ (r : Addr) (b : Addr) (kb : ClassId), v = none ∧ Fr n0 L ∧ Keep h0 h [a1] ∧ Exa Z h a1 "com/example/planwright/planwright/model/VestingProvisions" ∧ Fld Z h a1 "com/example/planwright/planwright/model/VestingProvisions" "vestedPercentByYears" "Ljava/util/List;" (.ref r) ∧ h0.size ≤ r ∧ h0.size ≤ b ∧ Exa Z h r "java/util/ImmutableCollections$ListN" ∧ Fld Z h r "java/util/ImmutableCollections$ListN" "elements" "[Ljava/lang/Object;" (.ref b) ∧ Arv Z h b kb (.object "java/lang/Object") (3 : Int32) [(.ref x0), (.ref x1), (.ref x2)] .null
set_option maxRecDepth 65536 in
set_option maxHeartbeats 40000000 in
theorem vpi3 (l : Launch) (Z : State) (a0 : Array Value) (hw : ∀ d ∈ tables_1, d.before a0 Z = true) (ws : List Jvm.Cond) (a1 : Addr) (q1 : Int32) (q2 : Int32) (a2 : Addr) (b1 : Addr) (k1 : ClassId) (mr : Addr) (x0 : Addr) (x1 : Addr) (x2 : Addr) (h0 : Heap) (n0 : Nat) (Z0 : n0 ≤ h0.size) (E1 : Exa Z h0 a1 "com/example/planwright/planwright/model/VestingProvisions") (Fy : Fld Z h0 a1 "com/example/planwright/planwright/model/VestingProvisions" "yearOfServiceHours" "I" (.int (0 : Int32))) (Fk : Fld Z h0 a1 "com/example/planwright/planwright/model/VestingProvisions" "breakInServiceBelowHours" "I" (.int (0 : Int32))) (Fv : Fld Z h0 a1 "com/example/planwright/planwright/model/VestingProvisions" "vestedPercentByYears" "Ljava/util/List;" .null) (G1 : n0 ≤ a1) (E2 : Exa Z h0 a2 "java/util/ArrayList") (Fe : Fld Z h0 a2 "java/util/ArrayList" "elementData" "[Ljava/lang/Object;" (.ref b1)) (Fz : Fld Z h0 a2 "java/util/ArrayList" "size" "I" (.int (3 : Int32))) (V1 : Arv Z h0 b1 k1 (.object "java/lang/Object") (10 : Int32) [(.ref x0), (.ref x1), (.ref x2), .null, .null, .null, .null, .null, .null, .null] .null) (Eb : Exa Z h0 b1 "[Ljava/lang/Object;") (Ex0 : Exa Z h0 x0 "java/lang/Integer") (Ex1 : Exa Z h0 x1 "java/lang/Integer") (Ex2 : Exa Z h0 x2 "java/lang/Integer") (MI : MirO Z "[Ljava/lang/Object;" mr) :
    MetFree l mth26 (head1 (Jvm.Cond.code mth26 prog_32_method_1_code 4 none :: ws) rom32) (fun a U => a = #[(.ref a1), (.int q1), (.int q2), (.ref a2)] ∧ Z.Warmed39 U.vm ∧ U.heap = h0) (fun _ _ _ _ _ => True) (fun _ U o U' => ∃ v L, o = .returned v ∧ Q_vpi3 Z a1 q1 q2 a2 b1 k1 mr x0 x1 x2 h0 n0 v U'.heap L ∧ FrameEnd U o U' L rom32.cells rom32.slots) := by
  refine MetFree.of_bodySF (plainFor_of_name pnm13) hisR ?_
  intro p e s m args below meth c s₁ Bd hml0 hP hK
  obtain ⟨rfl, hZ, hh⟩ := hP
  have hx := Bd.exec
  have hby := Bd.bytes
  have hml : c.maxLocals = 4 := hml0
  have hown : s.vm.findClass "com/example/planwright/planwright/model/VestingProvisions" = some m.cls := findClass_of_methodNamed Bd.named
  have hnm := (name_of_methodNamed Bd.named Bd.method).1
  have X0 : Stand p l e rom32 s m #[(.ref a1), (.int q1), (.int q2), (.ref a2)] below meth c s₁ [] 0 0 := Stand.of_body Bd
  have eh0 : s₁.heap = h0 := by rw [← hh, Bd.state]; rfl
  have N0 := Fr.nil n0
  have tw31 := hw _ (List.mem_of_getElem? (i := 31) rfl)
  have tw32 := hw _ (List.mem_of_getElem? (i := 32) rfl)
  have tw74 := hw _ (List.mem_of_getElem? (i := 74) rfl)
  have tw79 := hw _ (List.mem_of_getElem? (i := 79) rfl)
  have tw80 := hw _ (List.mem_of_getElem? (i := 80) rfl)
  have tw81 := hw _ (List.mem_of_getElem? (i := 81) rfl)
  have tw82 := hw _ (List.mem_of_getElem? (i := 82) rfl)
  have tw83 := hw _ (List.mem_of_getElem? (i := 83) rfl)
  have tw84 := hw _ (List.mem_of_getElem? (i := 84) rfl)
  have tw85 := hw _ (List.mem_of_getElem? (i := 85) rfl)
  have tw86 := hw _ (List.mem_of_getElem? (i := 86) rfl)
  have tw87 := hw _ (List.mem_of_getElem? (i := 87) rfl)
  have tw170 := hw _ (List.mem_of_getElem? (i := 170) rfl)
  have tw171 := hw _ (List.mem_of_getElem? (i := 171) rfl)
  show Goes p e below (Pq (Q_vpi3 Z a1 q1 q2 a2 b1 k1 mr x0 x1 x2 h0 n0) s rom32.cells rom32.slots) (s₁.setTop (entryFrame m #[(.ref a1), (.int q1), (.int q2), (.ref a2)] 4))
  refine Goes.step (S' := s₁.setTop (mkF m 0 #[.val (.ref a1), .val (.int q1), .val (.int q2), .val (.ref a2)] [])) (fun t k => castTop (ef_vpi3 m a1 q1 q2 a2) k) ?_
  refine Goes.step (S' := s₁.setTop (mkF m 1 #[.val (.ref a1), .val (.int q1), .val (.int q2), .val (.ref a2)] [(.ref a1)])) (fun t k => XS.aloadN X0.here hx rfl (hb hby dk205) rfl rfl k) ?_
  obtain ⟨T101, X101, e101, st101⟩ := initO X0 hx hZ hown tw79 tw31 tw32 eh0 (g := (mkF m 1 #[.val (.ref a1), .val (.int q1), .val (.int q2), .val (.ref a2)] [(.ref a1)])) rfl (by rw [hml]; rfl) rfl (hb hby dk206) (by decide) (W := 0) (Nat.le_of_eq rfl) (by decide)
  refine Goes.step (S' := T101.setTop (mkF m 6 #[.val (.ref a1), .val (.int q1), .val (.int q2), .val (.ref a2)] [(.int q1), (.ref a1)])) (fun t k => st101 _ (XS.aloadN X101.here hx rfl (hb hby dk207) rfl rfl (XS.iloadN X101.here hx rfl (hb hby dk208) rfl k))) ?_
  obtain ⟨T102, h102, X102, e102, W102, st102⟩ := putF X101 hx hZ hown (host := "") (Or.inl tw80) Via.refl e101 Fy E1 (Or.inr ⟨tw81, rfl, hnm⟩) tw74 (ty := .int) (by decide) rfl rfl (g := (mkF m 6 #[.val (.ref a1), .val (.int q1), .val (.int q2), .val (.ref a2)] [(.int q1), (.ref a1)])) rfl rfl (hb hby dk209)
  have Fw102 : Fld Z h102 a1 "com/example/planwright/planwright/model/VestingProvisions" "yearOfServiceHours" "I" (.int q1) := Fld.same W102 Fy
  have N102 := Fr.snoc X102 N0 G1
  refine Goes.step (S' := T102.setTop (mkF m 11 #[.val (.ref a1), .val (.int q1), .val (.int q2), .val (.ref a2)] [(.int q2), (.ref a1)])) (fun t k => st102 _ (XS.aloadN X102.here hx rfl (hb hby dk210) rfl rfl (XS.iloadN X102.here hx rfl (hb hby dk211) rfl k))) ?_
  obtain ⟨T103, h103, X103, e103, W103, st103⟩ := putF X102 hx hZ hown (host := "") (Or.inl tw82) Via.refl e102 (Fld.other W102 Fk (Or.inr (slot_ne (Or.inr tw83) (Or.inr tw81) (by decide) (t := .int) (t' := .int) (by decide) (by decide)))) (Exa.wr W102 E1) (Or.inr ⟨tw83, rfl, hnm⟩) tw74 (ty := .int) (by decide) rfl rfl (g := (mkF m 11 #[.val (.ref a1), .val (.int q1), .val (.int q2), .val (.ref a2)] [(.int q2), (.ref a1)])) rfl rfl (hb hby dk212)
  have Fw103 : Fld Z h103 a1 "com/example/planwright/planwright/model/VestingProvisions" "breakInServiceBelowHours" "I" (.int q2) := Fld.same W103 (Fld.other W102 Fk (Or.inr (slot_ne (Or.inr tw83) (Or.inr tw81) (by decide) (t := .int) (t' := .int) (by decide) (by decide))))
  have N103 := Fr.snoc X103 N102 G1
  refine Goes.step (S' := T103.setTop (mkF m 16 #[.val (.ref a1), .val (.int q1), .val (.int q2), .val (.ref a2)] [(.ref a2), (.ref a1)])) (fun t k => st103 _ (XS.aloadN X103.here hx rfl (hb hby dk213) rfl rfl (XS.aloadN X103.here hx rfl (hb hby dk214) rfl rfl k))) ?_
  obtain ⟨_, _, ⟨T104, L104, k104, n104⟩, -, X104, ⟨Lc104, hQ104, l104, y104, z104⟩, st104⟩ := Jvm.LawKit.callS X103 hx (y := mth25) hown (mvT hZ tw84) (mvT hZ tw85) (mvT hZ tw86) (mvT hZ tw87) (by decide) (backOf (W := 1) (lco3 l Z a0 hw [] a2 b1 k1 mr x0 x1 x2 h103 n0 (Nat.le_trans Z0 (Nat.le_trans (Nat.le_of_eq W102.size.symm) (Nat.le_of_eq W103.size.symm))) (Exa.wr W103 (Exa.wr W102 E2)) (Fld.other W103 (Fld.other W102 Fe (Or.inl (Exa.ne E2 E1 (by decide)))) (Or.inl (Exa.ne (Exa.wr W102 E2) (Exa.wr W102 E1) (by decide)))) (Fld.other W103 (Fld.other W102 Fz (Or.inl (Exa.ne E2 E1 (by decide)))) (Or.inl (Exa.ne (Exa.wr W102 E2) (Exa.wr W102 E1) (by decide)))) ((V1.other W102 (Exa.ne Eb E1 (by decide))).other W103 (Exa.ne (Exa.wr W102 Eb) (Exa.wr W102 E1) (by decide))) (Exa.wr W103 (Exa.wr W102 Eb)) (Exa.wr W103 (Exa.wr W102 Ex0)) (Exa.wr W103 (Exa.wr W102 Ex1)) (Exa.wr W103 (Exa.wr W102 Ex2)) MI) hZ tw87 tw86 (by decide) (by decide)) (g := (mkF m 16 #[.val (.ref a1), .val (.int q1), .val (.int q2), .val (.ref a2)] [(.ref a2), (.ref a1)])) rfl (by rw [hml]; rfl) (argsL := [(.ref a2)]) (rest := [(.ref a1)]) (lenOf pd_Ljava_util_Collection__Ljava_util_List rfl) rfl (Nat.le_of_eq rfl) (hb hby dk215) (fun _ _ => ⟨rfl, e103, (by decide : 0 + 3 ≤ _), (by decide : 0 + 8 ≤ _)⟩)
  dsimp only [Pt.U, Pt.locs, Pt.cells, Pt.slots] at X104 l104 y104 z104 st104 hQ104
  subst y104 z104
  obtain ⟨r_104, b_104, kb_104, rfl, Nq104, q104_0, q104_1, q104_2, q104_3, q104_4, q104_5⟩ := hQ104
  have N104 : Fr n0 L104 := by rw [l104]; exact Fr.app N103 Nq104
  refine Goes.step (S' := T104.setTop (mkF m 19 #[.val (.ref a1), .val (.int q1), .val (.int q2), .val (.ref a2)] [(.ref r_104), (.ref a1)])) (fun t k => st104 _ k) ?_
  obtain ⟨T105, h105, X105, e105, W105, st105⟩ := putF X104 hx hZ hown (host := "") (Or.inl tw170) Via.refl rfl ((Fld.other W103 (Fld.other W102 Fv (Or.inr (slot_ne (Or.inr tw171) (Or.inr tw81) (by decide) (t := (.object "java/util/List")) (t' := .int) (by decide) (by decide)))) (Or.inr (slot_ne (Or.inr tw171) (Or.inr tw83) (by decide) (t := (.object "java/util/List")) (t' := .int) (by decide) (by decide)))).keep q104_0 nin0) ((Exa.wr W103 (Exa.wr W102 E1)).keep q104_0) (Or.inr ⟨tw171, rfl, hnm⟩) tw74 (ty := (.object "java/util/List")) (by decide) rfl rfl (g := (mkF m 19 #[.val (.ref a1), .val (.int q1), .val (.int q2), .val (.ref a2)] [(.ref r_104), (.ref a1)])) rfl rfl (hb hby dk216)
  have Fw105 : Fld Z h105 a1 "com/example/planwright/planwright/model/VestingProvisions" "vestedPercentByYears" "Ljava/util/List;" (.ref r_104) := Fld.same W105 ((Fld.other W103 (Fld.other W102 Fv (Or.inr (slot_ne (Or.inr tw171) (Or.inr tw81) (by decide) (t := (.object "java/util/List")) (t' := .int) (by decide) (by decide)))) (Or.inr (slot_ne (Or.inr tw171) (Or.inr tw83) (by decide) (t := (.object "java/util/List")) (t' := .int) (by decide) (by decide)))).keep q104_0 nin0)
  have N105 := Fr.snoc X105 N104 G1
  refine Goes.step (S' := T105.setTop (mkF m 22 #[.val (.ref a1), .val (.int q1), .val (.int q2), .val (.ref a2)] [])) (fun t k => st105 _ k) ?_
  refine Goes.leave (g := (mkF m 22 #[.val (.ref a1), .val (.int q1), .val (.int q2), .val (.ref a2)] [])) X105 Bd.notSynchronized (v := none) (fun _ => rfl) (fun fs hr => X105.returnOut hx Bd.returns (hb hby dk217) hr) e105 ?_ (by decide) (by decide)
  exact ⟨r_104, b_104, kb_104, rfl, N105, (((((Keep.refl _ [a1]).wr W102 (Or.inl (List.mem_of_getElem? (i := 0) rfl))).wr W103 (Or.inl (List.mem_of_getElem? (i := 0) rfl))).trans q104_0 all0).wr W105 (Or.inl (List.mem_of_getElem? (i := 0) rfl))), (Exa.wr W105 ((Exa.wr W103 (Exa.wr W102 E1)).keep q104_0)), Fw105, (Nat.le_trans (Nat.le_trans (Nat.le_of_eq W102.size.symm) (Nat.le_of_eq W103.size.symm)) q104_1), (Nat.le_trans (Nat.le_trans (Nat.le_of_eq W102.size.symm) (Nat.le_of_eq W103.size.symm)) q104_2), (Exa.wr W105 q104_3), (Fld.other W105 q104_4 (Or.inl (Ne.symm (Nat.ne_of_lt (Nat.lt_of_lt_of_le E1.lt (Nat.le_trans (Nat.le_trans (Nat.le_of_eq W102.size.symm) (Nat.le_of_eq W103.size.symm)) q104_1)))))), (q104_5.other W105 (Ne.symm (Nat.ne_of_lt (Nat.lt_of_lt_of_le E1.lt (Nat.le_trans (Nat.le_trans (Nat.le_of_eq W102.size.symm) (Nat.le_of_eq W103.size.symm)) q104_2)))))⟩

theorem ef_siz3 (m : MethodId) (x0 : Addr) : entryFrame m #[(.ref x0)] 1 = mkF m 0 #[.val (.ref x0)] [] := by first | (simp [entryFrame, mkF, argsToLocals, Value.category]; done) | rfl
def Q_siz3 (Z : State) (a1 : Addr) (b1 : Addr) (k1 : ClassId) (x0 : Addr) (x1 : Addr) (x2 : Addr) (h0 : Heap) (n0 : Nat) (v : Option Value) (h : Heap) (L : List Loc) : Prop := v = some (.int (3 : Int32)) ∧ Fr n0 L ∧ h = h0
set_option maxRecDepth 65536 in
set_option maxHeartbeats 40000000 in
theorem siz3 (l : Launch) (Z : State) (a0 : Array Value) (hw : ∀ d ∈ tables_1, d.before a0 Z = true) (ws : List Jvm.Cond) (a1 : Addr) (b1 : Addr) (k1 : ClassId) (x0 : Addr) (x1 : Addr) (x2 : Addr) (h0 : Heap) (n0 : Nat) (Z0 : n0 ≤ h0.size) (Fn : Fld Z h0 a1 "java/util/ImmutableCollections$ListN" "elements" "[Ljava/lang/Object;" (.ref b1)) (V1 : Arv Z h0 b1 k1 (.object "java/lang/Object") (3 : Int32) [(.ref x0), (.ref x1), (.ref x2)] .null) :
    MetFree l mth30 (head1 (Jvm.Cond.code mth30 jdk_45_method_3_code 1 (some .int) :: ws) rom0) (fun a U => a = #[(.ref a1)] ∧ Z.Warmed39 U.vm ∧ U.heap = h0) (fun _ _ _ _ _ => True) (fun _ U o U' => ∃ v L, o = .returned v ∧ Q_siz3 Z a1 b1 k1 x0 x1 x2 h0 n0 v U'.heap L ∧ FrameEnd U o U' L rom0.cells rom0.slots) := by
  refine MetFree.of_bodySF (plainFor_of_name pnm9) hisR ?_
  intro p e s m args below meth c s₁ Bd hml0 hP hK
  obtain ⟨rfl, hZ, hh⟩ := hP
  have hx := Bd.exec
  have hby := Bd.bytes
  have hml : c.maxLocals = 1 := hml0
  have hown : s.vm.findClass "java/util/ImmutableCollections$ListN" = some m.cls := findClass_of_methodNamed Bd.named
  have hnm := (name_of_methodNamed Bd.named Bd.method).1
  have X0 : Stand p l e rom0 s m #[(.ref a1)] below meth c s₁ [] 0 0 := Stand.of_body Bd
  have eh0 : s₁.heap = h0 := by rw [← hh, Bd.state]; rfl
  have N0 := Fr.nil n0
  have tw166 := hw _ (List.mem_of_getElem? (i := 166) rfl)
  show Goes p e below (Pq (Q_siz3 Z a1 b1 k1 x0 x1 x2 h0 n0) s rom0.cells rom0.slots) (s₁.setTop (entryFrame m #[(.ref a1)] 1))
  refine Goes.step (S' := s₁.setTop (mkF m 0 #[.val (.ref a1)] [])) (fun t k => castTop (ef_siz3 m a1) k) ?_
  refine Goes.step (S' := s₁.setTop (mkF m 1 #[.val (.ref a1)] [(.ref a1)])) (fun t k => XS.aloadN X0.here hx rfl (hb hby dk279) rfl rfl k) ?_
  obtain ⟨T101, X101, e101, st101⟩ := getF X0 hx hZ hown (host := "") (Or.inl tw166) Via.refl eh0 Fn (g := (mkF m 1 #[.val (.ref a1)] [(.ref a1)])) rfl rfl (hb hby dk280)
  refine Goes.step (S' := T101.setTop (mkF m 4 #[.val (.ref a1)] [(.ref b1)])) (fun t k => st101 _ k) ?_
  obtain ⟨cl102, Ar102, qk102, Sz102, Nn102, Hs102, Gs102⟩ := id V1
  refine Goes.step (S' := T101.setTop (mkF m 5 #[.val (.ref a1)] [(.int (3 : Int32))])) (fun t k => X101.arraylength hx (by rw [e101]; exact Ar102.1) (State.isArrayOf_alike hZ.alike Ar102.2.1) (g := (mkF m 4 #[.val (.ref a1)] [(.ref b1)])) rfl rfl (hb hby dk281) _ (by rw [len_of Sz102 Nn102]; exact k)) ?_
  refine Goes.leave (g := (mkF m 5 #[.val (.ref a1)] [(.int (3 : Int32))])) X101 Bd.notSynchronized (v := (some (.int (3 : Int32)))) (fun h => by rw [Bd.returns] at h; cases h) (fun fs hr => retI X101 hx Bd.returns (hb hby dk282) hr) e101 ?_ (by decide) (by decide)
  exact ⟨rfl, N0, rfl⟩

theorem ef_get3_0 (m : MethodId) (x0 : Addr) (x1 : Int32) : entryFrame m #[(.ref x0), (.int x1)] 2 = mkF m 0 #[.val (.ref x0), .val (.int x1)] [] := by first | (simp [entryFrame, mkF, argsToLocals, Value.category]; done) | rfl
def Q_get3_0 (Z : State) (a1 : Addr) (b1 : Addr) (k1 : ClassId) (x0 : Addr) (x1 : Addr) (x2 : Addr) (h0 : Heap) (n0 : Nat) (v : Option Value) (h : Heap) (L : List Loc) : Prop := v = some (.ref x0) ∧ Fr n0 L ∧ h = h0
set_option maxRecDepth 65536 in
set_option maxHeartbeats 40000000 in
theorem get3_0 (l : Launch) (Z : State) (a0 : Array Value) (hw : ∀ d ∈ tables_1, d.before a0 Z = true) (ws : List Jvm.Cond) (a1 : Addr) (b1 : Addr) (k1 : ClassId) (x0 : Addr) (x1 : Addr) (x2 : Addr) (h0 : Heap) (n0 : Nat) (Z0 : n0 ≤ h0.size) (Fn : Fld Z h0 a1 "java/util/ImmutableCollections$ListN" "elements" "[Ljava/lang/Object;" (.ref b1)) (V1 : Arv Z h0 b1 k1 (.object "java/lang/Object") (3 : Int32) [(.ref x0), (.ref x1), (.ref x2)] .null) :
    MetFree l mth31 (head1 (Jvm.Cond.code mth31 jdk_45_method_4_code 2 (some (.object "java/lang/Object")) :: ws) rom0) (fun a U => a = #[(.ref a1), (.int (0 : Int32))] ∧ Z.Warmed39 U.vm ∧ U.heap = h0) (fun _ _ _ _ _ => True) (fun _ U o U' => ∃ v L, o = .returned v ∧ Q_get3_0 Z a1 b1 k1 x0 x1 x2 h0 n0 v U'.heap L ∧ FrameEnd U o U' L rom0.cells rom0.slots) := by
  refine MetFree.of_bodySF (plainFor_of_name pnm9) hisR ?_
  intro p e s m args below meth c s₁ Bd hml0 hP hK
  obtain ⟨rfl, hZ, hh⟩ := hP
  have hx := Bd.exec
  have hby := Bd.bytes
  have hml : c.maxLocals = 2 := hml0
  have hown : s.vm.findClass "java/util/ImmutableCollections$ListN" = some m.cls := findClass_of_methodNamed Bd.named
  have hnm := (name_of_methodNamed Bd.named Bd.method).1
  have X0 : Stand p l e rom0 s m #[(.ref a1), (.int (0 : Int32))] below meth c s₁ [] 0 0 := Stand.of_body Bd
  have eh0 : s₁.heap = h0 := by rw [← hh, Bd.state]; rfl
  have N0 := Fr.nil n0
  have tw166 := hw _ (List.mem_of_getElem? (i := 166) rfl)
  show Goes p e below (Pq (Q_get3_0 Z a1 b1 k1 x0 x1 x2 h0 n0) s rom0.cells rom0.slots) (s₁.setTop (entryFrame m #[(.ref a1), (.int (0 : Int32))] 2))
  refine Goes.step (S' := s₁.setTop (mkF m 0 #[.val (.ref a1), .val (.int (0 : Int32))] [])) (fun t k => castTop (ef_get3_0 m a1 (0 : Int32)) k) ?_
  refine Goes.step (S' := s₁.setTop (mkF m 1 #[.val (.ref a1), .val (.int (0 : Int32))] [(.ref a1)])) (fun t k => XS.aloadN X0.here hx rfl (hb hby dk283) rfl rfl k) ?_
  obtain ⟨T101, X101, e101, st101⟩ := getF X0 hx hZ hown (host := "") (Or.inl tw166) Via.refl eh0 Fn (g := (mkF m 1 #[.val (.ref a1), .val (.int (0 : Int32))] [(.ref a1)])) rfl rfl (hb hby dk284)
  refine Goes.step (S' := T101.setTop (mkF m 5 #[.val (.ref a1), .val (.int (0 : Int32))] [(.int (0 : Int32)), (.ref b1)])) (fun t k => st101 _ (XS.iloadN X101.here hx rfl (hb hby dk285) rfl k)) ?_
  obtain ⟨cl102, Ar102, qk102, Sz102, Nn102, Hs102, Gs102⟩ := id V1
  have hin102 := (inb_of (j := (0 : Int32)) Sz102 ⟨by decide, by decide⟩)
  refine Goes.step (S' := T101.setTop (mkF m 6 #[.val (.ref a1), .val (.int (0 : Int32))] [(.ref x0)])) (fun t k => X101.aaload hx (j := (0 : Int32)) (v := (.ref x0)) (by rw [e101]; exact Ar102.1) (State.isArrayOf_alike hZ.alike Ar102.2.1) rfl Ar102.2.2 hin102 (Has.at Hs102 hin102 rfl) (g := (mkF m 5 #[.val (.ref a1), .val (.int (0 : Int32))] [(.int (0 : Int32)), (.ref b1)])) rfl rfl (hb hby dk286) _ k) ?_
  refine Goes.leave (g := (mkF m 6 #[.val (.ref a1), .val (.int (0 : Int32))] [(.ref x0)])) X101 Bd.notSynchronized (v := (some (.ref x0))) (fun h => by rw [Bd.returns] at h; cases h) (fun fs hr => by jvm_step X101.here [X101.here.top, hx, (hb hby dk287), X101.method', Bd.returns, Value.isRef, FieldType.isReference]; (first | (intro acts; rw [hr _ acts rfl rfl rfl]) | rw [hr _ _ rfl rfl rfl]); exact Steps.refl _) e101 ?_ (by decide) (by decide)
  exact ⟨rfl, N0, rfl⟩

theorem ef_get3_1 (m : MethodId) (x0 : Addr) (x1 : Int32) : entryFrame m #[(.ref x0), (.int x1)] 2 = mkF m 0 #[.val (.ref x0), .val (.int x1)] [] := by first | (simp [entryFrame, mkF, argsToLocals, Value.category]; done) | rfl
def Q_get3_1 (Z : State) (a1 : Addr) (b1 : Addr) (k1 : ClassId) (x0 : Addr) (x1 : Addr) (x2 : Addr) (h0 : Heap) (n0 : Nat) (v : Option Value) (h : Heap) (L : List Loc) : Prop := v = some (.ref x1) ∧ Fr n0 L ∧ h = h0
set_option maxRecDepth 65536 in
set_option maxHeartbeats 40000000 in
theorem get3_1 (l : Launch) (Z : State) (a0 : Array Value) (hw : ∀ d ∈ tables_1, d.before a0 Z = true) (ws : List Jvm.Cond) (a1 : Addr) (b1 : Addr) (k1 : ClassId) (x0 : Addr) (x1 : Addr) (x2 : Addr) (h0 : Heap) (n0 : Nat) (Z0 : n0 ≤ h0.size) (Fn : Fld Z h0 a1 "java/util/ImmutableCollections$ListN" "elements" "[Ljava/lang/Object;" (.ref b1)) (V1 : Arv Z h0 b1 k1 (.object "java/lang/Object") (3 : Int32) [(.ref x0), (.ref x1), (.ref x2)] .null) :
    MetFree l mth31 (head1 (Jvm.Cond.code mth31 jdk_45_method_4_code 2 (some (.object "java/lang/Object")) :: ws) rom0) (fun a U => a = #[(.ref a1), (.int (1 : Int32))] ∧ Z.Warmed39 U.vm ∧ U.heap = h0) (fun _ _ _ _ _ => True) (fun _ U o U' => ∃ v L, o = .returned v ∧ Q_get3_1 Z a1 b1 k1 x0 x1 x2 h0 n0 v U'.heap L ∧ FrameEnd U o U' L rom0.cells rom0.slots) := by
  refine MetFree.of_bodySF (plainFor_of_name pnm9) hisR ?_
  intro p e s m args below meth c s₁ Bd hml0 hP hK
  obtain ⟨rfl, hZ, hh⟩ := hP
  have hx := Bd.exec
  have hby := Bd.bytes
  have hml : c.maxLocals = 2 := hml0
  have hown : s.vm.findClass "java/util/ImmutableCollections$ListN" = some m.cls := findClass_of_methodNamed Bd.named
  have hnm := (name_of_methodNamed Bd.named Bd.method).1
  have X0 : Stand p l e rom0 s m #[(.ref a1), (.int (1 : Int32))] below meth c s₁ [] 0 0 := Stand.of_body Bd
  have eh0 : s₁.heap = h0 := by rw [← hh, Bd.state]; rfl
  have N0 := Fr.nil n0
  have tw166 := hw _ (List.mem_of_getElem? (i := 166) rfl)
  show Goes p e below (Pq (Q_get3_1 Z a1 b1 k1 x0 x1 x2 h0 n0) s rom0.cells rom0.slots) (s₁.setTop (entryFrame m #[(.ref a1), (.int (1 : Int32))] 2))
  refine Goes.step (S' := s₁.setTop (mkF m 0 #[.val (.ref a1), .val (.int (1 : Int32))] [])) (fun t k => castTop (ef_get3_1 m a1 (1 : Int32)) k) ?_
  refine Goes.step (S' := s₁.setTop (mkF m 1 #[.val (.ref a1), .val (.int (1 : Int32))] [(.ref a1)])) (fun t k => XS.aloadN X0.here hx rfl (hb hby dk283) rfl rfl k) ?_
  obtain ⟨T101, X101, e101, st101⟩ := getF X0 hx hZ hown (host := "") (Or.inl tw166) Via.refl eh0 Fn (g := (mkF m 1 #[.val (.ref a1), .val (.int (1 : Int32))] [(.ref a1)])) rfl rfl (hb hby dk284)
  refine Goes.step (S' := T101.setTop (mkF m 5 #[.val (.ref a1), .val (.int (1 : Int32))] [(.int (1 : Int32)), (.ref b1)])) (fun t k => st101 _ (XS.iloadN X101.here hx rfl (hb hby dk285) rfl k)) ?_
  obtain ⟨cl102, Ar102, qk102, Sz102, Nn102, Hs102, Gs102⟩ := id V1
  have hin102 := (inb_of (j := (1 : Int32)) Sz102 ⟨by decide, by decide⟩)
  refine Goes.step (S' := T101.setTop (mkF m 6 #[.val (.ref a1), .val (.int (1 : Int32))] [(.ref x1)])) (fun t k => X101.aaload hx (j := (1 : Int32)) (v := (.ref x1)) (by rw [e101]; exact Ar102.1) (State.isArrayOf_alike hZ.alike Ar102.2.1) rfl Ar102.2.2 hin102 (Has.at Hs102 hin102 rfl) (g := (mkF m 5 #[.val (.ref a1), .val (.int (1 : Int32))] [(.int (1 : Int32)), (.ref b1)])) rfl rfl (hb hby dk286) _ k) ?_
  refine Goes.leave (g := (mkF m 6 #[.val (.ref a1), .val (.int (1 : Int32))] [(.ref x1)])) X101 Bd.notSynchronized (v := (some (.ref x1))) (fun h => by rw [Bd.returns] at h; cases h) (fun fs hr => by jvm_step X101.here [X101.here.top, hx, (hb hby dk287), X101.method', Bd.returns, Value.isRef, FieldType.isReference]; (first | (intro acts; rw [hr _ acts rfl rfl rfl]) | rw [hr _ _ rfl rfl rfl]); exact Steps.refl _) e101 ?_ (by decide) (by decide)
  exact ⟨rfl, N0, rfl⟩

theorem ef_get3_2 (m : MethodId) (x0 : Addr) (x1 : Int32) : entryFrame m #[(.ref x0), (.int x1)] 2 = mkF m 0 #[.val (.ref x0), .val (.int x1)] [] := by first | (simp [entryFrame, mkF, argsToLocals, Value.category]; done) | rfl
def Q_get3_2 (Z : State) (a1 : Addr) (b1 : Addr) (k1 : ClassId) (x0 : Addr) (x1 : Addr) (x2 : Addr) (h0 : Heap) (n0 : Nat) (v : Option Value) (h : Heap) (L : List Loc) : Prop := v = some (.ref x2) ∧ Fr n0 L ∧ h = h0
set_option maxRecDepth 65536 in
set_option maxHeartbeats 40000000 in
theorem get3_2 (l : Launch) (Z : State) (a0 : Array Value) (hw : ∀ d ∈ tables_1, d.before a0 Z = true) (ws : List Jvm.Cond) (a1 : Addr) (b1 : Addr) (k1 : ClassId) (x0 : Addr) (x1 : Addr) (x2 : Addr) (h0 : Heap) (n0 : Nat) (Z0 : n0 ≤ h0.size) (Fn : Fld Z h0 a1 "java/util/ImmutableCollections$ListN" "elements" "[Ljava/lang/Object;" (.ref b1)) (V1 : Arv Z h0 b1 k1 (.object "java/lang/Object") (3 : Int32) [(.ref x0), (.ref x1), (.ref x2)] .null) :
    MetFree l mth31 (head1 (Jvm.Cond.code mth31 jdk_45_method_4_code 2 (some (.object "java/lang/Object")) :: ws) rom0) (fun a U => a = #[(.ref a1), (.int (2 : Int32))] ∧ Z.Warmed39 U.vm ∧ U.heap = h0) (fun _ _ _ _ _ => True) (fun _ U o U' => ∃ v L, o = .returned v ∧ Q_get3_2 Z a1 b1 k1 x0 x1 x2 h0 n0 v U'.heap L ∧ FrameEnd U o U' L rom0.cells rom0.slots) := by
  refine MetFree.of_bodySF (plainFor_of_name pnm9) hisR ?_
  intro p e s m args below meth c s₁ Bd hml0 hP hK
  obtain ⟨rfl, hZ, hh⟩ := hP
  have hx := Bd.exec
  have hby := Bd.bytes
  have hml : c.maxLocals = 2 := hml0
  have hown : s.vm.findClass "java/util/ImmutableCollections$ListN" = some m.cls := findClass_of_methodNamed Bd.named
  have hnm := (name_of_methodNamed Bd.named Bd.method).1
  have X0 : Stand p l e rom0 s m #[(.ref a1), (.int (2 : Int32))] below meth c s₁ [] 0 0 := Stand.of_body Bd
  have eh0 : s₁.heap = h0 := by rw [← hh, Bd.state]; rfl
  have N0 := Fr.nil n0
  have tw166 := hw _ (List.mem_of_getElem? (i := 166) rfl)
  show Goes p e below (Pq (Q_get3_2 Z a1 b1 k1 x0 x1 x2 h0 n0) s rom0.cells rom0.slots) (s₁.setTop (entryFrame m #[(.ref a1), (.int (2 : Int32))] 2))
  refine Goes.step (S' := s₁.setTop (mkF m 0 #[.val (.ref a1), .val (.int (2 : Int32))] [])) (fun t k => castTop (ef_get3_2 m a1 (2 : Int32)) k) ?_
  refine Goes.step (S' := s₁.setTop (mkF m 1 #[.val (.ref a1), .val (.int (2 : Int32))] [(.ref a1)])) (fun t k => XS.aloadN X0.here hx rfl (hb hby dk283) rfl rfl k) ?_
  obtain ⟨T101, X101, e101, st101⟩ := getF X0 hx hZ hown (host := "") (Or.inl tw166) Via.refl eh0 Fn (g := (mkF m 1 #[.val (.ref a1), .val (.int (2 : Int32))] [(.ref a1)])) rfl rfl (hb hby dk284)
  refine Goes.step (S' := T101.setTop (mkF m 5 #[.val (.ref a1), .val (.int (2 : Int32))] [(.int (2 : Int32)), (.ref b1)])) (fun t k => st101 _ (XS.iloadN X101.here hx rfl (hb hby dk285) rfl k)) ?_
  obtain ⟨cl102, Ar102, qk102, Sz102, Nn102, Hs102, Gs102⟩ := id V1
  have hin102 := (inb_of (j := (2 : Int32)) Sz102 ⟨by decide, by decide⟩)
  refine Goes.step (S' := T101.setTop (mkF m 6 #[.val (.ref a1), .val (.int (2 : Int32))] [(.ref x2)])) (fun t k => X101.aaload hx (j := (2 : Int32)) (v := (.ref x2)) (by rw [e101]; exact Ar102.1) (State.isArrayOf_alike hZ.alike Ar102.2.1) rfl Ar102.2.2 hin102 (Has.at Hs102 hin102 rfl) (g := (mkF m 5 #[.val (.ref a1), .val (.int (2 : Int32))] [(.int (2 : Int32)), (.ref b1)])) rfl rfl (hb hby dk286) _ k) ?_
  refine Goes.leave (g := (mkF m 6 #[.val (.ref a1), .val (.int (2 : Int32))] [(.ref x2)])) X101 Bd.notSynchronized (v := (some (.ref x2))) (fun h => by rw [Bd.returns] at h; cases h) (fun fs hr => by jvm_step X101.here [X101.here.top, hx, (hb hby dk287), X101.method', Bd.returns, Value.isRef, FieldType.isReference]; (first | (intro acts; rw [hr _ acts rfl rfl rfl]) | rw [hr _ _ rfl rfl rfl]); exact Steps.refl _) e101 ?_ (by decide) (by decide)
  exact ⟨rfl, N0, rfl⟩

theorem ef_cp3_4 (m : MethodId) (x0 : Addr) (x1 : Int32) (x2 : Addr) : entryFrame m #[(.ref x0), (.int x1), (.ref x2)] 4 = mkF m 0 #[.val (.ref x0), .val (.int x1), .val (.ref x2), .unset] [] := by first | (simp [entryFrame, mkF, argsToLocals, Value.category]; done) | rfl
def Q_cp3_4 (Z : State) (b1 : Addr) (k1 : ClassId) (mr : Addr) (x0 : Addr) (x1 : Addr) (x2 : Addr) (x3 : Addr) (h0 : Heap) (n0 : Nat) (v : Option Value) (h : Heap) (L : List Loc) : Prop := ∃ (b : Addr) (kb : ClassId), v = some (.ref b) ∧ Fr n0 L ∧ Keep h0 h [] ∧ h0.size ≤ b ∧ Exa Z h b "[Ljava/lang/Object;" ∧ Arv Z h b kb (.object "java/lang/Object") (4 : Int32) [(.ref x0), (.ref x1), (.ref x2), (.ref x3)] .null
set_option maxRecDepth 65536 in
set_option maxHeartbeats 40000000 in
theorem cp3_4 (l : Launch) (Z : State) (a0 : Array Value) (hw : ∀ d ∈ tables_1, d.before a0 Z = true) (ws : List Jvm.Cond) (b1 : Addr) (k1 : ClassId) (mr : Addr) (x0 : Addr) (x1 : Addr) (x2 : Addr) (x3 : Addr) (h0 : Heap) (n0 : Nat) (Z0 : n0 ≤ h0.size) (V1 : Arv Z h0 b1 k1 (.object "java/lang/Object") (10 : Int32) [(.ref x0), (.ref x1), (.ref x2), (.ref x3), .null, .null, .null, .null, .null, .null] .null) (Eb : Exa Z h0 b1 "[Ljava/lang/Object;") (Ex0 : Exa Z h0 x0 "java/lang/Integer") (Ex1 : Exa Z h0 x1 "java/lang/Integer") (Ex2 : Exa Z h0 x2 "java/lang/Integer") (Ex3 : Exa Z h0 x3 "java/lang/Integer") (MI : MirO Z "[Ljava/lang/Object;" mr) :
    MetFree l mth18 (head1 (Jvm.Cond.code mth18 jdk_65_method_120_code 4 (some (.array (.object "java/lang/Object"))) :: ws) rom33) (fun a U => a = #[(.ref b1), (.int (4 : Int32)), (.ref mr)] ∧ Z.Warmed39 U.vm ∧ U.heap = h0) (fun _ _ _ _ _ => True) (fun _ U o U' => ∃ v L, o = .returned v ∧ Q_cp3_4 Z b1 k1 mr x0 x1 x2 x3 h0 n0 v U'.heap L ∧ FrameEnd U o U' L rom33.cells rom33.slots) := by
  refine MetFree.of_bodySF (plainFor_of_name pnm10) hisR ?_
  intro p e s m args below meth c s₁ Bd hml0 hP hK
  obtain ⟨rfl, hZ, hh⟩ := hP
  have hx := Bd.exec
  have hby := Bd.bytes
  have hml : c.maxLocals = 4 := hml0
  have hown : s.vm.findClass "java/util/Arrays" = some m.cls := findClass_of_methodNamed Bd.named
  have hnm := (name_of_methodNamed Bd.named Bd.method).1
  have X0 : Stand p l e rom33 s m #[(.ref b1), (.int (4 : Int32)), (.ref mr)] below meth c s₁ [] 0 0 := Stand.of_body Bd
  have eh0 : s₁.heap = h0 := by rw [← hh, Bd.state]; rfl
  have N0 := Fr.nil n0
  have tw6 := hw _ (List.mem_of_getElem? (i := 6) rfl)
  have tw7 := hw _ (List.mem_of_getElem? (i := 7) rfl)
  have tw8 := hw _ (List.mem_of_getElem? (i := 8) rfl)
  have tw71 := hw _ (List.mem_of_getElem? (i := 71) rfl)
  have tw72 := hw _ (List.mem_of_getElem? (i := 72) rfl)
  have tw128 := hw _ (List.mem_of_getElem? (i := 128) rfl)
  have tw129 := hw _ (List.mem_of_getElem? (i := 129) rfl)
  have tw130 := hw _ (List.mem_of_getElem? (i := 130) rfl)
  have tw131 := hw _ (List.mem_of_getElem? (i := 131) rfl)
  have tw132 := hw _ (List.mem_of_getElem? (i := 132) rfl)
  have tw133 := hw _ (List.mem_of_getElem? (i := 133) rfl)
  have tw134 := hw _ (List.mem_of_getElem? (i := 134) rfl)
  show Goes p e below (Pq (Q_cp3_4 Z b1 k1 mr x0 x1 x2 x3 h0 n0) s rom33.cells rom33.slots) (s₁.setTop (entryFrame m #[(.ref b1), (.int (4 : Int32)), (.ref mr)] 4))
  refine Goes.step (S' := s₁.setTop (mkF m 0 #[.val (.ref b1), .val (.int (4 : Int32)), .val (.ref mr), .unset] [])) (fun t k => castTop (ef_cp3_4 m b1 (4 : Int32) mr) k) ?_
  refine Goes.step (S' := s₁.setTop (mkF m 1 #[.val (.ref b1), .val (.int (4 : Int32)), .val (.ref mr), .unset] [(.ref mr)])) (fun t k => XS.aloadN X0.here hx rfl (hb hby dk149) rfl rfl k) ?_
  obtain ⟨T101, X101, e101, st101⟩ := own_ldcMir X0 hx hZ hown tw128 MI eh0 (g := (mkF m 1 #[.val (.ref b1), .val (.int (4 : Int32)), .val (.ref mr), .unset] [(.ref mr)])) rfl (hb hby dk150)
  refine Goes.step (S' := T101.setTop (mkF m 7 #[.val (.ref b1), .val (.int (4 : Int32)), .val (.ref mr), .unset] [(.int (4 : Int32))])) (fun t k => st101 _ (Jvm.RoadKit.acmp (g := (mkF m 3 #[.val (.ref b1), .val (.int (4 : Int32)), .val (.ref mr), .unset] [(.ref mr), (.ref mr)])) X101 hx rfl rfl rfl (pc0 := 3) (pc' := 6) (same := true) rfl (hb hby dk151) rfl (decide_eq_true rfl) (by decide) (by decide) (XS.iloadN X101.here hx rfl (hb hby dk152) rfl k))) ?_
  obtain ⟨T102, h102, k102, X102, e102, E102, A102, AE102, O102, st102⟩ := newRE X101 hx hZ hown tw129 tw71 e101 (g := (mkF m 7 #[.val (.ref b1), .val (.int (4 : Int32)), .val (.ref mr), .unset] [(.int (4 : Int32))])) rfl (hb hby dk153) rfl (by decide) (cap := 4) (by decide) (by decide) (by decide) (by decide) (ad := "[Ljava/lang/Object;") rfl
  obtain ⟨b102, g102⟩ : ∃ z, z = h0.size := ⟨_, rfl⟩
  rw [← g102] at A102 AE102 st102
  have V102 : Arv Z h102 b102 k102 (.object "java/lang/Object") (4 : Int32) [.null, .null, .null, .null] .null := (Arv.new A102 (by decide)).pad (pad_rep [] .null 4)
  refine Goes.step (S' := T102.setTop (mkF m 30 #[.val (.ref b1), .val (.int (4 : Int32)), .val (.ref mr), .val (.ref b102)] [(.ref b1), (.int (0 : Int32)), (.ref b102), (.int (0 : Int32)), (.ref b1)])) (fun t k => st102 _ (XS.goto X102.here hx rfl (pc0 := 10) (pc' := 24) rfl (hb hby dk154) (by decide) (by decide) (XS.astoreN X102.here hx rfl (hb hby dk155) rfl rfl (l' := #[.val (.ref b1), .val (.int (4 : Int32)), .val (.ref mr), .val (.ref b102)]) rfl (XS.aloadN X102.here hx rfl (hb hby dk156) rfl rfl (XS.iconst X102.here hx rfl (hb hby dk157) (XS.aloadN X102.here hx rfl (hb hby dk158) rfl rfl (XS.iconst X102.here hx rfl (hb hby dk159) (XS.aloadN X102.here hx rfl (hb hby dk160) rfl rfl k)))))))) ?_
  obtain ⟨cl103, Ar103, qk103, Sz103, Nn103, Hs103, Gs103⟩ := id (V1.ext E102)
  refine Goes.step (S' := T102.setTop (mkF m 31 #[.val (.ref b1), .val (.int (4 : Int32)), .val (.ref mr), .val (.ref b102)] [(.int (10 : Int32)), (.int (0 : Int32)), (.ref b102), (.int (0 : Int32)), (.ref b1)])) (fun t k => X102.arraylength hx (by rw [e102]; exact Ar103.1) (State.isArrayOf_alike hZ.alike Ar103.2.1) (g := (mkF m 30 #[.val (.ref b1), .val (.int (4 : Int32)), .val (.ref mr), .val (.ref b102)] [(.ref b1), (.int (0 : Int32)), (.ref b102), (.int (0 : Int32)), (.ref b1)])) rfl rfl (hb hby dk161) _ (by rw [len_of Sz103 Nn103]; exact k)) ?_
  refine Goes.step (S' := T102.setTop (mkF m 32 #[.val (.ref b1), .val (.int (4 : Int32)), .val (.ref mr), .val (.ref b102)] [(.int (4 : Int32)), (.int (10 : Int32)), (.int (0 : Int32)), (.ref b102), (.int (0 : Int32)), (.ref b1)])) (fun t k => XS.iloadN X102.here hx rfl (hb hby dk162) rfl k) ?_
  obtain ⟨_, _, ⟨T104, L104, k104, n104⟩, -, X104, ⟨Lc104, hQ104, l104, y104, z104⟩, st104⟩ := Jvm.LawKit.callS X102 hx (y := mth1) hown (mvT hZ tw130) (mvT hZ tw6) (mvT hZ tw7) (mvT hZ tw8) (by decide) (backOf (W := 4) (mn1 l Z a0 hw [] (10 : Int32) (4 : Int32) h102 n0 (Nat.le_trans Z0 E102.1) ((by decide) : (4 : Int32) < (10 : Int32))) hZ tw8 tw7 (by decide) (by decide)) (g := (mkF m 32 #[.val (.ref b1), .val (.int (4 : Int32)), .val (.ref mr), .val (.ref b102)] [(.int (4 : Int32)), (.int (10 : Int32)), (.int (0 : Int32)), (.ref b102), (.int (0 : Int32)), (.ref b1)])) rfl (by rw [hml]; rfl) (argsL := [(.int (10 : Int32)), (.int (4 : Int32))]) (rest := [(.int (0 : Int32)), (.ref b102), (.int (0 : Int32)), (.ref b1)]) (lenOf pd_II_I rfl) rfl (Nat.le_of_eq rfl) (hb hby dk163) (fun _ _ => ⟨rfl, e102, (by decide : 1 + 0 ≤ _), (by decide : 4 + 0 ≤ _)⟩)
  dsimp only [Pt.U, Pt.locs, Pt.cells, Pt.slots] at X104 l104 y104 z104 st104 hQ104
  subst y104 z104
  obtain ⟨rfl, Nq104, q104_0⟩ := hQ104
  have N104 : Fr n0 L104 := by rw [l104]; exact Fr.app N0 Nq104
  refine Goes.step (S' := T104.setTop (mkF m 35 #[.val (.ref b1), .val (.int (4 : Int32)), .val (.ref mr), .val (.ref b102)] [(.int (4 : Int32)), (.int (0 : Int32)), (.ref b102), (.int (0 : Int32)), (.ref b1)])) (fun t k => st104 _ k) ?_
  obtain ⟨cl106, Ar106, qk106, Sz106, Nn106, Hs106, Gs106⟩ := id V102
  obtain ⟨T105, h105, L105, X105, e105, N105, K105, Vr105, st105⟩ := cpA X104 hx hZ hown tw131 tw134 tw132 tw133 q104_0 (sp := (0 : Int32)) (dp := (0 : Int32)) (nn := (4 : Int32)) (us := [(.ref x0), (.ref x1), (.ref x2), (.ref x3)]) (V1.ext E102) V102 (Or.inr ⟨rfl, rfl, ⟨(Sto.ofV Ar106 qk106 O102 (Ins.of_exa (Exa.ext E102 Ex0) tw72)), ⟨(Sto.ofV Ar106 qk106 O102 (Ins.of_exa (Exa.ext E102 Ex1) tw72)), ⟨(Sto.ofV Ar106 qk106 O102 (Ins.of_exa (Exa.ext E102 Ex2) tw72)), ⟨(Sto.ofV Ar106 qk106 O102 (Ins.of_exa (Exa.ext E102 Ex3) tw72)), trivial⟩⟩⟩⟩⟩) (by decide) (by decide) (by decide) (by decide) (by decide) rfl (by decide) N104 (Nat.le_trans Z0 (Nat.le_of_eq g102.symm)) (g := (mkF m 35 #[.val (.ref b1), .val (.int (4 : Int32)), .val (.ref mr), .val (.ref b102)] [(.int (4 : Int32)), (.int (0 : Int32)), (.ref b102), (.int (0 : Int32)), (.ref b1)])) rfl (by rw [hml]; rfl) rfl (hb hby dk164) (by decide) (W := 0) (Nat.le_of_eq rfl) (by decide)
  have V105 : Arv Z h105 b102 k102 (.object "java/lang/Object") (4 : Int32) [(.ref x0), (.ref x1), (.ref x2), (.ref x3)] .null := Vr105
  refine Goes.step (S' := T105.setTop (mkF m 39 #[.val (.ref b1), .val (.int (4 : Int32)), .val (.ref mr), .val (.ref b102)] [(.ref b102)])) (fun t k => st105 _ (XS.aloadN X105.here hx rfl (hb hby dk165) rfl rfl k)) ?_
  refine Goes.leave (g := (mkF m 39 #[.val (.ref b1), .val (.int (4 : Int32)), .val (.ref mr), .val (.ref b102)] [(.ref b102)])) X105 Bd.notSynchronized (v := (some (.ref b102))) (fun h => by rw [Bd.returns] at h; cases h) (fun fs hr => by jvm_step X105.here [X105.here.top, hx, (hb hby dk166), X105.method', Bd.returns, Value.isRef, FieldType.isReference]; (first | (intro acts; rw [hr _ acts rfl rfl rfl]) | rw [hr _ _ rfl rfl rfl]); exact Steps.refl _) e105 ?_ (by decide) (by decide)
  exact ⟨b102, k102, rfl, N105, (((Keep.refl _ []).ext E102).trans K105 (allS (Or.inr (Nat.le_of_eq g102.symm)) all0)), (Nat.le_of_eq g102.symm), (AE102.keep K105), V105⟩

theorem ef_cp2_4 (m : MethodId) (x0 : Addr) (x1 : Int32) : entryFrame m #[(.ref x0), (.int x1)] 2 = mkF m 0 #[.val (.ref x0), .val (.int x1)] [] := by first | (simp [entryFrame, mkF, argsToLocals, Value.category]; done) | rfl
def Q_cp2_4 (Z : State) (b1 : Addr) (k1 : ClassId) (mr : Addr) (x0 : Addr) (x1 : Addr) (x2 : Addr) (x3 : Addr) (h0 : Heap) (n0 : Nat) (v : Option Value) (h : Heap) (L : List Loc) : Prop := ∃ (b : Addr) (kb : ClassId), v = some (.ref b) ∧ Fr n0 L ∧ Keep h0 h [] ∧ h0.size ≤ b ∧ Exa Z h b "[Ljava/lang/Object;" ∧ Arv Z h b kb (.object "java/lang/Object") (4 : Int32) [(.ref x0), (.ref x1), (.ref x2), (.ref x3)] .null
set_option maxRecDepth 65536 in
set_option maxHeartbeats 40000000 in
theorem cp2_4 (l : Launch) (Z : State) (a0 : Array Value) (hw : ∀ d ∈ tables_1, d.before a0 Z = true) (ws : List Jvm.Cond) (b1 : Addr) (k1 : ClassId) (mr : Addr) (x0 : Addr) (x1 : Addr) (x2 : Addr) (x3 : Addr) (h0 : Heap) (n0 : Nat) (Z0 : n0 ≤ h0.size) (V1 : Arv Z h0 b1 k1 (.object "java/lang/Object") (10 : Int32) [(.ref x0), (.ref x1), (.ref x2), (.ref x3), .null, .null, .null, .null, .null, .null] .null) (Eb : Exa Z h0 b1 "[Ljava/lang/Object;") (Ex0 : Exa Z h0 x0 "java/lang/Integer") (Ex1 : Exa Z h0 x1 "java/lang/Integer") (Ex2 : Exa Z h0 x2 "java/lang/Integer") (Ex3 : Exa Z h0 x3 "java/lang/Integer") (MI : MirO Z "[Ljava/lang/Object;" mr) :
    MetFree l mth19 (head1 (Jvm.Cond.code mth19 jdk_65_method_119_code 2 (some (.array (.object "java/lang/Object"))) :: ws) rom34) (fun a U => a = #[(.ref b1), (.int (4 : Int32))] ∧ Z.Warmed39 U.vm ∧ U.heap = h0) (fun _ _ _ _ _ => True) (fun _ U o U' => ∃ v L, o = .returned v ∧ Q_cp2_4 Z b1 k1 mr x0 x1 x2 x3 h0 n0 v U'.heap L ∧ FrameEnd U o U' L rom34.cells rom34.slots) := by
  refine MetFree.of_bodySF (plainFor_of_name pnm10) hisR ?_
  intro p e s m args below meth c s₁ Bd hml0 hP hK
  obtain ⟨rfl, hZ, hh⟩ := hP
  have hx := Bd.exec
  have hby := Bd.bytes
  have hml : c.maxLocals = 2 := hml0
  have hown : s.vm.findClass "java/util/Arrays" = some m.cls := findClass_of_methodNamed Bd.named
  have hnm := (name_of_methodNamed Bd.named Bd.method).1
  have X0 : Stand p l e rom34 s m #[(.ref b1), (.int (4 : Int32))] below meth c s₁ [] 0 0 := Stand.of_body Bd
  have eh0 : s₁.heap = h0 := by rw [← hh, Bd.state]; rfl
  have N0 := Fr.nil n0
  have tw96 := hw _ (List.mem_of_getElem? (i := 96) rfl)
  have tw117 := hw _ (List.mem_of_getElem? (i := 117) rfl)
  have tw119 := hw _ (List.mem_of_getElem? (i := 119) rfl)
  have tw120 := hw _ (List.mem_of_getElem? (i := 120) rfl)
  have tw121 := hw _ (List.mem_of_getElem? (i := 121) rfl)
  have tw122 := hw _ (List.mem_of_getElem? (i := 122) rfl)
  have tw123 := hw _ (List.mem_of_getElem? (i := 123) rfl)
  have tw125 := hw _ (List.mem_of_getElem? (i := 125) rfl)
  have tw126 := hw _ (List.mem_of_getElem? (i := 126) rfl)
  have tw127 := hw _ (List.mem_of_getElem? (i := 127) rfl)
  show Goes p e below (Pq (Q_cp2_4 Z b1 k1 mr x0 x1 x2 x3 h0 n0) s rom34.cells rom34.slots) (s₁.setTop (entryFrame m #[(.ref b1), (.int (4 : Int32))] 2))
  refine Goes.step (S' := s₁.setTop (mkF m 0 #[.val (.ref b1), .val (.int (4 : Int32))] [])) (fun t k => castTop (ef_cp2_4 m b1 (4 : Int32)) k) ?_
  refine Goes.step (S' := s₁.setTop (mkF m 3 #[.val (.ref b1), .val (.int (4 : Int32))] [(.ref b1), (.int (4 : Int32)), (.ref b1)])) (fun t k => XS.aloadN X0.here hx rfl (hb hby dk167) rfl rfl (XS.iloadN X0.here hx rfl (hb hby dk168) rfl (XS.aloadN X0.here hx rfl (hb hby dk169) rfl rfl k))) ?_
  obtain ⟨T101, X101, e101, st101⟩ := own_gcls X0 hx hZ hown tw119 tw120 tw96 tw122 tw121 tw123 eh0 Eb MI (g := (mkF m 3 #[.val (.ref b1), .val (.int (4 : Int32))] [(.ref b1), (.int (4 : Int32)), (.ref b1)])) rfl (by rw [hml]; rfl) rfl (hb hby dk170) (by decide) (W := 2) (Nat.le_of_eq rfl) (by decide)
  refine Goes.step (S' := T101.setTop (mkF m 6 #[.val (.ref b1), .val (.int (4 : Int32))] [(.ref mr), (.int (4 : Int32)), (.ref b1)])) (fun t k => st101 _ k) ?_
  obtain ⟨_, _, ⟨T102, L102, k102, n102⟩, -, X102, ⟨Lc102, hQ102, l102, y102, z102⟩, st102⟩ := Jvm.LawKit.callS X101 hx (y := mth18) hown (mvT hZ tw125) (mvT hZ tw126) (mvT hZ tw117) (mvT hZ tw127) (by decide) (backOf (W := 0) (cp3_4 l Z a0 hw [] b1 k1 mr x0 x1 x2 x3 h0 n0 Z0 V1 Eb Ex0 Ex1 Ex2 Ex3 MI) hZ tw127 tw117 (by decide) (by decide)) (g := (mkF m 6 #[.val (.ref b1), .val (.int (4 : Int32))] [(.ref mr), (.int (4 : Int32)), (.ref b1)])) rfl (by rw [hml]; rfl) (argsL := [(.ref b1), (.int (4 : Int32)), (.ref mr)]) (rest := []) (lenOf pd_Ljava_lang_Object_ILjava_lang_Class___Ljava_lang_Object rfl) rfl (Nat.le_of_eq rfl) (hb hby dk171) (fun _ _ => ⟨rfl, e101, (by decide : 0 + 1 ≤ _), (by decide : 0 + 4 ≤ _)⟩)
  dsimp only [Pt.U, Pt.locs, Pt.cells, Pt.slots] at X102 l102 y102 z102 st102 hQ102
  subst y102 z102
  obtain ⟨b_102, kb_102, rfl, Nq102, q102_0, q102_1, q102_2, q102_3⟩ := hQ102
  have N102 : Fr n0 L102 := by rw [l102]; exact Fr.app N0 Nq102
  refine Goes.step (S' := T102.setTop (mkF m 9 #[.val (.ref b1), .val (.int (4 : Int32))] [(.ref b_102)])) (fun t k => st102 _ k) ?_
  refine Goes.leave (g := (mkF m 9 #[.val (.ref b1), .val (.int (4 : Int32))] [(.ref b_102)])) X102 Bd.notSynchronized (v := (some (.ref b_102))) (fun h => by rw [Bd.returns] at h; cases h) (fun fs hr => by jvm_step X102.here [X102.here.top, hx, (hb hby dk172), X102.method', Bd.returns, Value.isRef, FieldType.isReference]; (first | (intro acts; rw [hr _ acts rfl rfl rfl]) | rw [hr _ _ rfl rfl rfl]); exact Steps.refl _) rfl ?_ (by decide) (by decide)
  exact ⟨b_102, kb_102, rfl, N102, ((Keep.refl _ []).trans q102_0 all0), q102_1, q102_2, q102_3⟩

theorem ef_toa4 (m : MethodId) (x0 : Addr) : entryFrame m #[(.ref x0)] 1 = mkF m 0 #[.val (.ref x0)] [] := by first | (simp [entryFrame, mkF, argsToLocals, Value.category]; done) | rfl
def Q_toa4 (Z : State) (a1 : Addr) (b1 : Addr) (k1 : ClassId) (mr : Addr) (x0 : Addr) (x1 : Addr) (x2 : Addr) (x3 : Addr) (h0 : Heap) (n0 : Nat) (v : Option Value) (h : Heap) (L : List Loc) : Prop := ∃ (b : Addr) (kb : ClassId), v = some (.ref b) ∧ Fr n0 L ∧ Keep h0 h [] ∧ h0.size ≤ b ∧ Exa Z h b "[Ljava/lang/Object;" ∧ Arv Z h b kb (.object "java/lang/Object") (4 : Int32) [(.ref x0), (.ref x1), (.ref x2), (.ref x3)] .null
set_option maxRecDepth 65536 in
set_option maxHeartbeats 40000000 in
theorem toa4 (l : Launch) (Z : State) (a0 : Array Value) (hw : ∀ d ∈ tables_1, d.before a0 Z = true) (ws : List Jvm.Cond) (a1 : Addr) (b1 : Addr) (k1 : ClassId) (mr : Addr) (x0 : Addr) (x1 : Addr) (x2 : Addr) (x3 : Addr) (h0 : Heap) (n0 : Nat) (Z0 : n0 ≤ h0.size) (E1 : Exa Z h0 a1 "java/util/ArrayList") (Fe : Fld Z h0 a1 "java/util/ArrayList" "elementData" "[Ljava/lang/Object;" (.ref b1)) (Fz : Fld Z h0 a1 "java/util/ArrayList" "size" "I" (.int (4 : Int32))) (V1 : Arv Z h0 b1 k1 (.object "java/lang/Object") (10 : Int32) [(.ref x0), (.ref x1), (.ref x2), (.ref x3), .null, .null, .null, .null, .null, .null] .null) (Eb : Exa Z h0 b1 "[Ljava/lang/Object;") (Ex0 : Exa Z h0 x0 "java/lang/Integer") (Ex1 : Exa Z h0 x1 "java/lang/Integer") (Ex2 : Exa Z h0 x2 "java/lang/Integer") (Ex3 : Exa Z h0 x3 "java/lang/Integer") (MI : MirO Z "[Ljava/lang/Object;" mr) :
    MetFree l mth20 (head1 (Jvm.Cond.code mth20 jdk_38_method_16_code 1 (some (.array (.object "java/lang/Object"))) :: ws) rom35) (fun a U => a = #[(.ref a1)] ∧ Z.Warmed39 U.vm ∧ U.heap = h0) (fun _ _ _ _ _ => True) (fun _ U o U' => ∃ v L, o = .returned v ∧ Q_toa4 Z a1 b1 k1 mr x0 x1 x2 x3 h0 n0 v U'.heap L ∧ FrameEnd U o U' L rom35.cells rom35.slots) := by
  refine MetFree.of_bodySF (plainFor_of_name pnm4) hisR ?_
  intro p e s m args below meth c s₁ Bd hml0 hP hK
  obtain ⟨rfl, hZ, hh⟩ := hP
  have hx := Bd.exec
  have hby := Bd.bytes
  have hml : c.maxLocals = 1 := hml0
  have hown : s.vm.findClass "java/util/ArrayList" = some m.cls := findClass_of_methodNamed Bd.named
  have hnm := (name_of_methodNamed Bd.named Bd.method).1
  have X0 : Stand p l e rom35 s m #[(.ref a1)] below meth c s₁ [] 0 0 := Stand.of_body Bd
  have eh0 : s₁.heap = h0 := by rw [← hh, Bd.state]; rfl
  have N0 := Fr.nil n0
  have tw36 := hw _ (List.mem_of_getElem? (i := 36) rfl)
  have tw52 := hw _ (List.mem_of_getElem? (i := 52) rfl)
  have tw115 := hw _ (List.mem_of_getElem? (i := 115) rfl)
  have tw116 := hw _ (List.mem_of_getElem? (i := 116) rfl)
  have tw117 := hw _ (List.mem_of_getElem? (i := 117) rfl)
  have tw118 := hw _ (List.mem_of_getElem? (i := 118) rfl)
  show Goes p e below (Pq (Q_toa4 Z a1 b1 k1 mr x0 x1 x2 x3 h0 n0) s rom35.cells rom35.slots) (s₁.setTop (entryFrame m #[(.ref a1)] 1))
  refine Goes.step (S' := s₁.setTop (mkF m 0 #[.val (.ref a1)] [])) (fun t k => castTop (ef_toa4 m a1) k) ?_
  refine Goes.step (S' := s₁.setTop (mkF m 1 #[.val (.ref a1)] [(.ref a1)])) (fun t k => XS.aloadN X0.here hx rfl (hb hby dk173) rfl rfl k) ?_
  obtain ⟨T101, X101, e101, st101⟩ := getF X0 hx hZ hown (host := "") (Or.inl tw36) Via.refl eh0 Fe (g := (mkF m 1 #[.val (.ref a1)] [(.ref a1)])) rfl rfl (hb hby dk174)
  refine Goes.step (S' := T101.setTop (mkF m 5 #[.val (.ref a1)] [(.ref a1), (.ref b1)])) (fun t k => st101 _ (XS.aloadN X101.here hx rfl (hb hby dk175) rfl rfl k)) ?_
  obtain ⟨T102, X102, e102, st102⟩ := getF X101 hx hZ hown (host := "") (Or.inl tw52) Via.refl e101 Fz (g := (mkF m 5 #[.val (.ref a1)] [(.ref a1), (.ref b1)])) rfl rfl (hb hby dk176)
  refine Goes.step (S' := T102.setTop (mkF m 8 #[.val (.ref a1)] [(.int (4 : Int32)), (.ref b1)])) (fun t k => st102 _ k) ?_
  obtain ⟨_, _, ⟨T103, L103, k103, n103⟩, -, X103, ⟨Lc103, hQ103, l103, y103, z103⟩, st103⟩ := Jvm.LawKit.callS X102 hx (y := mth19) hown (mvT hZ tw115) (mvT hZ tw116) (mvT hZ tw117) (mvT hZ tw118) (by decide) (backOf (W := 0) (cp2_4 l Z a0 hw [] b1 k1 mr x0 x1 x2 x3 h0 n0 Z0 V1 Eb Ex0 Ex1 Ex2 Ex3 MI) hZ tw118 tw117 (by decide) (by decide)) (g := (mkF m 8 #[.val (.ref a1)] [(.int (4 : Int32)), (.ref b1)])) rfl (by rw [hml]; rfl) (argsL := [(.ref b1), (.int (4 : Int32))]) (rest := []) (lenOf pd_Ljava_lang_Object_I__Ljava_lang_Object rfl) rfl (Nat.le_of_eq rfl) (hb hby dk177) (fun _ _ => ⟨rfl, e102, (by decide : 0 + 1 ≤ _), (by decide : 0 + 4 ≤ _)⟩)
  dsimp only [Pt.U, Pt.locs, Pt.cells, Pt.slots] at X103 l103 y103 z103 st103 hQ103
  subst y103 z103
  obtain ⟨b_103, kb_103, rfl, Nq103, q103_0, q103_1, q103_2, q103_3⟩ := hQ103
  have N103 : Fr n0 L103 := by rw [l103]; exact Fr.app N0 Nq103
  refine Goes.step (S' := T103.setTop (mkF m 11 #[.val (.ref a1)] [(.ref b_103)])) (fun t k => st103 _ k) ?_
  refine Goes.leave (g := (mkF m 11 #[.val (.ref a1)] [(.ref b_103)])) X103 Bd.notSynchronized (v := (some (.ref b_103))) (fun h => by rw [Bd.returns] at h; cases h) (fun fs hr => by jvm_step X103.here [X103.here.top, hx, (hb hby dk178), X103.method', Bd.returns, Value.isRef, FieldType.isReference]; (first | (intro acts; rw [hr _ acts rfl rfl rfl]) | rw [hr _ _ rfl rfl rfl]); exact Steps.refl _) rfl ?_ (by decide) (by decide)
  exact ⟨b_103, kb_103, rfl, N103, ((Keep.refl _ []).trans q103_0 all0), q103_1, q103_2, q103_3⟩

theorem ef_lfa4 (m : MethodId) (x0 : Addr) : entryFrame m #[(.ref x0)] 3 = mkF m 0 #[.val (.ref x0), .unset, .unset] [] := by first | (simp [entryFrame, mkF, argsToLocals, Value.category]; done) | rfl
def Q_lfa4 (Z : State) (b1 : Addr) (k1 : ClassId) (x0 : Addr) (x1 : Addr) (x2 : Addr) (x3 : Addr) (h0 : Heap) (n0 : Nat) (v : Option Value) (h : Heap) (L : List Loc) : Prop := ∃ (r : Addr) (b : Addr) (kb : ClassId), v = some (.ref r) ∧ Fr n0 L ∧ Keep h0 h [] ∧ h0.size ≤ r ∧ h0.size ≤ b ∧ Exa Z h r "java/util/ImmutableCollections$ListN" ∧ Fld Z h r "java/util/ImmutableCollections$ListN" "elements" "[Ljava/lang/Object;" (.ref b) ∧ Arv Z h b kb (.object "java/lang/Object") (4 : Int32) [(.ref x0), (.ref x1), (.ref x2), (.ref x3)] .null
set_option maxRecDepth 65536 in
set_option maxHeartbeats 40000000 in
theorem lfa4 (l : Launch) (Z : State) (a0 : Array Value) (hw : ∀ d ∈ tables_1, d.before a0 Z = true) (ws : List Jvm.Cond) (b1 : Addr) (k1 : ClassId) (x0 : Addr) (x1 : Addr) (x2 : Addr) (x3 : Addr) (h0 : Heap) (n0 : Nat) (Z0 : n0 ≤ h0.size) (V1 : Arv Z h0 b1 k1 (.object "java/lang/Object") (4 : Int32) [(.ref x0), (.ref x1), (.ref x2), (.ref x3)] .null) (Eb : Exa Z h0 b1 "[Ljava/lang/Object;") (Ex0 : Exa Z h0 x0 "java/lang/Integer") (Ex1 : Exa Z h0 x1 "java/lang/Integer") (Ex2 : Exa Z h0 x2 "java/lang/Integer") (Ex3 : Exa Z h0 x3 "java/lang/Integer") :
    MetFree l mth29 (head1 (Jvm.Cond.code mth29 jdk_56_method_4_code 3 (some (.object "java/util/List")) :: ws) rom36) (fun a U => a = #[(.ref b1)] ∧ Z.Warmed39 U.vm ∧ U.heap = h0) (fun _ _ _ _ _ => True) (fun _ U o U' => ∃ v L, o = .returned v ∧ Q_lfa4 Z b1 k1 x0 x1 x2 x3 h0 n0 v U'.heap L ∧ FrameEnd U o U' L rom36.cells rom36.slots) := by
  refine MetFree.of_bodySF (plainFor_of_name pnm12) hisR ?_
  intro p e s m args below meth c s₁ Bd hml0 hP hK
  obtain ⟨rfl, hZ, hh⟩ := hP
  have hx := Bd.exec
  have hby := Bd.bytes
  have hml : c.maxLocals = 3 := hml0
  have hown : s.vm.findClass "java/util/ImmutableCollections" = some m.cls := findClass_of_methodNamed Bd.named
  have hnm := (name_of_methodNamed Bd.named Bd.method).1
  have X0 : Stand p l e rom36 s m #[(.ref b1)] below meth c s₁ [] 0 0 := Stand.of_body Bd
  have eh0 : s₁.heap = h0 := by rw [← hh, Bd.state]; rfl
  have N0 := Fr.nil n0
  have tw71 := hw _ (List.mem_of_getElem? (i := 71) rfl)
  have tw72 := hw _ (List.mem_of_getElem? (i := 72) rfl)
  have tw97 := hw _ (List.mem_of_getElem? (i := 97) rfl)
  have tw141 := hw _ (List.mem_of_getElem? (i := 141) rfl)
  have tw142 := hw _ (List.mem_of_getElem? (i := 142) rfl)
  have tw143 := hw _ (List.mem_of_getElem? (i := 143) rfl)
  have tw144 := hw _ (List.mem_of_getElem? (i := 144) rfl)
  have tw145 := hw _ (List.mem_of_getElem? (i := 145) rfl)
  have tw146 := hw _ (List.mem_of_getElem? (i := 146) rfl)
  have tw147 := hw _ (List.mem_of_getElem? (i := 147) rfl)
  have tw148 := hw _ (List.mem_of_getElem? (i := 148) rfl)
  have tw149 := hw _ (List.mem_of_getElem? (i := 149) rfl)
  have tw151 := hw _ (List.mem_of_getElem? (i := 151) rfl)
  have tw167 := hw _ (List.mem_of_getElem? (i := 167) rfl)
  have tw169 := hw _ (List.mem_of_getElem? (i := 169) rfl)
  show Goes p e below (Pq (Q_lfa4 Z b1 k1 x0 x1 x2 x3 h0 n0) s rom36.cells rom36.slots) (s₁.setTop (entryFrame m #[(.ref b1)] 3))
  refine Goes.step (S' := s₁.setTop (mkF m 0 #[.val (.ref b1), .unset, .unset] [])) (fun t k => castTop (ef_lfa4 m b1) k) ?_
  refine Goes.step (S' := s₁.setTop (mkF m 1 #[.val (.ref b1), .unset, .unset] [(.ref b1)])) (fun t k => XS.aloadN X0.here hx rfl (hb hby dk251) rfl rfl k) ?_
  obtain ⟨cl101, Ar101, qk101, Sz101, Nn101, Hs101, Gs101⟩ := id V1
  refine Goes.step (S' := s₁.setTop (mkF m 2 #[.val (.ref b1), .unset, .unset] [(.int (4 : Int32))])) (fun t k => X0.arraylength hx (by rw [eh0]; exact Ar101.1) (State.isArrayOf_alike hZ.alike Ar101.2.1) (g := (mkF m 1 #[.val (.ref b1), .unset, .unset] [(.ref b1)])) rfl rfl (hb hby dk252) _ (by rw [len_of Sz101 Nn101]; exact k)) ?_
  obtain ⟨T102, h102, k102, X102, e102, E102, A102, AE102, O102, st102⟩ := newRE X0 hx hZ hown tw141 tw71 eh0 (g := (mkF m 2 #[.val (.ref b1), .unset, .unset] [(.int (4 : Int32))])) rfl (hb hby dk253) rfl (by decide) (cap := 4) (by decide) (by decide) (by decide) (by decide) (ad := "[Ljava/lang/Object;") rfl
  obtain ⟨b102, g102⟩ : ∃ z, z = h0.size := ⟨_, rfl⟩
  rw [← g102] at A102 AE102 st102
  have V102 : Arv Z h102 b102 k102 (.object "java/lang/Object") (4 : Int32) [.null, .null, .null, .null] .null := (Arv.new A102 (by decide)).pad (pad_rep [] .null 4)
  refine Goes.step (S' := T102.setTop (mkF m 10 #[.val (.ref b1), .val (.ref b102), .val (.int (0 : Int32))] [(.ref b1), (.int (0 : Int32))])) (fun t k => st102 _ (XS.astoreN X102.here hx rfl (hb hby dk254) rfl rfl (l' := #[.val (.ref b1), .val (.ref b102), .unset]) rfl (XS.iconst X102.here hx rfl (hb hby dk255) (XS.istoreN X102.here hx rfl (hb hby dk256) rfl (l' := #[.val (.ref b1), .val (.ref b102), .val (.int (0 : Int32))]) rfl (XS.iloadN X102.here hx rfl (hb hby dk257) rfl (XS.aloadN X102.here hx rfl (hb hby dk258) rfl rfl k)))))) ?_
  obtain ⟨cl103, Ar103, qk103, Sz103, Nn103, Hs103, Gs103⟩ := id (V1.ext E102)
  refine Goes.step (S' := T102.setTop (mkF m 11 #[.val (.ref b1), .val (.ref b102), .val (.int (0 : Int32))] [(.int (4 : Int32)), (.int (0 : Int32))])) (fun t k => X102.arraylength hx (by rw [e102]; exact Ar103.1) (State.isArrayOf_alike hZ.alike Ar103.2.1) (g := (mkF m 10 #[.val (.ref b1), .val (.ref b102), .val (.int (0 : Int32))] [(.ref b1), (.int (0 : Int32))])) rfl rfl (hb hby dk259) _ (by rw [len_of Sz103 Nn103]; exact k)) ?_
  refine Goes.step (S' := T102.setTop (mkF m 18 #[.val (.ref b1), .val (.ref b102), .val (.int (0 : Int32))] [(.int (0 : Int32)), (.ref b1), (.int (0 : Int32)), (.ref b102)])) (fun t k => XS.icmpNo X102.here hx rfl (hb hby dk260) rfl (tlt ((by decide) : (0 : Int32) < (4 : Int32))).2.1 (XS.aloadN X102.here hx rfl (hb hby dk261) rfl rfl (XS.iloadN X102.here hx rfl (hb hby dk262) rfl (XS.aloadN X102.here hx rfl (hb hby dk263) rfl rfl (XS.iloadN X102.here hx rfl (hb hby dk264) rfl k))))) ?_
  obtain ⟨cl104, Ar104, qk104, Sz104, Nn104, Hs104, Gs104⟩ := id (V1.ext E102)
  have hin104 := (inb_of (j := (0 : Int32)) Sz104 ⟨by decide, by decide⟩)
  refine Goes.step (S' := T102.setTop (mkF m 19 #[.val (.ref b1), .val (.ref b102), .val (.int (0 : Int32))] [(.ref x0), (.int (0 : Int32)), (.ref b102)])) (fun t k => X102.aaload hx (j := (0 : Int32)) (v := (.ref x0)) (by rw [e102]; exact Ar104.1) (State.isArrayOf_alike hZ.alike Ar104.2.1) rfl Ar104.2.2 hin104 (Has.at Hs104 hin104 rfl) (g := (mkF m 18 #[.val (.ref b1), .val (.ref b102), .val (.int (0 : Int32))] [(.int (0 : Int32)), (.ref b1), (.int (0 : Int32)), (.ref b102)])) rfl rfl (hb hby dk265) _ k) ?_
  obtain ⟨_, _, ⟨T105, L105, k105, n105⟩, -, X105, ⟨Lc105, hQ105, l105, y105, z105⟩, st105⟩ := Jvm.LawKit.callS X102 hx (y := mth12) hown (mvT hZ tw142) (mvT hZ tw143) (mvT hZ tw144) (mvT hZ tw145) (by decide) (backOf (W := 2) (rqn l Z a0 hw [] x0 h102 n0 (Nat.le_trans Z0 E102.1) ) hZ tw145 tw144 (by decide) (by decide)) (g := (mkF m 19 #[.val (.ref b1), .val (.ref b102), .val (.int (0 : Int32))] [(.ref x0), (.int (0 : Int32)), (.ref b102)])) rfl (by rw [hml]; rfl) (argsL := [(.ref x0)]) (rest := [(.int (0 : Int32)), (.ref b102)]) (lenOf pd_Ljava_lang_Object__Ljava_lang_Object rfl) rfl (Nat.le_of_eq rfl) (hb hby dk266) (fun _ _ => ⟨rfl, e102, (by decide : 1 + 0 ≤ _), (by decide : 4 + 0 ≤ _)⟩)
  dsimp only [Pt.U, Pt.locs, Pt.cells, Pt.slots] at X105 l105 y105 z105 st105 hQ105
  subst y105 z105
  obtain ⟨rfl, Nq105, q105_0⟩ := hQ105
  have N105 : Fr n0 L105 := by rw [l105]; exact Fr.app N0 Nq105
  refine Goes.step (S' := T105.setTop (mkF m 22 #[.val (.ref b1), .val (.ref b102), .val (.int (0 : Int32))] [(.ref x0), (.int (0 : Int32)), (.ref b102)])) (fun t k => st105 _ k) ?_
  obtain ⟨cl106, Ar106, qk106, Sz106, Nn106, Hs106, Gs106⟩ := id V102
  obtain ⟨T106, h106, X106, e106, W106, st106⟩ := stR X105 hx hZ q105_0 Ar106 (j := (0 : Int32)) (inb_of (j := (0 : Int32)) Sz106 ⟨by decide, by decide⟩) rfl (Sto.ofV Ar106 qk106 O102 (Ins.of_exa (Exa.ext E102 Ex0) tw72)) (g := (mkF m 22 #[.val (.ref b1), .val (.ref b102), .val (.int (0 : Int32))] [(.ref x0), (.int (0 : Int32)), (.ref b102)])) rfl rfl (hb hby dk267)
  have V106 : Arv Z h106 b102 k102 (.object "java/lang/Object") (4 : Int32) [(.ref x0), .null, .null, .null] .null := Arv.set Ar106 qk106 Sz106 Nn106 Hs106 Gs106 rfl W106 0 rfl (Nat.le_of_ble_eq_true rfl)
  have N106 := Fr.snoc X106 N105 (Nat.le_trans Z0 (Nat.le_of_eq g102.symm))
  refine Goes.step (S' := T106.setTop (mkF m 26 #[.val (.ref b1), .val (.ref b102), .val (.int ((0 : Int32) + (1 : Int32)))] [])) (fun t k => st106 _ (XS.iinc X106.here hx rfl (hb hby dk268) rfl (l' := #[.val (.ref b1), .val (.ref b102), .val (.int ((0 : Int32) + (1 : Int32)))]) rfl k)) ?_
  rw [show ((0 : Int32) + (1 : Int32)) = (1 : Int32) from by decide]
  refine Goes.step (S' := T106.setTop (mkF m 10 #[.val (.ref b1), .val (.ref b102), .val (.int (1 : Int32))] [(.ref b1), (.int (1 : Int32))])) (fun t k => XS.goto X106.here hx rfl (pc0 := 26) (pc' := 8) rfl (hb hby dk269) (by decide) (by decide) (XS.iloadN X106.here hx rfl (hb hby dk257) rfl (XS.aloadN X106.here hx rfl (hb hby dk258) rfl rfl k))) ?_
  obtain ⟨cl107, Ar107, qk107, Sz107, Nn107, Hs107, Gs107⟩ := id ((V1.ext E102).other W106 (Nat.ne_of_lt (Nat.lt_of_lt_of_le V1.lt (Nat.le_of_eq g102.symm))))
  refine Goes.step (S' := T106.setTop (mkF m 11 #[.val (.ref b1), .val (.ref b102), .val (.int (1 : Int32))] [(.int (4 : Int32)), (.int (1 : Int32))])) (fun t k => X106.arraylength hx (by rw [e106]; exact Ar107.1) (State.isArrayOf_alike hZ.alike Ar107.2.1) (g := (mkF m 10 #[.val (.ref b1), .val (.ref b102), .val (.int (1 : Int32))] [(.ref b1), (.int (1 : Int32))])) rfl rfl (hb hby dk259) _ (by rw [len_of Sz107 Nn107]; exact k)) ?_
  refine Goes.step (S' := T106.setTop (mkF m 18 #[.val (.ref b1), .val (.ref b102), .val (.int (1 : Int32))] [(.int (1 : Int32)), (.ref b1), (.int (1 : Int32)), (.ref b102)])) (fun t k => XS.icmpNo X106.here hx rfl (hb hby dk260) rfl (tlt ((by decide) : (1 : Int32) < (4 : Int32))).2.1 (XS.aloadN X106.here hx rfl (hb hby dk261) rfl rfl (XS.iloadN X106.here hx rfl (hb hby dk262) rfl (XS.aloadN X106.here hx rfl (hb hby dk263) rfl rfl (XS.iloadN X106.here hx rfl (hb hby dk264) rfl k))))) ?_
  obtain ⟨cl108, Ar108, qk108, Sz108, Nn108, Hs108, Gs108⟩ := id ((V1.ext E102).other W106 (Nat.ne_of_lt (Nat.lt_of_lt_of_le V1.lt (Nat.le_of_eq g102.symm))))
  have hin108 := (inb_of (j := (1 : Int32)) Sz108 ⟨by decide, by decide⟩)
  refine Goes.step (S' := T106.setTop (mkF m 19 #[.val (.ref b1), .val (.ref b102), .val (.int (1 : Int32))] [(.ref x1), (.int (1 : Int32)), (.ref b102)])) (fun t k => X106.aaload hx (j := (1 : Int32)) (v := (.ref x1)) (by rw [e106]; exact Ar108.1) (State.isArrayOf_alike hZ.alike Ar108.2.1) rfl Ar108.2.2 hin108 (Has.at Hs108 hin108 rfl) (g := (mkF m 18 #[.val (.ref b1), .val (.ref b102), .val (.int (1 : Int32))] [(.int (1 : Int32)), (.ref b1), (.int (1 : Int32)), (.ref b102)])) rfl rfl (hb hby dk265) _ k) ?_
  obtain ⟨_, _, ⟨T109, L109, k109, n109⟩, -, X109, ⟨Lc109, hQ109, l109, y109, z109⟩, st109⟩ := Jvm.LawKit.callS X106 hx (y := mth12) hown (mvT hZ tw142) (mvT hZ tw143) (mvT hZ tw144) (mvT hZ tw145) (by decide) (backOf (W := 2) (rqn l Z a0 hw [] x1 h106 n0 (Nat.le_trans Z0 (Nat.le_trans E102.1 (Nat.le_of_eq W106.size.symm))) ) hZ tw145 tw144 (by decide) (by decide)) (g := (mkF m 19 #[.val (.ref b1), .val (.ref b102), .val (.int (1 : Int32))] [(.ref x1), (.int (1 : Int32)), (.ref b102)])) rfl (by rw [hml]; rfl) (argsL := [(.ref x1)]) (rest := [(.int (1 : Int32)), (.ref b102)]) (lenOf pd_Ljava_lang_Object__Ljava_lang_Object rfl) rfl (Nat.le_of_eq rfl) (hb hby dk266) (fun _ _ => ⟨rfl, e106, (by decide : 1 + 0 ≤ _), (by decide : 4 + 0 ≤ _)⟩)
  dsimp only [Pt.U, Pt.locs, Pt.cells, Pt.slots] at X109 l109 y109 z109 st109 hQ109
  subst y109 z109
  obtain ⟨rfl, Nq109, q109_0⟩ := hQ109
  have N109 : Fr n0 L109 := by rw [l109]; exact Fr.app N106 Nq109
  refine Goes.step (S' := T109.setTop (mkF m 22 #[.val (.ref b1), .val (.ref b102), .val (.int (1 : Int32))] [(.ref x1), (.int (1 : Int32)), (.ref b102)])) (fun t k => st109 _ k) ?_
  obtain ⟨cl110, Ar110, qk110, Sz110, Nn110, Hs110, Gs110⟩ := id V106
  obtain ⟨T110, h110, X110, e110, W110, st110⟩ := stR X109 hx hZ q109_0 Ar110 (j := (1 : Int32)) (inb_of (j := (1 : Int32)) Sz110 ⟨by decide, by decide⟩) rfl (Sto.ofV Ar110 qk110 O102 (Ins.of_exa (Exa.wr W106 (Exa.ext E102 Ex1)) tw72)) (g := (mkF m 22 #[.val (.ref b1), .val (.ref b102), .val (.int (1 : Int32))] [(.ref x1), (.int (1 : Int32)), (.ref b102)])) rfl rfl (hb hby dk267)
  have V110 : Arv Z h110 b102 k102 (.object "java/lang/Object") (4 : Int32) [(.ref x0), (.ref x1), .null, .null] .null := Arv.set Ar110 qk110 Sz110 Nn110 Hs110 Gs110 rfl W110 1 rfl (Nat.le_of_ble_eq_true rfl)
  have N110 := Fr.snoc X110 N109 (Nat.le_trans Z0 (Nat.le_of_eq g102.symm))
  refine Goes.step (S' := T110.setTop (mkF m 26 #[.val (.ref b1), .val (.ref b102), .val (.int ((1 : Int32) + (1 : Int32)))] [])) (fun t k => st110 _ (XS.iinc X110.here hx rfl (hb hby dk268) rfl (l' := #[.val (.ref b1), .val (.ref b102), .val (.int ((1 : Int32) + (1 : Int32)))]) rfl k)) ?_
  rw [show ((1 : Int32) + (1 : Int32)) = (2 : Int32) from by decide]
  refine Goes.step (S' := T110.setTop (mkF m 10 #[.val (.ref b1), .val (.ref b102), .val (.int (2 : Int32))] [(.ref b1), (.int (2 : Int32))])) (fun t k => XS.goto X110.here hx rfl (pc0 := 26) (pc' := 8) rfl (hb hby dk269) (by decide) (by decide) (XS.iloadN X110.here hx rfl (hb hby dk257) rfl (XS.aloadN X110.here hx rfl (hb hby dk258) rfl rfl k))) ?_
  obtain ⟨cl111, Ar111, qk111, Sz111, Nn111, Hs111, Gs111⟩ := id (((V1.ext E102).other W106 (Nat.ne_of_lt (Nat.lt_of_lt_of_le V1.lt (Nat.le_of_eq g102.symm)))).other W110 (Nat.ne_of_lt (Nat.lt_of_lt_of_le V1.lt (Nat.le_of_eq g102.symm))))
  refine Goes.step (S' := T110.setTop (mkF m 11 #[.val (.ref b1), .val (.ref b102), .val (.int (2 : Int32))] [(.int (4 : Int32)), (.int (2 : Int32))])) (fun t k => X110.arraylength hx (by rw [e110]; exact Ar111.1) (State.isArrayOf_alike hZ.alike Ar111.2.1) (g := (mkF m 10 #[.val (.ref b1), .val (.ref b102), .val (.int (2 : Int32))] [(.ref b1), (.int (2 : Int32))])) rfl rfl (hb hby dk259) _ (by rw [len_of Sz111 Nn111]; exact k)) ?_
  refine Goes.step (S' := T110.setTop (mkF m 18 #[.val (.ref b1), .val (.ref b102), .val (.int (2 : Int32))] [(.int (2 : Int32)), (.ref b1), (.int (2 : Int32)), (.ref b102)])) (fun t k => XS.icmpNo X110.here hx rfl (hb hby dk260) rfl (tlt ((by decide) : (2 : Int32) < (4 : Int32))).2.1 (XS.aloadN X110.here hx rfl (hb hby dk261) rfl rfl (XS.iloadN X110.here hx rfl (hb hby dk262) rfl (XS.aloadN X110.here hx rfl (hb hby dk263) rfl rfl (XS.iloadN X110.here hx rfl (hb hby dk264) rfl k))))) ?_
  obtain ⟨cl112, Ar112, qk112, Sz112, Nn112, Hs112, Gs112⟩ := id (((V1.ext E102).other W106 (Nat.ne_of_lt (Nat.lt_of_lt_of_le V1.lt (Nat.le_of_eq g102.symm)))).other W110 (Nat.ne_of_lt (Nat.lt_of_lt_of_le V1.lt (Nat.le_of_eq g102.symm))))
  have hin112 := (inb_of (j := (2 : Int32)) Sz112 ⟨by decide, by decide⟩)
  refine Goes.step (S' := T110.setTop (mkF m 19 #[.val (.ref b1), .val (.ref b102), .val (.int (2 : Int32))] [(.ref x2), (.int (2 : Int32)), (.ref b102)])) (fun t k => X110.aaload hx (j := (2 : Int32)) (v := (.ref x2)) (by rw [e110]; exact Ar112.1) (State.isArrayOf_alike hZ.alike Ar112.2.1) rfl Ar112.2.2 hin112 (Has.at Hs112 hin112 rfl) (g := (mkF m 18 #[.val (.ref b1), .val (.ref b102), .val (.int (2 : Int32))] [(.int (2 : Int32)), (.ref b1), (.int (2 : Int32)), (.ref b102)])) rfl rfl (hb hby dk265) _ k) ?_
  obtain ⟨_, _, ⟨T113, L113, k113, n113⟩, -, X113, ⟨Lc113, hQ113, l113, y113, z113⟩, st113⟩ := Jvm.LawKit.callS X110 hx (y := mth12) hown (mvT hZ tw142) (mvT hZ tw143) (mvT hZ tw144) (mvT hZ tw145) (by decide) (backOf (W := 2) (rqn l Z a0 hw [] x2 h110 n0 (Nat.le_trans Z0 (Nat.le_trans (Nat.le_trans E102.1 (Nat.le_of_eq W106.size.symm)) (Nat.le_of_eq W110.size.symm))) ) hZ tw145 tw144 (by decide) (by decide)) (g := (mkF m 19 #[.val (.ref b1), .val (.ref b102), .val (.int (2 : Int32))] [(.ref x2), (.int (2 : Int32)), (.ref b102)])) rfl (by rw [hml]; rfl) (argsL := [(.ref x2)]) (rest := [(.int (2 : Int32)), (.ref b102)]) (lenOf pd_Ljava_lang_Object__Ljava_lang_Object rfl) rfl (Nat.le_of_eq rfl) (hb hby dk266) (fun _ _ => ⟨rfl, e110, (by decide : 1 + 0 ≤ _), (by decide : 4 + 0 ≤ _)⟩)
  dsimp only [Pt.U, Pt.locs, Pt.cells, Pt.slots] at X113 l113 y113 z113 st113 hQ113
  subst y113 z113
  obtain ⟨rfl, Nq113, q113_0⟩ := hQ113
  have N113 : Fr n0 L113 := by rw [l113]; exact Fr.app N110 Nq113
  refine Goes.step (S' := T113.setTop (mkF m 22 #[.val (.ref b1), .val (.ref b102), .val (.int (2 : Int32))] [(.ref x2), (.int (2 : Int32)), (.ref b102)])) (fun t k => st113 _ k) ?_
  obtain ⟨cl114, Ar114, qk114, Sz114, Nn114, Hs114, Gs114⟩ := id V110
  obtain ⟨T114, h114, X114, e114, W114, st114⟩ := stR X113 hx hZ q113_0 Ar114 (j := (2 : Int32)) (inb_of (j := (2 : Int32)) Sz114 ⟨by decide, by decide⟩) rfl (Sto.ofV Ar114 qk114 O102 (Ins.of_exa (Exa.wr W110 (Exa.wr W106 (Exa.ext E102 Ex2))) tw72)) (g := (mkF m 22 #[.val (.ref b1), .val (.ref b102), .val (.int (2 : Int32))] [(.ref x2), (.int (2 : Int32)), (.ref b102)])) rfl rfl (hb hby dk267)
  have V114 : Arv Z h114 b102 k102 (.object "java/lang/Object") (4 : Int32) [(.ref x0), (.ref x1), (.ref x2), .null] .null := Arv.set Ar114 qk114 Sz114 Nn114 Hs114 Gs114 rfl W114 2 rfl (Nat.le_of_ble_eq_true rfl)
  have N114 := Fr.snoc X114 N113 (Nat.le_trans Z0 (Nat.le_of_eq g102.symm))
  refine Goes.step (S' := T114.setTop (mkF m 26 #[.val (.ref b1), .val (.ref b102), .val (.int ((2 : Int32) + (1 : Int32)))] [])) (fun t k => st114 _ (XS.iinc X114.here hx rfl (hb hby dk268) rfl (l' := #[.val (.ref b1), .val (.ref b102), .val (.int ((2 : Int32) + (1 : Int32)))]) rfl k)) ?_
  rw [show ((2 : Int32) + (1 : Int32)) = (3 : Int32) from by decide]
  refine Goes.step (S' := T114.setTop (mkF m 10 #[.val (.ref b1), .val (.ref b102), .val (.int (3 : Int32))] [(.ref b1), (.int (3 : Int32))])) (fun t k => XS.goto X114.here hx rfl (pc0 := 26) (pc' := 8) rfl (hb hby dk269) (by decide) (by decide) (XS.iloadN X114.here hx rfl (hb hby dk257) rfl (XS.aloadN X114.here hx rfl (hb hby dk258) rfl rfl k))) ?_
  obtain ⟨cl115, Ar115, qk115, Sz115, Nn115, Hs115, Gs115⟩ := id ((((V1.ext E102).other W106 (Nat.ne_of_lt (Nat.lt_of_lt_of_le V1.lt (Nat.le_of_eq g102.symm)))).other W110 (Nat.ne_of_lt (Nat.lt_of_lt_of_le V1.lt (Nat.le_of_eq g102.symm)))).other W114 (Nat.ne_of_lt (Nat.lt_of_lt_of_le V1.lt (Nat.le_of_eq g102.symm))))
  refine Goes.step (S' := T114.setTop (mkF m 11 #[.val (.ref b1), .val (.ref b102), .val (.int (3 : Int32))] [(.int (4 : Int32)), (.int (3 : Int32))])) (fun t k => X114.arraylength hx (by rw [e114]; exact Ar115.1) (State.isArrayOf_alike hZ.alike Ar115.2.1) (g := (mkF m 10 #[.val (.ref b1), .val (.ref b102), .val (.int (3 : Int32))] [(.ref b1), (.int (3 : Int32))])) rfl rfl (hb hby dk259) _ (by rw [len_of Sz115 Nn115]; exact k)) ?_
  refine Goes.step (S' := T114.setTop (mkF m 18 #[.val (.ref b1), .val (.ref b102), .val (.int (3 : Int32))] [(.int (3 : Int32)), (.ref b1), (.int (3 : Int32)), (.ref b102)])) (fun t k => XS.icmpNo X114.here hx rfl (hb hby dk260) rfl (tlt ((by decide) : (3 : Int32) < (4 : Int32))).2.1 (XS.aloadN X114.here hx rfl (hb hby dk261) rfl rfl (XS.iloadN X114.here hx rfl (hb hby dk262) rfl (XS.aloadN X114.here hx rfl (hb hby dk263) rfl rfl (XS.iloadN X114.here hx rfl (hb hby dk264) rfl k))))) ?_
  obtain ⟨cl116, Ar116, qk116, Sz116, Nn116, Hs116, Gs116⟩ := id ((((V1.ext E102).other W106 (Nat.ne_of_lt (Nat.lt_of_lt_of_le V1.lt (Nat.le_of_eq g102.symm)))).other W110 (Nat.ne_of_lt (Nat.lt_of_lt_of_le V1.lt (Nat.le_of_eq g102.symm)))).other W114 (Nat.ne_of_lt (Nat.lt_of_lt_of_le V1.lt (Nat.le_of_eq g102.symm))))
  have hin116 := (inb_of (j := (3 : Int32)) Sz116 ⟨by decide, by decide⟩)
  refine Goes.step (S' := T114.setTop (mkF m 19 #[.val (.ref b1), .val (.ref b102), .val (.int (3 : Int32))] [(.ref x3), (.int (3 : Int32)), (.ref b102)])) (fun t k => X114.aaload hx (j := (3 : Int32)) (v := (.ref x3)) (by rw [e114]; exact Ar116.1) (State.isArrayOf_alike hZ.alike Ar116.2.1) rfl Ar116.2.2 hin116 (Has.at Hs116 hin116 rfl) (g := (mkF m 18 #[.val (.ref b1), .val (.ref b102), .val (.int (3 : Int32))] [(.int (3 : Int32)), (.ref b1), (.int (3 : Int32)), (.ref b102)])) rfl rfl (hb hby dk265) _ k) ?_
  obtain ⟨_, _, ⟨T117, L117, k117, n117⟩, -, X117, ⟨Lc117, hQ117, l117, y117, z117⟩, st117⟩ := Jvm.LawKit.callS X114 hx (y := mth12) hown (mvT hZ tw142) (mvT hZ tw143) (mvT hZ tw144) (mvT hZ tw145) (by decide) (backOf (W := 2) (rqn l Z a0 hw [] x3 h114 n0 (Nat.le_trans Z0 (Nat.le_trans (Nat.le_trans (Nat.le_trans E102.1 (Nat.le_of_eq W106.size.symm)) (Nat.le_of_eq W110.size.symm)) (Nat.le_of_eq W114.size.symm))) ) hZ tw145 tw144 (by decide) (by decide)) (g := (mkF m 19 #[.val (.ref b1), .val (.ref b102), .val (.int (3 : Int32))] [(.ref x3), (.int (3 : Int32)), (.ref b102)])) rfl (by rw [hml]; rfl) (argsL := [(.ref x3)]) (rest := [(.int (3 : Int32)), (.ref b102)]) (lenOf pd_Ljava_lang_Object__Ljava_lang_Object rfl) rfl (Nat.le_of_eq rfl) (hb hby dk266) (fun _ _ => ⟨rfl, e114, (by decide : 1 + 0 ≤ _), (by decide : 4 + 0 ≤ _)⟩)
  dsimp only [Pt.U, Pt.locs, Pt.cells, Pt.slots] at X117 l117 y117 z117 st117 hQ117
  subst y117 z117
  obtain ⟨rfl, Nq117, q117_0⟩ := hQ117
  have N117 : Fr n0 L117 := by rw [l117]; exact Fr.app N114 Nq117
  refine Goes.step (S' := T117.setTop (mkF m 22 #[.val (.ref b1), .val (.ref b102), .val (.int (3 : Int32))] [(.ref x3), (.int (3 : Int32)), (.ref b102)])) (fun t k => st117 _ k) ?_
  obtain ⟨cl118, Ar118, qk118, Sz118, Nn118, Hs118, Gs118⟩ := id V114
  obtain ⟨T118, h118, X118, e118, W118, st118⟩ := stR X117 hx hZ q117_0 Ar118 (j := (3 : Int32)) (inb_of (j := (3 : Int32)) Sz118 ⟨by decide, by decide⟩) rfl (Sto.ofV Ar118 qk118 O102 (Ins.of_exa (Exa.wr W114 (Exa.wr W110 (Exa.wr W106 (Exa.ext E102 Ex3)))) tw72)) (g := (mkF m 22 #[.val (.ref b1), .val (.ref b102), .val (.int (3 : Int32))] [(.ref x3), (.int (3 : Int32)), (.ref b102)])) rfl rfl (hb hby dk267)
  have V118 : Arv Z h118 b102 k102 (.object "java/lang/Object") (4 : Int32) [(.ref x0), (.ref x1), (.ref x2), (.ref x3)] .null := Arv.set Ar118 qk118 Sz118 Nn118 Hs118 Gs118 rfl W118 3 rfl (Nat.le_of_ble_eq_true rfl)
  have N118 := Fr.snoc X118 N117 (Nat.le_trans Z0 (Nat.le_of_eq g102.symm))
  refine Goes.step (S' := T118.setTop (mkF m 26 #[.val (.ref b1), .val (.ref b102), .val (.int ((3 : Int32) + (1 : Int32)))] [])) (fun t k => st118 _ (XS.iinc X118.here hx rfl (hb hby dk268) rfl (l' := #[.val (.ref b1), .val (.ref b102), .val (.int ((3 : Int32) + (1 : Int32)))]) rfl k)) ?_
  rw [show ((3 : Int32) + (1 : Int32)) = (4 : Int32) from by decide]
  refine Goes.step (S' := T118.setTop (mkF m 10 #[.val (.ref b1), .val (.ref b102), .val (.int (4 : Int32))] [(.ref b1), (.int (4 : Int32))])) (fun t k => XS.goto X118.here hx rfl (pc0 := 26) (pc' := 8) rfl (hb hby dk269) (by decide) (by decide) (XS.iloadN X118.here hx rfl (hb hby dk257) rfl (XS.aloadN X118.here hx rfl (hb hby dk258) rfl rfl k))) ?_
  obtain ⟨cl119, Ar119, qk119, Sz119, Nn119, Hs119, Gs119⟩ := id (((((V1.ext E102).other W106 (Nat.ne_of_lt (Nat.lt_of_lt_of_le V1.lt (Nat.le_of_eq g102.symm)))).other W110 (Nat.ne_of_lt (Nat.lt_of_lt_of_le V1.lt (Nat.le_of_eq g102.symm)))).other W114 (Nat.ne_of_lt (Nat.lt_of_lt_of_le V1.lt (Nat.le_of_eq g102.symm)))).other W118 (Nat.ne_of_lt (Nat.lt_of_lt_of_le V1.lt (Nat.le_of_eq g102.symm))))
  refine Goes.step (S' := T118.setTop (mkF m 11 #[.val (.ref b1), .val (.ref b102), .val (.int (4 : Int32))] [(.int (4 : Int32)), (.int (4 : Int32))])) (fun t k => X118.arraylength hx (by rw [e118]; exact Ar119.1) (State.isArrayOf_alike hZ.alike Ar119.2.1) (g := (mkF m 10 #[.val (.ref b1), .val (.ref b102), .val (.int (4 : Int32))] [(.ref b1), (.int (4 : Int32))])) rfl rfl (hb hby dk259) _ (by rw [len_of Sz119 Nn119]; exact k)) ?_
  refine Goes.step (S' := T118.setTop (mkF m 29 #[.val (.ref b1), .val (.ref b102), .val (.int (4 : Int32))] [])) (fun t k => XS.icmpYes X118.here hx rfl (pc0 := 11) (pc' := 29) rfl (hb hby dk260) rfl (flt ((by decide) : ¬ ((4 : Int32) < (4 : Int32)))).2.1 (by decide) (by decide) k) ?_
  obtain ⟨T120, h120, X120, e120, E120, A120, D120, U120, st120⟩ := newO X118 hx hZ hown tw97 tw146 tw147 e118 (g := (mkF m 29 #[.val (.ref b1), .val (.ref b102), .val (.int (4 : Int32))] [])) rfl (hb hby dk270) (by decide) (by decide)
  obtain ⟨b120, g120⟩ : ∃ z, z = h118.size := ⟨_, rfl⟩
  rw [← g120] at A120 D120 U120 st120
  have F120_elements : Fld Z h120 b120 "java/util/ImmutableCollections$ListN" "elements" "[Ljava/lang/Object;" .null := D120 (Or.inr tw167) (ty := (.array (.object "java/lang/Object"))) (by decide)
  have F120_allowNulls : Fld Z h120 b120 "java/util/ImmutableCollections$ListN" "allowNulls" "Z" (.int (0 : Int32)) := D120 (Or.inr tw169) (ty := .boolean) (by decide)
  refine Goes.step (S' := T120.setTop (mkF m 35 #[.val (.ref b1), .val (.ref b102), .val (.int (4 : Int32))] [(.int (0 : Int32)), (.ref b102), (.ref b120), (.ref b120)])) (fun t k => st120 _ (XS.dup X120.here hx rfl (hb hby dk271) rfl rfl (XS.aloadN X120.here hx rfl (hb hby dk272) rfl rfl (XS.iconst X120.here hx rfl (hb hby dk273) k)))) ?_
  obtain ⟨_, _, ⟨T121, L121, k121, n121⟩, -, X121, ⟨Lc121, hQ121, l121, y121, z121⟩, st121⟩ := X120.specialBackNest hx (y := mth17) rfl hown (own_mvMN hZ tw148) (mvT hZ tw149) (mvT hZ tw151) (by decide) (backOf (W := 1) (lni l Z a0 hw [] b120 b102 h120 n0 (Nat.le_trans Z0 (Nat.le_trans (Nat.le_trans (Nat.le_trans (Nat.le_trans (Nat.le_trans E102.1 (Nat.le_of_eq W106.size.symm)) (Nat.le_of_eq W110.size.symm)) (Nat.le_of_eq W114.size.symm)) (Nat.le_of_eq W118.size.symm)) E120.1)) A120 F120_elements F120_allowNulls (Nat.le_trans Z0 (Nat.le_trans (Nat.le_trans (Nat.le_trans (Nat.le_trans (Nat.le_trans E102.1 (Nat.le_of_eq W106.size.symm)) (Nat.le_of_eq W110.size.symm)) (Nat.le_of_eq W114.size.symm)) (Nat.le_of_eq W118.size.symm)) (Nat.le_of_eq g120.symm)))) hZ tw151 tw147 (by decide) (by decide)) (g := (mkF m 35 #[.val (.ref b1), .val (.ref b102), .val (.int (4 : Int32))] [(.int (0 : Int32)), (.ref b102), (.ref b120), (.ref b120)])) rfl (by rw [hml]; rfl) (Steps.refl _) (a := b120) (argsL := [(.ref b102), (.int (0 : Int32))]) (rest := [(.ref b120)]) (lenOf pd_Ljava_lang_Object_Z_V rfl) rfl (Nat.le_of_eq rfl) (hb hby dk274) (fun _ _ => ⟨rfl, e120, (by decide : 2 + 0 ≤ _), (by decide : 6 + 0 ≤ _)⟩)
  dsimp only [Pt.U, Pt.locs, Pt.cells, Pt.slots] at X121 l121 y121 z121 st121 hQ121
  subst y121 z121
  obtain ⟨rfl, Nq121, q121_0, q121_1, q121_2⟩ := hQ121
  have N121 : Fr n0 L121 := by rw [l121]; exact Fr.app N118 Nq121
  refine Goes.step (S' := T121.setTop (mkF m 38 #[.val (.ref b1), .val (.ref b102), .val (.int (4 : Int32))] [(.ref b120)])) (fun t k => st121.trans k) ?_
  refine Goes.leave (g := (mkF m 38 #[.val (.ref b1), .val (.ref b102), .val (.int (4 : Int32))] [(.ref b120)])) X121 Bd.notSynchronized (v := (some (.ref b120))) (fun h => by rw [Bd.returns] at h; cases h) (fun fs hr => by jvm_step X121.here [X121.here.top, hx, (hb hby dk275), X121.method', Bd.returns, Value.isRef, FieldType.isReference]; (first | (intro acts; rw [hr _ acts rfl rfl rfl]) | rw [hr _ _ rfl rfl rfl]); exact Steps.refl _) rfl ?_ (by decide) (by decide)
  exact ⟨b120, b102, k102, rfl, N121, ((((((((Keep.refl _ []).ext E102).wr W106 (Or.inr (Nat.le_of_eq g102.symm))).wr W110 (Or.inr (Nat.le_of_eq g102.symm))).wr W114 (Or.inr (Nat.le_of_eq g102.symm))).wr W118 (Or.inr (Nat.le_of_eq g102.symm))).ext E120).trans q121_0 (allS (Or.inr (Nat.le_trans (Nat.le_trans (Nat.le_trans (Nat.le_trans (Nat.le_trans E102.1 (Nat.le_of_eq W106.size.symm)) (Nat.le_of_eq W110.size.symm)) (Nat.le_of_eq W114.size.symm)) (Nat.le_of_eq W118.size.symm)) (Nat.le_of_eq g120.symm))) all0)), (Nat.le_trans (Nat.le_trans (Nat.le_trans (Nat.le_trans (Nat.le_trans E102.1 (Nat.le_of_eq W106.size.symm)) (Nat.le_of_eq W110.size.symm)) (Nat.le_of_eq W114.size.symm)) (Nat.le_of_eq W118.size.symm)) (Nat.le_of_eq g120.symm)), (Nat.le_of_eq g102.symm), q121_1, q121_2, ((V118.ext E120).keep q121_0 (ninS (Nat.ne_of_lt (Nat.lt_of_lt_of_le V102.lt (Nat.le_trans (Nat.le_trans (Nat.le_trans (Nat.le_trans (Nat.le_of_eq W106.size.symm) (Nat.le_of_eq W110.size.symm)) (Nat.le_of_eq W114.size.symm)) (Nat.le_of_eq W118.size.symm)) (Nat.le_of_eq g120.symm)))) nin0))⟩

theorem ef_lof4 (m : MethodId) (x0 : Addr) : entryFrame m #[(.ref x0)] 2 = mkF m 0 #[.val (.ref x0), .unset] [] := by first | (simp [entryFrame, mkF, argsToLocals, Value.category]; done) | rfl
def Q_lof4 (Z : State) (b1 : Addr) (k1 : ClassId) (x0 : Addr) (x1 : Addr) (x2 : Addr) (x3 : Addr) (h0 : Heap) (n0 : Nat) (v : Option Value) (h : Heap) (L : List Loc) : Prop := ∃ (r : Addr) (b : Addr) (kb : ClassId), v = some (.ref r) ∧ Fr n0 L ∧ Keep h0 h [] ∧ h0.size ≤ r ∧ h0.size ≤ b ∧ Exa Z h r "java/util/ImmutableCollections$ListN" ∧ Fld Z h r "java/util/ImmutableCollections$ListN" "elements" "[Ljava/lang/Object;" (.ref b) ∧ Arv Z h b kb (.object "java/lang/Object") (4 : Int32) [(.ref x0), (.ref x1), (.ref x2), (.ref x3)] .null
set_option maxRecDepth 65536 in
set_option maxHeartbeats 40000000 in
theorem lof4 (l : Launch) (Z : State) (a0 : Array Value) (hw : ∀ d ∈ tables_1, d.before a0 Z = true) (ws : List Jvm.Cond) (b1 : Addr) (k1 : ClassId) (x0 : Addr) (x1 : Addr) (x2 : Addr) (x3 : Addr) (h0 : Heap) (n0 : Nat) (Z0 : n0 ≤ h0.size) (V1 : Arv Z h0 b1 k1 (.object "java/lang/Object") (4 : Int32) [(.ref x0), (.ref x1), (.ref x2), (.ref x3)] .null) (Eb : Exa Z h0 b1 "[Ljava/lang/Object;") (Ex0 : Exa Z h0 x0 "java/lang/Integer") (Ex1 : Exa Z h0 x1 "java/lang/Integer") (Ex2 : Exa Z h0 x2 "java/lang/Integer") (Ex3 : Exa Z h0 x3 "java/lang/Integer") :
    MetFree l mth21 (head1 (Jvm.Cond.code mth21 jdk_40_method_47_code 2 (some (.object "java/util/List")) :: ws) rom37) (fun a U => a = #[(.ref b1)] ∧ Z.Warmed39 U.vm ∧ U.heap = h0) (fun _ _ _ _ _ => True) (fun _ U o U' => ∃ v L, o = .returned v ∧ Q_lof4 Z b1 k1 x0 x1 x2 x3 h0 n0 v U'.heap L ∧ FrameEnd U o U' L rom37.cells rom37.slots) := by
  refine MetFree.of_bodySF (plainFor_of_name pnm11) hisR ?_
  intro p e s m args below meth c s₁ Bd hml0 hP hK
  obtain ⟨rfl, hZ, hh⟩ := hP
  have hx := Bd.exec
  have hby := Bd.bytes
  have hml : c.maxLocals = 2 := hml0
  have hown : s.vm.findClass "java/util/List" = some m.cls := findClass_of_methodNamed Bd.named
  have hnm := (name_of_methodNamed Bd.named Bd.method).1
  have X0 : Stand p l e rom37 s m #[(.ref b1)] below meth c s₁ [] 0 0 := Stand.of_body Bd
  have eh0 : s₁.heap = h0 := by rw [← hh, Bd.state]; rfl
  have N0 := Fr.nil n0
  have tw90 := hw _ (List.mem_of_getElem? (i := 90) rfl)
  have tw138 := hw _ (List.mem_of_getElem? (i := 138) rfl)
  have tw139 := hw _ (List.mem_of_getElem? (i := 139) rfl)
  have tw140 := hw _ (List.mem_of_getElem? (i := 140) rfl)
  show Goes p e below (Pq (Q_lof4 Z b1 k1 x0 x1 x2 x3 h0 n0) s rom37.cells rom37.slots) (s₁.setTop (entryFrame m #[(.ref b1)] 2))
  refine Goes.step (S' := s₁.setTop (mkF m 0 #[.val (.ref b1), .unset] [])) (fun t k => castTop (ef_lof4 m b1) k) ?_
  refine Goes.step (S' := s₁.setTop (mkF m 1 #[.val (.ref b1), .unset] [(.ref b1)])) (fun t k => XS.aloadN X0.here hx rfl (hb hby dk179) rfl rfl k) ?_
  obtain ⟨cl101, Ar101, qk101, Sz101, Nn101, Hs101, Gs101⟩ := id V1
  refine Goes.step (S' := s₁.setTop (mkF m 2 #[.val (.ref b1), .unset] [(.int (4 : Int32))])) (fun t k => X0.arraylength hx (by rw [eh0]; exact Ar101.1) (State.isArrayOf_alike hZ.alike Ar101.2.1) (g := (mkF m 1 #[.val (.ref b1), .unset] [(.ref b1)])) rfl rfl (hb hby dk180) _ (by rw [len_of Sz101 Nn101]; exact k)) ?_
  refine Goes.step (S' := s₁.setTop (mkF m 60 #[.val (.ref b1), .unset] [(.ref b1)])) (fun t k => XS.tswOut X0.here hx rfl (pc0 := 2) (pc' := 59) rfl (hb hby dk181) rfl (by rw [(rfl : (4 : Int32) = (4 : Int32))]; decide) (by decide) (by decide) (XS.aloadN X0.here hx rfl (hb hby dk276) rfl rfl k)) ?_
  obtain ⟨_, _, ⟨T102, L102, k102, n102⟩, -, X102, ⟨Lc102, hQ102, l102, y102, z102⟩, st102⟩ := Jvm.LawKit.callS X0 hx (y := mth29) hown (mvT hZ tw138) (mvT hZ tw139) (mvT hZ tw90) (mvT hZ tw140) (by decide) (backOf (W := 0) (lfa4 l Z a0 hw [] b1 k1 x0 x1 x2 x3 h0 n0 Z0 V1 Eb Ex0 Ex1 Ex2 Ex3) hZ tw140 tw90 (by decide) (by decide)) (g := (mkF m 60 #[.val (.ref b1), .unset] [(.ref b1)])) rfl (by rw [hml]; rfl) (argsL := [(.ref b1)]) (rest := []) (lenOf pd_Ljava_lang_Object__Ljava_util_List rfl) rfl (Nat.le_of_eq rfl) (hb hby dk277) (fun _ _ => ⟨rfl, eh0, (by decide : 0 + 2 ≤ _), (by decide : 0 + 6 ≤ _)⟩)
  dsimp only [Pt.U, Pt.locs, Pt.cells, Pt.slots] at X102 l102 y102 z102 st102 hQ102
  subst y102 z102
  obtain ⟨r_102, b_102, kb_102, rfl, Nq102, q102_0, q102_1, q102_2, q102_3, q102_4, q102_5⟩ := hQ102
  have N102 : Fr n0 L102 := by rw [l102]; exact Fr.app N0 Nq102
  refine Goes.step (S' := T102.setTop (mkF m 63 #[.val (.ref b1), .unset] [(.ref r_102)])) (fun t k => st102 _ k) ?_
  refine Goes.leave (g := (mkF m 63 #[.val (.ref b1), .unset] [(.ref r_102)])) X102 Bd.notSynchronized (v := (some (.ref r_102))) (fun h => by rw [Bd.returns] at h; cases h) (fun fs hr => by jvm_step X102.here [X102.here.top, hx, (hb hby dk278), X102.method', Bd.returns, Value.isRef, FieldType.isReference]; (first | (intro acts; rw [hr _ acts rfl rfl rfl]) | rw [hr _ _ rfl rfl rfl]); exact Steps.refl _) rfl ?_ (by decide) (by decide)
  exact ⟨r_102, b_102, kb_102, rfl, N102, ((Keep.refl _ []).trans q102_0 all0), q102_1, q102_2, q102_3, q102_4, q102_5⟩

theorem ef_lcp4 (m : MethodId) (x0 : Addr) : entryFrame m #[(.ref x0)] 2 = mkF m 0 #[.val (.ref x0), .unset] [] := by first | (simp [entryFrame, mkF, argsToLocals, Value.category]; done) | rfl
def Q_lcp4 (Z : State) (a1 : Addr) (b1 : Addr) (k1 : ClassId) (mr : Addr) (x0 : Addr) (x1 : Addr) (x2 : Addr) (x3 : Addr) (h0 : Heap) (n0 : Nat) (v : Option Value) (h : Heap) (L : List Loc) : Prop := ∃ (r : Addr) (b : Addr) (kb : ClassId), v = some (.ref r) ∧ Fr n0 L ∧ Keep h0 h [] ∧ h0.size ≤ r ∧ h0.size ≤ b ∧ Exa Z h r "java/util/ImmutableCollections$ListN" ∧ Fld Z h r "java/util/ImmutableCollections$ListN" "elements" "[Ljava/lang/Object;" (.ref b) ∧ Arv Z h b kb (.object "java/lang/Object") (4 : Int32) [(.ref x0), (.ref x1), (.ref x2), (.ref x3)] .null
set_option maxRecDepth 65536 in
set_option maxHeartbeats 40000000 in
theorem lcp4 (l : Launch) (Z : State) (a0 : Array Value) (hw : ∀ d ∈ tables_1, d.before a0 Z = true) (ws : List Jvm.Cond) (a1 : Addr) (b1 : Addr) (k1 : ClassId) (mr : Addr) (x0 : Addr) (x1 : Addr) (x2 : Addr) (x3 : Addr) (h0 : Heap) (n0 : Nat) (Z0 : n0 ≤ h0.size) (E1 : Exa Z h0 a1 "java/util/ArrayList") (Fe : Fld Z h0 a1 "java/util/ArrayList" "elementData" "[Ljava/lang/Object;" (.ref b1)) (Fz : Fld Z h0 a1 "java/util/ArrayList" "size" "I" (.int (4 : Int32))) (V1 : Arv Z h0 b1 k1 (.object "java/lang/Object") (10 : Int32) [(.ref x0), (.ref x1), (.ref x2), (.ref x3), .null, .null, .null, .null, .null, .null] .null) (Eb : Exa Z h0 b1 "[Ljava/lang/Object;") (Ex0 : Exa Z h0 x0 "java/lang/Integer") (Ex1 : Exa Z h0 x1 "java/lang/Integer") (Ex2 : Exa Z h0 x2 "java/lang/Integer") (Ex3 : Exa Z h0 x3 "java/lang/Integer") (MI : MirO Z "[Ljava/lang/Object;" mr) :
    MetFree l mth24 (head1 (Jvm.Cond.code mth24 jdk_56_method_3_code 2 (some (.object "java/util/List")) :: ws) rom38) (fun a U => a = #[(.ref a1)] ∧ Z.Warmed39 U.vm ∧ U.heap = h0) (fun _ _ _ _ _ => True) (fun _ U o U' => ∃ v L, o = .returned v ∧ Q_lcp4 Z a1 b1 k1 mr x0 x1 x2 x3 h0 n0 v U'.heap L ∧ FrameEnd U o U' L rom38.cells rom38.slots) := by
  refine MetFree.of_bodySF (plainFor_of_name pnm12) hisR ?_
  intro p e s m args below meth c s₁ Bd hml0 hP hK
  obtain ⟨rfl, hZ, hh⟩ := hP
  have hx := Bd.exec
  have hby := Bd.bytes
  have hml : c.maxLocals = 2 := hml0
  have hown : s.vm.findClass "java/util/ImmutableCollections" = some m.cls := findClass_of_methodNamed Bd.named
  have hnm := (name_of_methodNamed Bd.named Bd.method).1
  have X0 : Stand p l e rom38 s m #[(.ref a1)] below meth c s₁ [] 0 0 := Stand.of_body Bd
  have eh0 : s₁.heap = h0 := by rw [← hh, Bd.state]; rfl
  have N0 := Fr.nil n0
  have tw14 := hw _ (List.mem_of_getElem? (i := 14) rfl)
  have tw86 := hw _ (List.mem_of_getElem? (i := 86) rfl)
  have tw92 := hw _ (List.mem_of_getElem? (i := 92) rfl)
  have tw93 := hw _ (List.mem_of_getElem? (i := 93) rfl)
  have tw94 := hw _ (List.mem_of_getElem? (i := 94) rfl)
  have tw95 := hw _ (List.mem_of_getElem? (i := 95) rfl)
  have tw96 := hw _ (List.mem_of_getElem? (i := 96) rfl)
  have tw97 := hw _ (List.mem_of_getElem? (i := 97) rfl)
  have tw98 := hw _ (List.mem_of_getElem? (i := 98) rfl)
  have tw99 := hw _ (List.mem_of_getElem? (i := 99) rfl)
  have tw100 := hw _ (List.mem_of_getElem? (i := 100) rfl)
  have tw101 := hw _ (List.mem_of_getElem? (i := 101) rfl)
  have tw102 := hw _ (List.mem_of_getElem? (i := 102) rfl)
  have tw103 := hw _ (List.mem_of_getElem? (i := 103) rfl)
  have tw104 := hw _ (List.mem_of_getElem? (i := 104) rfl)
  have tw105 := hw _ (List.mem_of_getElem? (i := 105) rfl)
  have tw106 := hw _ (List.mem_of_getElem? (i := 106) rfl)
  have tw107 := hw _ (List.mem_of_getElem? (i := 107) rfl)
  have tw108 := hw _ (List.mem_of_getElem? (i := 108) rfl)
  have tw109 := hw _ (List.mem_of_getElem? (i := 109) rfl)
  have tw110 := hw _ (List.mem_of_getElem? (i := 110) rfl)
  have tw111 := hw _ (List.mem_of_getElem? (i := 111) rfl)
  have tw112 := hw _ (List.mem_of_getElem? (i := 112) rfl)
  have tw113 := hw _ (List.mem_of_getElem? (i := 113) rfl)
  have tw114 := hw _ (List.mem_of_getElem? (i := 114) rfl)
  have tw135 := hw _ (List.mem_of_getElem? (i := 135) rfl)
  have tw136 := hw _ (List.mem_of_getElem? (i := 136) rfl)
  have tw137 := hw _ (List.mem_of_getElem? (i := 137) rfl)
  have tw146 := hw _ (List.mem_of_getElem? (i := 146) rfl)
  have tw205 := hw _ (List.mem_of_getElem? (i := 205) rfl)
  show Goes p e below (Pq (Q_lcp4 Z a1 b1 k1 mr x0 x1 x2 x3 h0 n0) s rom38.cells rom38.slots) (s₁.setTop (entryFrame m #[(.ref a1)] 2))
  refine Goes.step (S' := s₁.setTop (mkF m 0 #[.val (.ref a1), .unset] [])) (fun t k => castTop (ef_lcp4 m a1) k) ?_
  refine Goes.step (S' := s₁.setTop (mkF m 1 #[.val (.ref a1), .unset] [(.ref a1)])) (fun t k => XS.aloadN X0.here hx rfl (hb hby dk189) rfl rfl k) ?_
  obtain ⟨T101, X101, e101, st101⟩ := instNo X0 hx hZ hown tw92 eh0 E1 (own_nsNo tw93 tw205 (NS.step tw93 (NS.step tw94 (NS.step tw95 (own_nsRoot tw96 tw205 (by decide)) (by decide)) (by decide)) (by decide)) (by decide)) (g := (mkF m 1 #[.val (.ref a1), .unset] [(.ref a1)])) rfl rfl (hb hby dk190)
  refine Goes.step (S' := T101.setTop (mkF m 8 #[.val (.ref a1), .unset] [(.ref a1)])) (fun t k => st101 _ (XS.ifNo X101.here hx rfl (hb hby dk191) rfl ((if0 _ _).trans (teq ((by decide) : (0 : Int32) = (0 : Int32))).2) (XS.aloadN X101.here hx rfl (hb hby dk192) rfl rfl k))) ?_
  obtain ⟨T102, X102, e102, st102⟩ := instNo X101 hx hZ hown tw97 e101 E1 (own_nsNo tw93 tw146 (NS.step tw93 (NS.step tw94 (NS.step tw95 (own_nsRoot tw96 tw146 (by decide)) (by decide)) (by decide)) (by decide)) (by decide)) (g := (mkF m 8 #[.val (.ref a1), .unset] [(.ref a1)])) rfl rfl (hb hby dk193)
  refine Goes.step (S' := T102.setTop (mkF m 32 #[.val (.ref a1), .unset] [(.ref a1)])) (fun t k => st102 _ (XS.ifYes X102.here hx rfl (pc0 := 11) (pc' := 31) rfl (hb hby dk194) rfl ((if0 _ _).trans (teq ((by decide) : (0 : Int32) = (0 : Int32))).1) (by decide) (by decide) (XS.aloadN X102.here hx rfl (hb hby dk195) rfl rfl k))) ?_
  obtain ⟨cq103, kq103, q103a, q103b, q103c⟩ := isOf hZ e102 E1
  obtain ⟨_, _, ⟨T103, L103, k103, n103⟩, -, X103, ⟨Lc103, hQ103, l103, y103, z103⟩, st103⟩ := X102.interfaceBack hx (xi := mth22) (y := mth11) hown (mvT hZ tw98) (mvT hZ tw99) (mvT hZ tw100) (mvT hZ tw101) (mvT hZ tw102) (mvT hZ tw103) (mvT hZ tw104) (mvT hZ tw105) (by decide) (backOf (W := 0) (ise l Z a0 hw [] a1 (4 : Int32) h0 n0 Z0 Fz ((by decide) : ¬ ((4 : Int32) = (0 : Int32)))) hZ tw106 tw14 (by decide) (by decide)) q103a q103b q103c (g := (mkF m 32 #[.val (.ref a1), .unset] [(.ref a1)])) rfl (by rw [hml]; rfl) (Steps.refl _) (argsL := []) (rest := []) (lenOf pd_Z rfl) rfl (Nat.le_of_eq rfl) (hb hby dk196) (fun _ _ => ⟨rfl, e102, (by decide : 0 + 0 ≤ _), (by decide : 0 + 0 ≤ _)⟩)
  dsimp only [Pt.U, Pt.locs, Pt.cells, Pt.slots] at X103 l103 y103 z103 st103 hQ103
  subst y103 z103
  obtain ⟨rfl, Nq103, q103_0⟩ := hQ103
  have N103 : Fr n0 L103 := by rw [l103]; exact Fr.app N0 Nq103
  refine Goes.step (S' := T103.setTop (mkF m 45 #[.val (.ref a1), .unset] [(.ref a1)])) (fun t k => st103.trans (XS.ifYes X103.here hx rfl (pc0 := 37) (pc' := 44) rfl (hb hby dk197) rfl ((if0 _ _).trans (teq ((by decide) : (0 : Int32) = (0 : Int32))).1) (by decide) (by decide) (XS.aloadN X103.here hx rfl (hb hby dk198) rfl rfl k))) ?_
  obtain ⟨cq104, kq104, q104a, q104b, q104c⟩ := isOf hZ q103_0 E1
  obtain ⟨_, _, ⟨T104, L104, k104, n104⟩, -, X104, ⟨Lc104, hQ104, l104, y104, z104⟩, st104⟩ := X103.interfaceBack hx (xi := mth23) (y := mth20) hown (mvT hZ tw107) (mvT hZ tw108) (mvT hZ tw109) (mvT hZ tw110) (mvT hZ tw111) (mvT hZ tw112) (mvT hZ tw113) (mvT hZ tw105) (by decide) (backOf (W := 0) (toa4 l Z a0 hw [] a1 b1 k1 mr x0 x1 x2 x3 h0 n0 Z0 E1 Fe Fz V1 Eb Ex0 Ex1 Ex2 Ex3 MI) hZ tw114 tw14 (by decide) (by decide)) q104a q104b q104c (g := (mkF m 45 #[.val (.ref a1), .unset] [(.ref a1)])) rfl (by rw [hml]; rfl) (Steps.refl _) (argsL := []) (rest := []) (lenOf pd_Ljava_lang_Object rfl) rfl (Nat.le_of_eq rfl) (hb hby dk199) (fun _ _ => ⟨rfl, q103_0, (by decide : 0 + 1 ≤ _), (by decide : 0 + 4 ≤ _)⟩)
  dsimp only [Pt.U, Pt.locs, Pt.cells, Pt.slots] at X104 l104 y104 z104 st104 hQ104
  subst y104 z104
  obtain ⟨b_104, kb_104, rfl, Nq104, q104_0, q104_1, q104_2, q104_3⟩ := hQ104
  have N104 : Fr n0 L104 := by rw [l104]; exact Fr.app N103 Nq104
  refine Goes.step (S' := T104.setTop (mkF m 50 #[.val (.ref a1), .unset] [(.ref b_104)])) (fun t k => st104.trans k) ?_
  obtain ⟨_, _, ⟨T105, L105, k105, n105⟩, -, X105, ⟨Lc105, hQ105, l105, y105, z105⟩, st105⟩ := Jvm.LawKit.callS X104 hx (y := mth21) hown (mvT hZ tw135) (mvT hZ tw136) (mvT hZ tw86) (mvT hZ tw137) (by decide) (backOf (W := 0) (lof4 l Z a0 hw [] b_104 kb_104 x0 x1 x2 x3 T104.heap n0 (Nat.le_trans Z0 q104_0.1) q104_3 q104_2 (Ex0.keep q104_0) (Ex1.keep q104_0) (Ex2.keep q104_0) (Ex3.keep q104_0)) hZ tw137 tw86 (by decide) (by decide)) (g := (mkF m 50 #[.val (.ref a1), .unset] [(.ref b_104)])) rfl (by rw [hml]; rfl) (argsL := [(.ref b_104)]) (rest := []) (lenOf pd_Ljava_lang_Object__Ljava_util_List rfl) rfl (Nat.le_of_eq rfl) (hb hby dk200) (fun _ _ => ⟨rfl, rfl, (by decide : 1 + 2 ≤ _), (by decide : 4 + 6 ≤ _)⟩)
  dsimp only [Pt.U, Pt.locs, Pt.cells, Pt.slots] at X105 l105 y105 z105 st105 hQ105
  subst y105 z105
  obtain ⟨r_105, b_105, kb_105, rfl, Nq105, q105_0, q105_1, q105_2, q105_3, q105_4, q105_5⟩ := hQ105
  have N105 : Fr n0 L105 := by rw [l105]; exact Fr.app N104 Nq105
  refine Goes.step (S' := T105.setTop (mkF m 53 #[.val (.ref a1), .unset] [(.ref r_105)])) (fun t k => st105 _ k) ?_
  refine Goes.leave (g := (mkF m 53 #[.val (.ref a1), .unset] [(.ref r_105)])) X105 Bd.notSynchronized (v := (some (.ref r_105))) (fun h => by rw [Bd.returns] at h; cases h) (fun fs hr => by jvm_step X105.here [X105.here.top, hx, (hb hby dk201), X105.method', Bd.returns, Value.isRef, FieldType.isReference]; (first | (intro acts; rw [hr _ acts rfl rfl rfl]) | rw [hr _ _ rfl rfl rfl]); exact Steps.refl _) rfl ?_ (by decide) (by decide)
  exact ⟨r_105, b_105, kb_105, rfl, N105, (((Keep.refl _ []).trans q104_0 all0).trans q105_0 all0), (Nat.le_trans q104_0.1 q105_1), (Nat.le_trans q104_0.1 q105_2), q105_3, q105_4, q105_5⟩

theorem ef_lco4 (m : MethodId) (x0 : Addr) : entryFrame m #[(.ref x0)] 1 = mkF m 0 #[.val (.ref x0)] [] := by first | (simp [entryFrame, mkF, argsToLocals, Value.category]; done) | rfl
def Q_lco4 (Z : State) (a1 : Addr) (b1 : Addr) (k1 : ClassId) (mr : Addr) (x0 : Addr) (x1 : Addr) (x2 : Addr) (x3 : Addr) (h0 : Heap) (n0 : Nat) (v : Option Value) (h : Heap) (L : List Loc) : Prop := ∃ (r : Addr) (b : Addr) (kb : ClassId), v = some (.ref r) ∧ Fr n0 L ∧ Keep h0 h [] ∧ h0.size ≤ r ∧ h0.size ≤ b ∧ Exa Z h r "java/util/ImmutableCollections$ListN" ∧ Fld Z h r "java/util/ImmutableCollections$ListN" "elements" "[Ljava/lang/Object;" (.ref b) ∧ Arv Z h b kb (.object "java/lang/Object") (4 : Int32) [(.ref x0), (.ref x1), (.ref x2), (.ref x3)] .null
set_option maxRecDepth 65536 in
set_option maxHeartbeats 40000000 in
theorem lco4 (l : Launch) (Z : State) (a0 : Array Value) (hw : ∀ d ∈ tables_1, d.before a0 Z = true) (ws : List Jvm.Cond) (a1 : Addr) (b1 : Addr) (k1 : ClassId) (mr : Addr) (x0 : Addr) (x1 : Addr) (x2 : Addr) (x3 : Addr) (h0 : Heap) (n0 : Nat) (Z0 : n0 ≤ h0.size) (E1 : Exa Z h0 a1 "java/util/ArrayList") (Fe : Fld Z h0 a1 "java/util/ArrayList" "elementData" "[Ljava/lang/Object;" (.ref b1)) (Fz : Fld Z h0 a1 "java/util/ArrayList" "size" "I" (.int (4 : Int32))) (V1 : Arv Z h0 b1 k1 (.object "java/lang/Object") (10 : Int32) [(.ref x0), (.ref x1), (.ref x2), (.ref x3), .null, .null, .null, .null, .null, .null] .null) (Eb : Exa Z h0 b1 "[Ljava/lang/Object;") (Ex0 : Exa Z h0 x0 "java/lang/Integer") (Ex1 : Exa Z h0 x1 "java/lang/Integer") (Ex2 : Exa Z h0 x2 "java/lang/Integer") (Ex3 : Exa Z h0 x3 "java/lang/Integer") (MI : MirO Z "[Ljava/lang/Object;" mr) :
    MetFree l mth25 (head1 (Jvm.Cond.code mth25 jdk_40_method_48_code 1 (some (.object "java/util/List")) :: ws) rom39) (fun a U => a = #[(.ref a1)] ∧ Z.Warmed39 U.vm ∧ U.heap = h0) (fun _ _ _ _ _ => True) (fun _ U o U' => ∃ v L, o = .returned v ∧ Q_lco4 Z a1 b1 k1 mr x0 x1 x2 x3 h0 n0 v U'.heap L ∧ FrameEnd U o U' L rom39.cells rom39.slots) := by
  refine MetFree.of_bodySF (plainFor_of_name pnm11) hisR ?_
  intro p e s m args below meth c s₁ Bd hml0 hP hK
  obtain ⟨rfl, hZ, hh⟩ := hP
  have hx := Bd.exec
  have hby := Bd.bytes
  have hml : c.maxLocals = 1 := hml0
  have hown : s.vm.findClass "java/util/List" = some m.cls := findClass_of_methodNamed Bd.named
  have hnm := (name_of_methodNamed Bd.named Bd.method).1
  have X0 : Stand p l e rom39 s m #[(.ref a1)] below meth c s₁ [] 0 0 := Stand.of_body Bd
  have eh0 : s₁.heap = h0 := by rw [← hh, Bd.state]; rfl
  have N0 := Fr.nil n0
  have tw88 := hw _ (List.mem_of_getElem? (i := 88) rfl)
  have tw89 := hw _ (List.mem_of_getElem? (i := 89) rfl)
  have tw90 := hw _ (List.mem_of_getElem? (i := 90) rfl)
  have tw91 := hw _ (List.mem_of_getElem? (i := 91) rfl)
  show Goes p e below (Pq (Q_lco4 Z a1 b1 k1 mr x0 x1 x2 x3 h0 n0) s rom39.cells rom39.slots) (s₁.setTop (entryFrame m #[(.ref a1)] 1))
  refine Goes.step (S' := s₁.setTop (mkF m 0 #[.val (.ref a1)] [])) (fun t k => castTop (ef_lco4 m a1) k) ?_
  refine Goes.step (S' := s₁.setTop (mkF m 1 #[.val (.ref a1)] [(.ref a1)])) (fun t k => XS.aloadN X0.here hx rfl (hb hby dk202) rfl rfl k) ?_
  obtain ⟨_, _, ⟨T101, L101, k101, n101⟩, -, X101, ⟨Lc101, hQ101, l101, y101, z101⟩, st101⟩ := Jvm.LawKit.callS X0 hx (y := mth24) hown (mvT hZ tw88) (mvT hZ tw89) (mvT hZ tw90) (mvT hZ tw91) (by decide) (backOf (W := 0) (lcp4 l Z a0 hw [] a1 b1 k1 mr x0 x1 x2 x3 h0 n0 Z0 E1 Fe Fz V1 Eb Ex0 Ex1 Ex2 Ex3 MI) hZ tw91 tw90 (by decide) (by decide)) (g := (mkF m 1 #[.val (.ref a1)] [(.ref a1)])) rfl (by rw [hml]; rfl) (argsL := [(.ref a1)]) (rest := []) (lenOf pd_Ljava_util_Collection__Ljava_util_List rfl) rfl (Nat.le_of_eq rfl) (hb hby dk203) (fun _ _ => ⟨rfl, eh0, (by decide : 0 + 3 ≤ _), (by decide : 0 + 10 ≤ _)⟩)
  dsimp only [Pt.U, Pt.locs, Pt.cells, Pt.slots] at X101 l101 y101 z101 st101 hQ101
  subst y101 z101
  obtain ⟨r_101, b_101, kb_101, rfl, Nq101, q101_0, q101_1, q101_2, q101_3, q101_4, q101_5⟩ := hQ101
  have N101 : Fr n0 L101 := by rw [l101]; exact Fr.app N0 Nq101
  refine Goes.step (S' := T101.setTop (mkF m 4 #[.val (.ref a1)] [(.ref r_101)])) (fun t k => st101 _ k) ?_
  refine Goes.leave (g := (mkF m 4 #[.val (.ref a1)] [(.ref r_101)])) X101 Bd.notSynchronized (v := (some (.ref r_101))) (fun h => by rw [Bd.returns] at h; cases h) (fun fs hr => by jvm_step X101.here [X101.here.top, hx, (hb hby dk204), X101.method', Bd.returns, Value.isRef, FieldType.isReference]; (first | (intro acts; rw [hr _ acts rfl rfl rfl]) | rw [hr _ _ rfl rfl rfl]); exact Steps.refl _) rfl ?_ (by decide) (by decide)
  exact ⟨r_101, b_101, kb_101, rfl, N101, ((Keep.refl _ []).trans q101_0 all0), q101_1, q101_2, q101_3, q101_4, q101_5⟩

theorem ef_vpi4 (m : MethodId) (x0 : Addr) (x1 : Int32) (x2 : Int32) (x3 : Addr) : entryFrame m #[(.ref x0), (.int x1), (.int x2), (.ref x3)] 4 = mkF m 0 #[.val (.ref x0), .val (.int x1), .val (.int x2), .val (.ref x3)] [] := by first | (simp [entryFrame, mkF, argsToLocals, Value.category]; done) | rfl
def Q_vpi4 (Z : State) (a1 : Addr) (q1 : Int32) (q2 : Int32) (a2 : Addr) (b1 : Addr) (k1 : ClassId) (mr : Addr) (x0 : Addr) (x1 : Addr) (x2 : Addr) (x3 : Addr) (h0 : Heap) (n0 : Nat) (v : Option Value) (h : Heap) (L : List Loc) : Prop := ∃ (r : Addr) (b : Addr) (kb : ClassId), v = none ∧ Fr n0 L ∧ Keep h0 h [a1] ∧ Exa Z h a1 "com/example/planwright/planwright/model/VestingProvisions" ∧ Fld Z h a1 "com/example/planwright/planwright/model/VestingProvisions" "vestedPercentByYears" "Ljava/util/List;" (.ref r) ∧ h0.size ≤ r ∧ h0.size ≤ b ∧ Exa Z h r "java/util/ImmutableCollections$ListN" ∧ Fld Z h r "java/util/ImmutableCollections$ListN" "elements" "[Ljava/lang/Object;" (.ref b) ∧ Arv Z h b kb (.object "java/lang/Object") (4 : Int32) [(.ref x0), (.ref x1), (.ref x2), (.ref x3)] .null
set_option maxRecDepth 65536 in
set_option maxHeartbeats 40000000 in
theorem vpi4 (l : Launch) (Z : State) (a0 : Array Value) (hw : ∀ d ∈ tables_1, d.before a0 Z = true) (ws : List Jvm.Cond) (a1 : Addr) (q1 : Int32) (q2 : Int32) (a2 : Addr) (b1 : Addr) (k1 : ClassId) (mr : Addr) (x0 : Addr) (x1 : Addr) (x2 : Addr) (x3 : Addr) (h0 : Heap) (n0 : Nat) (Z0 : n0 ≤ h0.size) (E1 : Exa Z h0 a1 "com/example/planwright/planwright/model/VestingProvisions") (Fy : Fld Z h0 a1 "com/example/planwright/planwright/model/VestingProvisions" "yearOfServiceHours" "I" (.int (0 : Int32))) (Fk : Fld Z h0 a1 "com/example/planwright/planwright/model/VestingProvisions" "breakInServiceBelowHours" "I" (.int (0 : Int32))) (Fv : Fld Z h0 a1 "com/example/planwright/planwright/model/VestingProvisions" "vestedPercentByYears" "Ljava/util/List;" .null) (G1 : n0 ≤ a1) (E2 : Exa Z h0 a2 "java/util/ArrayList") (Fe : Fld Z h0 a2 "java/util/ArrayList" "elementData" "[Ljava/lang/Object;" (.ref b1)) (Fz : Fld Z h0 a2 "java/util/ArrayList" "size" "I" (.int (4 : Int32))) (V1 : Arv Z h0 b1 k1 (.object "java/lang/Object") (10 : Int32) [(.ref x0), (.ref x1), (.ref x2), (.ref x3), .null, .null, .null, .null, .null, .null] .null) (Eb : Exa Z h0 b1 "[Ljava/lang/Object;") (Ex0 : Exa Z h0 x0 "java/lang/Integer") (Ex1 : Exa Z h0 x1 "java/lang/Integer") (Ex2 : Exa Z h0 x2 "java/lang/Integer") (Ex3 : Exa Z h0 x3 "java/lang/Integer") (MI : MirO Z "[Ljava/lang/Object;" mr) :
    MetFree l mth26 (head1 (Jvm.Cond.code mth26 prog_32_method_1_code 4 none :: ws) rom40) (fun a U => a = #[(.ref a1), (.int q1), (.int q2), (.ref a2)] ∧ Z.Warmed39 U.vm ∧ U.heap = h0) (fun _ _ _ _ _ => True) (fun _ U o U' => ∃ v L, o = .returned v ∧ Q_vpi4 Z a1 q1 q2 a2 b1 k1 mr x0 x1 x2 x3 h0 n0 v U'.heap L ∧ FrameEnd U o U' L rom40.cells rom40.slots) := by
  refine MetFree.of_bodySF (plainFor_of_name pnm13) hisR ?_
  intro p e s m args below meth c s₁ Bd hml0 hP hK
  obtain ⟨rfl, hZ, hh⟩ := hP
  have hx := Bd.exec
  have hby := Bd.bytes
  have hml : c.maxLocals = 4 := hml0
  have hown : s.vm.findClass "com/example/planwright/planwright/model/VestingProvisions" = some m.cls := findClass_of_methodNamed Bd.named
  have hnm := (name_of_methodNamed Bd.named Bd.method).1
  have X0 : Stand p l e rom40 s m #[(.ref a1), (.int q1), (.int q2), (.ref a2)] below meth c s₁ [] 0 0 := Stand.of_body Bd
  have eh0 : s₁.heap = h0 := by rw [← hh, Bd.state]; rfl
  have N0 := Fr.nil n0
  have tw31 := hw _ (List.mem_of_getElem? (i := 31) rfl)
  have tw32 := hw _ (List.mem_of_getElem? (i := 32) rfl)
  have tw74 := hw _ (List.mem_of_getElem? (i := 74) rfl)
  have tw79 := hw _ (List.mem_of_getElem? (i := 79) rfl)
  have tw80 := hw _ (List.mem_of_getElem? (i := 80) rfl)
  have tw81 := hw _ (List.mem_of_getElem? (i := 81) rfl)
  have tw82 := hw _ (List.mem_of_getElem? (i := 82) rfl)
  have tw83 := hw _ (List.mem_of_getElem? (i := 83) rfl)
  have tw84 := hw _ (List.mem_of_getElem? (i := 84) rfl)
  have tw85 := hw _ (List.mem_of_getElem? (i := 85) rfl)
  have tw86 := hw _ (List.mem_of_getElem? (i := 86) rfl)
  have tw87 := hw _ (List.mem_of_getElem? (i := 87) rfl)
  have tw170 := hw _ (List.mem_of_getElem? (i := 170) rfl)
  have tw171 := hw _ (List.mem_of_getElem? (i := 171) rfl)
  show Goes p e below (Pq (Q_vpi4 Z a1 q1 q2 a2 b1 k1 mr x0 x1 x2 x3 h0 n0) s rom40.cells rom40.slots) (s₁.setTop (entryFrame m #[(.ref a1), (.int q1), (.int q2), (.ref a2)] 4))
  refine Goes.step (S' := s₁.setTop (mkF m 0 #[.val (.ref a1), .val (.int q1), .val (.int q2), .val (.ref a2)] [])) (fun t k => castTop (ef_vpi4 m a1 q1 q2 a2) k) ?_
  refine Goes.step (S' := s₁.setTop (mkF m 1 #[.val (.ref a1), .val (.int q1), .val (.int q2), .val (.ref a2)] [(.ref a1)])) (fun t k => XS.aloadN X0.here hx rfl (hb hby dk205) rfl rfl k) ?_
  obtain ⟨T101, X101, e101, st101⟩ := initO X0 hx hZ hown tw79 tw31 tw32 eh0 (g := (mkF m 1 #[.val (.ref a1), .val (.int q1), .val (.int q2), .val (.ref a2)] [(.ref a1)])) rfl (by rw [hml]; rfl) rfl (hb hby dk206) (by decide) (W := 0) (Nat.le_of_eq rfl) (by decide)
  refine Goes.step (S' := T101.setTop (mkF m 6 #[.val (.ref a1), .val (.int q1), .val (.int q2), .val (.ref a2)] [(.int q1), (.ref a1)])) (fun t k => st101 _ (XS.aloadN X101.here hx rfl (hb hby dk207) rfl rfl (XS.iloadN X101.here hx rfl (hb hby dk208) rfl k))) ?_
  obtain ⟨T102, h102, X102, e102, W102, st102⟩ := putF X101 hx hZ hown (host := "") (Or.inl tw80) Via.refl e101 Fy E1 (Or.inr ⟨tw81, rfl, hnm⟩) tw74 (ty := .int) (by decide) rfl rfl (g := (mkF m 6 #[.val (.ref a1), .val (.int q1), .val (.int q2), .val (.ref a2)] [(.int q1), (.ref a1)])) rfl rfl (hb hby dk209)
  have Fw102 : Fld Z h102 a1 "com/example/planwright/planwright/model/VestingProvisions" "yearOfServiceHours" "I" (.int q1) := Fld.same W102 Fy
  have N102 := Fr.snoc X102 N0 G1
  refine Goes.step (S' := T102.setTop (mkF m 11 #[.val (.ref a1), .val (.int q1), .val (.int q2), .val (.ref a2)] [(.int q2), (.ref a1)])) (fun t k => st102 _ (XS.aloadN X102.here hx rfl (hb hby dk210) rfl rfl (XS.iloadN X102.here hx rfl (hb hby dk211) rfl k))) ?_
  obtain ⟨T103, h103, X103, e103, W103, st103⟩ := putF X102 hx hZ hown (host := "") (Or.inl tw82) Via.refl e102 (Fld.other W102 Fk (Or.inr (slot_ne (Or.inr tw83) (Or.inr tw81) (by decide) (t := .int) (t' := .int) (by decide) (by decide)))) (Exa.wr W102 E1) (Or.inr ⟨tw83, rfl, hnm⟩) tw74 (ty := .int) (by decide) rfl rfl (g := (mkF m 11 #[.val (.ref a1), .val (.int q1), .val (.int q2), .val (.ref a2)] [(.int q2), (.ref a1)])) rfl rfl (hb hby dk212)
  have Fw103 : Fld Z h103 a1 "com/example/planwright/planwright/model/VestingProvisions" "breakInServiceBelowHours" "I" (.int q2) := Fld.same W103 (Fld.other W102 Fk (Or.inr (slot_ne (Or.inr tw83) (Or.inr tw81) (by decide) (t := .int) (t' := .int) (by decide) (by decide))))
  have N103 := Fr.snoc X103 N102 G1
  refine Goes.step (S' := T103.setTop (mkF m 16 #[.val (.ref a1), .val (.int q1), .val (.int q2), .val (.ref a2)] [(.ref a2), (.ref a1)])) (fun t k => st103 _ (XS.aloadN X103.here hx rfl (hb hby dk213) rfl rfl (XS.aloadN X103.here hx rfl (hb hby dk214) rfl rfl k))) ?_
  obtain ⟨_, _, ⟨T104, L104, k104, n104⟩, -, X104, ⟨Lc104, hQ104, l104, y104, z104⟩, st104⟩ := Jvm.LawKit.callS X103 hx (y := mth25) hown (mvT hZ tw84) (mvT hZ tw85) (mvT hZ tw86) (mvT hZ tw87) (by decide) (backOf (W := 1) (lco4 l Z a0 hw [] a2 b1 k1 mr x0 x1 x2 x3 h103 n0 (Nat.le_trans Z0 (Nat.le_trans (Nat.le_of_eq W102.size.symm) (Nat.le_of_eq W103.size.symm))) (Exa.wr W103 (Exa.wr W102 E2)) (Fld.other W103 (Fld.other W102 Fe (Or.inl (Exa.ne E2 E1 (by decide)))) (Or.inl (Exa.ne (Exa.wr W102 E2) (Exa.wr W102 E1) (by decide)))) (Fld.other W103 (Fld.other W102 Fz (Or.inl (Exa.ne E2 E1 (by decide)))) (Or.inl (Exa.ne (Exa.wr W102 E2) (Exa.wr W102 E1) (by decide)))) ((V1.other W102 (Exa.ne Eb E1 (by decide))).other W103 (Exa.ne (Exa.wr W102 Eb) (Exa.wr W102 E1) (by decide))) (Exa.wr W103 (Exa.wr W102 Eb)) (Exa.wr W103 (Exa.wr W102 Ex0)) (Exa.wr W103 (Exa.wr W102 Ex1)) (Exa.wr W103 (Exa.wr W102 Ex2)) (Exa.wr W103 (Exa.wr W102 Ex3)) MI) hZ tw87 tw86 (by decide) (by decide)) (g := (mkF m 16 #[.val (.ref a1), .val (.int q1), .val (.int q2), .val (.ref a2)] [(.ref a2), (.ref a1)])) rfl (by rw [hml]; rfl) (argsL := [(.ref a2)]) (rest := [(.ref a1)]) (lenOf pd_Ljava_util_Collection__Ljava_util_List rfl) rfl (Nat.le_of_eq rfl) (hb hby dk215) (fun _ _ => ⟨rfl, e103, (by decide : 0 + 3 ≤ _), (by decide : 0 + 10 ≤ _)⟩)
  dsimp only [Pt.U, Pt.locs, Pt.cells, Pt.slots] at X104 l104 y104 z104 st104 hQ104
  subst y104 z104
  obtain ⟨r_104, b_104, kb_104, rfl, Nq104, q104_0, q104_1, q104_2, q104_3, q104_4, q104_5⟩ := hQ104
  have N104 : Fr n0 L104 := by rw [l104]; exact Fr.app N103 Nq104
  refine Goes.step (S' := T104.setTop (mkF m 19 #[.val (.ref a1), .val (.int q1), .val (.int q2), .val (.ref a2)] [(.ref r_104), (.ref a1)])) (fun t k => st104 _ k) ?_
  obtain ⟨T105, h105, X105, e105, W105, st105⟩ := putF X104 hx hZ hown (host := "") (Or.inl tw170) Via.refl rfl ((Fld.other W103 (Fld.other W102 Fv (Or.inr (slot_ne (Or.inr tw171) (Or.inr tw81) (by decide) (t := (.object "java/util/List")) (t' := .int) (by decide) (by decide)))) (Or.inr (slot_ne (Or.inr tw171) (Or.inr tw83) (by decide) (t := (.object "java/util/List")) (t' := .int) (by decide) (by decide)))).keep q104_0 nin0) ((Exa.wr W103 (Exa.wr W102 E1)).keep q104_0) (Or.inr ⟨tw171, rfl, hnm⟩) tw74 (ty := (.object "java/util/List")) (by decide) rfl rfl (g := (mkF m 19 #[.val (.ref a1), .val (.int q1), .val (.int q2), .val (.ref a2)] [(.ref r_104), (.ref a1)])) rfl rfl (hb hby dk216)
  have Fw105 : Fld Z h105 a1 "com/example/planwright/planwright/model/VestingProvisions" "vestedPercentByYears" "Ljava/util/List;" (.ref r_104) := Fld.same W105 ((Fld.other W103 (Fld.other W102 Fv (Or.inr (slot_ne (Or.inr tw171) (Or.inr tw81) (by decide) (t := (.object "java/util/List")) (t' := .int) (by decide) (by decide)))) (Or.inr (slot_ne (Or.inr tw171) (Or.inr tw83) (by decide) (t := (.object "java/util/List")) (t' := .int) (by decide) (by decide)))).keep q104_0 nin0)
  have N105 := Fr.snoc X105 N104 G1
  refine Goes.step (S' := T105.setTop (mkF m 22 #[.val (.ref a1), .val (.int q1), .val (.int q2), .val (.ref a2)] [])) (fun t k => st105 _ k) ?_
  refine Goes.leave (g := (mkF m 22 #[.val (.ref a1), .val (.int q1), .val (.int q2), .val (.ref a2)] [])) X105 Bd.notSynchronized (v := none) (fun _ => rfl) (fun fs hr => X105.returnOut hx Bd.returns (hb hby dk217) hr) e105 ?_ (by decide) (by decide)
  exact ⟨r_104, b_104, kb_104, rfl, N105, (((((Keep.refl _ [a1]).wr W102 (Or.inl (List.mem_of_getElem? (i := 0) rfl))).wr W103 (Or.inl (List.mem_of_getElem? (i := 0) rfl))).trans q104_0 all0).wr W105 (Or.inl (List.mem_of_getElem? (i := 0) rfl))), (Exa.wr W105 ((Exa.wr W103 (Exa.wr W102 E1)).keep q104_0)), Fw105, (Nat.le_trans (Nat.le_trans (Nat.le_of_eq W102.size.symm) (Nat.le_of_eq W103.size.symm)) q104_1), (Nat.le_trans (Nat.le_trans (Nat.le_of_eq W102.size.symm) (Nat.le_of_eq W103.size.symm)) q104_2), (Exa.wr W105 q104_3), (Fld.other W105 q104_4 (Or.inl (Ne.symm (Nat.ne_of_lt (Nat.lt_of_lt_of_le E1.lt (Nat.le_trans (Nat.le_trans (Nat.le_of_eq W102.size.symm) (Nat.le_of_eq W103.size.symm)) q104_1)))))), (q104_5.other W105 (Ne.symm (Nat.ne_of_lt (Nat.lt_of_lt_of_le E1.lt (Nat.le_trans (Nat.le_trans (Nat.le_of_eq W102.size.symm) (Nat.le_of_eq W103.size.symm)) q104_2)))))⟩

theorem ef_siz4 (m : MethodId) (x0 : Addr) : entryFrame m #[(.ref x0)] 1 = mkF m 0 #[.val (.ref x0)] [] := by first | (simp [entryFrame, mkF, argsToLocals, Value.category]; done) | rfl
def Q_siz4 (Z : State) (a1 : Addr) (b1 : Addr) (k1 : ClassId) (x0 : Addr) (x1 : Addr) (x2 : Addr) (x3 : Addr) (h0 : Heap) (n0 : Nat) (v : Option Value) (h : Heap) (L : List Loc) : Prop := v = some (.int (4 : Int32)) ∧ Fr n0 L ∧ h = h0
set_option maxRecDepth 65536 in
set_option maxHeartbeats 40000000 in
theorem siz4 (l : Launch) (Z : State) (a0 : Array Value) (hw : ∀ d ∈ tables_1, d.before a0 Z = true) (ws : List Jvm.Cond) (a1 : Addr) (b1 : Addr) (k1 : ClassId) (x0 : Addr) (x1 : Addr) (x2 : Addr) (x3 : Addr) (h0 : Heap) (n0 : Nat) (Z0 : n0 ≤ h0.size) (Fn : Fld Z h0 a1 "java/util/ImmutableCollections$ListN" "elements" "[Ljava/lang/Object;" (.ref b1)) (V1 : Arv Z h0 b1 k1 (.object "java/lang/Object") (4 : Int32) [(.ref x0), (.ref x1), (.ref x2), (.ref x3)] .null) :
    MetFree l mth30 (head1 (Jvm.Cond.code mth30 jdk_45_method_3_code 1 (some .int) :: ws) rom0) (fun a U => a = #[(.ref a1)] ∧ Z.Warmed39 U.vm ∧ U.heap = h0) (fun _ _ _ _ _ => True) (fun _ U o U' => ∃ v L, o = .returned v ∧ Q_siz4 Z a1 b1 k1 x0 x1 x2 x3 h0 n0 v U'.heap L ∧ FrameEnd U o U' L rom0.cells rom0.slots) := by
  refine MetFree.of_bodySF (plainFor_of_name pnm9) hisR ?_
  intro p e s m args below meth c s₁ Bd hml0 hP hK
  obtain ⟨rfl, hZ, hh⟩ := hP
  have hx := Bd.exec
  have hby := Bd.bytes
  have hml : c.maxLocals = 1 := hml0
  have hown : s.vm.findClass "java/util/ImmutableCollections$ListN" = some m.cls := findClass_of_methodNamed Bd.named
  have hnm := (name_of_methodNamed Bd.named Bd.method).1
  have X0 : Stand p l e rom0 s m #[(.ref a1)] below meth c s₁ [] 0 0 := Stand.of_body Bd
  have eh0 : s₁.heap = h0 := by rw [← hh, Bd.state]; rfl
  have N0 := Fr.nil n0
  have tw166 := hw _ (List.mem_of_getElem? (i := 166) rfl)
  show Goes p e below (Pq (Q_siz4 Z a1 b1 k1 x0 x1 x2 x3 h0 n0) s rom0.cells rom0.slots) (s₁.setTop (entryFrame m #[(.ref a1)] 1))
  refine Goes.step (S' := s₁.setTop (mkF m 0 #[.val (.ref a1)] [])) (fun t k => castTop (ef_siz4 m a1) k) ?_
  refine Goes.step (S' := s₁.setTop (mkF m 1 #[.val (.ref a1)] [(.ref a1)])) (fun t k => XS.aloadN X0.here hx rfl (hb hby dk279) rfl rfl k) ?_
  obtain ⟨T101, X101, e101, st101⟩ := getF X0 hx hZ hown (host := "") (Or.inl tw166) Via.refl eh0 Fn (g := (mkF m 1 #[.val (.ref a1)] [(.ref a1)])) rfl rfl (hb hby dk280)
  refine Goes.step (S' := T101.setTop (mkF m 4 #[.val (.ref a1)] [(.ref b1)])) (fun t k => st101 _ k) ?_
  obtain ⟨cl102, Ar102, qk102, Sz102, Nn102, Hs102, Gs102⟩ := id V1
  refine Goes.step (S' := T101.setTop (mkF m 5 #[.val (.ref a1)] [(.int (4 : Int32))])) (fun t k => X101.arraylength hx (by rw [e101]; exact Ar102.1) (State.isArrayOf_alike hZ.alike Ar102.2.1) (g := (mkF m 4 #[.val (.ref a1)] [(.ref b1)])) rfl rfl (hb hby dk281) _ (by rw [len_of Sz102 Nn102]; exact k)) ?_
  refine Goes.leave (g := (mkF m 5 #[.val (.ref a1)] [(.int (4 : Int32))])) X101 Bd.notSynchronized (v := (some (.int (4 : Int32)))) (fun h => by rw [Bd.returns] at h; cases h) (fun fs hr => retI X101 hx Bd.returns (hb hby dk282) hr) e101 ?_ (by decide) (by decide)
  exact ⟨rfl, N0, rfl⟩

theorem ef_get4_0 (m : MethodId) (x0 : Addr) (x1 : Int32) : entryFrame m #[(.ref x0), (.int x1)] 2 = mkF m 0 #[.val (.ref x0), .val (.int x1)] [] := by first | (simp [entryFrame, mkF, argsToLocals, Value.category]; done) | rfl
def Q_get4_0 (Z : State) (a1 : Addr) (b1 : Addr) (k1 : ClassId) (x0 : Addr) (x1 : Addr) (x2 : Addr) (x3 : Addr) (h0 : Heap) (n0 : Nat) (v : Option Value) (h : Heap) (L : List Loc) : Prop := v = some (.ref x0) ∧ Fr n0 L ∧ h = h0
set_option maxRecDepth 65536 in
set_option maxHeartbeats 40000000 in
theorem get4_0 (l : Launch) (Z : State) (a0 : Array Value) (hw : ∀ d ∈ tables_1, d.before a0 Z = true) (ws : List Jvm.Cond) (a1 : Addr) (b1 : Addr) (k1 : ClassId) (x0 : Addr) (x1 : Addr) (x2 : Addr) (x3 : Addr) (h0 : Heap) (n0 : Nat) (Z0 : n0 ≤ h0.size) (Fn : Fld Z h0 a1 "java/util/ImmutableCollections$ListN" "elements" "[Ljava/lang/Object;" (.ref b1)) (V1 : Arv Z h0 b1 k1 (.object "java/lang/Object") (4 : Int32) [(.ref x0), (.ref x1), (.ref x2), (.ref x3)] .null) :
    MetFree l mth31 (head1 (Jvm.Cond.code mth31 jdk_45_method_4_code 2 (some (.object "java/lang/Object")) :: ws) rom0) (fun a U => a = #[(.ref a1), (.int (0 : Int32))] ∧ Z.Warmed39 U.vm ∧ U.heap = h0) (fun _ _ _ _ _ => True) (fun _ U o U' => ∃ v L, o = .returned v ∧ Q_get4_0 Z a1 b1 k1 x0 x1 x2 x3 h0 n0 v U'.heap L ∧ FrameEnd U o U' L rom0.cells rom0.slots) := by
  refine MetFree.of_bodySF (plainFor_of_name pnm9) hisR ?_
  intro p e s m args below meth c s₁ Bd hml0 hP hK
  obtain ⟨rfl, hZ, hh⟩ := hP
  have hx := Bd.exec
  have hby := Bd.bytes
  have hml : c.maxLocals = 2 := hml0
  have hown : s.vm.findClass "java/util/ImmutableCollections$ListN" = some m.cls := findClass_of_methodNamed Bd.named
  have hnm := (name_of_methodNamed Bd.named Bd.method).1
  have X0 : Stand p l e rom0 s m #[(.ref a1), (.int (0 : Int32))] below meth c s₁ [] 0 0 := Stand.of_body Bd
  have eh0 : s₁.heap = h0 := by rw [← hh, Bd.state]; rfl
  have N0 := Fr.nil n0
  have tw166 := hw _ (List.mem_of_getElem? (i := 166) rfl)
  show Goes p e below (Pq (Q_get4_0 Z a1 b1 k1 x0 x1 x2 x3 h0 n0) s rom0.cells rom0.slots) (s₁.setTop (entryFrame m #[(.ref a1), (.int (0 : Int32))] 2))
  refine Goes.step (S' := s₁.setTop (mkF m 0 #[.val (.ref a1), .val (.int (0 : Int32))] [])) (fun t k => castTop (ef_get4_0 m a1 (0 : Int32)) k) ?_
  refine Goes.step (S' := s₁.setTop (mkF m 1 #[.val (.ref a1), .val (.int (0 : Int32))] [(.ref a1)])) (fun t k => XS.aloadN X0.here hx rfl (hb hby dk283) rfl rfl k) ?_
  obtain ⟨T101, X101, e101, st101⟩ := getF X0 hx hZ hown (host := "") (Or.inl tw166) Via.refl eh0 Fn (g := (mkF m 1 #[.val (.ref a1), .val (.int (0 : Int32))] [(.ref a1)])) rfl rfl (hb hby dk284)
  refine Goes.step (S' := T101.setTop (mkF m 5 #[.val (.ref a1), .val (.int (0 : Int32))] [(.int (0 : Int32)), (.ref b1)])) (fun t k => st101 _ (XS.iloadN X101.here hx rfl (hb hby dk285) rfl k)) ?_
  obtain ⟨cl102, Ar102, qk102, Sz102, Nn102, Hs102, Gs102⟩ := id V1
  have hin102 := (inb_of (j := (0 : Int32)) Sz102 ⟨by decide, by decide⟩)
  refine Goes.step (S' := T101.setTop (mkF m 6 #[.val (.ref a1), .val (.int (0 : Int32))] [(.ref x0)])) (fun t k => X101.aaload hx (j := (0 : Int32)) (v := (.ref x0)) (by rw [e101]; exact Ar102.1) (State.isArrayOf_alike hZ.alike Ar102.2.1) rfl Ar102.2.2 hin102 (Has.at Hs102 hin102 rfl) (g := (mkF m 5 #[.val (.ref a1), .val (.int (0 : Int32))] [(.int (0 : Int32)), (.ref b1)])) rfl rfl (hb hby dk286) _ k) ?_
  refine Goes.leave (g := (mkF m 6 #[.val (.ref a1), .val (.int (0 : Int32))] [(.ref x0)])) X101 Bd.notSynchronized (v := (some (.ref x0))) (fun h => by rw [Bd.returns] at h; cases h) (fun fs hr => by jvm_step X101.here [X101.here.top, hx, (hb hby dk287), X101.method', Bd.returns, Value.isRef, FieldType.isReference]; (first | (intro acts; rw [hr _ acts rfl rfl rfl]) | rw [hr _ _ rfl rfl rfl]); exact Steps.refl _) e101 ?_ (by decide) (by decide)
  exact ⟨rfl, N0, rfl⟩

theorem ef_get4_1 (m : MethodId) (x0 : Addr) (x1 : Int32) : entryFrame m #[(.ref x0), (.int x1)] 2 = mkF m 0 #[.val (.ref x0), .val (.int x1)] [] := by first | (simp [entryFrame, mkF, argsToLocals, Value.category]; done) | rfl
def Q_get4_1 (Z : State) (a1 : Addr) (b1 : Addr) (k1 : ClassId) (x0 : Addr) (x1 : Addr) (x2 : Addr) (x3 : Addr) (h0 : Heap) (n0 : Nat) (v : Option Value) (h : Heap) (L : List Loc) : Prop := v = some (.ref x1) ∧ Fr n0 L ∧ h = h0
set_option maxRecDepth 65536 in
set_option maxHeartbeats 40000000 in
theorem get4_1 (l : Launch) (Z : State) (a0 : Array Value) (hw : ∀ d ∈ tables_1, d.before a0 Z = true) (ws : List Jvm.Cond) (a1 : Addr) (b1 : Addr) (k1 : ClassId) (x0 : Addr) (x1 : Addr) (x2 : Addr) (x3 : Addr) (h0 : Heap) (n0 : Nat) (Z0 : n0 ≤ h0.size) (Fn : Fld Z h0 a1 "java/util/ImmutableCollections$ListN" "elements" "[Ljava/lang/Object;" (.ref b1)) (V1 : Arv Z h0 b1 k1 (.object "java/lang/Object") (4 : Int32) [(.ref x0), (.ref x1), (.ref x2), (.ref x3)] .null) :
    MetFree l mth31 (head1 (Jvm.Cond.code mth31 jdk_45_method_4_code 2 (some (.object "java/lang/Object")) :: ws) rom0) (fun a U => a = #[(.ref a1), (.int (1 : Int32))] ∧ Z.Warmed39 U.vm ∧ U.heap = h0) (fun _ _ _ _ _ => True) (fun _ U o U' => ∃ v L, o = .returned v ∧ Q_get4_1 Z a1 b1 k1 x0 x1 x2 x3 h0 n0 v U'.heap L ∧ FrameEnd U o U' L rom0.cells rom0.slots) := by
  refine MetFree.of_bodySF (plainFor_of_name pnm9) hisR ?_
  intro p e s m args below meth c s₁ Bd hml0 hP hK
  obtain ⟨rfl, hZ, hh⟩ := hP
  have hx := Bd.exec
  have hby := Bd.bytes
  have hml : c.maxLocals = 2 := hml0
  have hown : s.vm.findClass "java/util/ImmutableCollections$ListN" = some m.cls := findClass_of_methodNamed Bd.named
  have hnm := (name_of_methodNamed Bd.named Bd.method).1
  have X0 : Stand p l e rom0 s m #[(.ref a1), (.int (1 : Int32))] below meth c s₁ [] 0 0 := Stand.of_body Bd
  have eh0 : s₁.heap = h0 := by rw [← hh, Bd.state]; rfl
  have N0 := Fr.nil n0
  have tw166 := hw _ (List.mem_of_getElem? (i := 166) rfl)
  show Goes p e below (Pq (Q_get4_1 Z a1 b1 k1 x0 x1 x2 x3 h0 n0) s rom0.cells rom0.slots) (s₁.setTop (entryFrame m #[(.ref a1), (.int (1 : Int32))] 2))
  refine Goes.step (S' := s₁.setTop (mkF m 0 #[.val (.ref a1), .val (.int (1 : Int32))] [])) (fun t k => castTop (ef_get4_1 m a1 (1 : Int32)) k) ?_
  refine Goes.step (S' := s₁.setTop (mkF m 1 #[.val (.ref a1), .val (.int (1 : Int32))] [(.ref a1)])) (fun t k => XS.aloadN X0.here hx rfl (hb hby dk283) rfl rfl k) ?_
  obtain ⟨T101, X101, e101, st101⟩ := getF X0 hx hZ hown (host := "") (Or.inl tw166) Via.refl eh0 Fn (g := (mkF m 1 #[.val (.ref a1), .val (.int (1 : Int32))] [(.ref a1)])) rfl rfl (hb hby dk284)
  refine Goes.step (S' := T101.setTop (mkF m 5 #[.val (.ref a1), .val (.int (1 : Int32))] [(.int (1 : Int32)), (.ref b1)])) (fun t k => st101 _ (XS.iloadN X101.here hx rfl (hb hby dk285) rfl k)) ?_
  obtain ⟨cl102, Ar102, qk102, Sz102, Nn102, Hs102, Gs102⟩ := id V1
  have hin102 := (inb_of (j := (1 : Int32)) Sz102 ⟨by decide, by decide⟩)
  refine Goes.step (S' := T101.setTop (mkF m 6 #[.val (.ref a1), .val (.int (1 : Int32))] [(.ref x1)])) (fun t k => X101.aaload hx (j := (1 : Int32)) (v := (.ref x1)) (by rw [e101]; exact Ar102.1) (State.isArrayOf_alike hZ.alike Ar102.2.1) rfl Ar102.2.2 hin102 (Has.at Hs102 hin102 rfl) (g := (mkF m 5 #[.val (.ref a1), .val (.int (1 : Int32))] [(.int (1 : Int32)), (.ref b1)])) rfl rfl (hb hby dk286) _ k) ?_
  refine Goes.leave (g := (mkF m 6 #[.val (.ref a1), .val (.int (1 : Int32))] [(.ref x1)])) X101 Bd.notSynchronized (v := (some (.ref x1))) (fun h => by rw [Bd.returns] at h; cases h) (fun fs hr => by jvm_step X101.here [X101.here.top, hx, (hb hby dk287), X101.method', Bd.returns, Value.isRef, FieldType.isReference]; (first | (intro acts; rw [hr _ acts rfl rfl rfl]) | rw [hr _ _ rfl rfl rfl]); exact Steps.refl _) e101 ?_ (by decide) (by decide)
  exact ⟨rfl, N0, rfl⟩

theorem ef_get4_2 (m : MethodId) (x0 : Addr) (x1 : Int32) : entryFrame m #[(.ref x0), (.int x1)] 2 = mkF m 0 #[.val (.ref x0), .val (.int x1)] [] := by first | (simp [entryFrame, mkF, argsToLocals, Value.category]; done) | rfl
def Q_get4_2 (Z : State) (a1 : Addr) (b1 : Addr) (k1 : ClassId) (x0 : Addr) (x1 : Addr) (x2 : Addr) (x3 : Addr) (h0 : Heap) (n0 : Nat) (v : Option Value) (h : Heap) (L : List Loc) : Prop := v = some (.ref x2) ∧ Fr n0 L ∧ h = h0
set_option maxRecDepth 65536 in
set_option maxHeartbeats 40000000 in
theorem get4_2 (l : Launch) (Z : State) (a0 : Array Value) (hw : ∀ d ∈ tables_1, d.before a0 Z = true) (ws : List Jvm.Cond) (a1 : Addr) (b1 : Addr) (k1 : ClassId) (x0 : Addr) (x1 : Addr) (x2 : Addr) (x3 : Addr) (h0 : Heap) (n0 : Nat) (Z0 : n0 ≤ h0.size) (Fn : Fld Z h0 a1 "java/util/ImmutableCollections$ListN" "elements" "[Ljava/lang/Object;" (.ref b1)) (V1 : Arv Z h0 b1 k1 (.object "java/lang/Object") (4 : Int32) [(.ref x0), (.ref x1), (.ref x2), (.ref x3)] .null) :
    MetFree l mth31 (head1 (Jvm.Cond.code mth31 jdk_45_method_4_code 2 (some (.object "java/lang/Object")) :: ws) rom0) (fun a U => a = #[(.ref a1), (.int (2 : Int32))] ∧ Z.Warmed39 U.vm ∧ U.heap = h0) (fun _ _ _ _ _ => True) (fun _ U o U' => ∃ v L, o = .returned v ∧ Q_get4_2 Z a1 b1 k1 x0 x1 x2 x3 h0 n0 v U'.heap L ∧ FrameEnd U o U' L rom0.cells rom0.slots) := by
  refine MetFree.of_bodySF (plainFor_of_name pnm9) hisR ?_
  intro p e s m args below meth c s₁ Bd hml0 hP hK
  obtain ⟨rfl, hZ, hh⟩ := hP
  have hx := Bd.exec
  have hby := Bd.bytes
  have hml : c.maxLocals = 2 := hml0
  have hown : s.vm.findClass "java/util/ImmutableCollections$ListN" = some m.cls := findClass_of_methodNamed Bd.named
  have hnm := (name_of_methodNamed Bd.named Bd.method).1
  have X0 : Stand p l e rom0 s m #[(.ref a1), (.int (2 : Int32))] below meth c s₁ [] 0 0 := Stand.of_body Bd
  have eh0 : s₁.heap = h0 := by rw [← hh, Bd.state]; rfl
  have N0 := Fr.nil n0
  have tw166 := hw _ (List.mem_of_getElem? (i := 166) rfl)
  show Goes p e below (Pq (Q_get4_2 Z a1 b1 k1 x0 x1 x2 x3 h0 n0) s rom0.cells rom0.slots) (s₁.setTop (entryFrame m #[(.ref a1), (.int (2 : Int32))] 2))
  refine Goes.step (S' := s₁.setTop (mkF m 0 #[.val (.ref a1), .val (.int (2 : Int32))] [])) (fun t k => castTop (ef_get4_2 m a1 (2 : Int32)) k) ?_
  refine Goes.step (S' := s₁.setTop (mkF m 1 #[.val (.ref a1), .val (.int (2 : Int32))] [(.ref a1)])) (fun t k => XS.aloadN X0.here hx rfl (hb hby dk283) rfl rfl k) ?_
  obtain ⟨T101, X101, e101, st101⟩ := getF X0 hx hZ hown (host := "") (Or.inl tw166) Via.refl eh0 Fn (g := (mkF m 1 #[.val (.ref a1), .val (.int (2 : Int32))] [(.ref a1)])) rfl rfl (hb hby dk284)
  refine Goes.step (S' := T101.setTop (mkF m 5 #[.val (.ref a1), .val (.int (2 : Int32))] [(.int (2 : Int32)), (.ref b1)])) (fun t k => st101 _ (XS.iloadN X101.here hx rfl (hb hby dk285) rfl k)) ?_
  obtain ⟨cl102, Ar102, qk102, Sz102, Nn102, Hs102, Gs102⟩ := id V1
  have hin102 := (inb_of (j := (2 : Int32)) Sz102 ⟨by decide, by decide⟩)
  refine Goes.step (S' := T101.setTop (mkF m 6 #[.val (.ref a1), .val (.int (2 : Int32))] [(.ref x2)])) (fun t k => X101.aaload hx (j := (2 : Int32)) (v := (.ref x2)) (by rw [e101]; exact Ar102.1) (State.isArrayOf_alike hZ.alike Ar102.2.1) rfl Ar102.2.2 hin102 (Has.at Hs102 hin102 rfl) (g := (mkF m 5 #[.val (.ref a1), .val (.int (2 : Int32))] [(.int (2 : Int32)), (.ref b1)])) rfl rfl (hb hby dk286) _ k) ?_
  refine Goes.leave (g := (mkF m 6 #[.val (.ref a1), .val (.int (2 : Int32))] [(.ref x2)])) X101 Bd.notSynchronized (v := (some (.ref x2))) (fun h => by rw [Bd.returns] at h; cases h) (fun fs hr => by jvm_step X101.here [X101.here.top, hx, (hb hby dk287), X101.method', Bd.returns, Value.isRef, FieldType.isReference]; (first | (intro acts; rw [hr _ acts rfl rfl rfl]) | rw [hr _ _ rfl rfl rfl]); exact Steps.refl _) e101 ?_ (by decide) (by decide)
  exact ⟨rfl, N0, rfl⟩

theorem ef_get4_3 (m : MethodId) (x0 : Addr) (x1 : Int32) : entryFrame m #[(.ref x0), (.int x1)] 2 = mkF m 0 #[.val (.ref x0), .val (.int x1)] [] := by first | (simp [entryFrame, mkF, argsToLocals, Value.category]; done) | rfl
def Q_get4_3 (Z : State) (a1 : Addr) (b1 : Addr) (k1 : ClassId) (x0 : Addr) (x1 : Addr) (x2 : Addr) (x3 : Addr) (h0 : Heap) (n0 : Nat) (v : Option Value) (h : Heap) (L : List Loc) : Prop := v = some (.ref x3) ∧ Fr n0 L ∧ h = h0
set_option maxRecDepth 65536 in
set_option maxHeartbeats 40000000 in
theorem get4_3 (l : Launch) (Z : State) (a0 : Array Value) (hw : ∀ d ∈ tables_1, d.before a0 Z = true) (ws : List Jvm.Cond) (a1 : Addr) (b1 : Addr) (k1 : ClassId) (x0 : Addr) (x1 : Addr) (x2 : Addr) (x3 : Addr) (h0 : Heap) (n0 : Nat) (Z0 : n0 ≤ h0.size) (Fn : Fld Z h0 a1 "java/util/ImmutableCollections$ListN" "elements" "[Ljava/lang/Object;" (.ref b1)) (V1 : Arv Z h0 b1 k1 (.object "java/lang/Object") (4 : Int32) [(.ref x0), (.ref x1), (.ref x2), (.ref x3)] .null) :
    MetFree l mth31 (head1 (Jvm.Cond.code mth31 jdk_45_method_4_code 2 (some (.object "java/lang/Object")) :: ws) rom0) (fun a U => a = #[(.ref a1), (.int (3 : Int32))] ∧ Z.Warmed39 U.vm ∧ U.heap = h0) (fun _ _ _ _ _ => True) (fun _ U o U' => ∃ v L, o = .returned v ∧ Q_get4_3 Z a1 b1 k1 x0 x1 x2 x3 h0 n0 v U'.heap L ∧ FrameEnd U o U' L rom0.cells rom0.slots) := by
  refine MetFree.of_bodySF (plainFor_of_name pnm9) hisR ?_
  intro p e s m args below meth c s₁ Bd hml0 hP hK
  obtain ⟨rfl, hZ, hh⟩ := hP
  have hx := Bd.exec
  have hby := Bd.bytes
  have hml : c.maxLocals = 2 := hml0
  have hown : s.vm.findClass "java/util/ImmutableCollections$ListN" = some m.cls := findClass_of_methodNamed Bd.named
  have hnm := (name_of_methodNamed Bd.named Bd.method).1
  have X0 : Stand p l e rom0 s m #[(.ref a1), (.int (3 : Int32))] below meth c s₁ [] 0 0 := Stand.of_body Bd
  have eh0 : s₁.heap = h0 := by rw [← hh, Bd.state]; rfl
  have N0 := Fr.nil n0
  have tw166 := hw _ (List.mem_of_getElem? (i := 166) rfl)
  show Goes p e below (Pq (Q_get4_3 Z a1 b1 k1 x0 x1 x2 x3 h0 n0) s rom0.cells rom0.slots) (s₁.setTop (entryFrame m #[(.ref a1), (.int (3 : Int32))] 2))
  refine Goes.step (S' := s₁.setTop (mkF m 0 #[.val (.ref a1), .val (.int (3 : Int32))] [])) (fun t k => castTop (ef_get4_3 m a1 (3 : Int32)) k) ?_
  refine Goes.step (S' := s₁.setTop (mkF m 1 #[.val (.ref a1), .val (.int (3 : Int32))] [(.ref a1)])) (fun t k => XS.aloadN X0.here hx rfl (hb hby dk283) rfl rfl k) ?_
  obtain ⟨T101, X101, e101, st101⟩ := getF X0 hx hZ hown (host := "") (Or.inl tw166) Via.refl eh0 Fn (g := (mkF m 1 #[.val (.ref a1), .val (.int (3 : Int32))] [(.ref a1)])) rfl rfl (hb hby dk284)
  refine Goes.step (S' := T101.setTop (mkF m 5 #[.val (.ref a1), .val (.int (3 : Int32))] [(.int (3 : Int32)), (.ref b1)])) (fun t k => st101 _ (XS.iloadN X101.here hx rfl (hb hby dk285) rfl k)) ?_
  obtain ⟨cl102, Ar102, qk102, Sz102, Nn102, Hs102, Gs102⟩ := id V1
  have hin102 := (inb_of (j := (3 : Int32)) Sz102 ⟨by decide, by decide⟩)
  refine Goes.step (S' := T101.setTop (mkF m 6 #[.val (.ref a1), .val (.int (3 : Int32))] [(.ref x3)])) (fun t k => X101.aaload hx (j := (3 : Int32)) (v := (.ref x3)) (by rw [e101]; exact Ar102.1) (State.isArrayOf_alike hZ.alike Ar102.2.1) rfl Ar102.2.2 hin102 (Has.at Hs102 hin102 rfl) (g := (mkF m 5 #[.val (.ref a1), .val (.int (3 : Int32))] [(.int (3 : Int32)), (.ref b1)])) rfl rfl (hb hby dk286) _ k) ?_
  refine Goes.leave (g := (mkF m 6 #[.val (.ref a1), .val (.int (3 : Int32))] [(.ref x3)])) X101 Bd.notSynchronized (v := (some (.ref x3))) (fun h => by rw [Bd.returns] at h; cases h) (fun fs hr => by jvm_step X101.here [X101.here.top, hx, (hb hby dk287), X101.method', Bd.returns, Value.isRef, FieldType.isReference]; (first | (intro acts; rw [hr _ acts rfl rfl rfl]) | rw [hr _ _ rfl rfl rfl]); exact Steps.refl _) e101 ?_ (by decide) (by decide)
  exact ⟨rfl, N0, rfl⟩

theorem ef_ival (m : MethodId) (x0 : Addr) : entryFrame m #[(.ref x0)] 1 = mkF m 0 #[.val (.ref x0)] [] := by first | (simp [entryFrame, mkF, argsToLocals, Value.category]; done) | rfl
def Q_ival (Z : State) (a1 : Addr) (p1 : Int32) (h0 : Heap) (n0 : Nat) (v : Option Value) (h : Heap) (L : List Loc) : Prop := v = some (.int p1) ∧ Fr n0 L ∧ h = h0
set_option maxRecDepth 65536 in
set_option maxHeartbeats 40000000 in
theorem ival (l : Launch) (Z : State) (a0 : Array Value) (hw : ∀ d ∈ tables_1, d.before a0 Z = true) (ws : List Jvm.Cond) (a1 : Addr) (p1 : Int32) (h0 : Heap) (n0 : Nat) (Z0 : n0 ≤ h0.size) (F1 : Fld Z h0 a1 "java/lang/Integer" "value" "I" (.int p1)) :
    MetFree l mth32 (head1 (Jvm.Cond.code mth32 jdk_33_method_27_code 1 (some .int) :: ws) rom0) (fun a U => a = #[(.ref a1)] ∧ Z.Warmed39 U.vm ∧ U.heap = h0) (fun _ _ _ _ _ => True) (fun _ U o U' => ∃ v L, o = .returned v ∧ Q_ival Z a1 p1 h0 n0 v U'.heap L ∧ FrameEnd U o U' L rom0.cells rom0.slots) := by
  refine MetFree.of_bodySF (plainFor_of_name pnm1) hisR ?_
  intro p e s m args below meth c s₁ Bd hml0 hP hK
  obtain ⟨rfl, hZ, hh⟩ := hP
  have hx := Bd.exec
  have hby := Bd.bytes
  have hml : c.maxLocals = 1 := hml0
  have hown : s.vm.findClass "java/lang/Integer" = some m.cls := findClass_of_methodNamed Bd.named
  have hnm := (name_of_methodNamed Bd.named Bd.method).1
  have X0 : Stand p l e rom0 s m #[(.ref a1)] below meth c s₁ [] 0 0 := Stand.of_body Bd
  have eh0 : s₁.heap = h0 := by rw [← hh, Bd.state]; rfl
  have N0 := Fr.nil n0
  have tw202 := hw _ (List.mem_of_getElem? (i := 202) rfl)
  show Goes p e below (Pq (Q_ival Z a1 p1 h0 n0) s rom0.cells rom0.slots) (s₁.setTop (entryFrame m #[(.ref a1)] 1))
  refine Goes.step (S' := s₁.setTop (mkF m 0 #[.val (.ref a1)] [])) (fun t k => castTop (ef_ival m a1) k) ?_
  refine Goes.step (S' := s₁.setTop (mkF m 1 #[.val (.ref a1)] [(.ref a1)])) (fun t k => XS.aloadN X0.here hx rfl (hb hby dk288) rfl rfl k) ?_
  obtain ⟨T101, X101, e101, st101⟩ := getF X0 hx hZ hown (host := "") (Or.inl tw202) Via.refl eh0 F1 (g := (mkF m 1 #[.val (.ref a1)] [(.ref a1)])) rfl rfl (hb hby dk289)
  refine Goes.step (S' := T101.setTop (mkF m 4 #[.val (.ref a1)] [(.int p1)])) (fun t k => st101 _ k) ?_
  refine Goes.leave (g := (mkF m 4 #[.val (.ref a1)] [(.int p1)])) X101 Bd.notSynchronized (v := (some (.int p1))) (fun h => by rw [Bd.returns] at h; cases h) (fun fs hr => retI X101 hx Bd.returns (hb hby dk290) hr) e101 ?_ (by decide) (by decide)
  exact ⟨rfl, N0, rfl⟩

theorem ef_vp1_0 (m : MethodId) (x0 : Addr) (x1 : Int32) : entryFrame m #[(.ref x0), (.int x1)] 2 = mkF m 0 #[.val (.ref x0), .val (.int x1)] [] := by first | (simp [entryFrame, mkF, argsToLocals, Value.category]; done) | rfl
def Q_vp1_0 (Z : State) (a1 : Addr) (p1 : Int32) (r : Addr) (z1 : Int32) (x0 : Addr) (em : Addr) (h0 : Heap) (n0 : Nat) (v : Option Value) (h : Heap) (L : List Loc) : Prop := v = some (.int z1) ∧ Fr n0 L ∧ h = h0
set_option maxRecDepth 65536 in
set_option maxHeartbeats 40000000 in
theorem vp1_0 (l : Launch) (Z : State) (a0 : Array Value) (hw : ∀ d ∈ tables_1, d.before a0 Z = true) (ws : List Jvm.Cond) (a1 : Addr) (p1 : Int32) (r : Addr) (z1 : Int32) (x0 : Addr) (em : Addr) (h0 : Heap) (n0 : Nat) (Z0 : n0 ≤ h0.size) (E1 : Exa Z h0 a1 "com/example/planwright/planwright/model/VestingProvisions") (Fv : Fld Z h0 a1 "com/example/planwright/planwright/model/VestingProvisions" "vestedPercentByYears" "Ljava/util/List;" (.ref r)) (Er : Exa Z h0 r "java/util/ImmutableCollections$List12") (F0 : Fld Z h0 r "java/util/ImmutableCollections$List12" "e0" "Ljava/lang/Object;" (.ref x0)) (F1 : Fld Z h0 r "java/util/ImmutableCollections$List12" "e1" "Ljava/lang/Object;" (.ref em)) (SE : Sta Z h0 "java/util/ImmutableCollections" "EMPTY" "Ljava/lang/Object;" (.ref em)) (Ex : Exa Z h0 x0 "java/lang/Integer") (Fx : Fld Z h0 x0 "java/lang/Integer" "value" "I" (.int z1)) (H : ¬ (p1 < (0 : Int32))) :
    MetFree l mth35 (head1 (Jvm.Cond.code mth35 prog_32_method_4_code 2 (some .int) :: ws) rom41) (fun a U => a = #[(.ref a1), (.int p1)] ∧ Z.Warmed39 U.vm ∧ U.heap = h0) (fun _ _ _ _ _ => True) (fun _ U o U' => ∃ v L, o = .returned v ∧ Q_vp1_0 Z a1 p1 r z1 x0 em h0 n0 v U'.heap L ∧ FrameEnd U o U' L rom41.cells rom41.slots) := by
  refine MetFree.of_bodySF (plainFor_of_name pnm13) hisR ?_
  intro p e s m args below meth c s₁ Bd hml0 hP hK
  obtain ⟨rfl, hZ, hh⟩ := hP
  have hx := Bd.exec
  have hby := Bd.bytes
  have hml : c.maxLocals = 2 := hml0
  have hown : s.vm.findClass "com/example/planwright/planwright/model/VestingProvisions" = some m.cls := findClass_of_methodNamed Bd.named
  have hnm := (name_of_methodNamed Bd.named Bd.method).1
  have X0 : Stand p l e rom41 s m #[(.ref a1), (.int p1)] below meth c s₁ [] 0 0 := Stand.of_body Bd
  have eh0 : s₁.heap = h0 := by rw [← hh, Bd.state]; rfl
  have N0 := Fr.nil n0
  have tw6 := hw _ (List.mem_of_getElem? (i := 6) rfl)
  have tw7 := hw _ (List.mem_of_getElem? (i := 7) rfl)
  have tw8 := hw _ (List.mem_of_getElem? (i := 8) rfl)
  have tw40 := hw _ (List.mem_of_getElem? (i := 40) rfl)
  have tw170 := hw _ (List.mem_of_getElem? (i := 170) rfl)
  have tw177 := hw _ (List.mem_of_getElem? (i := 177) rfl)
  have tw178 := hw _ (List.mem_of_getElem? (i := 178) rfl)
  have tw179 := hw _ (List.mem_of_getElem? (i := 179) rfl)
  have tw186 := hw _ (List.mem_of_getElem? (i := 186) rfl)
  have tw187 := hw _ (List.mem_of_getElem? (i := 187) rfl)
  have tw188 := hw _ (List.mem_of_getElem? (i := 188) rfl)
  have tw189 := hw _ (List.mem_of_getElem? (i := 189) rfl)
  have tw195 := hw _ (List.mem_of_getElem? (i := 195) rfl)
  have tw197 := hw _ (List.mem_of_getElem? (i := 197) rfl)
  have tw198 := hw _ (List.mem_of_getElem? (i := 198) rfl)
  have tw199 := hw _ (List.mem_of_getElem? (i := 199) rfl)
  have tw200 := hw _ (List.mem_of_getElem? (i := 200) rfl)
  have tw201 := hw _ (List.mem_of_getElem? (i := 201) rfl)
  have tw206 := hw _ (List.mem_of_getElem? (i := 206) rfl)
  have tw221 := hw _ (List.mem_of_getElem? (i := 221) rfl)
  have tw222 := hw _ (List.mem_of_getElem? (i := 222) rfl)
  have tw223 := hw _ (List.mem_of_getElem? (i := 223) rfl)
  have tw224 := hw _ (List.mem_of_getElem? (i := 224) rfl)
  have tw225 := hw _ (List.mem_of_getElem? (i := 225) rfl)
  have tw226 := hw _ (List.mem_of_getElem? (i := 226) rfl)
  have tw227 := hw _ (List.mem_of_getElem? (i := 227) rfl)
  have tw228 := hw _ (List.mem_of_getElem? (i := 228) rfl)
  have tw229 := hw _ (List.mem_of_getElem? (i := 229) rfl)
  have tw230 := hw _ (List.mem_of_getElem? (i := 230) rfl)
  have tw231 := hw _ (List.mem_of_getElem? (i := 231) rfl)
  show Goes p e below (Pq (Q_vp1_0 Z a1 p1 r z1 x0 em h0 n0) s rom41.cells rom41.slots) (s₁.setTop (entryFrame m #[(.ref a1), (.int p1)] 2))
  refine Goes.step (S' := s₁.setTop (mkF m 0 #[.val (.ref a1), .val (.int p1)] [])) (fun t k => castTop (ef_vp1_0 m a1 p1) k) ?_
  refine Goes.step (S' := s₁.setTop (mkF m 19 #[.val (.ref a1), .val (.int p1)] [(.ref a1)])) (fun t k => XS.iloadN X0.here hx rfl (hb hby dk291) rfl (XS.ifYes X0.here hx rfl (pc0 := 1) (pc' := 18) rfl (hb hby dk292) rfl ((if0 _ _).trans (flt (H : ¬ (p1 < (0 : Int32)))).2.1) (by decide) (by decide) (XS.aloadN X0.here hx rfl (hb hby dk293) rfl rfl k))) ?_
  obtain ⟨T101, X101, e101, st101⟩ := getF X0 hx hZ hown (host := "") (Or.inl tw170) Via.refl eh0 Fv (g := (mkF m 19 #[.val (.ref a1), .val (.int p1)] [(.ref a1)])) rfl rfl (hb hby dk294)
  refine Goes.step (S' := T101.setTop (mkF m 24 #[.val (.ref a1), .val (.int p1)] [(.ref a1), (.int p1), (.ref r)])) (fun t k => st101 _ (XS.iloadN X101.here hx rfl (hb hby dk295) rfl (XS.aloadN X101.here hx rfl (hb hby dk296) rfl rfl k))) ?_
  obtain ⟨T102, X102, e102, st102⟩ := getF X101 hx hZ hown (host := "") (Or.inl tw170) Via.refl e101 Fv (g := (mkF m 24 #[.val (.ref a1), .val (.int p1)] [(.ref a1), (.int p1), (.ref r)])) rfl rfl (hb hby dk297)
  refine Goes.step (S' := T102.setTop (mkF m 27 #[.val (.ref a1), .val (.int p1)] [(.ref r), (.int p1), (.ref r)])) (fun t k => st102 _ k) ?_
  obtain ⟨cq103, kq103, q103a, q103b, q103c⟩ := isOf hZ e102 Er
  obtain ⟨_, _, ⟨T103, L103, k103, n103⟩, -, X103, ⟨Lc103, hQ103, l103, y103, z103⟩, st103⟩ := X102.interfaceBack hx (xi := mth33) (y := mth27) hown (mvT hZ tw177) (mvT hZ tw178) (mvT hZ tw179) (mvT hZ tw221) (mvT hZ tw222) (mvT hZ tw223) (mvT hZ tw224) (mvT hZ tw225) (by decide) (backOf (W := 2) (siz1 l Z a0 hw [] r em h0 n0 Z0 F1 SE) hZ tw226 tw206 (by decide) (by decide)) q103a q103b q103c (g := (mkF m 27 #[.val (.ref a1), .val (.int p1)] [(.ref r), (.int p1), (.ref r)])) rfl (by rw [hml]; rfl) (Steps.refl _) (argsL := []) (rest := [(.int p1), (.ref r)]) (lenOf pd_I rfl) rfl (Nat.le_of_eq rfl) (hb hby dk298) (fun _ _ => ⟨rfl, e102, (by decide : 0 + 0 ≤ _), (by decide : 0 + 0 ≤ _)⟩)
  dsimp only [Pt.U, Pt.locs, Pt.cells, Pt.slots] at X103 l103 y103 z103 st103 hQ103
  subst y103 z103
  obtain ⟨rfl, Nq103, q103_0⟩ := hQ103
  have N103 : Fr n0 L103 := by rw [l103]; exact Fr.app N0 Nq103
  refine Goes.step (S' := T103.setTop (mkF m 34 #[.val (.ref a1), .val (.int p1)] [(.int ((1 : Int32) - (1 : Int32))), (.int p1), (.ref r)])) (fun t k => st103.trans (XS.iconst X103.here hx rfl (hb hby dk299) (XS.isub X103.here hx rfl (hb hby dk300) rfl k))) ?_
  rw [show ((1 : Int32) - (1 : Int32)) = (0 : Int32) from by decide]
  by_cases hc104 : (0 : Int32) < p1
  case pos =>
    obtain ⟨_, _, ⟨T105, L105, k105, n105⟩, -, X105, ⟨Lc105, hQ105, l105, y105, z105⟩, st105⟩ := Jvm.LawKit.callS X103 hx (y := mth1) hown (mvT hZ tw186) (mvT hZ tw6) (mvT hZ tw7) (mvT hZ tw8) (by decide) (backOf (W := 1) (mn1 l Z a0 hw [] p1 (0 : Int32) h0 n0 Z0 (hc104 : (0 : Int32) < p1)) hZ tw8 tw7 (by decide) (by decide)) (g := (mkF m 34 #[.val (.ref a1), .val (.int p1)] [(.int (0 : Int32)), (.int p1), (.ref r)])) rfl (by rw [hml]; rfl) (argsL := [(.int p1), (.int (0 : Int32))]) (rest := [(.ref r)]) (lenOf pd_II_I rfl) rfl (Nat.le_of_eq rfl) (hb hby dk301) (fun _ _ => ⟨rfl, q103_0, (by decide : 0 + 0 ≤ _), (by decide : 0 + 0 ≤ _)⟩)
    dsimp only [Pt.U, Pt.locs, Pt.cells, Pt.slots] at X105 l105 y105 z105 st105 hQ105
    subst y105 z105
    obtain ⟨rfl, Nq105, q105_0⟩ := hQ105
    have N105 : Fr n0 L105 := by rw [l105]; exact Fr.app N103 Nq105
    refine Goes.step (S' := T105.setTop (mkF m 37 #[.val (.ref a1), .val (.int p1)] [(.int (0 : Int32)), (.ref r)])) (fun t k => st105 _ k) ?_
    obtain ⟨cq106, kq106, q106a, q106b, q106c⟩ := isOf hZ q105_0 Er
    obtain ⟨_, _, ⟨T106, L106, k106, n106⟩, -, X106, ⟨Lc106, hQ106, l106, y106, z106⟩, st106⟩ := X105.interfaceBack hx (xi := mth34) (y := mth28) hown (mvT hZ tw187) (mvT hZ tw188) (mvT hZ tw189) (mvT hZ tw227) (mvT hZ tw228) (mvT hZ tw229) (mvT hZ tw230) (mvT hZ tw225) (by decide) (backOf (W := 0) (get1_0 l Z a0 hw [] r x0 h0 n0 Z0 F0) hZ tw231 tw206 (by decide) (by decide)) q106a q106b q106c (g := (mkF m 37 #[.val (.ref a1), .val (.int p1)] [(.int (0 : Int32)), (.ref r)])) rfl (by rw [hml]; rfl) (Steps.refl _) (argsL := [(.int (0 : Int32))]) (rest := []) (lenOf pd_I_Ljava_lang_Object rfl) rfl (Nat.le_of_eq rfl) (hb hby dk302) (fun _ _ => ⟨rfl, q105_0, (by decide : 0 + 0 ≤ _), (by decide : 0 + 0 ≤ _)⟩)
    dsimp only [Pt.U, Pt.locs, Pt.cells, Pt.slots] at X106 l106 y106 z106 st106 hQ106
    subst y106 z106
    obtain ⟨rfl, Nq106, q106_0⟩ := hQ106
    have N106 : Fr n0 L106 := by rw [l106]; exact Fr.app N105 Nq106
    refine Goes.step (S' := T106.setTop (mkF m 42 #[.val (.ref a1), .val (.int p1)] [(.ref x0)])) (fun t k => st106.trans k) ?_
    obtain ⟨T107, X107, e107, st107⟩ := castY X106 hx hZ hown tw195 q106_0 (Ins.self Ex) (g := (mkF m 42 #[.val (.ref a1), .val (.int p1)] [(.ref x0)])) rfl rfl (hb hby dk303)
    refine Goes.step (S' := T107.setTop (mkF m 45 #[.val (.ref a1), .val (.int p1)] [(.ref x0)])) (fun t k => st107 _ k) ?_
    obtain ⟨cq108, kq108, q108a, q108b, q108c⟩ := isOf hZ e107 Ex
    obtain ⟨_, _, ⟨T108, L108, k108, n108⟩, -, X108, ⟨Lc108, hQ108, l108, y108, z108⟩, st108⟩ := X107.virtualBack hx (y := mth32) (z := mth32) hown (mvT hZ tw197) (mvT hZ tw198) (notFace_of_selects (args := #[]) (mvT hZ tw200)) (mvT hZ tw200) (mvT hZ tw199) (by decide) (backOf (W := 0) (ival l Z a0 hw [] x0 z1 h0 n0 Z0 Fx) hZ tw201 tw40 (by decide) (by decide)) q108a q108c (g := (mkF m 45 #[.val (.ref a1), .val (.int p1)] [(.ref x0)])) rfl (by rw [hml]; rfl) (Steps.refl _) (argsL := []) (rest := []) (lenOf pd_I rfl) rfl (Nat.le_of_eq rfl) (hb hby dk304) (fun _ _ => ⟨rfl, e107, (by decide : 0 + 0 ≤ _), (by decide : 0 + 0 ≤ _)⟩)
    dsimp only [Pt.U, Pt.locs, Pt.cells, Pt.slots] at X108 l108 y108 z108 st108 hQ108
    subst y108 z108
    obtain ⟨rfl, Nq108, q108_0⟩ := hQ108
    have N108 : Fr n0 L108 := by rw [l108]; exact Fr.app N106 Nq108
    refine Goes.step (S' := T108.setTop (mkF m 48 #[.val (.ref a1), .val (.int p1)] [(.int z1)])) (fun t k => st108.trans k) ?_
    refine Goes.leave (g := (mkF m 48 #[.val (.ref a1), .val (.int p1)] [(.int z1)])) X108 Bd.notSynchronized (v := (some (.int z1))) (fun h => by rw [Bd.returns] at h; cases h) (fun fs hr => retI X108 hx Bd.returns (hb hby dk305) hr) q108_0 ?_ (by decide) (by decide)
    exact ⟨rfl, N108, rfl⟩
  case neg =>
    have hc109 : p1 = (0 : Int32) := (by have z110_0 := H; have z110_1 := hc104; have z110_2 := rng32 p1; (try simp only [Int32.lt_iff_toInt_lt, Int64.lt_iff_toInt_lt, ne_eq, ← Int32.toInt_inj, ← Int64.toInt_inj, Int32.reduceToInt, Int64.reduceToInt, Nat.reducePow] at z110_0 z110_1 z110_2 ⊢); try omega)
    subst hc109
    obtain ⟨_, _, ⟨T111, L111, k111, n111⟩, -, X111, ⟨Lc111, hQ111, l111, y111, z111⟩, st111⟩ := Jvm.LawKit.callS X103 hx (y := mth1) hown (mvT hZ tw186) (mvT hZ tw6) (mvT hZ tw7) (mvT hZ tw8) (by decide) (backOf (W := 1) (mn0 l Z a0 hw [] (0 : Int32) (0 : Int32) h0 n0 Z0 ((by decide) : ¬ ((0 : Int32) < (0 : Int32)))) hZ tw8 tw7 (by decide) (by decide)) (g := (mkF m 34 #[.val (.ref a1), .val (.int (0 : Int32))] [(.int (0 : Int32)), (.int (0 : Int32)), (.ref r)])) rfl (by rw [hml]; rfl) (argsL := [(.int (0 : Int32)), (.int (0 : Int32))]) (rest := [(.ref r)]) (lenOf pd_II_I rfl) rfl (Nat.le_of_eq rfl) (hb hby dk301) (fun _ _ => ⟨rfl, q103_0, (by decide : 0 + 0 ≤ _), (by decide : 0 + 0 ≤ _)⟩)
    dsimp only [Pt.U, Pt.locs, Pt.cells, Pt.slots] at X111 l111 y111 z111 st111 hQ111
    subst y111 z111
    obtain ⟨rfl, Nq111, q111_0⟩ := hQ111
    have N111 : Fr n0 L111 := by rw [l111]; exact Fr.app N103 Nq111
    refine Goes.step (S' := T111.setTop (mkF m 37 #[.val (.ref a1), .val (.int (0 : Int32))] [(.int (0 : Int32)), (.ref r)])) (fun t k => st111 _ k) ?_
    obtain ⟨cq112, kq112, q112a, q112b, q112c⟩ := isOf hZ q111_0 Er
    obtain ⟨_, _, ⟨T112, L112, k112, n112⟩, -, X112, ⟨Lc112, hQ112, l112, y112, z112⟩, st112⟩ := X111.interfaceBack hx (xi := mth34) (y := mth28) hown (mvT hZ tw187) (mvT hZ tw188) (mvT hZ tw189) (mvT hZ tw227) (mvT hZ tw228) (mvT hZ tw229) (mvT hZ tw230) (mvT hZ tw225) (by decide) (backOf (W := 0) (get1_0 l Z a0 hw [] r x0 h0 n0 Z0 F0) hZ tw231 tw206 (by decide) (by decide)) q112a q112b q112c (g := (mkF m 37 #[.val (.ref a1), .val (.int (0 : Int32))] [(.int (0 : Int32)), (.ref r)])) rfl (by rw [hml]; rfl) (Steps.refl _) (argsL := [(.int (0 : Int32))]) (rest := []) (lenOf pd_I_Ljava_lang_Object rfl) rfl (Nat.le_of_eq rfl) (hb hby dk302) (fun _ _ => ⟨rfl, q111_0, (by decide : 0 + 0 ≤ _), (by decide : 0 + 0 ≤ _)⟩)
    dsimp only [Pt.U, Pt.locs, Pt.cells, Pt.slots] at X112 l112 y112 z112 st112 hQ112
    subst y112 z112
    obtain ⟨rfl, Nq112, q112_0⟩ := hQ112
    have N112 : Fr n0 L112 := by rw [l112]; exact Fr.app N111 Nq112
    refine Goes.step (S' := T112.setTop (mkF m 42 #[.val (.ref a1), .val (.int (0 : Int32))] [(.ref x0)])) (fun t k => st112.trans k) ?_
    obtain ⟨T113, X113, e113, st113⟩ := castY X112 hx hZ hown tw195 q112_0 (Ins.self Ex) (g := (mkF m 42 #[.val (.ref a1), .val (.int (0 : Int32))] [(.ref x0)])) rfl rfl (hb hby dk303)
    refine Goes.step (S' := T113.setTop (mkF m 45 #[.val (.ref a1), .val (.int (0 : Int32))] [(.ref x0)])) (fun t k => st113 _ k) ?_
    obtain ⟨cq114, kq114, q114a, q114b, q114c⟩ := isOf hZ e113 Ex
    obtain ⟨_, _, ⟨T114, L114, k114, n114⟩, -, X114, ⟨Lc114, hQ114, l114, y114, z114⟩, st114⟩ := X113.virtualBack hx (y := mth32) (z := mth32) hown (mvT hZ tw197) (mvT hZ tw198) (notFace_of_selects (args := #[]) (mvT hZ tw200)) (mvT hZ tw200) (mvT hZ tw199) (by decide) (backOf (W := 0) (ival l Z a0 hw [] x0 z1 h0 n0 Z0 Fx) hZ tw201 tw40 (by decide) (by decide)) q114a q114c (g := (mkF m 45 #[.val (.ref a1), .val (.int (0 : Int32))] [(.ref x0)])) rfl (by rw [hml]; rfl) (Steps.refl _) (argsL := []) (rest := []) (lenOf pd_I rfl) rfl (Nat.le_of_eq rfl) (hb hby dk304) (fun _ _ => ⟨rfl, e113, (by decide : 0 + 0 ≤ _), (by decide : 0 + 0 ≤ _)⟩)
    dsimp only [Pt.U, Pt.locs, Pt.cells, Pt.slots] at X114 l114 y114 z114 st114 hQ114
    subst y114 z114
    obtain ⟨rfl, Nq114, q114_0⟩ := hQ114
    have N114 : Fr n0 L114 := by rw [l114]; exact Fr.app N112 Nq114
    refine Goes.step (S' := T114.setTop (mkF m 48 #[.val (.ref a1), .val (.int (0 : Int32))] [(.int z1)])) (fun t k => st114.trans k) ?_
    refine Goes.leave (g := (mkF m 48 #[.val (.ref a1), .val (.int (0 : Int32))] [(.int z1)])) X114 Bd.notSynchronized (v := (some (.int z1))) (fun h => by rw [Bd.returns] at h; cases h) (fun fs hr => retI X114 hx Bd.returns (hb hby dk305) hr) q114_0 ?_ (by decide) (by decide)
    exact ⟨rfl, N114, rfl⟩

theorem ef_vp2_0 (m : MethodId) (x0 : Addr) (x1 : Int32) : entryFrame m #[(.ref x0), (.int x1)] 2 = mkF m 0 #[.val (.ref x0), .val (.int x1)] [] := by first | (simp [entryFrame, mkF, argsToLocals, Value.category]; done) | rfl
def Q_vp2_0 (Z : State) (a1 : Addr) (r : Addr) (z1 : Int32) (x0 : Addr) (x1 : Addr) (em : Addr) (h0 : Heap) (n0 : Nat) (v : Option Value) (h : Heap) (L : List Loc) : Prop := v = some (.int z1) ∧ Fr n0 L ∧ h = h0
set_option maxRecDepth 65536 in
set_option maxHeartbeats 40000000 in
theorem vp2_0 (l : Launch) (Z : State) (a0 : Array Value) (hw : ∀ d ∈ tables_1, d.before a0 Z = true) (ws : List Jvm.Cond) (a1 : Addr) (r : Addr) (z1 : Int32) (x0 : Addr) (x1 : Addr) (em : Addr) (h0 : Heap) (n0 : Nat) (Z0 : n0 ≤ h0.size) (E1 : Exa Z h0 a1 "com/example/planwright/planwright/model/VestingProvisions") (Fv : Fld Z h0 a1 "com/example/planwright/planwright/model/VestingProvisions" "vestedPercentByYears" "Ljava/util/List;" (.ref r)) (Er : Exa Z h0 r "java/util/ImmutableCollections$List12") (F0 : Fld Z h0 r "java/util/ImmutableCollections$List12" "e0" "Ljava/lang/Object;" (.ref x0)) (F1 : Fld Z h0 r "java/util/ImmutableCollections$List12" "e1" "Ljava/lang/Object;" (.ref x1)) (SE : Sta Z h0 "java/util/ImmutableCollections" "EMPTY" "Ljava/lang/Object;" (.ref em)) (Hn : x1 ≠ em) (Ex : Exa Z h0 x0 "java/lang/Integer") (Fx : Fld Z h0 x0 "java/lang/Integer" "value" "I" (.int z1)) :
    MetFree l mth35 (head1 (Jvm.Cond.code mth35 prog_32_method_4_code 2 (some .int) :: ws) rom41) (fun a U => a = #[(.ref a1), (.int (0 : Int32))] ∧ Z.Warmed39 U.vm ∧ U.heap = h0) (fun _ _ _ _ _ => True) (fun _ U o U' => ∃ v L, o = .returned v ∧ Q_vp2_0 Z a1 r z1 x0 x1 em h0 n0 v U'.heap L ∧ FrameEnd U o U' L rom41.cells rom41.slots) := by
  refine MetFree.of_bodySF (plainFor_of_name pnm13) hisR ?_
  intro p e s m args below meth c s₁ Bd hml0 hP hK
  obtain ⟨rfl, hZ, hh⟩ := hP
  have hx := Bd.exec
  have hby := Bd.bytes
  have hml : c.maxLocals = 2 := hml0
  have hown : s.vm.findClass "com/example/planwright/planwright/model/VestingProvisions" = some m.cls := findClass_of_methodNamed Bd.named
  have hnm := (name_of_methodNamed Bd.named Bd.method).1
  have X0 : Stand p l e rom41 s m #[(.ref a1), (.int (0 : Int32))] below meth c s₁ [] 0 0 := Stand.of_body Bd
  have eh0 : s₁.heap = h0 := by rw [← hh, Bd.state]; rfl
  have N0 := Fr.nil n0
  have tw6 := hw _ (List.mem_of_getElem? (i := 6) rfl)
  have tw7 := hw _ (List.mem_of_getElem? (i := 7) rfl)
  have tw8 := hw _ (List.mem_of_getElem? (i := 8) rfl)
  have tw40 := hw _ (List.mem_of_getElem? (i := 40) rfl)
  have tw170 := hw _ (List.mem_of_getElem? (i := 170) rfl)
  have tw177 := hw _ (List.mem_of_getElem? (i := 177) rfl)
  have tw178 := hw _ (List.mem_of_getElem? (i := 178) rfl)
  have tw179 := hw _ (List.mem_of_getElem? (i := 179) rfl)
  have tw186 := hw _ (List.mem_of_getElem? (i := 186) rfl)
  have tw187 := hw _ (List.mem_of_getElem? (i := 187) rfl)
  have tw188 := hw _ (List.mem_of_getElem? (i := 188) rfl)
  have tw189 := hw _ (List.mem_of_getElem? (i := 189) rfl)
  have tw195 := hw _ (List.mem_of_getElem? (i := 195) rfl)
  have tw197 := hw _ (List.mem_of_getElem? (i := 197) rfl)
  have tw198 := hw _ (List.mem_of_getElem? (i := 198) rfl)
  have tw199 := hw _ (List.mem_of_getElem? (i := 199) rfl)
  have tw200 := hw _ (List.mem_of_getElem? (i := 200) rfl)
  have tw201 := hw _ (List.mem_of_getElem? (i := 201) rfl)
  have tw206 := hw _ (List.mem_of_getElem? (i := 206) rfl)
  have tw221 := hw _ (List.mem_of_getElem? (i := 221) rfl)
  have tw222 := hw _ (List.mem_of_getElem? (i := 222) rfl)
  have tw223 := hw _ (List.mem_of_getElem? (i := 223) rfl)
  have tw224 := hw _ (List.mem_of_getElem? (i := 224) rfl)
  have tw225 := hw _ (List.mem_of_getElem? (i := 225) rfl)
  have tw226 := hw _ (List.mem_of_getElem? (i := 226) rfl)
  have tw227 := hw _ (List.mem_of_getElem? (i := 227) rfl)
  have tw228 := hw _ (List.mem_of_getElem? (i := 228) rfl)
  have tw229 := hw _ (List.mem_of_getElem? (i := 229) rfl)
  have tw230 := hw _ (List.mem_of_getElem? (i := 230) rfl)
  have tw231 := hw _ (List.mem_of_getElem? (i := 231) rfl)
  show Goes p e below (Pq (Q_vp2_0 Z a1 r z1 x0 x1 em h0 n0) s rom41.cells rom41.slots) (s₁.setTop (entryFrame m #[(.ref a1), (.int (0 : Int32))] 2))
  refine Goes.step (S' := s₁.setTop (mkF m 0 #[.val (.ref a1), .val (.int (0 : Int32))] [])) (fun t k => castTop (ef_vp2_0 m a1 (0 : Int32)) k) ?_
  refine Goes.step (S' := s₁.setTop (mkF m 19 #[.val (.ref a1), .val (.int (0 : Int32))] [(.ref a1)])) (fun t k => XS.iloadN X0.here hx rfl (hb hby dk291) rfl (XS.ifYes X0.here hx rfl (pc0 := 1) (pc' := 18) rfl (hb hby dk292) rfl ((if0 _ _).trans (flt ((by decide) : ¬ ((0 : Int32) < (0 : Int32)))).2.1) (by decide) (by decide) (XS.aloadN X0.here hx rfl (hb hby dk293) rfl rfl k))) ?_
  obtain ⟨T101, X101, e101, st101⟩ := getF X0 hx hZ hown (host := "") (Or.inl tw170) Via.refl eh0 Fv (g := (mkF m 19 #[.val (.ref a1), .val (.int (0 : Int32))] [(.ref a1)])) rfl rfl (hb hby dk294)
  refine Goes.step (S' := T101.setTop (mkF m 24 #[.val (.ref a1), .val (.int (0 : Int32))] [(.ref a1), (.int (0 : Int32)), (.ref r)])) (fun t k => st101 _ (XS.iloadN X101.here hx rfl (hb hby dk295) rfl (XS.aloadN X101.here hx rfl (hb hby dk296) rfl rfl k))) ?_
  obtain ⟨T102, X102, e102, st102⟩ := getF X101 hx hZ hown (host := "") (Or.inl tw170) Via.refl e101 Fv (g := (mkF m 24 #[.val (.ref a1), .val (.int (0 : Int32))] [(.ref a1), (.int (0 : Int32)), (.ref r)])) rfl rfl (hb hby dk297)
  refine Goes.step (S' := T102.setTop (mkF m 27 #[.val (.ref a1), .val (.int (0 : Int32))] [(.ref r), (.int (0 : Int32)), (.ref r)])) (fun t k => st102 _ k) ?_
  obtain ⟨cq103, kq103, q103a, q103b, q103c⟩ := isOf hZ e102 Er
  obtain ⟨_, _, ⟨T103, L103, k103, n103⟩, -, X103, ⟨Lc103, hQ103, l103, y103, z103⟩, st103⟩ := X102.interfaceBack hx (xi := mth33) (y := mth27) hown (mvT hZ tw177) (mvT hZ tw178) (mvT hZ tw179) (mvT hZ tw221) (mvT hZ tw222) (mvT hZ tw223) (mvT hZ tw224) (mvT hZ tw225) (by decide) (backOf (W := 2) (siz2 l Z a0 hw [] r x1 em h0 n0 Z0 F1 SE Hn) hZ tw226 tw206 (by decide) (by decide)) q103a q103b q103c (g := (mkF m 27 #[.val (.ref a1), .val (.int (0 : Int32))] [(.ref r), (.int (0 : Int32)), (.ref r)])) rfl (by rw [hml]; rfl) (Steps.refl _) (argsL := []) (rest := [(.int (0 : Int32)), (.ref r)]) (lenOf pd_I rfl) rfl (Nat.le_of_eq rfl) (hb hby dk298) (fun _ _ => ⟨rfl, e102, (by decide : 0 + 0 ≤ _), (by decide : 0 + 0 ≤ _)⟩)
  dsimp only [Pt.U, Pt.locs, Pt.cells, Pt.slots] at X103 l103 y103 z103 st103 hQ103
  subst y103 z103
  obtain ⟨rfl, Nq103, q103_0⟩ := hQ103
  have N103 : Fr n0 L103 := by rw [l103]; exact Fr.app N0 Nq103
  refine Goes.step (S' := T103.setTop (mkF m 34 #[.val (.ref a1), .val (.int (0 : Int32))] [(.int ((2 : Int32) - (1 : Int32))), (.int (0 : Int32)), (.ref r)])) (fun t k => st103.trans (XS.iconst X103.here hx rfl (hb hby dk299) (XS.isub X103.here hx rfl (hb hby dk300) rfl k))) ?_
  rw [show ((2 : Int32) - (1 : Int32)) = (1 : Int32) from by decide]
  obtain ⟨_, _, ⟨T104, L104, k104, n104⟩, -, X104, ⟨Lc104, hQ104, l104, y104, z104⟩, st104⟩ := Jvm.LawKit.callS X103 hx (y := mth1) hown (mvT hZ tw186) (mvT hZ tw6) (mvT hZ tw7) (mvT hZ tw8) (by decide) (backOf (W := 1) (mn0 l Z a0 hw [] (0 : Int32) (1 : Int32) h0 n0 Z0 ((by decide) : ¬ ((1 : Int32) < (0 : Int32)))) hZ tw8 tw7 (by decide) (by decide)) (g := (mkF m 34 #[.val (.ref a1), .val (.int (0 : Int32))] [(.int (1 : Int32)), (.int (0 : Int32)), (.ref r)])) rfl (by rw [hml]; rfl) (argsL := [(.int (0 : Int32)), (.int (1 : Int32))]) (rest := [(.ref r)]) (lenOf pd_II_I rfl) rfl (Nat.le_of_eq rfl) (hb hby dk301) (fun _ _ => ⟨rfl, q103_0, (by decide : 0 + 0 ≤ _), (by decide : 0 + 0 ≤ _)⟩)
  dsimp only [Pt.U, Pt.locs, Pt.cells, Pt.slots] at X104 l104 y104 z104 st104 hQ104
  subst y104 z104
  obtain ⟨rfl, Nq104, q104_0⟩ := hQ104
  have N104 : Fr n0 L104 := by rw [l104]; exact Fr.app N103 Nq104
  refine Goes.step (S' := T104.setTop (mkF m 37 #[.val (.ref a1), .val (.int (0 : Int32))] [(.int (0 : Int32)), (.ref r)])) (fun t k => st104 _ k) ?_
  obtain ⟨cq105, kq105, q105a, q105b, q105c⟩ := isOf hZ q104_0 Er
  obtain ⟨_, _, ⟨T105, L105, k105, n105⟩, -, X105, ⟨Lc105, hQ105, l105, y105, z105⟩, st105⟩ := X104.interfaceBack hx (xi := mth34) (y := mth28) hown (mvT hZ tw187) (mvT hZ tw188) (mvT hZ tw189) (mvT hZ tw227) (mvT hZ tw228) (mvT hZ tw229) (mvT hZ tw230) (mvT hZ tw225) (by decide) (backOf (W := 0) (get2_0 l Z a0 hw [] r x0 h0 n0 Z0 F0) hZ tw231 tw206 (by decide) (by decide)) q105a q105b q105c (g := (mkF m 37 #[.val (.ref a1), .val (.int (0 : Int32))] [(.int (0 : Int32)), (.ref r)])) rfl (by rw [hml]; rfl) (Steps.refl _) (argsL := [(.int (0 : Int32))]) (rest := []) (lenOf pd_I_Ljava_lang_Object rfl) rfl (Nat.le_of_eq rfl) (hb hby dk302) (fun _ _ => ⟨rfl, q104_0, (by decide : 0 + 0 ≤ _), (by decide : 0 + 0 ≤ _)⟩)
  dsimp only [Pt.U, Pt.locs, Pt.cells, Pt.slots] at X105 l105 y105 z105 st105 hQ105
  subst y105 z105
  obtain ⟨rfl, Nq105, q105_0⟩ := hQ105
  have N105 : Fr n0 L105 := by rw [l105]; exact Fr.app N104 Nq105
  refine Goes.step (S' := T105.setTop (mkF m 42 #[.val (.ref a1), .val (.int (0 : Int32))] [(.ref x0)])) (fun t k => st105.trans k) ?_
  obtain ⟨T106, X106, e106, st106⟩ := castY X105 hx hZ hown tw195 q105_0 (Ins.self Ex) (g := (mkF m 42 #[.val (.ref a1), .val (.int (0 : Int32))] [(.ref x0)])) rfl rfl (hb hby dk303)
  refine Goes.step (S' := T106.setTop (mkF m 45 #[.val (.ref a1), .val (.int (0 : Int32))] [(.ref x0)])) (fun t k => st106 _ k) ?_
  obtain ⟨cq107, kq107, q107a, q107b, q107c⟩ := isOf hZ e106 Ex
  obtain ⟨_, _, ⟨T107, L107, k107, n107⟩, -, X107, ⟨Lc107, hQ107, l107, y107, z107⟩, st107⟩ := X106.virtualBack hx (y := mth32) (z := mth32) hown (mvT hZ tw197) (mvT hZ tw198) (notFace_of_selects (args := #[]) (mvT hZ tw200)) (mvT hZ tw200) (mvT hZ tw199) (by decide) (backOf (W := 0) (ival l Z a0 hw [] x0 z1 h0 n0 Z0 Fx) hZ tw201 tw40 (by decide) (by decide)) q107a q107c (g := (mkF m 45 #[.val (.ref a1), .val (.int (0 : Int32))] [(.ref x0)])) rfl (by rw [hml]; rfl) (Steps.refl _) (argsL := []) (rest := []) (lenOf pd_I rfl) rfl (Nat.le_of_eq rfl) (hb hby dk304) (fun _ _ => ⟨rfl, e106, (by decide : 0 + 0 ≤ _), (by decide : 0 + 0 ≤ _)⟩)
  dsimp only [Pt.U, Pt.locs, Pt.cells, Pt.slots] at X107 l107 y107 z107 st107 hQ107
  subst y107 z107
  obtain ⟨rfl, Nq107, q107_0⟩ := hQ107
  have N107 : Fr n0 L107 := by rw [l107]; exact Fr.app N105 Nq107
  refine Goes.step (S' := T107.setTop (mkF m 48 #[.val (.ref a1), .val (.int (0 : Int32))] [(.int z1)])) (fun t k => st107.trans k) ?_
  refine Goes.leave (g := (mkF m 48 #[.val (.ref a1), .val (.int (0 : Int32))] [(.int z1)])) X107 Bd.notSynchronized (v := (some (.int z1))) (fun h => by rw [Bd.returns] at h; cases h) (fun fs hr => retI X107 hx Bd.returns (hb hby dk305) hr) q107_0 ?_ (by decide) (by decide)
  exact ⟨rfl, N107, rfl⟩

theorem ef_vp2_1 (m : MethodId) (x0 : Addr) (x1 : Int32) : entryFrame m #[(.ref x0), (.int x1)] 2 = mkF m 0 #[.val (.ref x0), .val (.int x1)] [] := by first | (simp [entryFrame, mkF, argsToLocals, Value.category]; done) | rfl
def Q_vp2_1 (Z : State) (a1 : Addr) (p1 : Int32) (r : Addr) (z1 : Int32) (x0 : Addr) (x1 : Addr) (em : Addr) (h0 : Heap) (n0 : Nat) (v : Option Value) (h : Heap) (L : List Loc) : Prop := v = some (.int z1) ∧ Fr n0 L ∧ h = h0
set_option maxRecDepth 65536 in
set_option maxHeartbeats 40000000 in
theorem vp2_1 (l : Launch) (Z : State) (a0 : Array Value) (hw : ∀ d ∈ tables_1, d.before a0 Z = true) (ws : List Jvm.Cond) (a1 : Addr) (p1 : Int32) (r : Addr) (z1 : Int32) (x0 : Addr) (x1 : Addr) (em : Addr) (h0 : Heap) (n0 : Nat) (Z0 : n0 ≤ h0.size) (E1 : Exa Z h0 a1 "com/example/planwright/planwright/model/VestingProvisions") (Fv : Fld Z h0 a1 "com/example/planwright/planwright/model/VestingProvisions" "vestedPercentByYears" "Ljava/util/List;" (.ref r)) (Er : Exa Z h0 r "java/util/ImmutableCollections$List12") (F0 : Fld Z h0 r "java/util/ImmutableCollections$List12" "e0" "Ljava/lang/Object;" (.ref x0)) (F1 : Fld Z h0 r "java/util/ImmutableCollections$List12" "e1" "Ljava/lang/Object;" (.ref x1)) (SE : Sta Z h0 "java/util/ImmutableCollections" "EMPTY" "Ljava/lang/Object;" (.ref em)) (Hn : x1 ≠ em) (Ex : Exa Z h0 x1 "java/lang/Integer") (Fx : Fld Z h0 x1 "java/lang/Integer" "value" "I" (.int z1)) (H : ¬ (p1 < (1 : Int32))) :
    MetFree l mth35 (head1 (Jvm.Cond.code mth35 prog_32_method_4_code 2 (some .int) :: ws) rom41) (fun a U => a = #[(.ref a1), (.int p1)] ∧ Z.Warmed39 U.vm ∧ U.heap = h0) (fun _ _ _ _ _ => True) (fun _ U o U' => ∃ v L, o = .returned v ∧ Q_vp2_1 Z a1 p1 r z1 x0 x1 em h0 n0 v U'.heap L ∧ FrameEnd U o U' L rom41.cells rom41.slots) := by
  refine MetFree.of_bodySF (plainFor_of_name pnm13) hisR ?_
  intro p e s m args below meth c s₁ Bd hml0 hP hK
  obtain ⟨rfl, hZ, hh⟩ := hP
  have hx := Bd.exec
  have hby := Bd.bytes
  have hml : c.maxLocals = 2 := hml0
  have hown : s.vm.findClass "com/example/planwright/planwright/model/VestingProvisions" = some m.cls := findClass_of_methodNamed Bd.named
  have hnm := (name_of_methodNamed Bd.named Bd.method).1
  have X0 : Stand p l e rom41 s m #[(.ref a1), (.int p1)] below meth c s₁ [] 0 0 := Stand.of_body Bd
  have eh0 : s₁.heap = h0 := by rw [← hh, Bd.state]; rfl
  have N0 := Fr.nil n0
  have tw6 := hw _ (List.mem_of_getElem? (i := 6) rfl)
  have tw7 := hw _ (List.mem_of_getElem? (i := 7) rfl)
  have tw8 := hw _ (List.mem_of_getElem? (i := 8) rfl)
  have tw40 := hw _ (List.mem_of_getElem? (i := 40) rfl)
  have tw170 := hw _ (List.mem_of_getElem? (i := 170) rfl)
  have tw177 := hw _ (List.mem_of_getElem? (i := 177) rfl)
  have tw178 := hw _ (List.mem_of_getElem? (i := 178) rfl)
  have tw179 := hw _ (List.mem_of_getElem? (i := 179) rfl)
  have tw186 := hw _ (List.mem_of_getElem? (i := 186) rfl)
  have tw187 := hw _ (List.mem_of_getElem? (i := 187) rfl)
  have tw188 := hw _ (List.mem_of_getElem? (i := 188) rfl)
  have tw189 := hw _ (List.mem_of_getElem? (i := 189) rfl)
  have tw195 := hw _ (List.mem_of_getElem? (i := 195) rfl)
  have tw197 := hw _ (List.mem_of_getElem? (i := 197) rfl)
  have tw198 := hw _ (List.mem_of_getElem? (i := 198) rfl)
  have tw199 := hw _ (List.mem_of_getElem? (i := 199) rfl)
  have tw200 := hw _ (List.mem_of_getElem? (i := 200) rfl)
  have tw201 := hw _ (List.mem_of_getElem? (i := 201) rfl)
  have tw206 := hw _ (List.mem_of_getElem? (i := 206) rfl)
  have tw221 := hw _ (List.mem_of_getElem? (i := 221) rfl)
  have tw222 := hw _ (List.mem_of_getElem? (i := 222) rfl)
  have tw223 := hw _ (List.mem_of_getElem? (i := 223) rfl)
  have tw224 := hw _ (List.mem_of_getElem? (i := 224) rfl)
  have tw225 := hw _ (List.mem_of_getElem? (i := 225) rfl)
  have tw226 := hw _ (List.mem_of_getElem? (i := 226) rfl)
  have tw227 := hw _ (List.mem_of_getElem? (i := 227) rfl)
  have tw228 := hw _ (List.mem_of_getElem? (i := 228) rfl)
  have tw229 := hw _ (List.mem_of_getElem? (i := 229) rfl)
  have tw230 := hw _ (List.mem_of_getElem? (i := 230) rfl)
  have tw231 := hw _ (List.mem_of_getElem? (i := 231) rfl)
  show Goes p e below (Pq (Q_vp2_1 Z a1 p1 r z1 x0 x1 em h0 n0) s rom41.cells rom41.slots) (s₁.setTop (entryFrame m #[(.ref a1), (.int p1)] 2))
  refine Goes.step (S' := s₁.setTop (mkF m 0 #[.val (.ref a1), .val (.int p1)] [])) (fun t k => castTop (ef_vp2_1 m a1 p1) k) ?_
  refine Goes.step (S' := s₁.setTop (mkF m 19 #[.val (.ref a1), .val (.int p1)] [(.ref a1)])) (fun t k => XS.iloadN X0.here hx rfl (hb hby dk291) rfl (XS.ifYes X0.here hx rfl (pc0 := 1) (pc' := 18) rfl (hb hby dk292) rfl ((if0 _ _).trans (flt ((by have z101_0 := H; have z101_1 := rng32 p1; (try simp only [Int32.lt_iff_toInt_lt, Int64.lt_iff_toInt_lt, ne_eq, ← Int32.toInt_inj, ← Int64.toInt_inj, Int32.reduceToInt, Int64.reduceToInt, Nat.reducePow] at z101_0 z101_1 ⊢); try omega) : ¬ (p1 < (0 : Int32)))).2.1) (by decide) (by decide) (XS.aloadN X0.here hx rfl (hb hby dk293) rfl rfl k))) ?_
  obtain ⟨T102, X102, e102, st102⟩ := getF X0 hx hZ hown (host := "") (Or.inl tw170) Via.refl eh0 Fv (g := (mkF m 19 #[.val (.ref a1), .val (.int p1)] [(.ref a1)])) rfl rfl (hb hby dk294)
  refine Goes.step (S' := T102.setTop (mkF m 24 #[.val (.ref a1), .val (.int p1)] [(.ref a1), (.int p1), (.ref r)])) (fun t k => st102 _ (XS.iloadN X102.here hx rfl (hb hby dk295) rfl (XS.aloadN X102.here hx rfl (hb hby dk296) rfl rfl k))) ?_
  obtain ⟨T103, X103, e103, st103⟩ := getF X102 hx hZ hown (host := "") (Or.inl tw170) Via.refl e102 Fv (g := (mkF m 24 #[.val (.ref a1), .val (.int p1)] [(.ref a1), (.int p1), (.ref r)])) rfl rfl (hb hby dk297)
  refine Goes.step (S' := T103.setTop (mkF m 27 #[.val (.ref a1), .val (.int p1)] [(.ref r), (.int p1), (.ref r)])) (fun t k => st103 _ k) ?_
  obtain ⟨cq104, kq104, q104a, q104b, q104c⟩ := isOf hZ e103 Er
  obtain ⟨_, _, ⟨T104, L104, k104, n104⟩, -, X104, ⟨Lc104, hQ104, l104, y104, z104⟩, st104⟩ := X103.interfaceBack hx (xi := mth33) (y := mth27) hown (mvT hZ tw177) (mvT hZ tw178) (mvT hZ tw179) (mvT hZ tw221) (mvT hZ tw222) (mvT hZ tw223) (mvT hZ tw224) (mvT hZ tw225) (by decide) (backOf (W := 2) (siz2 l Z a0 hw [] r x1 em h0 n0 Z0 F1 SE Hn) hZ tw226 tw206 (by decide) (by decide)) q104a q104b q104c (g := (mkF m 27 #[.val (.ref a1), .val (.int p1)] [(.ref r), (.int p1), (.ref r)])) rfl (by rw [hml]; rfl) (Steps.refl _) (argsL := []) (rest := [(.int p1), (.ref r)]) (lenOf pd_I rfl) rfl (Nat.le_of_eq rfl) (hb hby dk298) (fun _ _ => ⟨rfl, e103, (by decide : 0 + 0 ≤ _), (by decide : 0 + 0 ≤ _)⟩)
  dsimp only [Pt.U, Pt.locs, Pt.cells, Pt.slots] at X104 l104 y104 z104 st104 hQ104
  subst y104 z104
  obtain ⟨rfl, Nq104, q104_0⟩ := hQ104
  have N104 : Fr n0 L104 := by rw [l104]; exact Fr.app N0 Nq104
  refine Goes.step (S' := T104.setTop (mkF m 34 #[.val (.ref a1), .val (.int p1)] [(.int ((2 : Int32) - (1 : Int32))), (.int p1), (.ref r)])) (fun t k => st104.trans (XS.iconst X104.here hx rfl (hb hby dk299) (XS.isub X104.here hx rfl (hb hby dk300) rfl k))) ?_
  rw [show ((2 : Int32) - (1 : Int32)) = (1 : Int32) from by decide]
  by_cases hc105 : (1 : Int32) < p1
  case pos =>
    obtain ⟨_, _, ⟨T106, L106, k106, n106⟩, -, X106, ⟨Lc106, hQ106, l106, y106, z106⟩, st106⟩ := Jvm.LawKit.callS X104 hx (y := mth1) hown (mvT hZ tw186) (mvT hZ tw6) (mvT hZ tw7) (mvT hZ tw8) (by decide) (backOf (W := 1) (mn1 l Z a0 hw [] p1 (1 : Int32) h0 n0 Z0 (hc105 : (1 : Int32) < p1)) hZ tw8 tw7 (by decide) (by decide)) (g := (mkF m 34 #[.val (.ref a1), .val (.int p1)] [(.int (1 : Int32)), (.int p1), (.ref r)])) rfl (by rw [hml]; rfl) (argsL := [(.int p1), (.int (1 : Int32))]) (rest := [(.ref r)]) (lenOf pd_II_I rfl) rfl (Nat.le_of_eq rfl) (hb hby dk301) (fun _ _ => ⟨rfl, q104_0, (by decide : 0 + 0 ≤ _), (by decide : 0 + 0 ≤ _)⟩)
    dsimp only [Pt.U, Pt.locs, Pt.cells, Pt.slots] at X106 l106 y106 z106 st106 hQ106
    subst y106 z106
    obtain ⟨rfl, Nq106, q106_0⟩ := hQ106
    have N106 : Fr n0 L106 := by rw [l106]; exact Fr.app N104 Nq106
    refine Goes.step (S' := T106.setTop (mkF m 37 #[.val (.ref a1), .val (.int p1)] [(.int (1 : Int32)), (.ref r)])) (fun t k => st106 _ k) ?_
    obtain ⟨cq107, kq107, q107a, q107b, q107c⟩ := isOf hZ q106_0 Er
    obtain ⟨_, _, ⟨T107, L107, k107, n107⟩, -, X107, ⟨Lc107, hQ107, l107, y107, z107⟩, st107⟩ := X106.interfaceBack hx (xi := mth34) (y := mth28) hown (mvT hZ tw187) (mvT hZ tw188) (mvT hZ tw189) (mvT hZ tw227) (mvT hZ tw228) (mvT hZ tw229) (mvT hZ tw230) (mvT hZ tw225) (by decide) (backOf (W := 0) (get2_1 l Z a0 hw [] r x1 em h0 n0 Z0 F1 SE Hn) hZ tw231 tw206 (by decide) (by decide)) q107a q107b q107c (g := (mkF m 37 #[.val (.ref a1), .val (.int p1)] [(.int (1 : Int32)), (.ref r)])) rfl (by rw [hml]; rfl) (Steps.refl _) (argsL := [(.int (1 : Int32))]) (rest := []) (lenOf pd_I_Ljava_lang_Object rfl) rfl (Nat.le_of_eq rfl) (hb hby dk302) (fun _ _ => ⟨rfl, q106_0, (by decide : 0 + 0 ≤ _), (by decide : 0 + 0 ≤ _)⟩)
    dsimp only [Pt.U, Pt.locs, Pt.cells, Pt.slots] at X107 l107 y107 z107 st107 hQ107
    subst y107 z107
    obtain ⟨rfl, Nq107, q107_0⟩ := hQ107
    have N107 : Fr n0 L107 := by rw [l107]; exact Fr.app N106 Nq107
    refine Goes.step (S' := T107.setTop (mkF m 42 #[.val (.ref a1), .val (.int p1)] [(.ref x1)])) (fun t k => st107.trans k) ?_
    obtain ⟨T108, X108, e108, st108⟩ := castY X107 hx hZ hown tw195 q107_0 (Ins.self Ex) (g := (mkF m 42 #[.val (.ref a1), .val (.int p1)] [(.ref x1)])) rfl rfl (hb hby dk303)
    refine Goes.step (S' := T108.setTop (mkF m 45 #[.val (.ref a1), .val (.int p1)] [(.ref x1)])) (fun t k => st108 _ k) ?_
    obtain ⟨cq109, kq109, q109a, q109b, q109c⟩ := isOf hZ e108 Ex
    obtain ⟨_, _, ⟨T109, L109, k109, n109⟩, -, X109, ⟨Lc109, hQ109, l109, y109, z109⟩, st109⟩ := X108.virtualBack hx (y := mth32) (z := mth32) hown (mvT hZ tw197) (mvT hZ tw198) (notFace_of_selects (args := #[]) (mvT hZ tw200)) (mvT hZ tw200) (mvT hZ tw199) (by decide) (backOf (W := 0) (ival l Z a0 hw [] x1 z1 h0 n0 Z0 Fx) hZ tw201 tw40 (by decide) (by decide)) q109a q109c (g := (mkF m 45 #[.val (.ref a1), .val (.int p1)] [(.ref x1)])) rfl (by rw [hml]; rfl) (Steps.refl _) (argsL := []) (rest := []) (lenOf pd_I rfl) rfl (Nat.le_of_eq rfl) (hb hby dk304) (fun _ _ => ⟨rfl, e108, (by decide : 0 + 0 ≤ _), (by decide : 0 + 0 ≤ _)⟩)
    dsimp only [Pt.U, Pt.locs, Pt.cells, Pt.slots] at X109 l109 y109 z109 st109 hQ109
    subst y109 z109
    obtain ⟨rfl, Nq109, q109_0⟩ := hQ109
    have N109 : Fr n0 L109 := by rw [l109]; exact Fr.app N107 Nq109
    refine Goes.step (S' := T109.setTop (mkF m 48 #[.val (.ref a1), .val (.int p1)] [(.int z1)])) (fun t k => st109.trans k) ?_
    refine Goes.leave (g := (mkF m 48 #[.val (.ref a1), .val (.int p1)] [(.int z1)])) X109 Bd.notSynchronized (v := (some (.int z1))) (fun h => by rw [Bd.returns] at h; cases h) (fun fs hr => retI X109 hx Bd.returns (hb hby dk305) hr) q109_0 ?_ (by decide) (by decide)
    exact ⟨rfl, N109, rfl⟩
  case neg =>
    have hc110 : p1 = (1 : Int32) := (by have z111_0 := H; have z111_1 := hc105; have z111_2 := rng32 p1; (try simp only [Int32.lt_iff_toInt_lt, Int64.lt_iff_toInt_lt, ne_eq, ← Int32.toInt_inj, ← Int64.toInt_inj, Int32.reduceToInt, Int64.reduceToInt, Nat.reducePow] at z111_0 z111_1 z111_2 ⊢); try omega)
    subst hc110
    obtain ⟨_, _, ⟨T112, L112, k112, n112⟩, -, X112, ⟨Lc112, hQ112, l112, y112, z112⟩, st112⟩ := Jvm.LawKit.callS X104 hx (y := mth1) hown (mvT hZ tw186) (mvT hZ tw6) (mvT hZ tw7) (mvT hZ tw8) (by decide) (backOf (W := 1) (mn0 l Z a0 hw [] (1 : Int32) (1 : Int32) h0 n0 Z0 ((by decide) : ¬ ((1 : Int32) < (1 : Int32)))) hZ tw8 tw7 (by decide) (by decide)) (g := (mkF m 34 #[.val (.ref a1), .val (.int (1 : Int32))] [(.int (1 : Int32)), (.int (1 : Int32)), (.ref r)])) rfl (by rw [hml]; rfl) (argsL := [(.int (1 : Int32)), (.int (1 : Int32))]) (rest := [(.ref r)]) (lenOf pd_II_I rfl) rfl (Nat.le_of_eq rfl) (hb hby dk301) (fun _ _ => ⟨rfl, q104_0, (by decide : 0 + 0 ≤ _), (by decide : 0 + 0 ≤ _)⟩)
    dsimp only [Pt.U, Pt.locs, Pt.cells, Pt.slots] at X112 l112 y112 z112 st112 hQ112
    subst y112 z112
    obtain ⟨rfl, Nq112, q112_0⟩ := hQ112
    have N112 : Fr n0 L112 := by rw [l112]; exact Fr.app N104 Nq112
    refine Goes.step (S' := T112.setTop (mkF m 37 #[.val (.ref a1), .val (.int (1 : Int32))] [(.int (1 : Int32)), (.ref r)])) (fun t k => st112 _ k) ?_
    obtain ⟨cq113, kq113, q113a, q113b, q113c⟩ := isOf hZ q112_0 Er
    obtain ⟨_, _, ⟨T113, L113, k113, n113⟩, -, X113, ⟨Lc113, hQ113, l113, y113, z113⟩, st113⟩ := X112.interfaceBack hx (xi := mth34) (y := mth28) hown (mvT hZ tw187) (mvT hZ tw188) (mvT hZ tw189) (mvT hZ tw227) (mvT hZ tw228) (mvT hZ tw229) (mvT hZ tw230) (mvT hZ tw225) (by decide) (backOf (W := 0) (get2_1 l Z a0 hw [] r x1 em h0 n0 Z0 F1 SE Hn) hZ tw231 tw206 (by decide) (by decide)) q113a q113b q113c (g := (mkF m 37 #[.val (.ref a1), .val (.int (1 : Int32))] [(.int (1 : Int32)), (.ref r)])) rfl (by rw [hml]; rfl) (Steps.refl _) (argsL := [(.int (1 : Int32))]) (rest := []) (lenOf pd_I_Ljava_lang_Object rfl) rfl (Nat.le_of_eq rfl) (hb hby dk302) (fun _ _ => ⟨rfl, q112_0, (by decide : 0 + 0 ≤ _), (by decide : 0 + 0 ≤ _)⟩)
    dsimp only [Pt.U, Pt.locs, Pt.cells, Pt.slots] at X113 l113 y113 z113 st113 hQ113
    subst y113 z113
    obtain ⟨rfl, Nq113, q113_0⟩ := hQ113
    have N113 : Fr n0 L113 := by rw [l113]; exact Fr.app N112 Nq113
    refine Goes.step (S' := T113.setTop (mkF m 42 #[.val (.ref a1), .val (.int (1 : Int32))] [(.ref x1)])) (fun t k => st113.trans k) ?_
    obtain ⟨T114, X114, e114, st114⟩ := castY X113 hx hZ hown tw195 q113_0 (Ins.self Ex) (g := (mkF m 42 #[.val (.ref a1), .val (.int (1 : Int32))] [(.ref x1)])) rfl rfl (hb hby dk303)
    refine Goes.step (S' := T114.setTop (mkF m 45 #[.val (.ref a1), .val (.int (1 : Int32))] [(.ref x1)])) (fun t k => st114 _ k) ?_
    obtain ⟨cq115, kq115, q115a, q115b, q115c⟩ := isOf hZ e114 Ex
    obtain ⟨_, _, ⟨T115, L115, k115, n115⟩, -, X115, ⟨Lc115, hQ115, l115, y115, z115⟩, st115⟩ := X114.virtualBack hx (y := mth32) (z := mth32) hown (mvT hZ tw197) (mvT hZ tw198) (notFace_of_selects (args := #[]) (mvT hZ tw200)) (mvT hZ tw200) (mvT hZ tw199) (by decide) (backOf (W := 0) (ival l Z a0 hw [] x1 z1 h0 n0 Z0 Fx) hZ tw201 tw40 (by decide) (by decide)) q115a q115c (g := (mkF m 45 #[.val (.ref a1), .val (.int (1 : Int32))] [(.ref x1)])) rfl (by rw [hml]; rfl) (Steps.refl _) (argsL := []) (rest := []) (lenOf pd_I rfl) rfl (Nat.le_of_eq rfl) (hb hby dk304) (fun _ _ => ⟨rfl, e114, (by decide : 0 + 0 ≤ _), (by decide : 0 + 0 ≤ _)⟩)
    dsimp only [Pt.U, Pt.locs, Pt.cells, Pt.slots] at X115 l115 y115 z115 st115 hQ115
    subst y115 z115
    obtain ⟨rfl, Nq115, q115_0⟩ := hQ115
    have N115 : Fr n0 L115 := by rw [l115]; exact Fr.app N113 Nq115
    refine Goes.step (S' := T115.setTop (mkF m 48 #[.val (.ref a1), .val (.int (1 : Int32))] [(.int z1)])) (fun t k => st115.trans k) ?_
    refine Goes.leave (g := (mkF m 48 #[.val (.ref a1), .val (.int (1 : Int32))] [(.int z1)])) X115 Bd.notSynchronized (v := (some (.int z1))) (fun h => by rw [Bd.returns] at h; cases h) (fun fs hr => retI X115 hx Bd.returns (hb hby dk305) hr) q115_0 ?_ (by decide) (by decide)
    exact ⟨rfl, N115, rfl⟩

theorem ef_vp3_0 (m : MethodId) (x0 : Addr) (x1 : Int32) : entryFrame m #[(.ref x0), (.int x1)] 2 = mkF m 0 #[.val (.ref x0), .val (.int x1)] [] := by first | (simp [entryFrame, mkF, argsToLocals, Value.category]; done) | rfl
def Q_vp3_0 (Z : State) (a1 : Addr) (r : Addr) (z1 : Int32) (b1 : Addr) (k1 : ClassId) (x0 : Addr) (x1 : Addr) (x2 : Addr) (h0 : Heap) (n0 : Nat) (v : Option Value) (h : Heap) (L : List Loc) : Prop := v = some (.int z1) ∧ Fr n0 L ∧ h = h0
set_option maxRecDepth 65536 in
set_option maxHeartbeats 40000000 in
theorem vp3_0 (l : Launch) (Z : State) (a0 : Array Value) (hw : ∀ d ∈ tables_1, d.before a0 Z = true) (ws : List Jvm.Cond) (a1 : Addr) (r : Addr) (z1 : Int32) (b1 : Addr) (k1 : ClassId) (x0 : Addr) (x1 : Addr) (x2 : Addr) (h0 : Heap) (n0 : Nat) (Z0 : n0 ≤ h0.size) (E1 : Exa Z h0 a1 "com/example/planwright/planwright/model/VestingProvisions") (Fv : Fld Z h0 a1 "com/example/planwright/planwright/model/VestingProvisions" "vestedPercentByYears" "Ljava/util/List;" (.ref r)) (Er : Exa Z h0 r "java/util/ImmutableCollections$ListN") (Fn : Fld Z h0 r "java/util/ImmutableCollections$ListN" "elements" "[Ljava/lang/Object;" (.ref b1)) (V1 : Arv Z h0 b1 k1 (.object "java/lang/Object") (3 : Int32) [(.ref x0), (.ref x1), (.ref x2)] .null) (Ex : Exa Z h0 x0 "java/lang/Integer") (Fx : Fld Z h0 x0 "java/lang/Integer" "value" "I" (.int z1)) :
    MetFree l mth35 (head1 (Jvm.Cond.code mth35 prog_32_method_4_code 2 (some .int) :: ws) rom41) (fun a U => a = #[(.ref a1), (.int (0 : Int32))] ∧ Z.Warmed39 U.vm ∧ U.heap = h0) (fun _ _ _ _ _ => True) (fun _ U o U' => ∃ v L, o = .returned v ∧ Q_vp3_0 Z a1 r z1 b1 k1 x0 x1 x2 h0 n0 v U'.heap L ∧ FrameEnd U o U' L rom41.cells rom41.slots) := by
  refine MetFree.of_bodySF (plainFor_of_name pnm13) hisR ?_
  intro p e s m args below meth c s₁ Bd hml0 hP hK
  obtain ⟨rfl, hZ, hh⟩ := hP
  have hx := Bd.exec
  have hby := Bd.bytes
  have hml : c.maxLocals = 2 := hml0
  have hown : s.vm.findClass "com/example/planwright/planwright/model/VestingProvisions" = some m.cls := findClass_of_methodNamed Bd.named
  have hnm := (name_of_methodNamed Bd.named Bd.method).1
  have X0 : Stand p l e rom41 s m #[(.ref a1), (.int (0 : Int32))] below meth c s₁ [] 0 0 := Stand.of_body Bd
  have eh0 : s₁.heap = h0 := by rw [← hh, Bd.state]; rfl
  have N0 := Fr.nil n0
  have tw6 := hw _ (List.mem_of_getElem? (i := 6) rfl)
  have tw7 := hw _ (List.mem_of_getElem? (i := 7) rfl)
  have tw8 := hw _ (List.mem_of_getElem? (i := 8) rfl)
  have tw40 := hw _ (List.mem_of_getElem? (i := 40) rfl)
  have tw147 := hw _ (List.mem_of_getElem? (i := 147) rfl)
  have tw170 := hw _ (List.mem_of_getElem? (i := 170) rfl)
  have tw177 := hw _ (List.mem_of_getElem? (i := 177) rfl)
  have tw178 := hw _ (List.mem_of_getElem? (i := 178) rfl)
  have tw179 := hw _ (List.mem_of_getElem? (i := 179) rfl)
  have tw180 := hw _ (List.mem_of_getElem? (i := 180) rfl)
  have tw181 := hw _ (List.mem_of_getElem? (i := 181) rfl)
  have tw182 := hw _ (List.mem_of_getElem? (i := 182) rfl)
  have tw183 := hw _ (List.mem_of_getElem? (i := 183) rfl)
  have tw184 := hw _ (List.mem_of_getElem? (i := 184) rfl)
  have tw185 := hw _ (List.mem_of_getElem? (i := 185) rfl)
  have tw186 := hw _ (List.mem_of_getElem? (i := 186) rfl)
  have tw187 := hw _ (List.mem_of_getElem? (i := 187) rfl)
  have tw188 := hw _ (List.mem_of_getElem? (i := 188) rfl)
  have tw189 := hw _ (List.mem_of_getElem? (i := 189) rfl)
  have tw190 := hw _ (List.mem_of_getElem? (i := 190) rfl)
  have tw191 := hw _ (List.mem_of_getElem? (i := 191) rfl)
  have tw192 := hw _ (List.mem_of_getElem? (i := 192) rfl)
  have tw193 := hw _ (List.mem_of_getElem? (i := 193) rfl)
  have tw194 := hw _ (List.mem_of_getElem? (i := 194) rfl)
  have tw195 := hw _ (List.mem_of_getElem? (i := 195) rfl)
  have tw197 := hw _ (List.mem_of_getElem? (i := 197) rfl)
  have tw198 := hw _ (List.mem_of_getElem? (i := 198) rfl)
  have tw199 := hw _ (List.mem_of_getElem? (i := 199) rfl)
  have tw200 := hw _ (List.mem_of_getElem? (i := 200) rfl)
  have tw201 := hw _ (List.mem_of_getElem? (i := 201) rfl)
  show Goes p e below (Pq (Q_vp3_0 Z a1 r z1 b1 k1 x0 x1 x2 h0 n0) s rom41.cells rom41.slots) (s₁.setTop (entryFrame m #[(.ref a1), (.int (0 : Int32))] 2))
  refine Goes.step (S' := s₁.setTop (mkF m 0 #[.val (.ref a1), .val (.int (0 : Int32))] [])) (fun t k => castTop (ef_vp3_0 m a1 (0 : Int32)) k) ?_
  refine Goes.step (S' := s₁.setTop (mkF m 19 #[.val (.ref a1), .val (.int (0 : Int32))] [(.ref a1)])) (fun t k => XS.iloadN X0.here hx rfl (hb hby dk291) rfl (XS.ifYes X0.here hx rfl (pc0 := 1) (pc' := 18) rfl (hb hby dk292) rfl ((if0 _ _).trans (flt ((by decide) : ¬ ((0 : Int32) < (0 : Int32)))).2.1) (by decide) (by decide) (XS.aloadN X0.here hx rfl (hb hby dk293) rfl rfl k))) ?_
  obtain ⟨T101, X101, e101, st101⟩ := getF X0 hx hZ hown (host := "") (Or.inl tw170) Via.refl eh0 Fv (g := (mkF m 19 #[.val (.ref a1), .val (.int (0 : Int32))] [(.ref a1)])) rfl rfl (hb hby dk294)
  refine Goes.step (S' := T101.setTop (mkF m 24 #[.val (.ref a1), .val (.int (0 : Int32))] [(.ref a1), (.int (0 : Int32)), (.ref r)])) (fun t k => st101 _ (XS.iloadN X101.here hx rfl (hb hby dk295) rfl (XS.aloadN X101.here hx rfl (hb hby dk296) rfl rfl k))) ?_
  obtain ⟨T102, X102, e102, st102⟩ := getF X101 hx hZ hown (host := "") (Or.inl tw170) Via.refl e101 Fv (g := (mkF m 24 #[.val (.ref a1), .val (.int (0 : Int32))] [(.ref a1), (.int (0 : Int32)), (.ref r)])) rfl rfl (hb hby dk297)
  refine Goes.step (S' := T102.setTop (mkF m 27 #[.val (.ref a1), .val (.int (0 : Int32))] [(.ref r), (.int (0 : Int32)), (.ref r)])) (fun t k => st102 _ k) ?_
  obtain ⟨cq103, kq103, q103a, q103b, q103c⟩ := isOf hZ e102 Er
  obtain ⟨_, _, ⟨T103, L103, k103, n103⟩, -, X103, ⟨Lc103, hQ103, l103, y103, z103⟩, st103⟩ := X102.interfaceBack hx (xi := mth33) (y := mth30) hown (mvT hZ tw177) (mvT hZ tw178) (mvT hZ tw179) (mvT hZ tw180) (mvT hZ tw181) (mvT hZ tw182) (mvT hZ tw183) (mvT hZ tw184) (by decide) (backOf (W := 2) (siz3 l Z a0 hw [] r b1 k1 x0 x1 x2 h0 n0 Z0 Fn V1) hZ tw185 tw147 (by decide) (by decide)) q103a q103b q103c (g := (mkF m 27 #[.val (.ref a1), .val (.int (0 : Int32))] [(.ref r), (.int (0 : Int32)), (.ref r)])) rfl (by rw [hml]; rfl) (Steps.refl _) (argsL := []) (rest := [(.int (0 : Int32)), (.ref r)]) (lenOf pd_I rfl) rfl (Nat.le_of_eq rfl) (hb hby dk298) (fun _ _ => ⟨rfl, e102, (by decide : 0 + 0 ≤ _), (by decide : 0 + 0 ≤ _)⟩)
  dsimp only [Pt.U, Pt.locs, Pt.cells, Pt.slots] at X103 l103 y103 z103 st103 hQ103
  subst y103 z103
  obtain ⟨rfl, Nq103, q103_0⟩ := hQ103
  have N103 : Fr n0 L103 := by rw [l103]; exact Fr.app N0 Nq103
  refine Goes.step (S' := T103.setTop (mkF m 34 #[.val (.ref a1), .val (.int (0 : Int32))] [(.int ((3 : Int32) - (1 : Int32))), (.int (0 : Int32)), (.ref r)])) (fun t k => st103.trans (XS.iconst X103.here hx rfl (hb hby dk299) (XS.isub X103.here hx rfl (hb hby dk300) rfl k))) ?_
  rw [show ((3 : Int32) - (1 : Int32)) = (2 : Int32) from by decide]
  obtain ⟨_, _, ⟨T104, L104, k104, n104⟩, -, X104, ⟨Lc104, hQ104, l104, y104, z104⟩, st104⟩ := Jvm.LawKit.callS X103 hx (y := mth1) hown (mvT hZ tw186) (mvT hZ tw6) (mvT hZ tw7) (mvT hZ tw8) (by decide) (backOf (W := 1) (mn0 l Z a0 hw [] (0 : Int32) (2 : Int32) h0 n0 Z0 ((by decide) : ¬ ((2 : Int32) < (0 : Int32)))) hZ tw8 tw7 (by decide) (by decide)) (g := (mkF m 34 #[.val (.ref a1), .val (.int (0 : Int32))] [(.int (2 : Int32)), (.int (0 : Int32)), (.ref r)])) rfl (by rw [hml]; rfl) (argsL := [(.int (0 : Int32)), (.int (2 : Int32))]) (rest := [(.ref r)]) (lenOf pd_II_I rfl) rfl (Nat.le_of_eq rfl) (hb hby dk301) (fun _ _ => ⟨rfl, q103_0, (by decide : 0 + 0 ≤ _), (by decide : 0 + 0 ≤ _)⟩)
  dsimp only [Pt.U, Pt.locs, Pt.cells, Pt.slots] at X104 l104 y104 z104 st104 hQ104
  subst y104 z104
  obtain ⟨rfl, Nq104, q104_0⟩ := hQ104
  have N104 : Fr n0 L104 := by rw [l104]; exact Fr.app N103 Nq104
  refine Goes.step (S' := T104.setTop (mkF m 37 #[.val (.ref a1), .val (.int (0 : Int32))] [(.int (0 : Int32)), (.ref r)])) (fun t k => st104 _ k) ?_
  obtain ⟨cq105, kq105, q105a, q105b, q105c⟩ := isOf hZ q104_0 Er
  obtain ⟨_, _, ⟨T105, L105, k105, n105⟩, -, X105, ⟨Lc105, hQ105, l105, y105, z105⟩, st105⟩ := X104.interfaceBack hx (xi := mth34) (y := mth31) hown (mvT hZ tw187) (mvT hZ tw188) (mvT hZ tw189) (mvT hZ tw190) (mvT hZ tw191) (mvT hZ tw192) (mvT hZ tw193) (mvT hZ tw184) (by decide) (backOf (W := 0) (get3_0 l Z a0 hw [] r b1 k1 x0 x1 x2 h0 n0 Z0 Fn V1) hZ tw194 tw147 (by decide) (by decide)) q105a q105b q105c (g := (mkF m 37 #[.val (.ref a1), .val (.int (0 : Int32))] [(.int (0 : Int32)), (.ref r)])) rfl (by rw [hml]; rfl) (Steps.refl _) (argsL := [(.int (0 : Int32))]) (rest := []) (lenOf pd_I_Ljava_lang_Object rfl) rfl (Nat.le_of_eq rfl) (hb hby dk302) (fun _ _ => ⟨rfl, q104_0, (by decide : 0 + 0 ≤ _), (by decide : 0 + 0 ≤ _)⟩)
  dsimp only [Pt.U, Pt.locs, Pt.cells, Pt.slots] at X105 l105 y105 z105 st105 hQ105
  subst y105 z105
  obtain ⟨rfl, Nq105, q105_0⟩ := hQ105
  have N105 : Fr n0 L105 := by rw [l105]; exact Fr.app N104 Nq105
  refine Goes.step (S' := T105.setTop (mkF m 42 #[.val (.ref a1), .val (.int (0 : Int32))] [(.ref x0)])) (fun t k => st105.trans k) ?_
  obtain ⟨T106, X106, e106, st106⟩ := castY X105 hx hZ hown tw195 q105_0 (Ins.self Ex) (g := (mkF m 42 #[.val (.ref a1), .val (.int (0 : Int32))] [(.ref x0)])) rfl rfl (hb hby dk303)
  refine Goes.step (S' := T106.setTop (mkF m 45 #[.val (.ref a1), .val (.int (0 : Int32))] [(.ref x0)])) (fun t k => st106 _ k) ?_
  obtain ⟨cq107, kq107, q107a, q107b, q107c⟩ := isOf hZ e106 Ex
  obtain ⟨_, _, ⟨T107, L107, k107, n107⟩, -, X107, ⟨Lc107, hQ107, l107, y107, z107⟩, st107⟩ := X106.virtualBack hx (y := mth32) (z := mth32) hown (mvT hZ tw197) (mvT hZ tw198) (notFace_of_selects (args := #[]) (mvT hZ tw200)) (mvT hZ tw200) (mvT hZ tw199) (by decide) (backOf (W := 0) (ival l Z a0 hw [] x0 z1 h0 n0 Z0 Fx) hZ tw201 tw40 (by decide) (by decide)) q107a q107c (g := (mkF m 45 #[.val (.ref a1), .val (.int (0 : Int32))] [(.ref x0)])) rfl (by rw [hml]; rfl) (Steps.refl _) (argsL := []) (rest := []) (lenOf pd_I rfl) rfl (Nat.le_of_eq rfl) (hb hby dk304) (fun _ _ => ⟨rfl, e106, (by decide : 0 + 0 ≤ _), (by decide : 0 + 0 ≤ _)⟩)
  dsimp only [Pt.U, Pt.locs, Pt.cells, Pt.slots] at X107 l107 y107 z107 st107 hQ107
  subst y107 z107
  obtain ⟨rfl, Nq107, q107_0⟩ := hQ107
  have N107 : Fr n0 L107 := by rw [l107]; exact Fr.app N105 Nq107
  refine Goes.step (S' := T107.setTop (mkF m 48 #[.val (.ref a1), .val (.int (0 : Int32))] [(.int z1)])) (fun t k => st107.trans k) ?_
  refine Goes.leave (g := (mkF m 48 #[.val (.ref a1), .val (.int (0 : Int32))] [(.int z1)])) X107 Bd.notSynchronized (v := (some (.int z1))) (fun h => by rw [Bd.returns] at h; cases h) (fun fs hr => retI X107 hx Bd.returns (hb hby dk305) hr) q107_0 ?_ (by decide) (by decide)
  exact ⟨rfl, N107, rfl⟩

theorem ef_vp3_1 (m : MethodId) (x0 : Addr) (x1 : Int32) : entryFrame m #[(.ref x0), (.int x1)] 2 = mkF m 0 #[.val (.ref x0), .val (.int x1)] [] := by first | (simp [entryFrame, mkF, argsToLocals, Value.category]; done) | rfl
def Q_vp3_1 (Z : State) (a1 : Addr) (r : Addr) (z1 : Int32) (b1 : Addr) (k1 : ClassId) (x0 : Addr) (x1 : Addr) (x2 : Addr) (h0 : Heap) (n0 : Nat) (v : Option Value) (h : Heap) (L : List Loc) : Prop := v = some (.int z1) ∧ Fr n0 L ∧ h = h0
set_option maxRecDepth 65536 in
set_option maxHeartbeats 40000000 in
theorem vp3_1 (l : Launch) (Z : State) (a0 : Array Value) (hw : ∀ d ∈ tables_1, d.before a0 Z = true) (ws : List Jvm.Cond) (a1 : Addr) (r : Addr) (z1 : Int32) (b1 : Addr) (k1 : ClassId) (x0 : Addr) (x1 : Addr) (x2 : Addr) (h0 : Heap) (n0 : Nat) (Z0 : n0 ≤ h0.size) (E1 : Exa Z h0 a1 "com/example/planwright/planwright/model/VestingProvisions") (Fv : Fld Z h0 a1 "com/example/planwright/planwright/model/VestingProvisions" "vestedPercentByYears" "Ljava/util/List;" (.ref r)) (Er : Exa Z h0 r "java/util/ImmutableCollections$ListN") (Fn : Fld Z h0 r "java/util/ImmutableCollections$ListN" "elements" "[Ljava/lang/Object;" (.ref b1)) (V1 : Arv Z h0 b1 k1 (.object "java/lang/Object") (3 : Int32) [(.ref x0), (.ref x1), (.ref x2)] .null) (Ex : Exa Z h0 x1 "java/lang/Integer") (Fx : Fld Z h0 x1 "java/lang/Integer" "value" "I" (.int z1)) :
    MetFree l mth35 (head1 (Jvm.Cond.code mth35 prog_32_method_4_code 2 (some .int) :: ws) rom41) (fun a U => a = #[(.ref a1), (.int (1 : Int32))] ∧ Z.Warmed39 U.vm ∧ U.heap = h0) (fun _ _ _ _ _ => True) (fun _ U o U' => ∃ v L, o = .returned v ∧ Q_vp3_1 Z a1 r z1 b1 k1 x0 x1 x2 h0 n0 v U'.heap L ∧ FrameEnd U o U' L rom41.cells rom41.slots) := by
  refine MetFree.of_bodySF (plainFor_of_name pnm13) hisR ?_
  intro p e s m args below meth c s₁ Bd hml0 hP hK
  obtain ⟨rfl, hZ, hh⟩ := hP
  have hx := Bd.exec
  have hby := Bd.bytes
  have hml : c.maxLocals = 2 := hml0
  have hown : s.vm.findClass "com/example/planwright/planwright/model/VestingProvisions" = some m.cls := findClass_of_methodNamed Bd.named
  have hnm := (name_of_methodNamed Bd.named Bd.method).1
  have X0 : Stand p l e rom41 s m #[(.ref a1), (.int (1 : Int32))] below meth c s₁ [] 0 0 := Stand.of_body Bd
  have eh0 : s₁.heap = h0 := by rw [← hh, Bd.state]; rfl
  have N0 := Fr.nil n0
  have tw6 := hw _ (List.mem_of_getElem? (i := 6) rfl)
  have tw7 := hw _ (List.mem_of_getElem? (i := 7) rfl)
  have tw8 := hw _ (List.mem_of_getElem? (i := 8) rfl)
  have tw40 := hw _ (List.mem_of_getElem? (i := 40) rfl)
  have tw147 := hw _ (List.mem_of_getElem? (i := 147) rfl)
  have tw170 := hw _ (List.mem_of_getElem? (i := 170) rfl)
  have tw177 := hw _ (List.mem_of_getElem? (i := 177) rfl)
  have tw178 := hw _ (List.mem_of_getElem? (i := 178) rfl)
  have tw179 := hw _ (List.mem_of_getElem? (i := 179) rfl)
  have tw180 := hw _ (List.mem_of_getElem? (i := 180) rfl)
  have tw181 := hw _ (List.mem_of_getElem? (i := 181) rfl)
  have tw182 := hw _ (List.mem_of_getElem? (i := 182) rfl)
  have tw183 := hw _ (List.mem_of_getElem? (i := 183) rfl)
  have tw184 := hw _ (List.mem_of_getElem? (i := 184) rfl)
  have tw185 := hw _ (List.mem_of_getElem? (i := 185) rfl)
  have tw186 := hw _ (List.mem_of_getElem? (i := 186) rfl)
  have tw187 := hw _ (List.mem_of_getElem? (i := 187) rfl)
  have tw188 := hw _ (List.mem_of_getElem? (i := 188) rfl)
  have tw189 := hw _ (List.mem_of_getElem? (i := 189) rfl)
  have tw190 := hw _ (List.mem_of_getElem? (i := 190) rfl)
  have tw191 := hw _ (List.mem_of_getElem? (i := 191) rfl)
  have tw192 := hw _ (List.mem_of_getElem? (i := 192) rfl)
  have tw193 := hw _ (List.mem_of_getElem? (i := 193) rfl)
  have tw194 := hw _ (List.mem_of_getElem? (i := 194) rfl)
  have tw195 := hw _ (List.mem_of_getElem? (i := 195) rfl)
  have tw197 := hw _ (List.mem_of_getElem? (i := 197) rfl)
  have tw198 := hw _ (List.mem_of_getElem? (i := 198) rfl)
  have tw199 := hw _ (List.mem_of_getElem? (i := 199) rfl)
  have tw200 := hw _ (List.mem_of_getElem? (i := 200) rfl)
  have tw201 := hw _ (List.mem_of_getElem? (i := 201) rfl)
  show Goes p e below (Pq (Q_vp3_1 Z a1 r z1 b1 k1 x0 x1 x2 h0 n0) s rom41.cells rom41.slots) (s₁.setTop (entryFrame m #[(.ref a1), (.int (1 : Int32))] 2))
  refine Goes.step (S' := s₁.setTop (mkF m 0 #[.val (.ref a1), .val (.int (1 : Int32))] [])) (fun t k => castTop (ef_vp3_1 m a1 (1 : Int32)) k) ?_
  refine Goes.step (S' := s₁.setTop (mkF m 19 #[.val (.ref a1), .val (.int (1 : Int32))] [(.ref a1)])) (fun t k => XS.iloadN X0.here hx rfl (hb hby dk291) rfl (XS.ifYes X0.here hx rfl (pc0 := 1) (pc' := 18) rfl (hb hby dk292) rfl ((if0 _ _).trans (flt ((by decide) : ¬ ((1 : Int32) < (0 : Int32)))).2.1) (by decide) (by decide) (XS.aloadN X0.here hx rfl (hb hby dk293) rfl rfl k))) ?_
  obtain ⟨T101, X101, e101, st101⟩ := getF X0 hx hZ hown (host := "") (Or.inl tw170) Via.refl eh0 Fv (g := (mkF m 19 #[.val (.ref a1), .val (.int (1 : Int32))] [(.ref a1)])) rfl rfl (hb hby dk294)
  refine Goes.step (S' := T101.setTop (mkF m 24 #[.val (.ref a1), .val (.int (1 : Int32))] [(.ref a1), (.int (1 : Int32)), (.ref r)])) (fun t k => st101 _ (XS.iloadN X101.here hx rfl (hb hby dk295) rfl (XS.aloadN X101.here hx rfl (hb hby dk296) rfl rfl k))) ?_
  obtain ⟨T102, X102, e102, st102⟩ := getF X101 hx hZ hown (host := "") (Or.inl tw170) Via.refl e101 Fv (g := (mkF m 24 #[.val (.ref a1), .val (.int (1 : Int32))] [(.ref a1), (.int (1 : Int32)), (.ref r)])) rfl rfl (hb hby dk297)
  refine Goes.step (S' := T102.setTop (mkF m 27 #[.val (.ref a1), .val (.int (1 : Int32))] [(.ref r), (.int (1 : Int32)), (.ref r)])) (fun t k => st102 _ k) ?_
  obtain ⟨cq103, kq103, q103a, q103b, q103c⟩ := isOf hZ e102 Er
  obtain ⟨_, _, ⟨T103, L103, k103, n103⟩, -, X103, ⟨Lc103, hQ103, l103, y103, z103⟩, st103⟩ := X102.interfaceBack hx (xi := mth33) (y := mth30) hown (mvT hZ tw177) (mvT hZ tw178) (mvT hZ tw179) (mvT hZ tw180) (mvT hZ tw181) (mvT hZ tw182) (mvT hZ tw183) (mvT hZ tw184) (by decide) (backOf (W := 2) (siz3 l Z a0 hw [] r b1 k1 x0 x1 x2 h0 n0 Z0 Fn V1) hZ tw185 tw147 (by decide) (by decide)) q103a q103b q103c (g := (mkF m 27 #[.val (.ref a1), .val (.int (1 : Int32))] [(.ref r), (.int (1 : Int32)), (.ref r)])) rfl (by rw [hml]; rfl) (Steps.refl _) (argsL := []) (rest := [(.int (1 : Int32)), (.ref r)]) (lenOf pd_I rfl) rfl (Nat.le_of_eq rfl) (hb hby dk298) (fun _ _ => ⟨rfl, e102, (by decide : 0 + 0 ≤ _), (by decide : 0 + 0 ≤ _)⟩)
  dsimp only [Pt.U, Pt.locs, Pt.cells, Pt.slots] at X103 l103 y103 z103 st103 hQ103
  subst y103 z103
  obtain ⟨rfl, Nq103, q103_0⟩ := hQ103
  have N103 : Fr n0 L103 := by rw [l103]; exact Fr.app N0 Nq103
  refine Goes.step (S' := T103.setTop (mkF m 34 #[.val (.ref a1), .val (.int (1 : Int32))] [(.int ((3 : Int32) - (1 : Int32))), (.int (1 : Int32)), (.ref r)])) (fun t k => st103.trans (XS.iconst X103.here hx rfl (hb hby dk299) (XS.isub X103.here hx rfl (hb hby dk300) rfl k))) ?_
  rw [show ((3 : Int32) - (1 : Int32)) = (2 : Int32) from by decide]
  obtain ⟨_, _, ⟨T104, L104, k104, n104⟩, -, X104, ⟨Lc104, hQ104, l104, y104, z104⟩, st104⟩ := Jvm.LawKit.callS X103 hx (y := mth1) hown (mvT hZ tw186) (mvT hZ tw6) (mvT hZ tw7) (mvT hZ tw8) (by decide) (backOf (W := 1) (mn0 l Z a0 hw [] (1 : Int32) (2 : Int32) h0 n0 Z0 ((by decide) : ¬ ((2 : Int32) < (1 : Int32)))) hZ tw8 tw7 (by decide) (by decide)) (g := (mkF m 34 #[.val (.ref a1), .val (.int (1 : Int32))] [(.int (2 : Int32)), (.int (1 : Int32)), (.ref r)])) rfl (by rw [hml]; rfl) (argsL := [(.int (1 : Int32)), (.int (2 : Int32))]) (rest := [(.ref r)]) (lenOf pd_II_I rfl) rfl (Nat.le_of_eq rfl) (hb hby dk301) (fun _ _ => ⟨rfl, q103_0, (by decide : 0 + 0 ≤ _), (by decide : 0 + 0 ≤ _)⟩)
  dsimp only [Pt.U, Pt.locs, Pt.cells, Pt.slots] at X104 l104 y104 z104 st104 hQ104
  subst y104 z104
  obtain ⟨rfl, Nq104, q104_0⟩ := hQ104
  have N104 : Fr n0 L104 := by rw [l104]; exact Fr.app N103 Nq104
  refine Goes.step (S' := T104.setTop (mkF m 37 #[.val (.ref a1), .val (.int (1 : Int32))] [(.int (1 : Int32)), (.ref r)])) (fun t k => st104 _ k) ?_
  obtain ⟨cq105, kq105, q105a, q105b, q105c⟩ := isOf hZ q104_0 Er
  obtain ⟨_, _, ⟨T105, L105, k105, n105⟩, -, X105, ⟨Lc105, hQ105, l105, y105, z105⟩, st105⟩ := X104.interfaceBack hx (xi := mth34) (y := mth31) hown (mvT hZ tw187) (mvT hZ tw188) (mvT hZ tw189) (mvT hZ tw190) (mvT hZ tw191) (mvT hZ tw192) (mvT hZ tw193) (mvT hZ tw184) (by decide) (backOf (W := 0) (get3_1 l Z a0 hw [] r b1 k1 x0 x1 x2 h0 n0 Z0 Fn V1) hZ tw194 tw147 (by decide) (by decide)) q105a q105b q105c (g := (mkF m 37 #[.val (.ref a1), .val (.int (1 : Int32))] [(.int (1 : Int32)), (.ref r)])) rfl (by rw [hml]; rfl) (Steps.refl _) (argsL := [(.int (1 : Int32))]) (rest := []) (lenOf pd_I_Ljava_lang_Object rfl) rfl (Nat.le_of_eq rfl) (hb hby dk302) (fun _ _ => ⟨rfl, q104_0, (by decide : 0 + 0 ≤ _), (by decide : 0 + 0 ≤ _)⟩)
  dsimp only [Pt.U, Pt.locs, Pt.cells, Pt.slots] at X105 l105 y105 z105 st105 hQ105
  subst y105 z105
  obtain ⟨rfl, Nq105, q105_0⟩ := hQ105
  have N105 : Fr n0 L105 := by rw [l105]; exact Fr.app N104 Nq105
  refine Goes.step (S' := T105.setTop (mkF m 42 #[.val (.ref a1), .val (.int (1 : Int32))] [(.ref x1)])) (fun t k => st105.trans k) ?_
  obtain ⟨T106, X106, e106, st106⟩ := castY X105 hx hZ hown tw195 q105_0 (Ins.self Ex) (g := (mkF m 42 #[.val (.ref a1), .val (.int (1 : Int32))] [(.ref x1)])) rfl rfl (hb hby dk303)
  refine Goes.step (S' := T106.setTop (mkF m 45 #[.val (.ref a1), .val (.int (1 : Int32))] [(.ref x1)])) (fun t k => st106 _ k) ?_
  obtain ⟨cq107, kq107, q107a, q107b, q107c⟩ := isOf hZ e106 Ex
  obtain ⟨_, _, ⟨T107, L107, k107, n107⟩, -, X107, ⟨Lc107, hQ107, l107, y107, z107⟩, st107⟩ := X106.virtualBack hx (y := mth32) (z := mth32) hown (mvT hZ tw197) (mvT hZ tw198) (notFace_of_selects (args := #[]) (mvT hZ tw200)) (mvT hZ tw200) (mvT hZ tw199) (by decide) (backOf (W := 0) (ival l Z a0 hw [] x1 z1 h0 n0 Z0 Fx) hZ tw201 tw40 (by decide) (by decide)) q107a q107c (g := (mkF m 45 #[.val (.ref a1), .val (.int (1 : Int32))] [(.ref x1)])) rfl (by rw [hml]; rfl) (Steps.refl _) (argsL := []) (rest := []) (lenOf pd_I rfl) rfl (Nat.le_of_eq rfl) (hb hby dk304) (fun _ _ => ⟨rfl, e106, (by decide : 0 + 0 ≤ _), (by decide : 0 + 0 ≤ _)⟩)
  dsimp only [Pt.U, Pt.locs, Pt.cells, Pt.slots] at X107 l107 y107 z107 st107 hQ107
  subst y107 z107
  obtain ⟨rfl, Nq107, q107_0⟩ := hQ107
  have N107 : Fr n0 L107 := by rw [l107]; exact Fr.app N105 Nq107
  refine Goes.step (S' := T107.setTop (mkF m 48 #[.val (.ref a1), .val (.int (1 : Int32))] [(.int z1)])) (fun t k => st107.trans k) ?_
  refine Goes.leave (g := (mkF m 48 #[.val (.ref a1), .val (.int (1 : Int32))] [(.int z1)])) X107 Bd.notSynchronized (v := (some (.int z1))) (fun h => by rw [Bd.returns] at h; cases h) (fun fs hr => retI X107 hx Bd.returns (hb hby dk305) hr) q107_0 ?_ (by decide) (by decide)
  exact ⟨rfl, N107, rfl⟩

theorem ef_vp3_2 (m : MethodId) (x0 : Addr) (x1 : Int32) : entryFrame m #[(.ref x0), (.int x1)] 2 = mkF m 0 #[.val (.ref x0), .val (.int x1)] [] := by first | (simp [entryFrame, mkF, argsToLocals, Value.category]; done) | rfl
def Q_vp3_2 (Z : State) (a1 : Addr) (p1 : Int32) (r : Addr) (z1 : Int32) (b1 : Addr) (k1 : ClassId) (x0 : Addr) (x1 : Addr) (x2 : Addr) (h0 : Heap) (n0 : Nat) (v : Option Value) (h : Heap) (L : List Loc) : Prop := v = some (.int z1) ∧ Fr n0 L ∧ h = h0
set_option maxRecDepth 65536 in
set_option maxHeartbeats 40000000 in
theorem vp3_2 (l : Launch) (Z : State) (a0 : Array Value) (hw : ∀ d ∈ tables_1, d.before a0 Z = true) (ws : List Jvm.Cond) (a1 : Addr) (p1 : Int32) (r : Addr) (z1 : Int32) (b1 : Addr) (k1 : ClassId) (x0 : Addr) (x1 : Addr) (x2 : Addr) (h0 : Heap) (n0 : Nat) (Z0 : n0 ≤ h0.size) (E1 : Exa Z h0 a1 "com/example/planwright/planwright/model/VestingProvisions") (Fv : Fld Z h0 a1 "com/example/planwright/planwright/model/VestingProvisions" "vestedPercentByYears" "Ljava/util/List;" (.ref r)) (Er : Exa Z h0 r "java/util/ImmutableCollections$ListN") (Fn : Fld Z h0 r "java/util/ImmutableCollections$ListN" "elements" "[Ljava/lang/Object;" (.ref b1)) (V1 : Arv Z h0 b1 k1 (.object "java/lang/Object") (3 : Int32) [(.ref x0), (.ref x1), (.ref x2)] .null) (Ex : Exa Z h0 x2 "java/lang/Integer") (Fx : Fld Z h0 x2 "java/lang/Integer" "value" "I" (.int z1)) (H : ¬ (p1 < (2 : Int32))) :
    MetFree l mth35 (head1 (Jvm.Cond.code mth35 prog_32_method_4_code 2 (some .int) :: ws) rom41) (fun a U => a = #[(.ref a1), (.int p1)] ∧ Z.Warmed39 U.vm ∧ U.heap = h0) (fun _ _ _ _ _ => True) (fun _ U o U' => ∃ v L, o = .returned v ∧ Q_vp3_2 Z a1 p1 r z1 b1 k1 x0 x1 x2 h0 n0 v U'.heap L ∧ FrameEnd U o U' L rom41.cells rom41.slots) := by
  refine MetFree.of_bodySF (plainFor_of_name pnm13) hisR ?_
  intro p e s m args below meth c s₁ Bd hml0 hP hK
  obtain ⟨rfl, hZ, hh⟩ := hP
  have hx := Bd.exec
  have hby := Bd.bytes
  have hml : c.maxLocals = 2 := hml0
  have hown : s.vm.findClass "com/example/planwright/planwright/model/VestingProvisions" = some m.cls := findClass_of_methodNamed Bd.named
  have hnm := (name_of_methodNamed Bd.named Bd.method).1
  have X0 : Stand p l e rom41 s m #[(.ref a1), (.int p1)] below meth c s₁ [] 0 0 := Stand.of_body Bd
  have eh0 : s₁.heap = h0 := by rw [← hh, Bd.state]; rfl
  have N0 := Fr.nil n0
  have tw6 := hw _ (List.mem_of_getElem? (i := 6) rfl)
  have tw7 := hw _ (List.mem_of_getElem? (i := 7) rfl)
  have tw8 := hw _ (List.mem_of_getElem? (i := 8) rfl)
  have tw40 := hw _ (List.mem_of_getElem? (i := 40) rfl)
  have tw147 := hw _ (List.mem_of_getElem? (i := 147) rfl)
  have tw170 := hw _ (List.mem_of_getElem? (i := 170) rfl)
  have tw177 := hw _ (List.mem_of_getElem? (i := 177) rfl)
  have tw178 := hw _ (List.mem_of_getElem? (i := 178) rfl)
  have tw179 := hw _ (List.mem_of_getElem? (i := 179) rfl)
  have tw180 := hw _ (List.mem_of_getElem? (i := 180) rfl)
  have tw181 := hw _ (List.mem_of_getElem? (i := 181) rfl)
  have tw182 := hw _ (List.mem_of_getElem? (i := 182) rfl)
  have tw183 := hw _ (List.mem_of_getElem? (i := 183) rfl)
  have tw184 := hw _ (List.mem_of_getElem? (i := 184) rfl)
  have tw185 := hw _ (List.mem_of_getElem? (i := 185) rfl)
  have tw186 := hw _ (List.mem_of_getElem? (i := 186) rfl)
  have tw187 := hw _ (List.mem_of_getElem? (i := 187) rfl)
  have tw188 := hw _ (List.mem_of_getElem? (i := 188) rfl)
  have tw189 := hw _ (List.mem_of_getElem? (i := 189) rfl)
  have tw190 := hw _ (List.mem_of_getElem? (i := 190) rfl)
  have tw191 := hw _ (List.mem_of_getElem? (i := 191) rfl)
  have tw192 := hw _ (List.mem_of_getElem? (i := 192) rfl)
  have tw193 := hw _ (List.mem_of_getElem? (i := 193) rfl)
  have tw194 := hw _ (List.mem_of_getElem? (i := 194) rfl)
  have tw195 := hw _ (List.mem_of_getElem? (i := 195) rfl)
  have tw197 := hw _ (List.mem_of_getElem? (i := 197) rfl)
  have tw198 := hw _ (List.mem_of_getElem? (i := 198) rfl)
  have tw199 := hw _ (List.mem_of_getElem? (i := 199) rfl)
  have tw200 := hw _ (List.mem_of_getElem? (i := 200) rfl)
  have tw201 := hw _ (List.mem_of_getElem? (i := 201) rfl)
  show Goes p e below (Pq (Q_vp3_2 Z a1 p1 r z1 b1 k1 x0 x1 x2 h0 n0) s rom41.cells rom41.slots) (s₁.setTop (entryFrame m #[(.ref a1), (.int p1)] 2))
  refine Goes.step (S' := s₁.setTop (mkF m 0 #[.val (.ref a1), .val (.int p1)] [])) (fun t k => castTop (ef_vp3_2 m a1 p1) k) ?_
  refine Goes.step (S' := s₁.setTop (mkF m 19 #[.val (.ref a1), .val (.int p1)] [(.ref a1)])) (fun t k => XS.iloadN X0.here hx rfl (hb hby dk291) rfl (XS.ifYes X0.here hx rfl (pc0 := 1) (pc' := 18) rfl (hb hby dk292) rfl ((if0 _ _).trans (flt ((by have z101_0 := H; have z101_1 := rng32 p1; (try simp only [Int32.lt_iff_toInt_lt, Int64.lt_iff_toInt_lt, ne_eq, ← Int32.toInt_inj, ← Int64.toInt_inj, Int32.reduceToInt, Int64.reduceToInt, Nat.reducePow] at z101_0 z101_1 ⊢); try omega) : ¬ (p1 < (0 : Int32)))).2.1) (by decide) (by decide) (XS.aloadN X0.here hx rfl (hb hby dk293) rfl rfl k))) ?_
  obtain ⟨T102, X102, e102, st102⟩ := getF X0 hx hZ hown (host := "") (Or.inl tw170) Via.refl eh0 Fv (g := (mkF m 19 #[.val (.ref a1), .val (.int p1)] [(.ref a1)])) rfl rfl (hb hby dk294)
  refine Goes.step (S' := T102.setTop (mkF m 24 #[.val (.ref a1), .val (.int p1)] [(.ref a1), (.int p1), (.ref r)])) (fun t k => st102 _ (XS.iloadN X102.here hx rfl (hb hby dk295) rfl (XS.aloadN X102.here hx rfl (hb hby dk296) rfl rfl k))) ?_
  obtain ⟨T103, X103, e103, st103⟩ := getF X102 hx hZ hown (host := "") (Or.inl tw170) Via.refl e102 Fv (g := (mkF m 24 #[.val (.ref a1), .val (.int p1)] [(.ref a1), (.int p1), (.ref r)])) rfl rfl (hb hby dk297)
  refine Goes.step (S' := T103.setTop (mkF m 27 #[.val (.ref a1), .val (.int p1)] [(.ref r), (.int p1), (.ref r)])) (fun t k => st103 _ k) ?_
  obtain ⟨cq104, kq104, q104a, q104b, q104c⟩ := isOf hZ e103 Er
  obtain ⟨_, _, ⟨T104, L104, k104, n104⟩, -, X104, ⟨Lc104, hQ104, l104, y104, z104⟩, st104⟩ := X103.interfaceBack hx (xi := mth33) (y := mth30) hown (mvT hZ tw177) (mvT hZ tw178) (mvT hZ tw179) (mvT hZ tw180) (mvT hZ tw181) (mvT hZ tw182) (mvT hZ tw183) (mvT hZ tw184) (by decide) (backOf (W := 2) (siz3 l Z a0 hw [] r b1 k1 x0 x1 x2 h0 n0 Z0 Fn V1) hZ tw185 tw147 (by decide) (by decide)) q104a q104b q104c (g := (mkF m 27 #[.val (.ref a1), .val (.int p1)] [(.ref r), (.int p1), (.ref r)])) rfl (by rw [hml]; rfl) (Steps.refl _) (argsL := []) (rest := [(.int p1), (.ref r)]) (lenOf pd_I rfl) rfl (Nat.le_of_eq rfl) (hb hby dk298) (fun _ _ => ⟨rfl, e103, (by decide : 0 + 0 ≤ _), (by decide : 0 + 0 ≤ _)⟩)
  dsimp only [Pt.U, Pt.locs, Pt.cells, Pt.slots] at X104 l104 y104 z104 st104 hQ104
  subst y104 z104
  obtain ⟨rfl, Nq104, q104_0⟩ := hQ104
  have N104 : Fr n0 L104 := by rw [l104]; exact Fr.app N0 Nq104
  refine Goes.step (S' := T104.setTop (mkF m 34 #[.val (.ref a1), .val (.int p1)] [(.int ((3 : Int32) - (1 : Int32))), (.int p1), (.ref r)])) (fun t k => st104.trans (XS.iconst X104.here hx rfl (hb hby dk299) (XS.isub X104.here hx rfl (hb hby dk300) rfl k))) ?_
  rw [show ((3 : Int32) - (1 : Int32)) = (2 : Int32) from by decide]
  by_cases hc105 : (2 : Int32) < p1
  case pos =>
    obtain ⟨_, _, ⟨T106, L106, k106, n106⟩, -, X106, ⟨Lc106, hQ106, l106, y106, z106⟩, st106⟩ := Jvm.LawKit.callS X104 hx (y := mth1) hown (mvT hZ tw186) (mvT hZ tw6) (mvT hZ tw7) (mvT hZ tw8) (by decide) (backOf (W := 1) (mn1 l Z a0 hw [] p1 (2 : Int32) h0 n0 Z0 (hc105 : (2 : Int32) < p1)) hZ tw8 tw7 (by decide) (by decide)) (g := (mkF m 34 #[.val (.ref a1), .val (.int p1)] [(.int (2 : Int32)), (.int p1), (.ref r)])) rfl (by rw [hml]; rfl) (argsL := [(.int p1), (.int (2 : Int32))]) (rest := [(.ref r)]) (lenOf pd_II_I rfl) rfl (Nat.le_of_eq rfl) (hb hby dk301) (fun _ _ => ⟨rfl, q104_0, (by decide : 0 + 0 ≤ _), (by decide : 0 + 0 ≤ _)⟩)
    dsimp only [Pt.U, Pt.locs, Pt.cells, Pt.slots] at X106 l106 y106 z106 st106 hQ106
    subst y106 z106
    obtain ⟨rfl, Nq106, q106_0⟩ := hQ106
    have N106 : Fr n0 L106 := by rw [l106]; exact Fr.app N104 Nq106
    refine Goes.step (S' := T106.setTop (mkF m 37 #[.val (.ref a1), .val (.int p1)] [(.int (2 : Int32)), (.ref r)])) (fun t k => st106 _ k) ?_
    obtain ⟨cq107, kq107, q107a, q107b, q107c⟩ := isOf hZ q106_0 Er
    obtain ⟨_, _, ⟨T107, L107, k107, n107⟩, -, X107, ⟨Lc107, hQ107, l107, y107, z107⟩, st107⟩ := X106.interfaceBack hx (xi := mth34) (y := mth31) hown (mvT hZ tw187) (mvT hZ tw188) (mvT hZ tw189) (mvT hZ tw190) (mvT hZ tw191) (mvT hZ tw192) (mvT hZ tw193) (mvT hZ tw184) (by decide) (backOf (W := 0) (get3_2 l Z a0 hw [] r b1 k1 x0 x1 x2 h0 n0 Z0 Fn V1) hZ tw194 tw147 (by decide) (by decide)) q107a q107b q107c (g := (mkF m 37 #[.val (.ref a1), .val (.int p1)] [(.int (2 : Int32)), (.ref r)])) rfl (by rw [hml]; rfl) (Steps.refl _) (argsL := [(.int (2 : Int32))]) (rest := []) (lenOf pd_I_Ljava_lang_Object rfl) rfl (Nat.le_of_eq rfl) (hb hby dk302) (fun _ _ => ⟨rfl, q106_0, (by decide : 0 + 0 ≤ _), (by decide : 0 + 0 ≤ _)⟩)
    dsimp only [Pt.U, Pt.locs, Pt.cells, Pt.slots] at X107 l107 y107 z107 st107 hQ107
    subst y107 z107
    obtain ⟨rfl, Nq107, q107_0⟩ := hQ107
    have N107 : Fr n0 L107 := by rw [l107]; exact Fr.app N106 Nq107
    refine Goes.step (S' := T107.setTop (mkF m 42 #[.val (.ref a1), .val (.int p1)] [(.ref x2)])) (fun t k => st107.trans k) ?_
    obtain ⟨T108, X108, e108, st108⟩ := castY X107 hx hZ hown tw195 q107_0 (Ins.self Ex) (g := (mkF m 42 #[.val (.ref a1), .val (.int p1)] [(.ref x2)])) rfl rfl (hb hby dk303)
    refine Goes.step (S' := T108.setTop (mkF m 45 #[.val (.ref a1), .val (.int p1)] [(.ref x2)])) (fun t k => st108 _ k) ?_
    obtain ⟨cq109, kq109, q109a, q109b, q109c⟩ := isOf hZ e108 Ex
    obtain ⟨_, _, ⟨T109, L109, k109, n109⟩, -, X109, ⟨Lc109, hQ109, l109, y109, z109⟩, st109⟩ := X108.virtualBack hx (y := mth32) (z := mth32) hown (mvT hZ tw197) (mvT hZ tw198) (notFace_of_selects (args := #[]) (mvT hZ tw200)) (mvT hZ tw200) (mvT hZ tw199) (by decide) (backOf (W := 0) (ival l Z a0 hw [] x2 z1 h0 n0 Z0 Fx) hZ tw201 tw40 (by decide) (by decide)) q109a q109c (g := (mkF m 45 #[.val (.ref a1), .val (.int p1)] [(.ref x2)])) rfl (by rw [hml]; rfl) (Steps.refl _) (argsL := []) (rest := []) (lenOf pd_I rfl) rfl (Nat.le_of_eq rfl) (hb hby dk304) (fun _ _ => ⟨rfl, e108, (by decide : 0 + 0 ≤ _), (by decide : 0 + 0 ≤ _)⟩)
    dsimp only [Pt.U, Pt.locs, Pt.cells, Pt.slots] at X109 l109 y109 z109 st109 hQ109
    subst y109 z109
    obtain ⟨rfl, Nq109, q109_0⟩ := hQ109
    have N109 : Fr n0 L109 := by rw [l109]; exact Fr.app N107 Nq109
    refine Goes.step (S' := T109.setTop (mkF m 48 #[.val (.ref a1), .val (.int p1)] [(.int z1)])) (fun t k => st109.trans k) ?_
    refine Goes.leave (g := (mkF m 48 #[.val (.ref a1), .val (.int p1)] [(.int z1)])) X109 Bd.notSynchronized (v := (some (.int z1))) (fun h => by rw [Bd.returns] at h; cases h) (fun fs hr => retI X109 hx Bd.returns (hb hby dk305) hr) q109_0 ?_ (by decide) (by decide)
    exact ⟨rfl, N109, rfl⟩
  case neg =>
    have hc110 : p1 = (2 : Int32) := (by have z111_0 := H; have z111_1 := hc105; have z111_2 := rng32 p1; (try simp only [Int32.lt_iff_toInt_lt, Int64.lt_iff_toInt_lt, ne_eq, ← Int32.toInt_inj, ← Int64.toInt_inj, Int32.reduceToInt, Int64.reduceToInt, Nat.reducePow] at z111_0 z111_1 z111_2 ⊢); try omega)
    subst hc110
    obtain ⟨_, _, ⟨T112, L112, k112, n112⟩, -, X112, ⟨Lc112, hQ112, l112, y112, z112⟩, st112⟩ := Jvm.LawKit.callS X104 hx (y := mth1) hown (mvT hZ tw186) (mvT hZ tw6) (mvT hZ tw7) (mvT hZ tw8) (by decide) (backOf (W := 1) (mn0 l Z a0 hw [] (2 : Int32) (2 : Int32) h0 n0 Z0 ((by decide) : ¬ ((2 : Int32) < (2 : Int32)))) hZ tw8 tw7 (by decide) (by decide)) (g := (mkF m 34 #[.val (.ref a1), .val (.int (2 : Int32))] [(.int (2 : Int32)), (.int (2 : Int32)), (.ref r)])) rfl (by rw [hml]; rfl) (argsL := [(.int (2 : Int32)), (.int (2 : Int32))]) (rest := [(.ref r)]) (lenOf pd_II_I rfl) rfl (Nat.le_of_eq rfl) (hb hby dk301) (fun _ _ => ⟨rfl, q104_0, (by decide : 0 + 0 ≤ _), (by decide : 0 + 0 ≤ _)⟩)
    dsimp only [Pt.U, Pt.locs, Pt.cells, Pt.slots] at X112 l112 y112 z112 st112 hQ112
    subst y112 z112
    obtain ⟨rfl, Nq112, q112_0⟩ := hQ112
    have N112 : Fr n0 L112 := by rw [l112]; exact Fr.app N104 Nq112
    refine Goes.step (S' := T112.setTop (mkF m 37 #[.val (.ref a1), .val (.int (2 : Int32))] [(.int (2 : Int32)), (.ref r)])) (fun t k => st112 _ k) ?_
    obtain ⟨cq113, kq113, q113a, q113b, q113c⟩ := isOf hZ q112_0 Er
    obtain ⟨_, _, ⟨T113, L113, k113, n113⟩, -, X113, ⟨Lc113, hQ113, l113, y113, z113⟩, st113⟩ := X112.interfaceBack hx (xi := mth34) (y := mth31) hown (mvT hZ tw187) (mvT hZ tw188) (mvT hZ tw189) (mvT hZ tw190) (mvT hZ tw191) (mvT hZ tw192) (mvT hZ tw193) (mvT hZ tw184) (by decide) (backOf (W := 0) (get3_2 l Z a0 hw [] r b1 k1 x0 x1 x2 h0 n0 Z0 Fn V1) hZ tw194 tw147 (by decide) (by decide)) q113a q113b q113c (g := (mkF m 37 #[.val (.ref a1), .val (.int (2 : Int32))] [(.int (2 : Int32)), (.ref r)])) rfl (by rw [hml]; rfl) (Steps.refl _) (argsL := [(.int (2 : Int32))]) (rest := []) (lenOf pd_I_Ljava_lang_Object rfl) rfl (Nat.le_of_eq rfl) (hb hby dk302) (fun _ _ => ⟨rfl, q112_0, (by decide : 0 + 0 ≤ _), (by decide : 0 + 0 ≤ _)⟩)
    dsimp only [Pt.U, Pt.locs, Pt.cells, Pt.slots] at X113 l113 y113 z113 st113 hQ113
    subst y113 z113
    obtain ⟨rfl, Nq113, q113_0⟩ := hQ113
    have N113 : Fr n0 L113 := by rw [l113]; exact Fr.app N112 Nq113
    refine Goes.step (S' := T113.setTop (mkF m 42 #[.val (.ref a1), .val (.int (2 : Int32))] [(.ref x2)])) (fun t k => st113.trans k) ?_
    obtain ⟨T114, X114, e114, st114⟩ := castY X113 hx hZ hown tw195 q113_0 (Ins.self Ex) (g := (mkF m 42 #[.val (.ref a1), .val (.int (2 : Int32))] [(.ref x2)])) rfl rfl (hb hby dk303)
    refine Goes.step (S' := T114.setTop (mkF m 45 #[.val (.ref a1), .val (.int (2 : Int32))] [(.ref x2)])) (fun t k => st114 _ k) ?_
    obtain ⟨cq115, kq115, q115a, q115b, q115c⟩ := isOf hZ e114 Ex
    obtain ⟨_, _, ⟨T115, L115, k115, n115⟩, -, X115, ⟨Lc115, hQ115, l115, y115, z115⟩, st115⟩ := X114.virtualBack hx (y := mth32) (z := mth32) hown (mvT hZ tw197) (mvT hZ tw198) (notFace_of_selects (args := #[]) (mvT hZ tw200)) (mvT hZ tw200) (mvT hZ tw199) (by decide) (backOf (W := 0) (ival l Z a0 hw [] x2 z1 h0 n0 Z0 Fx) hZ tw201 tw40 (by decide) (by decide)) q115a q115c (g := (mkF m 45 #[.val (.ref a1), .val (.int (2 : Int32))] [(.ref x2)])) rfl (by rw [hml]; rfl) (Steps.refl _) (argsL := []) (rest := []) (lenOf pd_I rfl) rfl (Nat.le_of_eq rfl) (hb hby dk304) (fun _ _ => ⟨rfl, e114, (by decide : 0 + 0 ≤ _), (by decide : 0 + 0 ≤ _)⟩)
    dsimp only [Pt.U, Pt.locs, Pt.cells, Pt.slots] at X115 l115 y115 z115 st115 hQ115
    subst y115 z115
    obtain ⟨rfl, Nq115, q115_0⟩ := hQ115
    have N115 : Fr n0 L115 := by rw [l115]; exact Fr.app N113 Nq115
    refine Goes.step (S' := T115.setTop (mkF m 48 #[.val (.ref a1), .val (.int (2 : Int32))] [(.int z1)])) (fun t k => st115.trans k) ?_
    refine Goes.leave (g := (mkF m 48 #[.val (.ref a1), .val (.int (2 : Int32))] [(.int z1)])) X115 Bd.notSynchronized (v := (some (.int z1))) (fun h => by rw [Bd.returns] at h; cases h) (fun fs hr => retI X115 hx Bd.returns (hb hby dk305) hr) q115_0 ?_ (by decide) (by decide)
    exact ⟨rfl, N115, rfl⟩

theorem ef_vp4_0 (m : MethodId) (x0 : Addr) (x1 : Int32) : entryFrame m #[(.ref x0), (.int x1)] 2 = mkF m 0 #[.val (.ref x0), .val (.int x1)] [] := by first | (simp [entryFrame, mkF, argsToLocals, Value.category]; done) | rfl
def Q_vp4_0 (Z : State) (a1 : Addr) (r : Addr) (z1 : Int32) (b1 : Addr) (k1 : ClassId) (x0 : Addr) (x1 : Addr) (x2 : Addr) (x3 : Addr) (h0 : Heap) (n0 : Nat) (v : Option Value) (h : Heap) (L : List Loc) : Prop := v = some (.int z1) ∧ Fr n0 L ∧ h = h0
set_option maxRecDepth 65536 in
set_option maxHeartbeats 40000000 in
theorem vp4_0 (l : Launch) (Z : State) (a0 : Array Value) (hw : ∀ d ∈ tables_1, d.before a0 Z = true) (ws : List Jvm.Cond) (a1 : Addr) (r : Addr) (z1 : Int32) (b1 : Addr) (k1 : ClassId) (x0 : Addr) (x1 : Addr) (x2 : Addr) (x3 : Addr) (h0 : Heap) (n0 : Nat) (Z0 : n0 ≤ h0.size) (E1 : Exa Z h0 a1 "com/example/planwright/planwright/model/VestingProvisions") (Fv : Fld Z h0 a1 "com/example/planwright/planwright/model/VestingProvisions" "vestedPercentByYears" "Ljava/util/List;" (.ref r)) (Er : Exa Z h0 r "java/util/ImmutableCollections$ListN") (Fn : Fld Z h0 r "java/util/ImmutableCollections$ListN" "elements" "[Ljava/lang/Object;" (.ref b1)) (V1 : Arv Z h0 b1 k1 (.object "java/lang/Object") (4 : Int32) [(.ref x0), (.ref x1), (.ref x2), (.ref x3)] .null) (Ex : Exa Z h0 x0 "java/lang/Integer") (Fx : Fld Z h0 x0 "java/lang/Integer" "value" "I" (.int z1)) :
    MetFree l mth35 (head1 (Jvm.Cond.code mth35 prog_32_method_4_code 2 (some .int) :: ws) rom41) (fun a U => a = #[(.ref a1), (.int (0 : Int32))] ∧ Z.Warmed39 U.vm ∧ U.heap = h0) (fun _ _ _ _ _ => True) (fun _ U o U' => ∃ v L, o = .returned v ∧ Q_vp4_0 Z a1 r z1 b1 k1 x0 x1 x2 x3 h0 n0 v U'.heap L ∧ FrameEnd U o U' L rom41.cells rom41.slots) := by
  refine MetFree.of_bodySF (plainFor_of_name pnm13) hisR ?_
  intro p e s m args below meth c s₁ Bd hml0 hP hK
  obtain ⟨rfl, hZ, hh⟩ := hP
  have hx := Bd.exec
  have hby := Bd.bytes
  have hml : c.maxLocals = 2 := hml0
  have hown : s.vm.findClass "com/example/planwright/planwright/model/VestingProvisions" = some m.cls := findClass_of_methodNamed Bd.named
  have hnm := (name_of_methodNamed Bd.named Bd.method).1
  have X0 : Stand p l e rom41 s m #[(.ref a1), (.int (0 : Int32))] below meth c s₁ [] 0 0 := Stand.of_body Bd
  have eh0 : s₁.heap = h0 := by rw [← hh, Bd.state]; rfl
  have N0 := Fr.nil n0
  have tw6 := hw _ (List.mem_of_getElem? (i := 6) rfl)
  have tw7 := hw _ (List.mem_of_getElem? (i := 7) rfl)
  have tw8 := hw _ (List.mem_of_getElem? (i := 8) rfl)
  have tw40 := hw _ (List.mem_of_getElem? (i := 40) rfl)
  have tw147 := hw _ (List.mem_of_getElem? (i := 147) rfl)
  have tw170 := hw _ (List.mem_of_getElem? (i := 170) rfl)
  have tw177 := hw _ (List.mem_of_getElem? (i := 177) rfl)
  have tw178 := hw _ (List.mem_of_getElem? (i := 178) rfl)
  have tw179 := hw _ (List.mem_of_getElem? (i := 179) rfl)
  have tw180 := hw _ (List.mem_of_getElem? (i := 180) rfl)
  have tw181 := hw _ (List.mem_of_getElem? (i := 181) rfl)
  have tw182 := hw _ (List.mem_of_getElem? (i := 182) rfl)
  have tw183 := hw _ (List.mem_of_getElem? (i := 183) rfl)
  have tw184 := hw _ (List.mem_of_getElem? (i := 184) rfl)
  have tw185 := hw _ (List.mem_of_getElem? (i := 185) rfl)
  have tw186 := hw _ (List.mem_of_getElem? (i := 186) rfl)
  have tw187 := hw _ (List.mem_of_getElem? (i := 187) rfl)
  have tw188 := hw _ (List.mem_of_getElem? (i := 188) rfl)
  have tw189 := hw _ (List.mem_of_getElem? (i := 189) rfl)
  have tw190 := hw _ (List.mem_of_getElem? (i := 190) rfl)
  have tw191 := hw _ (List.mem_of_getElem? (i := 191) rfl)
  have tw192 := hw _ (List.mem_of_getElem? (i := 192) rfl)
  have tw193 := hw _ (List.mem_of_getElem? (i := 193) rfl)
  have tw194 := hw _ (List.mem_of_getElem? (i := 194) rfl)
  have tw195 := hw _ (List.mem_of_getElem? (i := 195) rfl)
  have tw197 := hw _ (List.mem_of_getElem? (i := 197) rfl)
  have tw198 := hw _ (List.mem_of_getElem? (i := 198) rfl)
  have tw199 := hw _ (List.mem_of_getElem? (i := 199) rfl)
  have tw200 := hw _ (List.mem_of_getElem? (i := 200) rfl)
  have tw201 := hw _ (List.mem_of_getElem? (i := 201) rfl)
  show Goes p e below (Pq (Q_vp4_0 Z a1 r z1 b1 k1 x0 x1 x2 x3 h0 n0) s rom41.cells rom41.slots) (s₁.setTop (entryFrame m #[(.ref a1), (.int (0 : Int32))] 2))
  refine Goes.step (S' := s₁.setTop (mkF m 0 #[.val (.ref a1), .val (.int (0 : Int32))] [])) (fun t k => castTop (ef_vp4_0 m a1 (0 : Int32)) k) ?_
  refine Goes.step (S' := s₁.setTop (mkF m 19 #[.val (.ref a1), .val (.int (0 : Int32))] [(.ref a1)])) (fun t k => XS.iloadN X0.here hx rfl (hb hby dk291) rfl (XS.ifYes X0.here hx rfl (pc0 := 1) (pc' := 18) rfl (hb hby dk292) rfl ((if0 _ _).trans (flt ((by decide) : ¬ ((0 : Int32) < (0 : Int32)))).2.1) (by decide) (by decide) (XS.aloadN X0.here hx rfl (hb hby dk293) rfl rfl k))) ?_
  obtain ⟨T101, X101, e101, st101⟩ := getF X0 hx hZ hown (host := "") (Or.inl tw170) Via.refl eh0 Fv (g := (mkF m 19 #[.val (.ref a1), .val (.int (0 : Int32))] [(.ref a1)])) rfl rfl (hb hby dk294)
  refine Goes.step (S' := T101.setTop (mkF m 24 #[.val (.ref a1), .val (.int (0 : Int32))] [(.ref a1), (.int (0 : Int32)), (.ref r)])) (fun t k => st101 _ (XS.iloadN X101.here hx rfl (hb hby dk295) rfl (XS.aloadN X101.here hx rfl (hb hby dk296) rfl rfl k))) ?_
  obtain ⟨T102, X102, e102, st102⟩ := getF X101 hx hZ hown (host := "") (Or.inl tw170) Via.refl e101 Fv (g := (mkF m 24 #[.val (.ref a1), .val (.int (0 : Int32))] [(.ref a1), (.int (0 : Int32)), (.ref r)])) rfl rfl (hb hby dk297)
  refine Goes.step (S' := T102.setTop (mkF m 27 #[.val (.ref a1), .val (.int (0 : Int32))] [(.ref r), (.int (0 : Int32)), (.ref r)])) (fun t k => st102 _ k) ?_
  obtain ⟨cq103, kq103, q103a, q103b, q103c⟩ := isOf hZ e102 Er
  obtain ⟨_, _, ⟨T103, L103, k103, n103⟩, -, X103, ⟨Lc103, hQ103, l103, y103, z103⟩, st103⟩ := X102.interfaceBack hx (xi := mth33) (y := mth30) hown (mvT hZ tw177) (mvT hZ tw178) (mvT hZ tw179) (mvT hZ tw180) (mvT hZ tw181) (mvT hZ tw182) (mvT hZ tw183) (mvT hZ tw184) (by decide) (backOf (W := 2) (siz4 l Z a0 hw [] r b1 k1 x0 x1 x2 x3 h0 n0 Z0 Fn V1) hZ tw185 tw147 (by decide) (by decide)) q103a q103b q103c (g := (mkF m 27 #[.val (.ref a1), .val (.int (0 : Int32))] [(.ref r), (.int (0 : Int32)), (.ref r)])) rfl (by rw [hml]; rfl) (Steps.refl _) (argsL := []) (rest := [(.int (0 : Int32)), (.ref r)]) (lenOf pd_I rfl) rfl (Nat.le_of_eq rfl) (hb hby dk298) (fun _ _ => ⟨rfl, e102, (by decide : 0 + 0 ≤ _), (by decide : 0 + 0 ≤ _)⟩)
  dsimp only [Pt.U, Pt.locs, Pt.cells, Pt.slots] at X103 l103 y103 z103 st103 hQ103
  subst y103 z103
  obtain ⟨rfl, Nq103, q103_0⟩ := hQ103
  have N103 : Fr n0 L103 := by rw [l103]; exact Fr.app N0 Nq103
  refine Goes.step (S' := T103.setTop (mkF m 34 #[.val (.ref a1), .val (.int (0 : Int32))] [(.int ((4 : Int32) - (1 : Int32))), (.int (0 : Int32)), (.ref r)])) (fun t k => st103.trans (XS.iconst X103.here hx rfl (hb hby dk299) (XS.isub X103.here hx rfl (hb hby dk300) rfl k))) ?_
  rw [show ((4 : Int32) - (1 : Int32)) = (3 : Int32) from by decide]
  obtain ⟨_, _, ⟨T104, L104, k104, n104⟩, -, X104, ⟨Lc104, hQ104, l104, y104, z104⟩, st104⟩ := Jvm.LawKit.callS X103 hx (y := mth1) hown (mvT hZ tw186) (mvT hZ tw6) (mvT hZ tw7) (mvT hZ tw8) (by decide) (backOf (W := 1) (mn0 l Z a0 hw [] (0 : Int32) (3 : Int32) h0 n0 Z0 ((by decide) : ¬ ((3 : Int32) < (0 : Int32)))) hZ tw8 tw7 (by decide) (by decide)) (g := (mkF m 34 #[.val (.ref a1), .val (.int (0 : Int32))] [(.int (3 : Int32)), (.int (0 : Int32)), (.ref r)])) rfl (by rw [hml]; rfl) (argsL := [(.int (0 : Int32)), (.int (3 : Int32))]) (rest := [(.ref r)]) (lenOf pd_II_I rfl) rfl (Nat.le_of_eq rfl) (hb hby dk301) (fun _ _ => ⟨rfl, q103_0, (by decide : 0 + 0 ≤ _), (by decide : 0 + 0 ≤ _)⟩)
  dsimp only [Pt.U, Pt.locs, Pt.cells, Pt.slots] at X104 l104 y104 z104 st104 hQ104
  subst y104 z104
  obtain ⟨rfl, Nq104, q104_0⟩ := hQ104
  have N104 : Fr n0 L104 := by rw [l104]; exact Fr.app N103 Nq104
  refine Goes.step (S' := T104.setTop (mkF m 37 #[.val (.ref a1), .val (.int (0 : Int32))] [(.int (0 : Int32)), (.ref r)])) (fun t k => st104 _ k) ?_
  obtain ⟨cq105, kq105, q105a, q105b, q105c⟩ := isOf hZ q104_0 Er
  obtain ⟨_, _, ⟨T105, L105, k105, n105⟩, -, X105, ⟨Lc105, hQ105, l105, y105, z105⟩, st105⟩ := X104.interfaceBack hx (xi := mth34) (y := mth31) hown (mvT hZ tw187) (mvT hZ tw188) (mvT hZ tw189) (mvT hZ tw190) (mvT hZ tw191) (mvT hZ tw192) (mvT hZ tw193) (mvT hZ tw184) (by decide) (backOf (W := 0) (get4_0 l Z a0 hw [] r b1 k1 x0 x1 x2 x3 h0 n0 Z0 Fn V1) hZ tw194 tw147 (by decide) (by decide)) q105a q105b q105c (g := (mkF m 37 #[.val (.ref a1), .val (.int (0 : Int32))] [(.int (0 : Int32)), (.ref r)])) rfl (by rw [hml]; rfl) (Steps.refl _) (argsL := [(.int (0 : Int32))]) (rest := []) (lenOf pd_I_Ljava_lang_Object rfl) rfl (Nat.le_of_eq rfl) (hb hby dk302) (fun _ _ => ⟨rfl, q104_0, (by decide : 0 + 0 ≤ _), (by decide : 0 + 0 ≤ _)⟩)
  dsimp only [Pt.U, Pt.locs, Pt.cells, Pt.slots] at X105 l105 y105 z105 st105 hQ105
  subst y105 z105
  obtain ⟨rfl, Nq105, q105_0⟩ := hQ105
  have N105 : Fr n0 L105 := by rw [l105]; exact Fr.app N104 Nq105
  refine Goes.step (S' := T105.setTop (mkF m 42 #[.val (.ref a1), .val (.int (0 : Int32))] [(.ref x0)])) (fun t k => st105.trans k) ?_
  obtain ⟨T106, X106, e106, st106⟩ := castY X105 hx hZ hown tw195 q105_0 (Ins.self Ex) (g := (mkF m 42 #[.val (.ref a1), .val (.int (0 : Int32))] [(.ref x0)])) rfl rfl (hb hby dk303)
  refine Goes.step (S' := T106.setTop (mkF m 45 #[.val (.ref a1), .val (.int (0 : Int32))] [(.ref x0)])) (fun t k => st106 _ k) ?_
  obtain ⟨cq107, kq107, q107a, q107b, q107c⟩ := isOf hZ e106 Ex
  obtain ⟨_, _, ⟨T107, L107, k107, n107⟩, -, X107, ⟨Lc107, hQ107, l107, y107, z107⟩, st107⟩ := X106.virtualBack hx (y := mth32) (z := mth32) hown (mvT hZ tw197) (mvT hZ tw198) (notFace_of_selects (args := #[]) (mvT hZ tw200)) (mvT hZ tw200) (mvT hZ tw199) (by decide) (backOf (W := 0) (ival l Z a0 hw [] x0 z1 h0 n0 Z0 Fx) hZ tw201 tw40 (by decide) (by decide)) q107a q107c (g := (mkF m 45 #[.val (.ref a1), .val (.int (0 : Int32))] [(.ref x0)])) rfl (by rw [hml]; rfl) (Steps.refl _) (argsL := []) (rest := []) (lenOf pd_I rfl) rfl (Nat.le_of_eq rfl) (hb hby dk304) (fun _ _ => ⟨rfl, e106, (by decide : 0 + 0 ≤ _), (by decide : 0 + 0 ≤ _)⟩)
  dsimp only [Pt.U, Pt.locs, Pt.cells, Pt.slots] at X107 l107 y107 z107 st107 hQ107
  subst y107 z107
  obtain ⟨rfl, Nq107, q107_0⟩ := hQ107
  have N107 : Fr n0 L107 := by rw [l107]; exact Fr.app N105 Nq107
  refine Goes.step (S' := T107.setTop (mkF m 48 #[.val (.ref a1), .val (.int (0 : Int32))] [(.int z1)])) (fun t k => st107.trans k) ?_
  refine Goes.leave (g := (mkF m 48 #[.val (.ref a1), .val (.int (0 : Int32))] [(.int z1)])) X107 Bd.notSynchronized (v := (some (.int z1))) (fun h => by rw [Bd.returns] at h; cases h) (fun fs hr => retI X107 hx Bd.returns (hb hby dk305) hr) q107_0 ?_ (by decide) (by decide)
  exact ⟨rfl, N107, rfl⟩

theorem ef_vp4_1 (m : MethodId) (x0 : Addr) (x1 : Int32) : entryFrame m #[(.ref x0), (.int x1)] 2 = mkF m 0 #[.val (.ref x0), .val (.int x1)] [] := by first | (simp [entryFrame, mkF, argsToLocals, Value.category]; done) | rfl
def Q_vp4_1 (Z : State) (a1 : Addr) (r : Addr) (z1 : Int32) (b1 : Addr) (k1 : ClassId) (x0 : Addr) (x1 : Addr) (x2 : Addr) (x3 : Addr) (h0 : Heap) (n0 : Nat) (v : Option Value) (h : Heap) (L : List Loc) : Prop := v = some (.int z1) ∧ Fr n0 L ∧ h = h0
set_option maxRecDepth 65536 in
set_option maxHeartbeats 40000000 in
theorem vp4_1 (l : Launch) (Z : State) (a0 : Array Value) (hw : ∀ d ∈ tables_1, d.before a0 Z = true) (ws : List Jvm.Cond) (a1 : Addr) (r : Addr) (z1 : Int32) (b1 : Addr) (k1 : ClassId) (x0 : Addr) (x1 : Addr) (x2 : Addr) (x3 : Addr) (h0 : Heap) (n0 : Nat) (Z0 : n0 ≤ h0.size) (E1 : Exa Z h0 a1 "com/example/planwright/planwright/model/VestingProvisions") (Fv : Fld Z h0 a1 "com/example/planwright/planwright/model/VestingProvisions" "vestedPercentByYears" "Ljava/util/List;" (.ref r)) (Er : Exa Z h0 r "java/util/ImmutableCollections$ListN") (Fn : Fld Z h0 r "java/util/ImmutableCollections$ListN" "elements" "[Ljava/lang/Object;" (.ref b1)) (V1 : Arv Z h0 b1 k1 (.object "java/lang/Object") (4 : Int32) [(.ref x0), (.ref x1), (.ref x2), (.ref x3)] .null) (Ex : Exa Z h0 x1 "java/lang/Integer") (Fx : Fld Z h0 x1 "java/lang/Integer" "value" "I" (.int z1)) :
    MetFree l mth35 (head1 (Jvm.Cond.code mth35 prog_32_method_4_code 2 (some .int) :: ws) rom41) (fun a U => a = #[(.ref a1), (.int (1 : Int32))] ∧ Z.Warmed39 U.vm ∧ U.heap = h0) (fun _ _ _ _ _ => True) (fun _ U o U' => ∃ v L, o = .returned v ∧ Q_vp4_1 Z a1 r z1 b1 k1 x0 x1 x2 x3 h0 n0 v U'.heap L ∧ FrameEnd U o U' L rom41.cells rom41.slots) := by
  refine MetFree.of_bodySF (plainFor_of_name pnm13) hisR ?_
  intro p e s m args below meth c s₁ Bd hml0 hP hK
  obtain ⟨rfl, hZ, hh⟩ := hP
  have hx := Bd.exec
  have hby := Bd.bytes
  have hml : c.maxLocals = 2 := hml0
  have hown : s.vm.findClass "com/example/planwright/planwright/model/VestingProvisions" = some m.cls := findClass_of_methodNamed Bd.named
  have hnm := (name_of_methodNamed Bd.named Bd.method).1
  have X0 : Stand p l e rom41 s m #[(.ref a1), (.int (1 : Int32))] below meth c s₁ [] 0 0 := Stand.of_body Bd
  have eh0 : s₁.heap = h0 := by rw [← hh, Bd.state]; rfl
  have N0 := Fr.nil n0
  have tw6 := hw _ (List.mem_of_getElem? (i := 6) rfl)
  have tw7 := hw _ (List.mem_of_getElem? (i := 7) rfl)
  have tw8 := hw _ (List.mem_of_getElem? (i := 8) rfl)
  have tw40 := hw _ (List.mem_of_getElem? (i := 40) rfl)
  have tw147 := hw _ (List.mem_of_getElem? (i := 147) rfl)
  have tw170 := hw _ (List.mem_of_getElem? (i := 170) rfl)
  have tw177 := hw _ (List.mem_of_getElem? (i := 177) rfl)
  have tw178 := hw _ (List.mem_of_getElem? (i := 178) rfl)
  have tw179 := hw _ (List.mem_of_getElem? (i := 179) rfl)
  have tw180 := hw _ (List.mem_of_getElem? (i := 180) rfl)
  have tw181 := hw _ (List.mem_of_getElem? (i := 181) rfl)
  have tw182 := hw _ (List.mem_of_getElem? (i := 182) rfl)
  have tw183 := hw _ (List.mem_of_getElem? (i := 183) rfl)
  have tw184 := hw _ (List.mem_of_getElem? (i := 184) rfl)
  have tw185 := hw _ (List.mem_of_getElem? (i := 185) rfl)
  have tw186 := hw _ (List.mem_of_getElem? (i := 186) rfl)
  have tw187 := hw _ (List.mem_of_getElem? (i := 187) rfl)
  have tw188 := hw _ (List.mem_of_getElem? (i := 188) rfl)
  have tw189 := hw _ (List.mem_of_getElem? (i := 189) rfl)
  have tw190 := hw _ (List.mem_of_getElem? (i := 190) rfl)
  have tw191 := hw _ (List.mem_of_getElem? (i := 191) rfl)
  have tw192 := hw _ (List.mem_of_getElem? (i := 192) rfl)
  have tw193 := hw _ (List.mem_of_getElem? (i := 193) rfl)
  have tw194 := hw _ (List.mem_of_getElem? (i := 194) rfl)
  have tw195 := hw _ (List.mem_of_getElem? (i := 195) rfl)
  have tw197 := hw _ (List.mem_of_getElem? (i := 197) rfl)
  have tw198 := hw _ (List.mem_of_getElem? (i := 198) rfl)
  have tw199 := hw _ (List.mem_of_getElem? (i := 199) rfl)
  have tw200 := hw _ (List.mem_of_getElem? (i := 200) rfl)
  have tw201 := hw _ (List.mem_of_getElem? (i := 201) rfl)
  show Goes p e below (Pq (Q_vp4_1 Z a1 r z1 b1 k1 x0 x1 x2 x3 h0 n0) s rom41.cells rom41.slots) (s₁.setTop (entryFrame m #[(.ref a1), (.int (1 : Int32))] 2))
  refine Goes.step (S' := s₁.setTop (mkF m 0 #[.val (.ref a1), .val (.int (1 : Int32))] [])) (fun t k => castTop (ef_vp4_1 m a1 (1 : Int32)) k) ?_
  refine Goes.step (S' := s₁.setTop (mkF m 19 #[.val (.ref a1), .val (.int (1 : Int32))] [(.ref a1)])) (fun t k => XS.iloadN X0.here hx rfl (hb hby dk291) rfl (XS.ifYes X0.here hx rfl (pc0 := 1) (pc' := 18) rfl (hb hby dk292) rfl ((if0 _ _).trans (flt ((by decide) : ¬ ((1 : Int32) < (0 : Int32)))).2.1) (by decide) (by decide) (XS.aloadN X0.here hx rfl (hb hby dk293) rfl rfl k))) ?_
  obtain ⟨T101, X101, e101, st101⟩ := getF X0 hx hZ hown (host := "") (Or.inl tw170) Via.refl eh0 Fv (g := (mkF m 19 #[.val (.ref a1), .val (.int (1 : Int32))] [(.ref a1)])) rfl rfl (hb hby dk294)
  refine Goes.step (S' := T101.setTop (mkF m 24 #[.val (.ref a1), .val (.int (1 : Int32))] [(.ref a1), (.int (1 : Int32)), (.ref r)])) (fun t k => st101 _ (XS.iloadN X101.here hx rfl (hb hby dk295) rfl (XS.aloadN X101.here hx rfl (hb hby dk296) rfl rfl k))) ?_
  obtain ⟨T102, X102, e102, st102⟩ := getF X101 hx hZ hown (host := "") (Or.inl tw170) Via.refl e101 Fv (g := (mkF m 24 #[.val (.ref a1), .val (.int (1 : Int32))] [(.ref a1), (.int (1 : Int32)), (.ref r)])) rfl rfl (hb hby dk297)
  refine Goes.step (S' := T102.setTop (mkF m 27 #[.val (.ref a1), .val (.int (1 : Int32))] [(.ref r), (.int (1 : Int32)), (.ref r)])) (fun t k => st102 _ k) ?_
  obtain ⟨cq103, kq103, q103a, q103b, q103c⟩ := isOf hZ e102 Er
  obtain ⟨_, _, ⟨T103, L103, k103, n103⟩, -, X103, ⟨Lc103, hQ103, l103, y103, z103⟩, st103⟩ := X102.interfaceBack hx (xi := mth33) (y := mth30) hown (mvT hZ tw177) (mvT hZ tw178) (mvT hZ tw179) (mvT hZ tw180) (mvT hZ tw181) (mvT hZ tw182) (mvT hZ tw183) (mvT hZ tw184) (by decide) (backOf (W := 2) (siz4 l Z a0 hw [] r b1 k1 x0 x1 x2 x3 h0 n0 Z0 Fn V1) hZ tw185 tw147 (by decide) (by decide)) q103a q103b q103c (g := (mkF m 27 #[.val (.ref a1), .val (.int (1 : Int32))] [(.ref r), (.int (1 : Int32)), (.ref r)])) rfl (by rw [hml]; rfl) (Steps.refl _) (argsL := []) (rest := [(.int (1 : Int32)), (.ref r)]) (lenOf pd_I rfl) rfl (Nat.le_of_eq rfl) (hb hby dk298) (fun _ _ => ⟨rfl, e102, (by decide : 0 + 0 ≤ _), (by decide : 0 + 0 ≤ _)⟩)
  dsimp only [Pt.U, Pt.locs, Pt.cells, Pt.slots] at X103 l103 y103 z103 st103 hQ103
  subst y103 z103
  obtain ⟨rfl, Nq103, q103_0⟩ := hQ103
  have N103 : Fr n0 L103 := by rw [l103]; exact Fr.app N0 Nq103
  refine Goes.step (S' := T103.setTop (mkF m 34 #[.val (.ref a1), .val (.int (1 : Int32))] [(.int ((4 : Int32) - (1 : Int32))), (.int (1 : Int32)), (.ref r)])) (fun t k => st103.trans (XS.iconst X103.here hx rfl (hb hby dk299) (XS.isub X103.here hx rfl (hb hby dk300) rfl k))) ?_
  rw [show ((4 : Int32) - (1 : Int32)) = (3 : Int32) from by decide]
  obtain ⟨_, _, ⟨T104, L104, k104, n104⟩, -, X104, ⟨Lc104, hQ104, l104, y104, z104⟩, st104⟩ := Jvm.LawKit.callS X103 hx (y := mth1) hown (mvT hZ tw186) (mvT hZ tw6) (mvT hZ tw7) (mvT hZ tw8) (by decide) (backOf (W := 1) (mn0 l Z a0 hw [] (1 : Int32) (3 : Int32) h0 n0 Z0 ((by decide) : ¬ ((3 : Int32) < (1 : Int32)))) hZ tw8 tw7 (by decide) (by decide)) (g := (mkF m 34 #[.val (.ref a1), .val (.int (1 : Int32))] [(.int (3 : Int32)), (.int (1 : Int32)), (.ref r)])) rfl (by rw [hml]; rfl) (argsL := [(.int (1 : Int32)), (.int (3 : Int32))]) (rest := [(.ref r)]) (lenOf pd_II_I rfl) rfl (Nat.le_of_eq rfl) (hb hby dk301) (fun _ _ => ⟨rfl, q103_0, (by decide : 0 + 0 ≤ _), (by decide : 0 + 0 ≤ _)⟩)
  dsimp only [Pt.U, Pt.locs, Pt.cells, Pt.slots] at X104 l104 y104 z104 st104 hQ104
  subst y104 z104
  obtain ⟨rfl, Nq104, q104_0⟩ := hQ104
  have N104 : Fr n0 L104 := by rw [l104]; exact Fr.app N103 Nq104
  refine Goes.step (S' := T104.setTop (mkF m 37 #[.val (.ref a1), .val (.int (1 : Int32))] [(.int (1 : Int32)), (.ref r)])) (fun t k => st104 _ k) ?_
  obtain ⟨cq105, kq105, q105a, q105b, q105c⟩ := isOf hZ q104_0 Er
  obtain ⟨_, _, ⟨T105, L105, k105, n105⟩, -, X105, ⟨Lc105, hQ105, l105, y105, z105⟩, st105⟩ := X104.interfaceBack hx (xi := mth34) (y := mth31) hown (mvT hZ tw187) (mvT hZ tw188) (mvT hZ tw189) (mvT hZ tw190) (mvT hZ tw191) (mvT hZ tw192) (mvT hZ tw193) (mvT hZ tw184) (by decide) (backOf (W := 0) (get4_1 l Z a0 hw [] r b1 k1 x0 x1 x2 x3 h0 n0 Z0 Fn V1) hZ tw194 tw147 (by decide) (by decide)) q105a q105b q105c (g := (mkF m 37 #[.val (.ref a1), .val (.int (1 : Int32))] [(.int (1 : Int32)), (.ref r)])) rfl (by rw [hml]; rfl) (Steps.refl _) (argsL := [(.int (1 : Int32))]) (rest := []) (lenOf pd_I_Ljava_lang_Object rfl) rfl (Nat.le_of_eq rfl) (hb hby dk302) (fun _ _ => ⟨rfl, q104_0, (by decide : 0 + 0 ≤ _), (by decide : 0 + 0 ≤ _)⟩)
  dsimp only [Pt.U, Pt.locs, Pt.cells, Pt.slots] at X105 l105 y105 z105 st105 hQ105
  subst y105 z105
  obtain ⟨rfl, Nq105, q105_0⟩ := hQ105
  have N105 : Fr n0 L105 := by rw [l105]; exact Fr.app N104 Nq105
  refine Goes.step (S' := T105.setTop (mkF m 42 #[.val (.ref a1), .val (.int (1 : Int32))] [(.ref x1)])) (fun t k => st105.trans k) ?_
  obtain ⟨T106, X106, e106, st106⟩ := castY X105 hx hZ hown tw195 q105_0 (Ins.self Ex) (g := (mkF m 42 #[.val (.ref a1), .val (.int (1 : Int32))] [(.ref x1)])) rfl rfl (hb hby dk303)
  refine Goes.step (S' := T106.setTop (mkF m 45 #[.val (.ref a1), .val (.int (1 : Int32))] [(.ref x1)])) (fun t k => st106 _ k) ?_
  obtain ⟨cq107, kq107, q107a, q107b, q107c⟩ := isOf hZ e106 Ex
  obtain ⟨_, _, ⟨T107, L107, k107, n107⟩, -, X107, ⟨Lc107, hQ107, l107, y107, z107⟩, st107⟩ := X106.virtualBack hx (y := mth32) (z := mth32) hown (mvT hZ tw197) (mvT hZ tw198) (notFace_of_selects (args := #[]) (mvT hZ tw200)) (mvT hZ tw200) (mvT hZ tw199) (by decide) (backOf (W := 0) (ival l Z a0 hw [] x1 z1 h0 n0 Z0 Fx) hZ tw201 tw40 (by decide) (by decide)) q107a q107c (g := (mkF m 45 #[.val (.ref a1), .val (.int (1 : Int32))] [(.ref x1)])) rfl (by rw [hml]; rfl) (Steps.refl _) (argsL := []) (rest := []) (lenOf pd_I rfl) rfl (Nat.le_of_eq rfl) (hb hby dk304) (fun _ _ => ⟨rfl, e106, (by decide : 0 + 0 ≤ _), (by decide : 0 + 0 ≤ _)⟩)
  dsimp only [Pt.U, Pt.locs, Pt.cells, Pt.slots] at X107 l107 y107 z107 st107 hQ107
  subst y107 z107
  obtain ⟨rfl, Nq107, q107_0⟩ := hQ107
  have N107 : Fr n0 L107 := by rw [l107]; exact Fr.app N105 Nq107
  refine Goes.step (S' := T107.setTop (mkF m 48 #[.val (.ref a1), .val (.int (1 : Int32))] [(.int z1)])) (fun t k => st107.trans k) ?_
  refine Goes.leave (g := (mkF m 48 #[.val (.ref a1), .val (.int (1 : Int32))] [(.int z1)])) X107 Bd.notSynchronized (v := (some (.int z1))) (fun h => by rw [Bd.returns] at h; cases h) (fun fs hr => retI X107 hx Bd.returns (hb hby dk305) hr) q107_0 ?_ (by decide) (by decide)
  exact ⟨rfl, N107, rfl⟩

theorem ef_vp4_2 (m : MethodId) (x0 : Addr) (x1 : Int32) : entryFrame m #[(.ref x0), (.int x1)] 2 = mkF m 0 #[.val (.ref x0), .val (.int x1)] [] := by first | (simp [entryFrame, mkF, argsToLocals, Value.category]; done) | rfl
def Q_vp4_2 (Z : State) (a1 : Addr) (r : Addr) (z1 : Int32) (b1 : Addr) (k1 : ClassId) (x0 : Addr) (x1 : Addr) (x2 : Addr) (x3 : Addr) (h0 : Heap) (n0 : Nat) (v : Option Value) (h : Heap) (L : List Loc) : Prop := v = some (.int z1) ∧ Fr n0 L ∧ h = h0
set_option maxRecDepth 65536 in
set_option maxHeartbeats 40000000 in
theorem vp4_2 (l : Launch) (Z : State) (a0 : Array Value) (hw : ∀ d ∈ tables_1, d.before a0 Z = true) (ws : List Jvm.Cond) (a1 : Addr) (r : Addr) (z1 : Int32) (b1 : Addr) (k1 : ClassId) (x0 : Addr) (x1 : Addr) (x2 : Addr) (x3 : Addr) (h0 : Heap) (n0 : Nat) (Z0 : n0 ≤ h0.size) (E1 : Exa Z h0 a1 "com/example/planwright/planwright/model/VestingProvisions") (Fv : Fld Z h0 a1 "com/example/planwright/planwright/model/VestingProvisions" "vestedPercentByYears" "Ljava/util/List;" (.ref r)) (Er : Exa Z h0 r "java/util/ImmutableCollections$ListN") (Fn : Fld Z h0 r "java/util/ImmutableCollections$ListN" "elements" "[Ljava/lang/Object;" (.ref b1)) (V1 : Arv Z h0 b1 k1 (.object "java/lang/Object") (4 : Int32) [(.ref x0), (.ref x1), (.ref x2), (.ref x3)] .null) (Ex : Exa Z h0 x2 "java/lang/Integer") (Fx : Fld Z h0 x2 "java/lang/Integer" "value" "I" (.int z1)) :
    MetFree l mth35 (head1 (Jvm.Cond.code mth35 prog_32_method_4_code 2 (some .int) :: ws) rom41) (fun a U => a = #[(.ref a1), (.int (2 : Int32))] ∧ Z.Warmed39 U.vm ∧ U.heap = h0) (fun _ _ _ _ _ => True) (fun _ U o U' => ∃ v L, o = .returned v ∧ Q_vp4_2 Z a1 r z1 b1 k1 x0 x1 x2 x3 h0 n0 v U'.heap L ∧ FrameEnd U o U' L rom41.cells rom41.slots) := by
  refine MetFree.of_bodySF (plainFor_of_name pnm13) hisR ?_
  intro p e s m args below meth c s₁ Bd hml0 hP hK
  obtain ⟨rfl, hZ, hh⟩ := hP
  have hx := Bd.exec
  have hby := Bd.bytes
  have hml : c.maxLocals = 2 := hml0
  have hown : s.vm.findClass "com/example/planwright/planwright/model/VestingProvisions" = some m.cls := findClass_of_methodNamed Bd.named
  have hnm := (name_of_methodNamed Bd.named Bd.method).1
  have X0 : Stand p l e rom41 s m #[(.ref a1), (.int (2 : Int32))] below meth c s₁ [] 0 0 := Stand.of_body Bd
  have eh0 : s₁.heap = h0 := by rw [← hh, Bd.state]; rfl
  have N0 := Fr.nil n0
  have tw6 := hw _ (List.mem_of_getElem? (i := 6) rfl)
  have tw7 := hw _ (List.mem_of_getElem? (i := 7) rfl)
  have tw8 := hw _ (List.mem_of_getElem? (i := 8) rfl)
  have tw40 := hw _ (List.mem_of_getElem? (i := 40) rfl)
  have tw147 := hw _ (List.mem_of_getElem? (i := 147) rfl)
  have tw170 := hw _ (List.mem_of_getElem? (i := 170) rfl)
  have tw177 := hw _ (List.mem_of_getElem? (i := 177) rfl)
  have tw178 := hw _ (List.mem_of_getElem? (i := 178) rfl)
  have tw179 := hw _ (List.mem_of_getElem? (i := 179) rfl)
  have tw180 := hw _ (List.mem_of_getElem? (i := 180) rfl)
  have tw181 := hw _ (List.mem_of_getElem? (i := 181) rfl)
  have tw182 := hw _ (List.mem_of_getElem? (i := 182) rfl)
  have tw183 := hw _ (List.mem_of_getElem? (i := 183) rfl)
  have tw184 := hw _ (List.mem_of_getElem? (i := 184) rfl)
  have tw185 := hw _ (List.mem_of_getElem? (i := 185) rfl)
  have tw186 := hw _ (List.mem_of_getElem? (i := 186) rfl)
  have tw187 := hw _ (List.mem_of_getElem? (i := 187) rfl)
  have tw188 := hw _ (List.mem_of_getElem? (i := 188) rfl)
  have tw189 := hw _ (List.mem_of_getElem? (i := 189) rfl)
  have tw190 := hw _ (List.mem_of_getElem? (i := 190) rfl)
  have tw191 := hw _ (List.mem_of_getElem? (i := 191) rfl)
  have tw192 := hw _ (List.mem_of_getElem? (i := 192) rfl)
  have tw193 := hw _ (List.mem_of_getElem? (i := 193) rfl)
  have tw194 := hw _ (List.mem_of_getElem? (i := 194) rfl)
  have tw195 := hw _ (List.mem_of_getElem? (i := 195) rfl)
  have tw197 := hw _ (List.mem_of_getElem? (i := 197) rfl)
  have tw198 := hw _ (List.mem_of_getElem? (i := 198) rfl)
  have tw199 := hw _ (List.mem_of_getElem? (i := 199) rfl)
  have tw200 := hw _ (List.mem_of_getElem? (i := 200) rfl)
  have tw201 := hw _ (List.mem_of_getElem? (i := 201) rfl)
  show Goes p e below (Pq (Q_vp4_2 Z a1 r z1 b1 k1 x0 x1 x2 x3 h0 n0) s rom41.cells rom41.slots) (s₁.setTop (entryFrame m #[(.ref a1), (.int (2 : Int32))] 2))
  refine Goes.step (S' := s₁.setTop (mkF m 0 #[.val (.ref a1), .val (.int (2 : Int32))] [])) (fun t k => castTop (ef_vp4_2 m a1 (2 : Int32)) k) ?_
  refine Goes.step (S' := s₁.setTop (mkF m 19 #[.val (.ref a1), .val (.int (2 : Int32))] [(.ref a1)])) (fun t k => XS.iloadN X0.here hx rfl (hb hby dk291) rfl (XS.ifYes X0.here hx rfl (pc0 := 1) (pc' := 18) rfl (hb hby dk292) rfl ((if0 _ _).trans (flt ((by decide) : ¬ ((2 : Int32) < (0 : Int32)))).2.1) (by decide) (by decide) (XS.aloadN X0.here hx rfl (hb hby dk293) rfl rfl k))) ?_
  obtain ⟨T101, X101, e101, st101⟩ := getF X0 hx hZ hown (host := "") (Or.inl tw170) Via.refl eh0 Fv (g := (mkF m 19 #[.val (.ref a1), .val (.int (2 : Int32))] [(.ref a1)])) rfl rfl (hb hby dk294)
  refine Goes.step (S' := T101.setTop (mkF m 24 #[.val (.ref a1), .val (.int (2 : Int32))] [(.ref a1), (.int (2 : Int32)), (.ref r)])) (fun t k => st101 _ (XS.iloadN X101.here hx rfl (hb hby dk295) rfl (XS.aloadN X101.here hx rfl (hb hby dk296) rfl rfl k))) ?_
  obtain ⟨T102, X102, e102, st102⟩ := getF X101 hx hZ hown (host := "") (Or.inl tw170) Via.refl e101 Fv (g := (mkF m 24 #[.val (.ref a1), .val (.int (2 : Int32))] [(.ref a1), (.int (2 : Int32)), (.ref r)])) rfl rfl (hb hby dk297)
  refine Goes.step (S' := T102.setTop (mkF m 27 #[.val (.ref a1), .val (.int (2 : Int32))] [(.ref r), (.int (2 : Int32)), (.ref r)])) (fun t k => st102 _ k) ?_
  obtain ⟨cq103, kq103, q103a, q103b, q103c⟩ := isOf hZ e102 Er
  obtain ⟨_, _, ⟨T103, L103, k103, n103⟩, -, X103, ⟨Lc103, hQ103, l103, y103, z103⟩, st103⟩ := X102.interfaceBack hx (xi := mth33) (y := mth30) hown (mvT hZ tw177) (mvT hZ tw178) (mvT hZ tw179) (mvT hZ tw180) (mvT hZ tw181) (mvT hZ tw182) (mvT hZ tw183) (mvT hZ tw184) (by decide) (backOf (W := 2) (siz4 l Z a0 hw [] r b1 k1 x0 x1 x2 x3 h0 n0 Z0 Fn V1) hZ tw185 tw147 (by decide) (by decide)) q103a q103b q103c (g := (mkF m 27 #[.val (.ref a1), .val (.int (2 : Int32))] [(.ref r), (.int (2 : Int32)), (.ref r)])) rfl (by rw [hml]; rfl) (Steps.refl _) (argsL := []) (rest := [(.int (2 : Int32)), (.ref r)]) (lenOf pd_I rfl) rfl (Nat.le_of_eq rfl) (hb hby dk298) (fun _ _ => ⟨rfl, e102, (by decide : 0 + 0 ≤ _), (by decide : 0 + 0 ≤ _)⟩)
  dsimp only [Pt.U, Pt.locs, Pt.cells, Pt.slots] at X103 l103 y103 z103 st103 hQ103
  subst y103 z103
  obtain ⟨rfl, Nq103, q103_0⟩ := hQ103
  have N103 : Fr n0 L103 := by rw [l103]; exact Fr.app N0 Nq103
  refine Goes.step (S' := T103.setTop (mkF m 34 #[.val (.ref a1), .val (.int (2 : Int32))] [(.int ((4 : Int32) - (1 : Int32))), (.int (2 : Int32)), (.ref r)])) (fun t k => st103.trans (XS.iconst X103.here hx rfl (hb hby dk299) (XS.isub X103.here hx rfl (hb hby dk300) rfl k))) ?_
  rw [show ((4 : Int32) - (1 : Int32)) = (3 : Int32) from by decide]
  obtain ⟨_, _, ⟨T104, L104, k104, n104⟩, -, X104, ⟨Lc104, hQ104, l104, y104, z104⟩, st104⟩ := Jvm.LawKit.callS X103 hx (y := mth1) hown (mvT hZ tw186) (mvT hZ tw6) (mvT hZ tw7) (mvT hZ tw8) (by decide) (backOf (W := 1) (mn0 l Z a0 hw [] (2 : Int32) (3 : Int32) h0 n0 Z0 ((by decide) : ¬ ((3 : Int32) < (2 : Int32)))) hZ tw8 tw7 (by decide) (by decide)) (g := (mkF m 34 #[.val (.ref a1), .val (.int (2 : Int32))] [(.int (3 : Int32)), (.int (2 : Int32)), (.ref r)])) rfl (by rw [hml]; rfl) (argsL := [(.int (2 : Int32)), (.int (3 : Int32))]) (rest := [(.ref r)]) (lenOf pd_II_I rfl) rfl (Nat.le_of_eq rfl) (hb hby dk301) (fun _ _ => ⟨rfl, q103_0, (by decide : 0 + 0 ≤ _), (by decide : 0 + 0 ≤ _)⟩)
  dsimp only [Pt.U, Pt.locs, Pt.cells, Pt.slots] at X104 l104 y104 z104 st104 hQ104
  subst y104 z104
  obtain ⟨rfl, Nq104, q104_0⟩ := hQ104
  have N104 : Fr n0 L104 := by rw [l104]; exact Fr.app N103 Nq104
  refine Goes.step (S' := T104.setTop (mkF m 37 #[.val (.ref a1), .val (.int (2 : Int32))] [(.int (2 : Int32)), (.ref r)])) (fun t k => st104 _ k) ?_
  obtain ⟨cq105, kq105, q105a, q105b, q105c⟩ := isOf hZ q104_0 Er
  obtain ⟨_, _, ⟨T105, L105, k105, n105⟩, -, X105, ⟨Lc105, hQ105, l105, y105, z105⟩, st105⟩ := X104.interfaceBack hx (xi := mth34) (y := mth31) hown (mvT hZ tw187) (mvT hZ tw188) (mvT hZ tw189) (mvT hZ tw190) (mvT hZ tw191) (mvT hZ tw192) (mvT hZ tw193) (mvT hZ tw184) (by decide) (backOf (W := 0) (get4_2 l Z a0 hw [] r b1 k1 x0 x1 x2 x3 h0 n0 Z0 Fn V1) hZ tw194 tw147 (by decide) (by decide)) q105a q105b q105c (g := (mkF m 37 #[.val (.ref a1), .val (.int (2 : Int32))] [(.int (2 : Int32)), (.ref r)])) rfl (by rw [hml]; rfl) (Steps.refl _) (argsL := [(.int (2 : Int32))]) (rest := []) (lenOf pd_I_Ljava_lang_Object rfl) rfl (Nat.le_of_eq rfl) (hb hby dk302) (fun _ _ => ⟨rfl, q104_0, (by decide : 0 + 0 ≤ _), (by decide : 0 + 0 ≤ _)⟩)
  dsimp only [Pt.U, Pt.locs, Pt.cells, Pt.slots] at X105 l105 y105 z105 st105 hQ105
  subst y105 z105
  obtain ⟨rfl, Nq105, q105_0⟩ := hQ105
  have N105 : Fr n0 L105 := by rw [l105]; exact Fr.app N104 Nq105
  refine Goes.step (S' := T105.setTop (mkF m 42 #[.val (.ref a1), .val (.int (2 : Int32))] [(.ref x2)])) (fun t k => st105.trans k) ?_
  obtain ⟨T106, X106, e106, st106⟩ := castY X105 hx hZ hown tw195 q105_0 (Ins.self Ex) (g := (mkF m 42 #[.val (.ref a1), .val (.int (2 : Int32))] [(.ref x2)])) rfl rfl (hb hby dk303)
  refine Goes.step (S' := T106.setTop (mkF m 45 #[.val (.ref a1), .val (.int (2 : Int32))] [(.ref x2)])) (fun t k => st106 _ k) ?_
  obtain ⟨cq107, kq107, q107a, q107b, q107c⟩ := isOf hZ e106 Ex
  obtain ⟨_, _, ⟨T107, L107, k107, n107⟩, -, X107, ⟨Lc107, hQ107, l107, y107, z107⟩, st107⟩ := X106.virtualBack hx (y := mth32) (z := mth32) hown (mvT hZ tw197) (mvT hZ tw198) (notFace_of_selects (args := #[]) (mvT hZ tw200)) (mvT hZ tw200) (mvT hZ tw199) (by decide) (backOf (W := 0) (ival l Z a0 hw [] x2 z1 h0 n0 Z0 Fx) hZ tw201 tw40 (by decide) (by decide)) q107a q107c (g := (mkF m 45 #[.val (.ref a1), .val (.int (2 : Int32))] [(.ref x2)])) rfl (by rw [hml]; rfl) (Steps.refl _) (argsL := []) (rest := []) (lenOf pd_I rfl) rfl (Nat.le_of_eq rfl) (hb hby dk304) (fun _ _ => ⟨rfl, e106, (by decide : 0 + 0 ≤ _), (by decide : 0 + 0 ≤ _)⟩)
  dsimp only [Pt.U, Pt.locs, Pt.cells, Pt.slots] at X107 l107 y107 z107 st107 hQ107
  subst y107 z107
  obtain ⟨rfl, Nq107, q107_0⟩ := hQ107
  have N107 : Fr n0 L107 := by rw [l107]; exact Fr.app N105 Nq107
  refine Goes.step (S' := T107.setTop (mkF m 48 #[.val (.ref a1), .val (.int (2 : Int32))] [(.int z1)])) (fun t k => st107.trans k) ?_
  refine Goes.leave (g := (mkF m 48 #[.val (.ref a1), .val (.int (2 : Int32))] [(.int z1)])) X107 Bd.notSynchronized (v := (some (.int z1))) (fun h => by rw [Bd.returns] at h; cases h) (fun fs hr => retI X107 hx Bd.returns (hb hby dk305) hr) q107_0 ?_ (by decide) (by decide)
  exact ⟨rfl, N107, rfl⟩

theorem ef_vp4_3 (m : MethodId) (x0 : Addr) (x1 : Int32) : entryFrame m #[(.ref x0), (.int x1)] 2 = mkF m 0 #[.val (.ref x0), .val (.int x1)] [] := by first | (simp [entryFrame, mkF, argsToLocals, Value.category]; done) | rfl
def Q_vp4_3 (Z : State) (a1 : Addr) (p1 : Int32) (r : Addr) (z1 : Int32) (b1 : Addr) (k1 : ClassId) (x0 : Addr) (x1 : Addr) (x2 : Addr) (x3 : Addr) (h0 : Heap) (n0 : Nat) (v : Option Value) (h : Heap) (L : List Loc) : Prop := v = some (.int z1) ∧ Fr n0 L ∧ h = h0
set_option maxRecDepth 65536 in
set_option maxHeartbeats 40000000 in
theorem vp4_3 (l : Launch) (Z : State) (a0 : Array Value) (hw : ∀ d ∈ tables_1, d.before a0 Z = true) (ws : List Jvm.Cond) (a1 : Addr) (p1 : Int32) (r : Addr) (z1 : Int32) (b1 : Addr) (k1 : ClassId) (x0 : Addr) (x1 : Addr) (x2 : Addr) (x3 : Addr) (h0 : Heap) (n0 : Nat) (Z0 : n0 ≤ h0.size) (E1 : Exa Z h0 a1 "com/example/planwright/planwright/model/VestingProvisions") (Fv : Fld Z h0 a1 "com/example/planwright/planwright/model/VestingProvisions" "vestedPercentByYears" "Ljava/util/List;" (.ref r)) (Er : Exa Z h0 r "java/util/ImmutableCollections$ListN") (Fn : Fld Z h0 r "java/util/ImmutableCollections$ListN" "elements" "[Ljava/lang/Object;" (.ref b1)) (V1 : Arv Z h0 b1 k1 (.object "java/lang/Object") (4 : Int32) [(.ref x0), (.ref x1), (.ref x2), (.ref x3)] .null) (Ex : Exa Z h0 x3 "java/lang/Integer") (Fx : Fld Z h0 x3 "java/lang/Integer" "value" "I" (.int z1)) (H : ¬ (p1 < (3 : Int32))) :
    MetFree l mth35 (head1 (Jvm.Cond.code mth35 prog_32_method_4_code 2 (some .int) :: ws) rom41) (fun a U => a = #[(.ref a1), (.int p1)] ∧ Z.Warmed39 U.vm ∧ U.heap = h0) (fun _ _ _ _ _ => True) (fun _ U o U' => ∃ v L, o = .returned v ∧ Q_vp4_3 Z a1 p1 r z1 b1 k1 x0 x1 x2 x3 h0 n0 v U'.heap L ∧ FrameEnd U o U' L rom41.cells rom41.slots) := by
  refine MetFree.of_bodySF (plainFor_of_name pnm13) hisR ?_
  intro p e s m args below meth c s₁ Bd hml0 hP hK
  obtain ⟨rfl, hZ, hh⟩ := hP
  have hx := Bd.exec
  have hby := Bd.bytes
  have hml : c.maxLocals = 2 := hml0
  have hown : s.vm.findClass "com/example/planwright/planwright/model/VestingProvisions" = some m.cls := findClass_of_methodNamed Bd.named
  have hnm := (name_of_methodNamed Bd.named Bd.method).1
  have X0 : Stand p l e rom41 s m #[(.ref a1), (.int p1)] below meth c s₁ [] 0 0 := Stand.of_body Bd
  have eh0 : s₁.heap = h0 := by rw [← hh, Bd.state]; rfl
  have N0 := Fr.nil n0
  have tw6 := hw _ (List.mem_of_getElem? (i := 6) rfl)
  have tw7 := hw _ (List.mem_of_getElem? (i := 7) rfl)
  have tw8 := hw _ (List.mem_of_getElem? (i := 8) rfl)
  have tw40 := hw _ (List.mem_of_getElem? (i := 40) rfl)
  have tw147 := hw _ (List.mem_of_getElem? (i := 147) rfl)
  have tw170 := hw _ (List.mem_of_getElem? (i := 170) rfl)
  have tw177 := hw _ (List.mem_of_getElem? (i := 177) rfl)
  have tw178 := hw _ (List.mem_of_getElem? (i := 178) rfl)
  have tw179 := hw _ (List.mem_of_getElem? (i := 179) rfl)
  have tw180 := hw _ (List.mem_of_getElem? (i := 180) rfl)
  have tw181 := hw _ (List.mem_of_getElem? (i := 181) rfl)
  have tw182 := hw _ (List.mem_of_getElem? (i := 182) rfl)
  have tw183 := hw _ (List.mem_of_getElem? (i := 183) rfl)
  have tw184 := hw _ (List.mem_of_getElem? (i := 184) rfl)
  have tw185 := hw _ (List.mem_of_getElem? (i := 185) rfl)
  have tw186 := hw _ (List.mem_of_getElem? (i := 186) rfl)
  have tw187 := hw _ (List.mem_of_getElem? (i := 187) rfl)
  have tw188 := hw _ (List.mem_of_getElem? (i := 188) rfl)
  have tw189 := hw _ (List.mem_of_getElem? (i := 189) rfl)
  have tw190 := hw _ (List.mem_of_getElem? (i := 190) rfl)
  have tw191 := hw _ (List.mem_of_getElem? (i := 191) rfl)
  have tw192 := hw _ (List.mem_of_getElem? (i := 192) rfl)
  have tw193 := hw _ (List.mem_of_getElem? (i := 193) rfl)
  have tw194 := hw _ (List.mem_of_getElem? (i := 194) rfl)
  have tw195 := hw _ (List.mem_of_getElem? (i := 195) rfl)
  have tw197 := hw _ (List.mem_of_getElem? (i := 197) rfl)
  have tw198 := hw _ (List.mem_of_getElem? (i := 198) rfl)
  have tw199 := hw _ (List.mem_of_getElem? (i := 199) rfl)
  have tw200 := hw _ (List.mem_of_getElem? (i := 200) rfl)
  have tw201 := hw _ (List.mem_of_getElem? (i := 201) rfl)
  show Goes p e below (Pq (Q_vp4_3 Z a1 p1 r z1 b1 k1 x0 x1 x2 x3 h0 n0) s rom41.cells rom41.slots) (s₁.setTop (entryFrame m #[(.ref a1), (.int p1)] 2))
  refine Goes.step (S' := s₁.setTop (mkF m 0 #[.val (.ref a1), .val (.int p1)] [])) (fun t k => castTop (ef_vp4_3 m a1 p1) k) ?_
  refine Goes.step (S' := s₁.setTop (mkF m 19 #[.val (.ref a1), .val (.int p1)] [(.ref a1)])) (fun t k => XS.iloadN X0.here hx rfl (hb hby dk291) rfl (XS.ifYes X0.here hx rfl (pc0 := 1) (pc' := 18) rfl (hb hby dk292) rfl ((if0 _ _).trans (flt ((by have z101_0 := H; have z101_1 := rng32 p1; (try simp only [Int32.lt_iff_toInt_lt, Int64.lt_iff_toInt_lt, ne_eq, ← Int32.toInt_inj, ← Int64.toInt_inj, Int32.reduceToInt, Int64.reduceToInt, Nat.reducePow] at z101_0 z101_1 ⊢); try omega) : ¬ (p1 < (0 : Int32)))).2.1) (by decide) (by decide) (XS.aloadN X0.here hx rfl (hb hby dk293) rfl rfl k))) ?_
  obtain ⟨T102, X102, e102, st102⟩ := getF X0 hx hZ hown (host := "") (Or.inl tw170) Via.refl eh0 Fv (g := (mkF m 19 #[.val (.ref a1), .val (.int p1)] [(.ref a1)])) rfl rfl (hb hby dk294)
  refine Goes.step (S' := T102.setTop (mkF m 24 #[.val (.ref a1), .val (.int p1)] [(.ref a1), (.int p1), (.ref r)])) (fun t k => st102 _ (XS.iloadN X102.here hx rfl (hb hby dk295) rfl (XS.aloadN X102.here hx rfl (hb hby dk296) rfl rfl k))) ?_
  obtain ⟨T103, X103, e103, st103⟩ := getF X102 hx hZ hown (host := "") (Or.inl tw170) Via.refl e102 Fv (g := (mkF m 24 #[.val (.ref a1), .val (.int p1)] [(.ref a1), (.int p1), (.ref r)])) rfl rfl (hb hby dk297)
  refine Goes.step (S' := T103.setTop (mkF m 27 #[.val (.ref a1), .val (.int p1)] [(.ref r), (.int p1), (.ref r)])) (fun t k => st103 _ k) ?_
  obtain ⟨cq104, kq104, q104a, q104b, q104c⟩ := isOf hZ e103 Er
  obtain ⟨_, _, ⟨T104, L104, k104, n104⟩, -, X104, ⟨Lc104, hQ104, l104, y104, z104⟩, st104⟩ := X103.interfaceBack hx (xi := mth33) (y := mth30) hown (mvT hZ tw177) (mvT hZ tw178) (mvT hZ tw179) (mvT hZ tw180) (mvT hZ tw181) (mvT hZ tw182) (mvT hZ tw183) (mvT hZ tw184) (by decide) (backOf (W := 2) (siz4 l Z a0 hw [] r b1 k1 x0 x1 x2 x3 h0 n0 Z0 Fn V1) hZ tw185 tw147 (by decide) (by decide)) q104a q104b q104c (g := (mkF m 27 #[.val (.ref a1), .val (.int p1)] [(.ref r), (.int p1), (.ref r)])) rfl (by rw [hml]; rfl) (Steps.refl _) (argsL := []) (rest := [(.int p1), (.ref r)]) (lenOf pd_I rfl) rfl (Nat.le_of_eq rfl) (hb hby dk298) (fun _ _ => ⟨rfl, e103, (by decide : 0 + 0 ≤ _), (by decide : 0 + 0 ≤ _)⟩)
  dsimp only [Pt.U, Pt.locs, Pt.cells, Pt.slots] at X104 l104 y104 z104 st104 hQ104
  subst y104 z104
  obtain ⟨rfl, Nq104, q104_0⟩ := hQ104
  have N104 : Fr n0 L104 := by rw [l104]; exact Fr.app N0 Nq104
  refine Goes.step (S' := T104.setTop (mkF m 34 #[.val (.ref a1), .val (.int p1)] [(.int ((4 : Int32) - (1 : Int32))), (.int p1), (.ref r)])) (fun t k => st104.trans (XS.iconst X104.here hx rfl (hb hby dk299) (XS.isub X104.here hx rfl (hb hby dk300) rfl k))) ?_
  rw [show ((4 : Int32) - (1 : Int32)) = (3 : Int32) from by decide]
  by_cases hc105 : (3 : Int32) < p1
  case pos =>
    obtain ⟨_, _, ⟨T106, L106, k106, n106⟩, -, X106, ⟨Lc106, hQ106, l106, y106, z106⟩, st106⟩ := Jvm.LawKit.callS X104 hx (y := mth1) hown (mvT hZ tw186) (mvT hZ tw6) (mvT hZ tw7) (mvT hZ tw8) (by decide) (backOf (W := 1) (mn1 l Z a0 hw [] p1 (3 : Int32) h0 n0 Z0 (hc105 : (3 : Int32) < p1)) hZ tw8 tw7 (by decide) (by decide)) (g := (mkF m 34 #[.val (.ref a1), .val (.int p1)] [(.int (3 : Int32)), (.int p1), (.ref r)])) rfl (by rw [hml]; rfl) (argsL := [(.int p1), (.int (3 : Int32))]) (rest := [(.ref r)]) (lenOf pd_II_I rfl) rfl (Nat.le_of_eq rfl) (hb hby dk301) (fun _ _ => ⟨rfl, q104_0, (by decide : 0 + 0 ≤ _), (by decide : 0 + 0 ≤ _)⟩)
    dsimp only [Pt.U, Pt.locs, Pt.cells, Pt.slots] at X106 l106 y106 z106 st106 hQ106
    subst y106 z106
    obtain ⟨rfl, Nq106, q106_0⟩ := hQ106
    have N106 : Fr n0 L106 := by rw [l106]; exact Fr.app N104 Nq106
    refine Goes.step (S' := T106.setTop (mkF m 37 #[.val (.ref a1), .val (.int p1)] [(.int (3 : Int32)), (.ref r)])) (fun t k => st106 _ k) ?_
    obtain ⟨cq107, kq107, q107a, q107b, q107c⟩ := isOf hZ q106_0 Er
    obtain ⟨_, _, ⟨T107, L107, k107, n107⟩, -, X107, ⟨Lc107, hQ107, l107, y107, z107⟩, st107⟩ := X106.interfaceBack hx (xi := mth34) (y := mth31) hown (mvT hZ tw187) (mvT hZ tw188) (mvT hZ tw189) (mvT hZ tw190) (mvT hZ tw191) (mvT hZ tw192) (mvT hZ tw193) (mvT hZ tw184) (by decide) (backOf (W := 0) (get4_3 l Z a0 hw [] r b1 k1 x0 x1 x2 x3 h0 n0 Z0 Fn V1) hZ tw194 tw147 (by decide) (by decide)) q107a q107b q107c (g := (mkF m 37 #[.val (.ref a1), .val (.int p1)] [(.int (3 : Int32)), (.ref r)])) rfl (by rw [hml]; rfl) (Steps.refl _) (argsL := [(.int (3 : Int32))]) (rest := []) (lenOf pd_I_Ljava_lang_Object rfl) rfl (Nat.le_of_eq rfl) (hb hby dk302) (fun _ _ => ⟨rfl, q106_0, (by decide : 0 + 0 ≤ _), (by decide : 0 + 0 ≤ _)⟩)
    dsimp only [Pt.U, Pt.locs, Pt.cells, Pt.slots] at X107 l107 y107 z107 st107 hQ107
    subst y107 z107
    obtain ⟨rfl, Nq107, q107_0⟩ := hQ107
    have N107 : Fr n0 L107 := by rw [l107]; exact Fr.app N106 Nq107
    refine Goes.step (S' := T107.setTop (mkF m 42 #[.val (.ref a1), .val (.int p1)] [(.ref x3)])) (fun t k => st107.trans k) ?_
    obtain ⟨T108, X108, e108, st108⟩ := castY X107 hx hZ hown tw195 q107_0 (Ins.self Ex) (g := (mkF m 42 #[.val (.ref a1), .val (.int p1)] [(.ref x3)])) rfl rfl (hb hby dk303)
    refine Goes.step (S' := T108.setTop (mkF m 45 #[.val (.ref a1), .val (.int p1)] [(.ref x3)])) (fun t k => st108 _ k) ?_
    obtain ⟨cq109, kq109, q109a, q109b, q109c⟩ := isOf hZ e108 Ex
    obtain ⟨_, _, ⟨T109, L109, k109, n109⟩, -, X109, ⟨Lc109, hQ109, l109, y109, z109⟩, st109⟩ := X108.virtualBack hx (y := mth32) (z := mth32) hown (mvT hZ tw197) (mvT hZ tw198) (notFace_of_selects (args := #[]) (mvT hZ tw200)) (mvT hZ tw200) (mvT hZ tw199) (by decide) (backOf (W := 0) (ival l Z a0 hw [] x3 z1 h0 n0 Z0 Fx) hZ tw201 tw40 (by decide) (by decide)) q109a q109c (g := (mkF m 45 #[.val (.ref a1), .val (.int p1)] [(.ref x3)])) rfl (by rw [hml]; rfl) (Steps.refl _) (argsL := []) (rest := []) (lenOf pd_I rfl) rfl (Nat.le_of_eq rfl) (hb hby dk304) (fun _ _ => ⟨rfl, e108, (by decide : 0 + 0 ≤ _), (by decide : 0 + 0 ≤ _)⟩)
    dsimp only [Pt.U, Pt.locs, Pt.cells, Pt.slots] at X109 l109 y109 z109 st109 hQ109
    subst y109 z109
    obtain ⟨rfl, Nq109, q109_0⟩ := hQ109
    have N109 : Fr n0 L109 := by rw [l109]; exact Fr.app N107 Nq109
    refine Goes.step (S' := T109.setTop (mkF m 48 #[.val (.ref a1), .val (.int p1)] [(.int z1)])) (fun t k => st109.trans k) ?_
    refine Goes.leave (g := (mkF m 48 #[.val (.ref a1), .val (.int p1)] [(.int z1)])) X109 Bd.notSynchronized (v := (some (.int z1))) (fun h => by rw [Bd.returns] at h; cases h) (fun fs hr => retI X109 hx Bd.returns (hb hby dk305) hr) q109_0 ?_ (by decide) (by decide)
    exact ⟨rfl, N109, rfl⟩
  case neg =>
    have hc110 : p1 = (3 : Int32) := (by have z111_0 := H; have z111_1 := hc105; have z111_2 := rng32 p1; (try simp only [Int32.lt_iff_toInt_lt, Int64.lt_iff_toInt_lt, ne_eq, ← Int32.toInt_inj, ← Int64.toInt_inj, Int32.reduceToInt, Int64.reduceToInt, Nat.reducePow] at z111_0 z111_1 z111_2 ⊢); try omega)
    subst hc110
    obtain ⟨_, _, ⟨T112, L112, k112, n112⟩, -, X112, ⟨Lc112, hQ112, l112, y112, z112⟩, st112⟩ := Jvm.LawKit.callS X104 hx (y := mth1) hown (mvT hZ tw186) (mvT hZ tw6) (mvT hZ tw7) (mvT hZ tw8) (by decide) (backOf (W := 1) (mn0 l Z a0 hw [] (3 : Int32) (3 : Int32) h0 n0 Z0 ((by decide) : ¬ ((3 : Int32) < (3 : Int32)))) hZ tw8 tw7 (by decide) (by decide)) (g := (mkF m 34 #[.val (.ref a1), .val (.int (3 : Int32))] [(.int (3 : Int32)), (.int (3 : Int32)), (.ref r)])) rfl (by rw [hml]; rfl) (argsL := [(.int (3 : Int32)), (.int (3 : Int32))]) (rest := [(.ref r)]) (lenOf pd_II_I rfl) rfl (Nat.le_of_eq rfl) (hb hby dk301) (fun _ _ => ⟨rfl, q104_0, (by decide : 0 + 0 ≤ _), (by decide : 0 + 0 ≤ _)⟩)
    dsimp only [Pt.U, Pt.locs, Pt.cells, Pt.slots] at X112 l112 y112 z112 st112 hQ112
    subst y112 z112
    obtain ⟨rfl, Nq112, q112_0⟩ := hQ112
    have N112 : Fr n0 L112 := by rw [l112]; exact Fr.app N104 Nq112
    refine Goes.step (S' := T112.setTop (mkF m 37 #[.val (.ref a1), .val (.int (3 : Int32))] [(.int (3 : Int32)), (.ref r)])) (fun t k => st112 _ k) ?_
    obtain ⟨cq113, kq113, q113a, q113b, q113c⟩ := isOf hZ q112_0 Er
    obtain ⟨_, _, ⟨T113, L113, k113, n113⟩, -, X113, ⟨Lc113, hQ113, l113, y113, z113⟩, st113⟩ := X112.interfaceBack hx (xi := mth34) (y := mth31) hown (mvT hZ tw187) (mvT hZ tw188) (mvT hZ tw189) (mvT hZ tw190) (mvT hZ tw191) (mvT hZ tw192) (mvT hZ tw193) (mvT hZ tw184) (by decide) (backOf (W := 0) (get4_3 l Z a0 hw [] r b1 k1 x0 x1 x2 x3 h0 n0 Z0 Fn V1) hZ tw194 tw147 (by decide) (by decide)) q113a q113b q113c (g := (mkF m 37 #[.val (.ref a1), .val (.int (3 : Int32))] [(.int (3 : Int32)), (.ref r)])) rfl (by rw [hml]; rfl) (Steps.refl _) (argsL := [(.int (3 : Int32))]) (rest := []) (lenOf pd_I_Ljava_lang_Object rfl) rfl (Nat.le_of_eq rfl) (hb hby dk302) (fun _ _ => ⟨rfl, q112_0, (by decide : 0 + 0 ≤ _), (by decide : 0 + 0 ≤ _)⟩)
    dsimp only [Pt.U, Pt.locs, Pt.cells, Pt.slots] at X113 l113 y113 z113 st113 hQ113
    subst y113 z113
    obtain ⟨rfl, Nq113, q113_0⟩ := hQ113
    have N113 : Fr n0 L113 := by rw [l113]; exact Fr.app N112 Nq113
    refine Goes.step (S' := T113.setTop (mkF m 42 #[.val (.ref a1), .val (.int (3 : Int32))] [(.ref x3)])) (fun t k => st113.trans k) ?_
    obtain ⟨T114, X114, e114, st114⟩ := castY X113 hx hZ hown tw195 q113_0 (Ins.self Ex) (g := (mkF m 42 #[.val (.ref a1), .val (.int (3 : Int32))] [(.ref x3)])) rfl rfl (hb hby dk303)
    refine Goes.step (S' := T114.setTop (mkF m 45 #[.val (.ref a1), .val (.int (3 : Int32))] [(.ref x3)])) (fun t k => st114 _ k) ?_
    obtain ⟨cq115, kq115, q115a, q115b, q115c⟩ := isOf hZ e114 Ex
    obtain ⟨_, _, ⟨T115, L115, k115, n115⟩, -, X115, ⟨Lc115, hQ115, l115, y115, z115⟩, st115⟩ := X114.virtualBack hx (y := mth32) (z := mth32) hown (mvT hZ tw197) (mvT hZ tw198) (notFace_of_selects (args := #[]) (mvT hZ tw200)) (mvT hZ tw200) (mvT hZ tw199) (by decide) (backOf (W := 0) (ival l Z a0 hw [] x3 z1 h0 n0 Z0 Fx) hZ tw201 tw40 (by decide) (by decide)) q115a q115c (g := (mkF m 45 #[.val (.ref a1), .val (.int (3 : Int32))] [(.ref x3)])) rfl (by rw [hml]; rfl) (Steps.refl _) (argsL := []) (rest := []) (lenOf pd_I rfl) rfl (Nat.le_of_eq rfl) (hb hby dk304) (fun _ _ => ⟨rfl, e114, (by decide : 0 + 0 ≤ _), (by decide : 0 + 0 ≤ _)⟩)
    dsimp only [Pt.U, Pt.locs, Pt.cells, Pt.slots] at X115 l115 y115 z115 st115 hQ115
    subst y115 z115
    obtain ⟨rfl, Nq115, q115_0⟩ := hQ115
    have N115 : Fr n0 L115 := by rw [l115]; exact Fr.app N113 Nq115
    refine Goes.step (S' := T115.setTop (mkF m 48 #[.val (.ref a1), .val (.int (3 : Int32))] [(.int z1)])) (fun t k => st115.trans k) ?_
    refine Goes.leave (g := (mkF m 48 #[.val (.ref a1), .val (.int (3 : Int32))] [(.int z1)])) X115 Bd.notSynchronized (v := (some (.int z1))) (fun h => by rw [Bd.returns] at h; cases h) (fun fs hr => retI X115 hx Bd.returns (hb hby dk305) hr) q115_0 ?_ (by decide) (by decide)
    exact ⟨rfl, N115, rfl⟩

theorem ef_law (m : MethodId) (x0 : Int32) (x1 : Int32) (x2 : Int32) (x3 : Int32) (x4 : Int32) : entryFrame m #[(.int x0), (.int x1), (.int x2), (.int x3), (.int x4)] maxLocals = mkF m 0 #[.val (.int x0), .val (.int x1), .val (.int x2), .val (.int x3), .val (.int x4), .unset, .unset, .unset, .unset, .unset, .unset, .unset, .unset, .unset, .unset, .unset] [] := by first | (simp [entryFrame, mkF, argsToLocals, Value.category, maxLocals]; done) | rfl
def Q_law (Z : State) (p0 : Int32) (p1 : Int32) (p2 : Int32) (p3 : Int32) (p4 : Int32) (da : Addr) (kd : ClassId) (ca : Addr) (clc : Cell) (em : Addr) (mr : Addr) (h0 : Heap) (n0 : Nat) (v : Option Value) (h : Heap) (L : List Loc) : Prop := v = some (.int (1 : Int32)) ∧ Fr n0 L
set_option maxRecDepth 65536 in
set_option maxHeartbeats 40000000 in
theorem law (l : Launch) (Z : State) (a0 : Array Value) (hw : ∀ d ∈ tables_1, d.before a0 Z = true) (ws : List Jvm.Cond) (p0 : Int32) (p1 : Int32) (p2 : Int32) (p3 : Int32) (p4 : Int32) (da : Addr) (kd : ClassId) (ca : Addr) (clc : Cell) (em : Addr) (mr : Addr) (h0 : Heap) (n0 : Nat) (Z0 : n0 ≤ h0.size) (SD : Sta Z h0 "java/util/ArrayList" "DEFAULTCAPACITY_EMPTY_ELEMENTDATA" "[Ljava/lang/Object;" (.ref da)) (VD : Arv Z h0 da kd (.object "java/lang/Object") (0 : Int32) [] .null) (SH : Sta Z h0 "java/lang/Integer$IntegerCache" "high" "I" (.int (127 : Int32))) (SC : Sta Z h0 "java/lang/Integer$IntegerCache" "cache" "[Ljava/lang/Integer;" (.ref ca)) (BX : Bxs Z ca clc "java/lang/Integer" "I" (256 : Int32) own_cv) (OLD : Old Z n0 h0) (SE : Sta Z h0 "java/util/ImmutableCollections" "EMPTY" "Ljava/lang/Object;" (.ref em)) (EE : Exa Z h0 em "java/lang/Object") (MI : MirO Z "[Ljava/lang/Object;" mr) :
    MetFree l x (head1 (Jvm.Cond.code x code maxLocals ret :: ws) room_1) (fun a U => a = #[(.int p0), (.int p1), (.int p2), (.int p3), (.int p4)] ∧ Z.Warmed39 U.vm ∧ U.heap = h0) (fun _ _ _ _ _ => True) (fun _ U o U' => ∃ v L, o = .returned v ∧ Q_law Z p0 p1 p2 p3 p4 da kd ca clc em mr h0 n0 v U'.heap L ∧ FrameEnd U o U' L room_1.cells room_1.slots) := by
  refine MetFree.of_bodySF (plainFor_of_name pnm0) hisR ?_
  intro p e s m args below meth c s₁ Bd hml0 hP hK
  obtain ⟨rfl, hZ, hh⟩ := hP
  have hx := Bd.exec
  have hby := Bd.bytes
  have hml : c.maxLocals = 16 := hml0
  have hown : s.vm.findClass "com/example/planwright/planwright/model/VestingProvisionsVestedPercentPinLaw" = some m.cls := findClass_of_methodNamed Bd.named
  have hnm := (name_of_methodNamed Bd.named Bd.method).1
  have X0 : Stand p l e room_1 s m #[(.int p0), (.int p1), (.int p2), (.int p3), (.int p4)] below meth c s₁ [] 0 0 := Stand.of_body Bd
  have eh0 : s₁.heap = h0 := by rw [← hh, Bd.state]; rfl
  have N0 := Fr.nil n0
  have tw0 := hw _ (List.mem_of_getElem? (i := 0) rfl)
  have tw1 := hw _ (List.mem_of_getElem? (i := 1) rfl)
  have tw2 := hw _ (List.mem_of_getElem? (i := 2) rfl)
  have tw3 := hw _ (List.mem_of_getElem? (i := 3) rfl)
  have tw4 := hw _ (List.mem_of_getElem? (i := 4) rfl)
  have tw7 := hw _ (List.mem_of_getElem? (i := 7) rfl)
  have tw9 := hw _ (List.mem_of_getElem? (i := 9) rfl)
  have tw10 := hw _ (List.mem_of_getElem? (i := 10) rfl)
  have tw11 := hw _ (List.mem_of_getElem? (i := 11) rfl)
  have tw12 := hw _ (List.mem_of_getElem? (i := 12) rfl)
  have tw13 := hw _ (List.mem_of_getElem? (i := 13) rfl)
  have tw14 := hw _ (List.mem_of_getElem? (i := 14) rfl)
  have tw15 := hw _ (List.mem_of_getElem? (i := 15) rfl)
  have tw16 := hw _ (List.mem_of_getElem? (i := 16) rfl)
  have tw17 := hw _ (List.mem_of_getElem? (i := 17) rfl)
  have tw34 := hw _ (List.mem_of_getElem? (i := 34) rfl)
  have tw37 := hw _ (List.mem_of_getElem? (i := 37) rfl)
  have tw38 := hw _ (List.mem_of_getElem? (i := 38) rfl)
  have tw39 := hw _ (List.mem_of_getElem? (i := 39) rfl)
  have tw40 := hw _ (List.mem_of_getElem? (i := 40) rfl)
  have tw41 := hw _ (List.mem_of_getElem? (i := 41) rfl)
  have tw45 := hw _ (List.mem_of_getElem? (i := 45) rfl)
  have tw46 := hw _ (List.mem_of_getElem? (i := 46) rfl)
  have tw47 := hw _ (List.mem_of_getElem? (i := 47) rfl)
  have tw48 := hw _ (List.mem_of_getElem? (i := 48) rfl)
  have tw49 := hw _ (List.mem_of_getElem? (i := 49) rfl)
  have tw53 := hw _ (List.mem_of_getElem? (i := 53) rfl)
  have tw73 := hw _ (List.mem_of_getElem? (i := 73) rfl)
  have tw74 := hw _ (List.mem_of_getElem? (i := 74) rfl)
  have tw75 := hw _ (List.mem_of_getElem? (i := 75) rfl)
  have tw76 := hw _ (List.mem_of_getElem? (i := 76) rfl)
  have tw77 := hw _ (List.mem_of_getElem? (i := 77) rfl)
  have tw78 := hw _ (List.mem_of_getElem? (i := 78) rfl)
  have tw81 := hw _ (List.mem_of_getElem? (i := 81) rfl)
  have tw83 := hw _ (List.mem_of_getElem? (i := 83) rfl)
  have tw171 := hw _ (List.mem_of_getElem? (i := 171) rfl)
  have tw172 := hw _ (List.mem_of_getElem? (i := 172) rfl)
  have tw173 := hw _ (List.mem_of_getElem? (i := 173) rfl)
  have tw174 := hw _ (List.mem_of_getElem? (i := 174) rfl)
  have tw175 := hw _ (List.mem_of_getElem? (i := 175) rfl)
  have tw176 := hw _ (List.mem_of_getElem? (i := 176) rfl)
  show Goes p e below (Pq (Q_law Z p0 p1 p2 p3 p4 da kd ca clc em mr h0 n0) s room_1.cells room_1.slots) (s₁.setTop (entryFrame m #[(.int p0), (.int p1), (.int p2), (.int p3), (.int p4)] maxLocals))
  refine Goes.step (S' := s₁.setTop (mkF m 0 #[.val (.int p0), .val (.int p1), .val (.int p2), .val (.int p3), .val (.int p4), .unset, .unset, .unset, .unset, .unset, .unset, .unset, .unset, .unset, .unset, .unset] [])) (fun t k => castTop (ef_law m p0 p1 p2 p3 p4) k) ?_
  have s1 : ∀ (s6 : Slot) (i7 : Int32) (Ts1 : State) (locss1 : List Loc)  (Xs1 : Stand p l e room_1 s m #[(.int p0), (.int p1), (.int p2), (.int p3), (.int p4)] below meth c Ts1 locss1 0 0) (es1 : Ts1.heap = h0) (Ns1 : Fr n0 locss1) (Hy : ¬ (i7 < (0 : Int32))), Goes p e below (Pq (Q_law Z p0 p1 p2 p3 p4 da kd ca clc em mr h0 n0) s room_1.cells room_1.slots) (Ts1.setTop (mkF m 40 #[.val (.int p0), .val (.int p1), .val (.int p2), .val (.int p3), .val (.int p4), .val (.int (1 : Int32)), s6, .val (.int i7), .unset, .unset, .unset, .unset, .unset, .unset, .unset, .unset] [])) := by
    intro s6 i7 Ts1 locss1 Xs1 es1 Ns1 Hy
    refine Goes.step (S' := Ts1.setTop (mkF m 41 #[.val (.int p0), .val (.int p1), .val (.int p2), .val (.int p3), .val (.int p4), .val (.int (1 : Int32)), s6, .val (.int i7), .unset, .unset, .unset, .unset, .unset, .unset, .unset, .unset] [(.int p2)])) (fun t k => XS.iloadN Xs1.here hx rfl (hb hby at_40) rfl k) ?_
    obtain ⟨_, _, ⟨T101, L101, k101, n101⟩, -, X101, ⟨Lc101, hQ101, l101, y101, z101⟩, st101⟩ := Jvm.LawKit.callS Xs1 hx (y := mth2) hown (mvT hZ tw1) (mvT hZ tw2) (mvT hZ tw3) (mvT hZ tw4) (by decide) (backOf (W := 0) (pct l Z a0 hw [] p2 h0 n0 Z0 ) hZ tw4 tw3 (by decide) (by decide)) (g := (mkF m 41 #[.val (.int p0), .val (.int p1), .val (.int p2), .val (.int p3), .val (.int p4), .val (.int (1 : Int32)), s6, .val (.int i7), .unset, .unset, .unset, .unset, .unset, .unset, .unset, .unset] [(.int p2)])) rfl (by rw [hml]; rfl) (argsL := [(.int p2)]) (rest := []) (lenOf pd_I_I rfl) rfl (Nat.le_of_eq rfl) (hb hby at_41) (fun _ _ => ⟨rfl, es1, (by decide : 0 + 0 ≤ _), (by decide : 0 + 0 ≤ _)⟩)
    dsimp only [Pt.U, Pt.locs, Pt.cells, Pt.slots] at X101 l101 y101 z101 st101 hQ101
    subst y101 z101
    obtain ⟨r_101, rfl, Nq101, q101_0, q101_1, q101_2⟩ := hQ101
    have N101 : Fr n0 L101 := by rw [l101]; exact Fr.app Ns1 Nq101
    refine Goes.step (S' := T101.setTop (mkF m 49 #[.val (.int p0), .val (.int p1), .val (.int p2), .val (.int p3), .val (.int p4), .val (.int (1 : Int32)), s6, .val (.int i7), .val (.int r_101), .unset, .unset, .unset, .unset, .unset, .unset, .unset] [(.int p3), (.int r_101)])) (fun t k => st101 _ (XS.istore X101.here hx rfl (hb hby at_44) rfl (l' := #[.val (.int p0), .val (.int p1), .val (.int p2), .val (.int p3), .val (.int p4), .val (.int (1 : Int32)), s6, .val (.int i7), .val (.int r_101), .unset, .unset, .unset, .unset, .unset, .unset, .unset]) rfl (XS.iload X101.here hx rfl (hb hby at_46) rfl (XS.iloadN X101.here hx rfl (hb hby at_48) rfl k)))) ?_
    obtain ⟨_, _, ⟨T102, L102, k102, n102⟩, -, X102, ⟨Lc102, hQ102, l102, y102, z102⟩, st102⟩ := Jvm.LawKit.callS X101 hx (y := mth2) hown (mvT hZ tw1) (mvT hZ tw2) (mvT hZ tw3) (mvT hZ tw4) (by decide) (backOf (W := 1) (pct l Z a0 hw [] p3 h0 n0 Z0 ) hZ tw4 tw3 (by decide) (by decide)) (g := (mkF m 49 #[.val (.int p0), .val (.int p1), .val (.int p2), .val (.int p3), .val (.int p4), .val (.int (1 : Int32)), s6, .val (.int i7), .val (.int r_101), .unset, .unset, .unset, .unset, .unset, .unset, .unset] [(.int p3), (.int r_101)])) rfl (by rw [hml]; rfl) (argsL := [(.int p3)]) (rest := [(.int r_101)]) (lenOf pd_I_I rfl) rfl (Nat.le_of_eq rfl) (hb hby at_49) (fun _ _ => ⟨rfl, q101_0, (by decide : 0 + 0 ≤ _), (by decide : 0 + 0 ≤ _)⟩)
    dsimp only [Pt.U, Pt.locs, Pt.cells, Pt.slots] at X102 l102 y102 z102 st102 hQ102
    subst y102 z102
    obtain ⟨r_102, rfl, Nq102, q102_0, q102_1, q102_2⟩ := hQ102
    have N102 : Fr n0 L102 := by rw [l102]; exact Fr.app N101 Nq102
    refine Goes.step (S' := T102.setTop (mkF m 52 #[.val (.int p0), .val (.int p1), .val (.int p2), .val (.int p3), .val (.int p4), .val (.int (1 : Int32)), s6, .val (.int i7), .val (.int r_101), .unset, .unset, .unset, .unset, .unset, .unset, .unset] [(.int r_102), (.int r_101)])) (fun t k => st102 _ k) ?_
    obtain ⟨_, _, ⟨T103, L103, k103, n103⟩, -, X103, ⟨Lc103, hQ103, l103, y103, z103⟩, st103⟩ := Jvm.LawKit.callS X102 hx (y := mth0) hown (mvT hZ tw9) (mvT hZ tw10) (mvT hZ tw7) (mvT hZ tw11) (by decide) (backOf (W := 0) (mxr l Z a0 hw [] r_101 r_102 h0 n0 Z0 (q101_1 : ¬ (r_101 < (0 : Int32))) (q101_2 : ¬ ((100 : Int32) < r_101)) (q102_1 : ¬ (r_102 < (0 : Int32))) (q102_2 : ¬ ((100 : Int32) < r_102))) hZ tw11 tw7 (by decide) (by decide)) (g := (mkF m 52 #[.val (.int p0), .val (.int p1), .val (.int p2), .val (.int p3), .val (.int p4), .val (.int (1 : Int32)), s6, .val (.int i7), .val (.int r_101), .unset, .unset, .unset, .unset, .unset, .unset, .unset] [(.int r_102), (.int r_101)])) rfl (by rw [hml]; rfl) (argsL := [(.int r_101), (.int r_102)]) (rest := []) (lenOf pd_II_I rfl) rfl (Nat.le_of_eq rfl) (hb hby at_52) (fun _ _ => ⟨rfl, q102_0, (by decide : 0 + 0 ≤ _), (by decide : 0 + 0 ≤ _)⟩)
    dsimp only [Pt.U, Pt.locs, Pt.cells, Pt.slots] at X103 l103 y103 z103 st103 hQ103
    subst y103 z103
    obtain ⟨r_103, rfl, Nq103, q103_0, q103_1, q103_2⟩ := hQ103
    have N103 : Fr n0 L103 := by rw [l103]; exact Fr.app N102 Nq103
    refine Goes.step (S' := T103.setTop (mkF m 61 #[.val (.int p0), .val (.int p1), .val (.int p2), .val (.int p3), .val (.int p4), .val (.int (1 : Int32)), s6, .val (.int i7), .val (.int r_101), .val (.int r_103), .unset, .unset, .unset, .unset, .unset, .unset] [(.int p4), (.int r_103)])) (fun t k => st103 _ (XS.istore X103.here hx rfl (hb hby at_55) rfl (l' := #[.val (.int p0), .val (.int p1), .val (.int p2), .val (.int p3), .val (.int p4), .val (.int (1 : Int32)), s6, .val (.int i7), .val (.int r_101), .val (.int r_103), .unset, .unset, .unset, .unset, .unset, .unset]) rfl (XS.iload X103.here hx rfl (hb hby at_57) rfl (XS.iload X103.here hx rfl (hb hby at_59) rfl k)))) ?_
    obtain ⟨_, _, ⟨T104, L104, k104, n104⟩, -, X104, ⟨Lc104, hQ104, l104, y104, z104⟩, st104⟩ := Jvm.LawKit.callS X103 hx (y := mth2) hown (mvT hZ tw1) (mvT hZ tw2) (mvT hZ tw3) (mvT hZ tw4) (by decide) (backOf (W := 1) (pct l Z a0 hw [] p4 h0 n0 Z0 ) hZ tw4 tw3 (by decide) (by decide)) (g := (mkF m 61 #[.val (.int p0), .val (.int p1), .val (.int p2), .val (.int p3), .val (.int p4), .val (.int (1 : Int32)), s6, .val (.int i7), .val (.int r_101), .val (.int r_103), .unset, .unset, .unset, .unset, .unset, .unset] [(.int p4), (.int r_103)])) rfl (by rw [hml]; rfl) (argsL := [(.int p4)]) (rest := [(.int r_103)]) (lenOf pd_I_I rfl) rfl (Nat.le_of_eq rfl) (hb hby at_61) (fun _ _ => ⟨rfl, q103_0, (by decide : 0 + 0 ≤ _), (by decide : 0 + 0 ≤ _)⟩)
    dsimp only [Pt.U, Pt.locs, Pt.cells, Pt.slots] at X104 l104 y104 z104 st104 hQ104
    subst y104 z104
    obtain ⟨r_104, rfl, Nq104, q104_0, q104_1, q104_2⟩ := hQ104
    have N104 : Fr n0 L104 := by rw [l104]; exact Fr.app N103 Nq104
    refine Goes.step (S' := T104.setTop (mkF m 64 #[.val (.int p0), .val (.int p1), .val (.int p2), .val (.int p3), .val (.int p4), .val (.int (1 : Int32)), s6, .val (.int i7), .val (.int r_101), .val (.int r_103), .unset, .unset, .unset, .unset, .unset, .unset] [(.int r_104), (.int r_103)])) (fun t k => st104 _ k) ?_
    obtain ⟨_, _, ⟨T105, L105, k105, n105⟩, -, X105, ⟨Lc105, hQ105, l105, y105, z105⟩, st105⟩ := Jvm.LawKit.callS X104 hx (y := mth0) hown (mvT hZ tw9) (mvT hZ tw10) (mvT hZ tw7) (mvT hZ tw11) (by decide) (backOf (W := 0) (mxr l Z a0 hw [] r_103 r_104 h0 n0 Z0 (q103_1 : ¬ (r_103 < (0 : Int32))) (q103_2 : ¬ ((100 : Int32) < r_103)) (q104_1 : ¬ (r_104 < (0 : Int32))) (q104_2 : ¬ ((100 : Int32) < r_104))) hZ tw11 tw7 (by decide) (by decide)) (g := (mkF m 64 #[.val (.int p0), .val (.int p1), .val (.int p2), .val (.int p3), .val (.int p4), .val (.int (1 : Int32)), s6, .val (.int i7), .val (.int r_101), .val (.int r_103), .unset, .unset, .unset, .unset, .unset, .unset] [(.int r_104), (.int r_103)])) rfl (by rw [hml]; rfl) (argsL := [(.int r_103), (.int r_104)]) (rest := []) (lenOf pd_II_I rfl) rfl (Nat.le_of_eq rfl) (hb hby at_64) (fun _ _ => ⟨rfl, q104_0, (by decide : 0 + 0 ≤ _), (by decide : 0 + 0 ≤ _)⟩)
    dsimp only [Pt.U, Pt.locs, Pt.cells, Pt.slots] at X105 l105 y105 z105 st105 hQ105
    subst y105 z105
    obtain ⟨r_105, rfl, Nq105, q105_0, q105_1, q105_2⟩ := hQ105
    have N105 : Fr n0 L105 := by rw [l105]; exact Fr.app N104 Nq105
    refine Goes.step (S' := T105.setTop (mkF m 69 #[.val (.int p0), .val (.int p1), .val (.int p2), .val (.int p3), .val (.int p4), .val (.int (1 : Int32)), s6, .val (.int i7), .val (.int r_101), .val (.int r_103), .val (.int r_105), .unset, .unset, .unset, .unset, .unset] [])) (fun t k => st105 _ (XS.istore X105.here hx rfl (hb hby at_67) rfl (l' := #[.val (.int p0), .val (.int p1), .val (.int p2), .val (.int p3), .val (.int p4), .val (.int (1 : Int32)), s6, .val (.int i7), .val (.int r_101), .val (.int r_103), .val (.int r_105), .unset, .unset, .unset, .unset, .unset]) rfl k)) ?_
    obtain ⟨T106, h106, X106, e106, E106, A106, D106, U106, st106⟩ := newO X105 hx hZ hown tw12 tw13 tw14 q105_0 (g := (mkF m 69 #[.val (.int p0), .val (.int p1), .val (.int p2), .val (.int p3), .val (.int p4), .val (.int (1 : Int32)), s6, .val (.int i7), .val (.int r_101), .val (.int r_103), .val (.int r_105), .unset, .unset, .unset, .unset, .unset] [])) rfl (hb hby at_69) (by decide) (by decide)
    obtain ⟨b106, g106⟩ : ∃ z, z = h0.size := ⟨_, rfl⟩
    rw [← g106] at A106 D106 U106 st106
    have F106_modCount : Fld Z h106 b106 "java/util/AbstractList" "modCount" "I" (.int (0 : Int32)) := D106 (Or.inl tw34) (ty := .int) (by decide)
    have F106_elementData : Fld Z h106 b106 "java/util/ArrayList" "elementData" "[Ljava/lang/Object;" .null := D106 (Or.inl tw37) (ty := (.array (.object "java/lang/Object"))) (by decide)
    have F106_size : Fld Z h106 b106 "java/util/ArrayList" "size" "I" (.int (0 : Int32)) := D106 (Or.inl tw53) (ty := .int) (by decide)
    refine Goes.step (S' := T106.setTop (mkF m 73 #[.val (.int p0), .val (.int p1), .val (.int p2), .val (.int p3), .val (.int p4), .val (.int (1 : Int32)), s6, .val (.int i7), .val (.int r_101), .val (.int r_103), .val (.int r_105), .unset, .unset, .unset, .unset, .unset] [(.ref b106), (.ref b106)])) (fun t k => st106 _ (XS.dup X106.here hx rfl (hb hby at_72) rfl rfl k)) ?_
    obtain ⟨_, _, ⟨T107, L107, k107, n107⟩, -, X107, ⟨Lc107, hQ107, l107, y107, z107⟩, st107⟩ := X106.specialBack hx (y := mth6) rfl hown (mvT hZ tw15) (mvT hZ tw16) (mvT hZ tw17) (by decide) (backOf (W := 1) (arl l Z a0 hw [] b106 da h106 n0 (Nat.le_trans Z0 E106.1) A106 F106_modCount F106_elementData F106_size (Nat.le_trans Z0 (Nat.le_of_eq g106.symm)) (Sta.ext E106 SD)) hZ tw17 tw14 (by decide) (by decide)) (g := (mkF m 73 #[.val (.int p0), .val (.int p1), .val (.int p2), .val (.int p3), .val (.int p4), .val (.int (1 : Int32)), s6, .val (.int i7), .val (.int r_101), .val (.int r_103), .val (.int r_105), .unset, .unset, .unset, .unset, .unset] [(.ref b106), (.ref b106)])) rfl (by rw [hml]; rfl) (Steps.refl _) (a := b106) (argsL := []) (rest := [(.ref b106)]) (lenOf pd_V rfl) rfl (Nat.le_of_eq rfl) (hb hby at_73) (fun _ _ => ⟨rfl, e106, (by decide : 1 + 0 ≤ _), (by decide : 3 + 0 ≤ _)⟩)
    dsimp only [Pt.U, Pt.locs, Pt.cells, Pt.slots] at X107 l107 y107 z107 st107 hQ107
    subst y107 z107
    obtain ⟨rfl, Nq107, q107_0, q107_1, q107_2, q107_3, q107_4⟩ := hQ107
    have N107 : Fr n0 L107 := by rw [l107]; exact Fr.app N105 Nq107
    refine Goes.step (S' := T107.setTop (mkF m 88 #[.val (.int p0), .val (.int p1), .val (.int p2), .val (.int p3), .val (.int p4), .val (.int (1 : Int32)), s6, .val (.int i7), .val (.int r_101), .val (.int r_103), .val (.int r_105), .val (.ref b106), .unset, .unset, .unset, .unset] [(.int (100 : Int32)), (.ref b106)])) (fun t k => st107.trans (XS.astore X107.here hx rfl (hb hby at_76) rfl rfl (l' := #[.val (.int p0), .val (.int p1), .val (.int p2), .val (.int p3), .val (.int p4), .val (.int (1 : Int32)), s6, .val (.int i7), .val (.int r_101), .val (.int r_103), .val (.int r_105), .val (.ref b106), .unset, .unset, .unset, .unset]) rfl (XS.iload X107.here hx rfl (hb hby at_78) rfl (XS.iconst X107.here hx rfl (hb hby at_80) (XS.icmpNo X107.here hx rfl (hb hby at_81) rfl (teq ((by decide) : (1 : Int32) = (1 : Int32))).2 (XS.aload X107.here hx rfl (hb hby at_84) rfl rfl (XS.bipush X107.here hx rfl (hb hby at_86) k))))))) ?_
    obtain ⟨_, _, ⟨T108, L108, k108, n108⟩, -, X108, ⟨Lc108, hQ108, l108, y108, z108⟩, st108⟩ := Jvm.LawKit.callS X107 hx (y := mth3) hown (mvT hZ tw38) (mvT hZ tw39) (mvT hZ tw40) (mvT hZ tw41) (by decide) (backOf (W := 1) (vof l Z a0 hw [] (100 : Int32) ca clc T107.heap n0 (Nat.le_trans Z0 (Nat.le_trans E106.1 q107_0.1)) (own_stakeep (Sta.ext E106 SH) q107_0 (nsS A106.nostat ns0)) (own_stakeep (Sta.ext E106 SC) q107_0 (nsS A106.nostat ns0)) BX ((OLD.ext E106).keep q107_0 (allS (Nat.le_trans Z0 (Nat.le_of_eq g106.symm)) all0)) ((by decide) : ¬ ((100 : Int32) < (0 : Int32))) ((by decide) : ¬ ((100 : Int32) < (100 : Int32)))) hZ tw41 tw40 (by decide) (by decide)) (g := (mkF m 88 #[.val (.int p0), .val (.int p1), .val (.int p2), .val (.int p3), .val (.int p4), .val (.int (1 : Int32)), s6, .val (.int i7), .val (.int r_101), .val (.int r_103), .val (.int r_105), .val (.ref b106), .unset, .unset, .unset, .unset] [(.int (100 : Int32)), (.ref b106)])) rfl (by rw [hml]; rfl) (argsL := [(.int (100 : Int32))]) (rest := [(.ref b106)]) (lenOf pd_I_Ljava_lang_Integer rfl) rfl (Nat.le_of_eq rfl) (hb hby at_88) (fun _ _ => ⟨rfl, rfl, (by decide : 1 + 0 ≤ _), (by decide : 3 + 0 ≤ _)⟩)
    dsimp only [Pt.U, Pt.locs, Pt.cells, Pt.slots] at X108 l108 y108 z108 st108 hQ108
    subst y108 z108
    obtain ⟨b_108, rfl, Nq108, q108_0, q108_1, q108_2⟩ := hQ108
    have N108 : Fr n0 L108 := by rw [l108]; exact Fr.app N107 Nq108
    rw [q108_0] at q108_1 q108_2
    refine Goes.step (S' := T108.setTop (mkF m 91 #[.val (.int p0), .val (.int p1), .val (.int p2), .val (.int p3), .val (.int p4), .val (.int (1 : Int32)), s6, .val (.int i7), .val (.int r_101), .val (.int r_103), .val (.int r_105), .val (.ref b106), .unset, .unset, .unset, .unset] [(.ref b_108), (.ref b106)])) (fun t k => st108 _ k) ?_
    obtain ⟨cq109, kq109, q109a, q109b, q109c⟩ := isOf hZ q108_0 q107_1
    obtain ⟨_, _, ⟨T109, L109, k109, n109⟩, -, X109, ⟨Lc109, hQ109, l109, y109, z109⟩, st109⟩ := X108.virtualBack hx (y := mth10) (z := mth10) hown (mvT hZ tw45) (mvT hZ tw46) (notFace_of_selects (args := #[]) (mvT hZ tw48)) (mvT hZ tw48) (mvT hZ tw47) (by decide) (backOf (W := 0) (add0 l Z a0 hw [] b106 b_108 (0 : Int32) da kd T107.heap n0 (Nat.le_trans Z0 (Nat.le_trans E106.1 q107_0.1)) q107_1 q107_2 q107_3 q107_4 (Nat.le_trans Z0 (Nat.le_of_eq g106.symm)) (own_stakeep (Sta.ext E106 SD) q107_0 (nsS A106.nostat ns0)) ((VD.ext E106).keep q107_0 (ninS (Nat.ne_of_lt (Nat.lt_of_lt_of_le VD.lt (Nat.le_of_eq g106.symm))) nin0)) q108_1) hZ tw49 tw14 (by decide) (by decide)) q109a q109c (g := (mkF m 91 #[.val (.int p0), .val (.int p1), .val (.int p2), .val (.int p3), .val (.int p4), .val (.int (1 : Int32)), s6, .val (.int i7), .val (.int r_101), .val (.int r_103), .val (.int r_105), .val (.ref b106), .unset, .unset, .unset, .unset] [(.ref b_108), (.ref b106)])) rfl (by rw [hml]; rfl) (Steps.refl _) (argsL := [(.ref b_108)]) (rest := []) (lenOf pd_Ljava_lang_Object__Z rfl) rfl (Nat.le_of_eq rfl) (hb hby at_91) (fun _ _ => ⟨rfl, q108_0, (by decide : 1 + 1 ≤ _), (by decide : 3 + 10 ≤ _)⟩)
    dsimp only [Pt.U, Pt.locs, Pt.cells, Pt.slots] at X109 l109 y109 z109 st109 hQ109
    subst y109 z109
    obtain ⟨b_109, kb_109, rfl, Nq109, q109_0, q109_1, q109_2, q109_3, q109_4, q109_5, q109_6, q109_7, q109_8⟩ := hQ109
    have N109 : Fr n0 L109 := by rw [l109]; exact Fr.app N108 Nq109
    refine Goes.step (S' := T109.setTop (mkF m 215 #[.val (.int p0), .val (.int p1), .val (.int p2), .val (.int p3), .val (.int p4), .val (.int (1 : Int32)), s6, .val (.int i7), .val (.int r_101), .val (.int r_103), .val (.int r_105), .val (.ref b106), .unset, .unset, .unset, .unset] [])) (fun t k => st109.trans (XS.pop X109.here hx rfl (hb hby at_94) rfl rfl (XS.goto X109.here hx rfl (pc0 := 95) (pc' := 215) rfl (hb hby at_95) (by decide) (by decide) k))) ?_
    obtain ⟨T110, h110, X110, e110, E110, A110, D110, U110, st110⟩ := newO X109 hx hZ hown tw73 tw74 tw75 rfl (g := (mkF m 215 #[.val (.int p0), .val (.int p1), .val (.int p2), .val (.int p3), .val (.int p4), .val (.int (1 : Int32)), s6, .val (.int i7), .val (.int r_101), .val (.int r_103), .val (.int r_105), .val (.ref b106), .unset, .unset, .unset, .unset] [])) rfl (hb hby at_215) (by decide) (by decide)
    obtain ⟨b110, g110⟩ : ∃ z, z = T109.heap.size := ⟨_, rfl⟩
    rw [← g110] at A110 D110 U110 st110
    have F110_yearOfServiceHours : Fld Z h110 b110 "com/example/planwright/planwright/model/VestingProvisions" "yearOfServiceHours" "I" (.int (0 : Int32)) := D110 (Or.inr tw81) (ty := .int) (by decide)
    have F110_breakInServiceBelowHours : Fld Z h110 b110 "com/example/planwright/planwright/model/VestingProvisions" "breakInServiceBelowHours" "I" (.int (0 : Int32)) := D110 (Or.inr tw83) (ty := .int) (by decide)
    have F110_vestedPercentByYears : Fld Z h110 b110 "com/example/planwright/planwright/model/VestingProvisions" "vestedPercentByYears" "Ljava/util/List;" .null := D110 (Or.inr tw171) (ty := (.object "java/util/List")) (by decide)
    refine Goes.step (S' := T110.setTop (mkF m 227 #[.val (.int p0), .val (.int p1), .val (.int p2), .val (.int p3), .val (.int p4), .val (.int (1 : Int32)), s6, .val (.int i7), .val (.int r_101), .val (.int r_103), .val (.int r_105), .val (.ref b106), .unset, .unset, .unset, .unset] [(.ref b106), (.int (500 : Int32)), (.int (1000 : Int32)), (.ref b110), (.ref b110)])) (fun t k => st110 _ (XS.dup X110.here hx rfl (hb hby at_218) rfl rfl (XS.sipush X110.here hx rfl (hb hby at_219) (XS.sipush X110.here hx rfl (hb hby at_222) (XS.aload X110.here hx rfl (hb hby at_225) rfl rfl k))))) ?_
    obtain ⟨_, _, ⟨T111, L111, k111, n111⟩, -, X111, ⟨Lc111, hQ111, l111, y111, z111⟩, st111⟩ := X110.specialBack hx (y := mth26) rfl hown (mvT hZ tw76) (mvT hZ tw77) (mvT hZ tw78) (by decide) (backOf (W := 1) (vpi1 l Z a0 hw [] b110 (1000 : Int32) (500 : Int32) b106 b_109 kb_109 mr b_108 em h110 n0 (Nat.le_trans Z0 (Nat.le_trans (Nat.le_trans (Nat.le_trans E106.1 q107_0.1) q109_0.1) E110.1)) A110 F110_yearOfServiceHours F110_breakInServiceBelowHours F110_vestedPercentByYears (Nat.le_trans Z0 (Nat.le_trans (Nat.le_trans (Nat.le_trans E106.1 q107_0.1) q109_0.1) (Nat.le_of_eq g110.symm))) (Exa.ext E110 q109_2) (Fld.ext E110 q109_5) (Fld.ext E110 q109_6) (q109_7.ext E110) (Exa.ext E110 q109_3) (Exa.ext E110 (q108_1.keep q109_0)) (Sta.ext E110 (own_stakeep (own_stakeep (Sta.ext E106 SE) q107_0 (nsS A106.nostat ns0)) q109_0 (nsS q107_1.nostat ns0))) MI) hZ tw78 tw75 (by decide) (by decide)) (g := (mkF m 227 #[.val (.int p0), .val (.int p1), .val (.int p2), .val (.int p3), .val (.int p4), .val (.int (1 : Int32)), s6, .val (.int i7), .val (.int r_101), .val (.int r_103), .val (.int r_105), .val (.ref b106), .unset, .unset, .unset, .unset] [(.ref b106), (.int (500 : Int32)), (.int (1000 : Int32)), (.ref b110), (.ref b110)])) rfl (by rw [hml]; rfl) (Steps.refl _) (a := b110) (argsL := [(.int (1000 : Int32)), (.int (500 : Int32)), (.ref b106)]) (rest := [(.ref b110)]) (lenOf pd_IILjava_util_List__V rfl) rfl (Nat.le_of_eq rfl) (hb hby at_227) (fun _ _ => ⟨rfl, e110, (by decide : 3 + 2 ≤ _), (by decide : 16 + 3 ≤ _)⟩)
    dsimp only [Pt.U, Pt.locs, Pt.cells, Pt.slots] at X111 l111 y111 z111 st111 hQ111
    subst y111 z111
    obtain ⟨r_111, rfl, Nq111, q111_0, q111_1, q111_2, q111_3, q111_4, q111_5, q111_6⟩ := hQ111
    have N111 : Fr n0 L111 := by rw [l111]; exact Fr.app N109 Nq111
    refine Goes.step (S' := T111.setTop (mkF m 236 #[.val (.int p0), .val (.int p1), .val (.int p2), .val (.int p3), .val (.int p4), .val (.int (1 : Int32)), s6, .val (.int i7), .val (.int r_101), .val (.int r_103), .val (.int r_105), .val (.ref b106), .val (.ref b110), .unset, .unset, .unset] [(.int i7), (.ref b110)])) (fun t k => st111.trans (XS.astore X111.here hx rfl (hb hby at_230) rfl rfl (l' := #[.val (.int p0), .val (.int p1), .val (.int p2), .val (.int p3), .val (.int p4), .val (.int (1 : Int32)), s6, .val (.int i7), .val (.int r_101), .val (.int r_103), .val (.int r_105), .val (.ref b106), .val (.ref b110), .unset, .unset, .unset]) rfl (XS.aload X111.here hx rfl (hb hby at_232) rfl rfl (XS.iload X111.here hx rfl (hb hby at_234) rfl k)))) ?_
    obtain ⟨cq112, kq112, q112a, q112b, q112c⟩ := isOf hZ rfl q111_1
    obtain ⟨_, _, ⟨T112, L112, k112, n112⟩, -, X112, ⟨Lc112, hQ112, l112, y112, z112⟩, st112⟩ := X111.virtualBack hx (y := mth35) (z := mth35) hown (mvT hZ tw172) (mvT hZ tw173) (notFace_of_selects (args := #[]) (mvT hZ tw175)) (mvT hZ tw175) (mvT hZ tw174) (by decide) (backOf (W := 0) (vp1_0 l Z a0 hw [] b110 i7 r_111 (100 : Int32) b_108 em T111.heap n0 (Nat.le_trans Z0 (Nat.le_trans (Nat.le_trans (Nat.le_trans (Nat.le_trans E106.1 q107_0.1) q109_0.1) E110.1) q111_0.1)) q111_1 q111_2 q111_4 q111_5 q111_6 (own_stakeep (Sta.ext E110 (own_stakeep (own_stakeep (Sta.ext E106 SE) q107_0 (nsS A106.nostat ns0)) q109_0 (nsS q107_1.nostat ns0))) q111_0 (nsS A110.nostat ns0)) ((Exa.ext E110 (q108_1.keep q109_0)).keep q111_0) ((Fld.ext E110 (q108_2.keep q109_0 (ninS (Exa.ne q108_1 q107_1 (by decide)) nin0))).keep q111_0 (ninS (Nat.ne_of_lt (Nat.lt_of_lt_of_le q108_1.lt (Nat.le_trans q109_0.1 (Nat.le_of_eq g110.symm)))) nin0)) (Hy : ¬ (i7 < (0 : Int32)))) hZ tw176 tw75 (by decide) (by decide)) q112a q112c (g := (mkF m 236 #[.val (.int p0), .val (.int p1), .val (.int p2), .val (.int p3), .val (.int p4), .val (.int (1 : Int32)), s6, .val (.int i7), .val (.int r_101), .val (.int r_103), .val (.int r_105), .val (.ref b106), .val (.ref b110), .unset, .unset, .unset] [(.int i7), (.ref b110)])) rfl (by rw [hml]; rfl) (Steps.refl _) (argsL := [(.int i7)]) (rest := []) (lenOf pd_I_I rfl) rfl (Nat.le_of_eq rfl) (hb hby at_236) (fun _ _ => ⟨rfl, rfl, (by decide : 5 + 0 ≤ _), (by decide : 19 + 0 ≤ _)⟩)
    dsimp only [Pt.U, Pt.locs, Pt.cells, Pt.slots] at X112 l112 y112 z112 st112 hQ112
    subst y112 z112
    obtain ⟨rfl, Nq112, q112_0⟩ := hQ112
    have N112 : Fr n0 L112 := by rw [l112]; exact Fr.app N111 Nq112
    refine Goes.step (S' := T112.setTop (mkF m 247 #[.val (.int p0), .val (.int p1), .val (.int p2), .val (.int p3), .val (.int p4), .val (.int (1 : Int32)), s6, .val (.int i7), .val (.int r_101), .val (.int r_103), .val (.int r_105), .val (.ref b106), .val (.ref b110), .val (.int (100 : Int32)), .unset, .unset] [(.int ((1 : Int32) - (1 : Int32))), (.int i7)])) (fun t k => st112.trans (XS.istore X112.here hx rfl (hb hby at_239) rfl (l' := #[.val (.int p0), .val (.int p1), .val (.int p2), .val (.int p3), .val (.int p4), .val (.int (1 : Int32)), s6, .val (.int i7), .val (.int r_101), .val (.int r_103), .val (.int r_105), .val (.ref b106), .val (.ref b110), .val (.int (100 : Int32)), .unset, .unset]) rfl (XS.iload X112.here hx rfl (hb hby at_241) rfl (XS.iload X112.here hx rfl (hb hby at_243) rfl (XS.iconst X112.here hx rfl (hb hby at_245) (XS.isub X112.here hx rfl (hb hby at_246) rfl k)))))) ?_
    rw [show ((1 : Int32) - (1 : Int32)) = (0 : Int32) from by decide]
    refine Goes.step (S' := T112.setTop (mkF m 254 #[.val (.int p0), .val (.int p1), .val (.int p2), .val (.int p3), .val (.int p4), .val (.int (1 : Int32)), s6, .val (.int i7), .val (.int r_101), .val (.int r_103), .val (.int r_105), .val (.ref b106), .val (.ref b110), .val (.int (100 : Int32)), .unset, .unset] [(.int ((1 : Int32) - (1 : Int32)))])) (fun t k => XS.icmpNo X112.here hx rfl (hb hby at_247) rfl (flt (Hy : ¬ (i7 < (0 : Int32)))).1 (XS.iload X112.here hx rfl (hb hby at_250) rfl (XS.iconst X112.here hx rfl (hb hby at_252) (XS.isub X112.here hx rfl (hb hby at_253) rfl k)))) ?_
    rw [show ((1 : Int32) - (1 : Int32)) = (0 : Int32) from by decide]
    refine Goes.step (S' := T112.setTop (mkF m 267 #[.val (.int p0), .val (.int p1), .val (.int p2), .val (.int p3), .val (.int p4), .val (.int (1 : Int32)), s6, .val (.int i7), .val (.int r_101), .val (.int r_103), .val (.int r_105), .val (.ref b106), .val (.ref b110), .val (.int (100 : Int32)), .val (.int (0 : Int32)), .unset] [(.int ((1 : Int32) - (1 : Int32))), (.int (0 : Int32))])) (fun t k => XS.goto X112.here hx rfl (pc0 := 254) (pc' := 259) rfl (hb hby at_254) (by decide) (by decide) (XS.istore X112.here hx rfl (hb hby at_259) rfl (l' := #[.val (.int p0), .val (.int p1), .val (.int p2), .val (.int p3), .val (.int p4), .val (.int (1 : Int32)), s6, .val (.int i7), .val (.int r_101), .val (.int r_103), .val (.int r_105), .val (.ref b106), .val (.ref b110), .val (.int (100 : Int32)), .val (.int (0 : Int32)), .unset]) rfl (XS.iload X112.here hx rfl (hb hby at_261) rfl (XS.iload X112.here hx rfl (hb hby at_263) rfl (XS.iconst X112.here hx rfl (hb hby at_265) (XS.isub X112.here hx rfl (hb hby at_266) rfl k)))))) ?_
    rw [show ((1 : Int32) - (1 : Int32)) = (0 : Int32) from by decide]
    refine Goes.step (S' := T112.setTop (mkF m 314 #[.val (.int p0), .val (.int p1), .val (.int p2), .val (.int p3), .val (.int p4), .val (.int (1 : Int32)), s6, .val (.int i7), .val (.int r_101), .val (.int r_103), .val (.int r_105), .val (.ref b106), .val (.ref b110), .val (.int (100 : Int32)), .val (.int (0 : Int32)), .val (.int (100 : Int32))] [(.int (1 : Int32))])) (fun t k => XS.icmpNo X112.here hx rfl (hb hby at_267) rfl (teq ((by decide) : (0 : Int32) = (0 : Int32))).2 (XS.bipush X112.here hx rfl (hb hby at_270) (XS.istore X112.here hx rfl (hb hby at_272) rfl (l' := #[.val (.int p0), .val (.int p1), .val (.int p2), .val (.int p3), .val (.int p4), .val (.int (1 : Int32)), s6, .val (.int i7), .val (.int r_101), .val (.int r_103), .val (.int r_105), .val (.ref b106), .val (.ref b110), .val (.int (100 : Int32)), .val (.int (0 : Int32)), .val (.int (100 : Int32))]) rfl (XS.goto X112.here hx rfl (pc0 := 274) (pc' := 306) rfl (hb hby at_274) (by decide) (by decide) (XS.iload X112.here hx rfl (hb hby at_306) rfl (XS.iload X112.here hx rfl (hb hby at_308) rfl (XS.icmpNo X112.here hx rfl (hb hby at_310) rfl (teq ((by decide) : (100 : Int32) = (100 : Int32))).2 (XS.iconst X112.here hx rfl (hb hby at_313) k)))))))) ?_
    refine Goes.step (S' := T112.setTop (mkF m 318 #[.val (.int p0), .val (.int p1), .val (.int p2), .val (.int p3), .val (.int p4), .val (.int (1 : Int32)), s6, .val (.int i7), .val (.int r_101), .val (.int r_103), .val (.int r_105), .val (.ref b106), .val (.ref b110), .val (.int (100 : Int32)), .val (.int (0 : Int32)), .val (.int (100 : Int32))] [(.int (1 : Int32))])) (fun t k => XS.goto X112.here hx rfl (pc0 := 314) (pc' := 318) rfl (hb hby at_314) (by decide) (by decide) k) ?_
    refine Goes.leave (g := (mkF m 318 #[.val (.int p0), .val (.int p1), .val (.int p2), .val (.int p3), .val (.int p4), .val (.int (1 : Int32)), s6, .val (.int i7), .val (.int r_101), .val (.int r_103), .val (.int r_105), .val (.ref b106), .val (.ref b110), .val (.int (100 : Int32)), .val (.int (0 : Int32)), .val (.int (100 : Int32))] [(.int (1 : Int32))])) X112 Bd.notSynchronized (v := (some (.int (1 : Int32)))) (fun h => by rw [Bd.returns] at h; cases h) (fun fs hr => retN X112 hx (t := .boolean) Bd.returns (by simp) (hb hby at_318) hr) q112_0 ?_ (by decide) (by decide)
    exact ⟨rfl, N112⟩
  have s2 : ∀ (s6 : Slot) (i7 : Int32) (Ts2 : State) (locss2 : List Loc)  (Xs2 : Stand p l e room_1 s m #[(.int p0), (.int p1), (.int p2), (.int p3), (.int p4)] below meth c Ts2 locss2 0 0) (es2 : Ts2.heap = h0) (Ns2 : Fr n0 locss2) (Hy : ¬ (i7 < (0 : Int32))), Goes p e below (Pq (Q_law Z p0 p1 p2 p3 p4 da kd ca clc em mr h0 n0) s room_1.cells room_1.slots) (Ts2.setTop (mkF m 40 #[.val (.int p0), .val (.int p1), .val (.int p2), .val (.int p3), .val (.int p4), .val (.int (2 : Int32)), s6, .val (.int i7), .unset, .unset, .unset, .unset, .unset, .unset, .unset, .unset] [])) := by
    intro s6 i7 Ts2 locss2 Xs2 es2 Ns2 Hy
    refine Goes.step (S' := Ts2.setTop (mkF m 41 #[.val (.int p0), .val (.int p1), .val (.int p2), .val (.int p3), .val (.int p4), .val (.int (2 : Int32)), s6, .val (.int i7), .unset, .unset, .unset, .unset, .unset, .unset, .unset, .unset] [(.int p2)])) (fun t k => XS.iloadN Xs2.here hx rfl (hb hby at_40) rfl k) ?_
    obtain ⟨_, _, ⟨T113, L113, k113, n113⟩, -, X113, ⟨Lc113, hQ113, l113, y113, z113⟩, st113⟩ := Jvm.LawKit.callS Xs2 hx (y := mth2) hown (mvT hZ tw1) (mvT hZ tw2) (mvT hZ tw3) (mvT hZ tw4) (by decide) (backOf (W := 0) (pct l Z a0 hw [] p2 h0 n0 Z0 ) hZ tw4 tw3 (by decide) (by decide)) (g := (mkF m 41 #[.val (.int p0), .val (.int p1), .val (.int p2), .val (.int p3), .val (.int p4), .val (.int (2 : Int32)), s6, .val (.int i7), .unset, .unset, .unset, .unset, .unset, .unset, .unset, .unset] [(.int p2)])) rfl (by rw [hml]; rfl) (argsL := [(.int p2)]) (rest := []) (lenOf pd_I_I rfl) rfl (Nat.le_of_eq rfl) (hb hby at_41) (fun _ _ => ⟨rfl, es2, (by decide : 0 + 0 ≤ _), (by decide : 0 + 0 ≤ _)⟩)
    dsimp only [Pt.U, Pt.locs, Pt.cells, Pt.slots] at X113 l113 y113 z113 st113 hQ113
    subst y113 z113
    obtain ⟨r_113, rfl, Nq113, q113_0, q113_1, q113_2⟩ := hQ113
    have N113 : Fr n0 L113 := by rw [l113]; exact Fr.app Ns2 Nq113
    refine Goes.step (S' := T113.setTop (mkF m 49 #[.val (.int p0), .val (.int p1), .val (.int p2), .val (.int p3), .val (.int p4), .val (.int (2 : Int32)), s6, .val (.int i7), .val (.int r_113), .unset, .unset, .unset, .unset, .unset, .unset, .unset] [(.int p3), (.int r_113)])) (fun t k => st113 _ (XS.istore X113.here hx rfl (hb hby at_44) rfl (l' := #[.val (.int p0), .val (.int p1), .val (.int p2), .val (.int p3), .val (.int p4), .val (.int (2 : Int32)), s6, .val (.int i7), .val (.int r_113), .unset, .unset, .unset, .unset, .unset, .unset, .unset]) rfl (XS.iload X113.here hx rfl (hb hby at_46) rfl (XS.iloadN X113.here hx rfl (hb hby at_48) rfl k)))) ?_
    obtain ⟨_, _, ⟨T114, L114, k114, n114⟩, -, X114, ⟨Lc114, hQ114, l114, y114, z114⟩, st114⟩ := Jvm.LawKit.callS X113 hx (y := mth2) hown (mvT hZ tw1) (mvT hZ tw2) (mvT hZ tw3) (mvT hZ tw4) (by decide) (backOf (W := 1) (pct l Z a0 hw [] p3 h0 n0 Z0 ) hZ tw4 tw3 (by decide) (by decide)) (g := (mkF m 49 #[.val (.int p0), .val (.int p1), .val (.int p2), .val (.int p3), .val (.int p4), .val (.int (2 : Int32)), s6, .val (.int i7), .val (.int r_113), .unset, .unset, .unset, .unset, .unset, .unset, .unset] [(.int p3), (.int r_113)])) rfl (by rw [hml]; rfl) (argsL := [(.int p3)]) (rest := [(.int r_113)]) (lenOf pd_I_I rfl) rfl (Nat.le_of_eq rfl) (hb hby at_49) (fun _ _ => ⟨rfl, q113_0, (by decide : 0 + 0 ≤ _), (by decide : 0 + 0 ≤ _)⟩)
    dsimp only [Pt.U, Pt.locs, Pt.cells, Pt.slots] at X114 l114 y114 z114 st114 hQ114
    subst y114 z114
    obtain ⟨r_114, rfl, Nq114, q114_0, q114_1, q114_2⟩ := hQ114
    have N114 : Fr n0 L114 := by rw [l114]; exact Fr.app N113 Nq114
    refine Goes.step (S' := T114.setTop (mkF m 52 #[.val (.int p0), .val (.int p1), .val (.int p2), .val (.int p3), .val (.int p4), .val (.int (2 : Int32)), s6, .val (.int i7), .val (.int r_113), .unset, .unset, .unset, .unset, .unset, .unset, .unset] [(.int r_114), (.int r_113)])) (fun t k => st114 _ k) ?_
    obtain ⟨_, _, ⟨T115, L115, k115, n115⟩, -, X115, ⟨Lc115, hQ115, l115, y115, z115⟩, st115⟩ := Jvm.LawKit.callS X114 hx (y := mth0) hown (mvT hZ tw9) (mvT hZ tw10) (mvT hZ tw7) (mvT hZ tw11) (by decide) (backOf (W := 0) (mxr l Z a0 hw [] r_113 r_114 h0 n0 Z0 (q113_1 : ¬ (r_113 < (0 : Int32))) (q113_2 : ¬ ((100 : Int32) < r_113)) (q114_1 : ¬ (r_114 < (0 : Int32))) (q114_2 : ¬ ((100 : Int32) < r_114))) hZ tw11 tw7 (by decide) (by decide)) (g := (mkF m 52 #[.val (.int p0), .val (.int p1), .val (.int p2), .val (.int p3), .val (.int p4), .val (.int (2 : Int32)), s6, .val (.int i7), .val (.int r_113), .unset, .unset, .unset, .unset, .unset, .unset, .unset] [(.int r_114), (.int r_113)])) rfl (by rw [hml]; rfl) (argsL := [(.int r_113), (.int r_114)]) (rest := []) (lenOf pd_II_I rfl) rfl (Nat.le_of_eq rfl) (hb hby at_52) (fun _ _ => ⟨rfl, q114_0, (by decide : 0 + 0 ≤ _), (by decide : 0 + 0 ≤ _)⟩)
    dsimp only [Pt.U, Pt.locs, Pt.cells, Pt.slots] at X115 l115 y115 z115 st115 hQ115
    subst y115 z115
    obtain ⟨r_115, rfl, Nq115, q115_0, q115_1, q115_2⟩ := hQ115
    have N115 : Fr n0 L115 := by rw [l115]; exact Fr.app N114 Nq115
    refine Goes.step (S' := T115.setTop (mkF m 61 #[.val (.int p0), .val (.int p1), .val (.int p2), .val (.int p3), .val (.int p4), .val (.int (2 : Int32)), s6, .val (.int i7), .val (.int r_113), .val (.int r_115), .unset, .unset, .unset, .unset, .unset, .unset] [(.int p4), (.int r_115)])) (fun t k => st115 _ (XS.istore X115.here hx rfl (hb hby at_55) rfl (l' := #[.val (.int p0), .val (.int p1), .val (.int p2), .val (.int p3), .val (.int p4), .val (.int (2 : Int32)), s6, .val (.int i7), .val (.int r_113), .val (.int r_115), .unset, .unset, .unset, .unset, .unset, .unset]) rfl (XS.iload X115.here hx rfl (hb hby at_57) rfl (XS.iload X115.here hx rfl (hb hby at_59) rfl k)))) ?_
    obtain ⟨_, _, ⟨T116, L116, k116, n116⟩, -, X116, ⟨Lc116, hQ116, l116, y116, z116⟩, st116⟩ := Jvm.LawKit.callS X115 hx (y := mth2) hown (mvT hZ tw1) (mvT hZ tw2) (mvT hZ tw3) (mvT hZ tw4) (by decide) (backOf (W := 1) (pct l Z a0 hw [] p4 h0 n0 Z0 ) hZ tw4 tw3 (by decide) (by decide)) (g := (mkF m 61 #[.val (.int p0), .val (.int p1), .val (.int p2), .val (.int p3), .val (.int p4), .val (.int (2 : Int32)), s6, .val (.int i7), .val (.int r_113), .val (.int r_115), .unset, .unset, .unset, .unset, .unset, .unset] [(.int p4), (.int r_115)])) rfl (by rw [hml]; rfl) (argsL := [(.int p4)]) (rest := [(.int r_115)]) (lenOf pd_I_I rfl) rfl (Nat.le_of_eq rfl) (hb hby at_61) (fun _ _ => ⟨rfl, q115_0, (by decide : 0 + 0 ≤ _), (by decide : 0 + 0 ≤ _)⟩)
    dsimp only [Pt.U, Pt.locs, Pt.cells, Pt.slots] at X116 l116 y116 z116 st116 hQ116
    subst y116 z116
    obtain ⟨r_116, rfl, Nq116, q116_0, q116_1, q116_2⟩ := hQ116
    have N116 : Fr n0 L116 := by rw [l116]; exact Fr.app N115 Nq116
    refine Goes.step (S' := T116.setTop (mkF m 64 #[.val (.int p0), .val (.int p1), .val (.int p2), .val (.int p3), .val (.int p4), .val (.int (2 : Int32)), s6, .val (.int i7), .val (.int r_113), .val (.int r_115), .unset, .unset, .unset, .unset, .unset, .unset] [(.int r_116), (.int r_115)])) (fun t k => st116 _ k) ?_
    obtain ⟨_, _, ⟨T117, L117, k117, n117⟩, -, X117, ⟨Lc117, hQ117, l117, y117, z117⟩, st117⟩ := Jvm.LawKit.callS X116 hx (y := mth0) hown (mvT hZ tw9) (mvT hZ tw10) (mvT hZ tw7) (mvT hZ tw11) (by decide) (backOf (W := 0) (mxr l Z a0 hw [] r_115 r_116 h0 n0 Z0 (q115_1 : ¬ (r_115 < (0 : Int32))) (q115_2 : ¬ ((100 : Int32) < r_115)) (q116_1 : ¬ (r_116 < (0 : Int32))) (q116_2 : ¬ ((100 : Int32) < r_116))) hZ tw11 tw7 (by decide) (by decide)) (g := (mkF m 64 #[.val (.int p0), .val (.int p1), .val (.int p2), .val (.int p3), .val (.int p4), .val (.int (2 : Int32)), s6, .val (.int i7), .val (.int r_113), .val (.int r_115), .unset, .unset, .unset, .unset, .unset, .unset] [(.int r_116), (.int r_115)])) rfl (by rw [hml]; rfl) (argsL := [(.int r_115), (.int r_116)]) (rest := []) (lenOf pd_II_I rfl) rfl (Nat.le_of_eq rfl) (hb hby at_64) (fun _ _ => ⟨rfl, q116_0, (by decide : 0 + 0 ≤ _), (by decide : 0 + 0 ≤ _)⟩)
    dsimp only [Pt.U, Pt.locs, Pt.cells, Pt.slots] at X117 l117 y117 z117 st117 hQ117
    subst y117 z117
    obtain ⟨r_117, rfl, Nq117, q117_0, q117_1, q117_2⟩ := hQ117
    have N117 : Fr n0 L117 := by rw [l117]; exact Fr.app N116 Nq117
    refine Goes.step (S' := T117.setTop (mkF m 69 #[.val (.int p0), .val (.int p1), .val (.int p2), .val (.int p3), .val (.int p4), .val (.int (2 : Int32)), s6, .val (.int i7), .val (.int r_113), .val (.int r_115), .val (.int r_117), .unset, .unset, .unset, .unset, .unset] [])) (fun t k => st117 _ (XS.istore X117.here hx rfl (hb hby at_67) rfl (l' := #[.val (.int p0), .val (.int p1), .val (.int p2), .val (.int p3), .val (.int p4), .val (.int (2 : Int32)), s6, .val (.int i7), .val (.int r_113), .val (.int r_115), .val (.int r_117), .unset, .unset, .unset, .unset, .unset]) rfl k)) ?_
    obtain ⟨T118, h118, X118, e118, E118, A118, D118, U118, st118⟩ := newO X117 hx hZ hown tw12 tw13 tw14 q117_0 (g := (mkF m 69 #[.val (.int p0), .val (.int p1), .val (.int p2), .val (.int p3), .val (.int p4), .val (.int (2 : Int32)), s6, .val (.int i7), .val (.int r_113), .val (.int r_115), .val (.int r_117), .unset, .unset, .unset, .unset, .unset] [])) rfl (hb hby at_69) (by decide) (by decide)
    obtain ⟨b118, g118⟩ : ∃ z, z = h0.size := ⟨_, rfl⟩
    rw [← g118] at A118 D118 U118 st118
    have F118_modCount : Fld Z h118 b118 "java/util/AbstractList" "modCount" "I" (.int (0 : Int32)) := D118 (Or.inl tw34) (ty := .int) (by decide)
    have F118_elementData : Fld Z h118 b118 "java/util/ArrayList" "elementData" "[Ljava/lang/Object;" .null := D118 (Or.inl tw37) (ty := (.array (.object "java/lang/Object"))) (by decide)
    have F118_size : Fld Z h118 b118 "java/util/ArrayList" "size" "I" (.int (0 : Int32)) := D118 (Or.inl tw53) (ty := .int) (by decide)
    refine Goes.step (S' := T118.setTop (mkF m 73 #[.val (.int p0), .val (.int p1), .val (.int p2), .val (.int p3), .val (.int p4), .val (.int (2 : Int32)), s6, .val (.int i7), .val (.int r_113), .val (.int r_115), .val (.int r_117), .unset, .unset, .unset, .unset, .unset] [(.ref b118), (.ref b118)])) (fun t k => st118 _ (XS.dup X118.here hx rfl (hb hby at_72) rfl rfl k)) ?_
    obtain ⟨_, _, ⟨T119, L119, k119, n119⟩, -, X119, ⟨Lc119, hQ119, l119, y119, z119⟩, st119⟩ := X118.specialBack hx (y := mth6) rfl hown (mvT hZ tw15) (mvT hZ tw16) (mvT hZ tw17) (by decide) (backOf (W := 1) (arl l Z a0 hw [] b118 da h118 n0 (Nat.le_trans Z0 E118.1) A118 F118_modCount F118_elementData F118_size (Nat.le_trans Z0 (Nat.le_of_eq g118.symm)) (Sta.ext E118 SD)) hZ tw17 tw14 (by decide) (by decide)) (g := (mkF m 73 #[.val (.int p0), .val (.int p1), .val (.int p2), .val (.int p3), .val (.int p4), .val (.int (2 : Int32)), s6, .val (.int i7), .val (.int r_113), .val (.int r_115), .val (.int r_117), .unset, .unset, .unset, .unset, .unset] [(.ref b118), (.ref b118)])) rfl (by rw [hml]; rfl) (Steps.refl _) (a := b118) (argsL := []) (rest := [(.ref b118)]) (lenOf pd_V rfl) rfl (Nat.le_of_eq rfl) (hb hby at_73) (fun _ _ => ⟨rfl, e118, (by decide : 1 + 0 ≤ _), (by decide : 3 + 0 ≤ _)⟩)
    dsimp only [Pt.U, Pt.locs, Pt.cells, Pt.slots] at X119 l119 y119 z119 st119 hQ119
    subst y119 z119
    obtain ⟨rfl, Nq119, q119_0, q119_1, q119_2, q119_3, q119_4⟩ := hQ119
    have N119 : Fr n0 L119 := by rw [l119]; exact Fr.app N117 Nq119
    refine Goes.step (S' := T119.setTop (mkF m 104 #[.val (.int p0), .val (.int p1), .val (.int p2), .val (.int p3), .val (.int p4), .val (.int (2 : Int32)), s6, .val (.int i7), .val (.int r_113), .val (.int r_115), .val (.int r_117), .val (.ref b118), .unset, .unset, .unset, .unset] [])) (fun t k => st119.trans (XS.astore X119.here hx rfl (hb hby at_76) rfl rfl (l' := #[.val (.int p0), .val (.int p1), .val (.int p2), .val (.int p3), .val (.int p4), .val (.int (2 : Int32)), s6, .val (.int i7), .val (.int r_113), .val (.int r_115), .val (.int r_117), .val (.ref b118), .unset, .unset, .unset, .unset]) rfl (XS.iload X119.here hx rfl (hb hby at_78) rfl (XS.iconst X119.here hx rfl (hb hby at_80) (XS.icmpYes X119.here hx rfl (pc0 := 81) (pc' := 98) rfl (hb hby at_81) rfl (feq ((by decide) : ¬ ((2 : Int32) = (1 : Int32)))).2 (by decide) (by decide) (XS.iload X119.here hx rfl (hb hby at_98) rfl (XS.iconst X119.here hx rfl (hb hby at_100) (XS.icmpNo X119.here hx rfl (hb hby at_101) rfl (teq ((by decide) : (2 : Int32) = (2 : Int32))).2 k)))))))) ?_
    refine Goes.step (S' := T119.setTop (mkF m 108 #[.val (.int p0), .val (.int p1), .val (.int p2), .val (.int p3), .val (.int p4), .val (.int (2 : Int32)), s6, .val (.int i7), .val (.int r_113), .val (.int r_115), .val (.int r_117), .val (.ref b118), .unset, .unset, .unset, .unset] [(.int r_113), (.ref b118)])) (fun t k => XS.aload X119.here hx rfl (hb hby at_104) rfl rfl (XS.iload X119.here hx rfl (hb hby at_106) rfl k)) ?_
    obtain ⟨_, _, ⟨T120, L120, k120, n120⟩, -, X120, ⟨Lc120, hQ120, l120, y120, z120⟩, st120⟩ := Jvm.LawKit.callS X119 hx (y := mth3) hown (mvT hZ tw38) (mvT hZ tw39) (mvT hZ tw40) (mvT hZ tw41) (by decide) (backOf (W := 1) (vof l Z a0 hw [] r_113 ca clc T119.heap n0 (Nat.le_trans Z0 (Nat.le_trans E118.1 q119_0.1)) (own_stakeep (Sta.ext E118 SH) q119_0 (nsS A118.nostat ns0)) (own_stakeep (Sta.ext E118 SC) q119_0 (nsS A118.nostat ns0)) BX ((OLD.ext E118).keep q119_0 (allS (Nat.le_trans Z0 (Nat.le_of_eq g118.symm)) all0)) (q113_1 : ¬ (r_113 < (0 : Int32))) (q113_2 : ¬ ((100 : Int32) < r_113))) hZ tw41 tw40 (by decide) (by decide)) (g := (mkF m 108 #[.val (.int p0), .val (.int p1), .val (.int p2), .val (.int p3), .val (.int p4), .val (.int (2 : Int32)), s6, .val (.int i7), .val (.int r_113), .val (.int r_115), .val (.int r_117), .val (.ref b118), .unset, .unset, .unset, .unset] [(.int r_113), (.ref b118)])) rfl (by rw [hml]; rfl) (argsL := [(.int r_113)]) (rest := [(.ref b118)]) (lenOf pd_I_Ljava_lang_Integer rfl) rfl (Nat.le_of_eq rfl) (hb hby at_108) (fun _ _ => ⟨rfl, rfl, (by decide : 1 + 0 ≤ _), (by decide : 3 + 0 ≤ _)⟩)
    dsimp only [Pt.U, Pt.locs, Pt.cells, Pt.slots] at X120 l120 y120 z120 st120 hQ120
    subst y120 z120
    obtain ⟨b_120, rfl, Nq120, q120_0, q120_1, q120_2⟩ := hQ120
    have N120 : Fr n0 L120 := by rw [l120]; exact Fr.app N119 Nq120
    rw [q120_0] at q120_1 q120_2
    refine Goes.step (S' := T120.setTop (mkF m 111 #[.val (.int p0), .val (.int p1), .val (.int p2), .val (.int p3), .val (.int p4), .val (.int (2 : Int32)), s6, .val (.int i7), .val (.int r_113), .val (.int r_115), .val (.int r_117), .val (.ref b118), .unset, .unset, .unset, .unset] [(.ref b_120), (.ref b118)])) (fun t k => st120 _ k) ?_
    obtain ⟨cq121, kq121, q121a, q121b, q121c⟩ := isOf hZ q120_0 q119_1
    obtain ⟨_, _, ⟨T121, L121, k121, n121⟩, -, X121, ⟨Lc121, hQ121, l121, y121, z121⟩, st121⟩ := X120.virtualBack hx (y := mth10) (z := mth10) hown (mvT hZ tw45) (mvT hZ tw46) (notFace_of_selects (args := #[]) (mvT hZ tw48)) (mvT hZ tw48) (mvT hZ tw47) (by decide) (backOf (W := 0) (add0 l Z a0 hw [] b118 b_120 (0 : Int32) da kd T119.heap n0 (Nat.le_trans Z0 (Nat.le_trans E118.1 q119_0.1)) q119_1 q119_2 q119_3 q119_4 (Nat.le_trans Z0 (Nat.le_of_eq g118.symm)) (own_stakeep (Sta.ext E118 SD) q119_0 (nsS A118.nostat ns0)) ((VD.ext E118).keep q119_0 (ninS (Nat.ne_of_lt (Nat.lt_of_lt_of_le VD.lt (Nat.le_of_eq g118.symm))) nin0)) q120_1) hZ tw49 tw14 (by decide) (by decide)) q121a q121c (g := (mkF m 111 #[.val (.int p0), .val (.int p1), .val (.int p2), .val (.int p3), .val (.int p4), .val (.int (2 : Int32)), s6, .val (.int i7), .val (.int r_113), .val (.int r_115), .val (.int r_117), .val (.ref b118), .unset, .unset, .unset, .unset] [(.ref b_120), (.ref b118)])) rfl (by rw [hml]; rfl) (Steps.refl _) (argsL := [(.ref b_120)]) (rest := []) (lenOf pd_Ljava_lang_Object__Z rfl) rfl (Nat.le_of_eq rfl) (hb hby at_111) (fun _ _ => ⟨rfl, q120_0, (by decide : 1 + 1 ≤ _), (by decide : 3 + 10 ≤ _)⟩)
    dsimp only [Pt.U, Pt.locs, Pt.cells, Pt.slots] at X121 l121 y121 z121 st121 hQ121
    subst y121 z121
    obtain ⟨b_121, kb_121, rfl, Nq121, q121_0, q121_1, q121_2, q121_3, q121_4, q121_5, q121_6, q121_7, q121_8⟩ := hQ121
    have N121 : Fr n0 L121 := by rw [l121]; exact Fr.app N120 Nq121
    refine Goes.step (S' := T121.setTop (mkF m 119 #[.val (.int p0), .val (.int p1), .val (.int p2), .val (.int p3), .val (.int p4), .val (.int (2 : Int32)), s6, .val (.int i7), .val (.int r_113), .val (.int r_115), .val (.int r_117), .val (.ref b118), .unset, .unset, .unset, .unset] [(.int (100 : Int32)), (.ref b118)])) (fun t k => st121.trans (XS.pop X121.here hx rfl (hb hby at_114) rfl rfl (XS.aload X121.here hx rfl (hb hby at_115) rfl rfl (XS.bipush X121.here hx rfl (hb hby at_117) k)))) ?_
    obtain ⟨_, _, ⟨T122, L122, k122, n122⟩, -, X122, ⟨Lc122, hQ122, l122, y122, z122⟩, st122⟩ := Jvm.LawKit.callS X121 hx (y := mth3) hown (mvT hZ tw38) (mvT hZ tw39) (mvT hZ tw40) (mvT hZ tw41) (by decide) (backOf (W := 1) (vof l Z a0 hw [] (100 : Int32) ca clc T121.heap n0 (Nat.le_trans Z0 (Nat.le_trans (Nat.le_trans E118.1 q119_0.1) q121_0.1)) (own_stakeep (own_stakeep (Sta.ext E118 SH) q119_0 (nsS A118.nostat ns0)) q121_0 (nsS q119_1.nostat ns0)) (own_stakeep (own_stakeep (Sta.ext E118 SC) q119_0 (nsS A118.nostat ns0)) q121_0 (nsS q119_1.nostat ns0)) BX (((OLD.ext E118).keep q119_0 (allS (Nat.le_trans Z0 (Nat.le_of_eq g118.symm)) all0)).keep q121_0 (allS (Nat.le_trans Z0 (Nat.le_of_eq g118.symm)) all0)) ((by decide) : ¬ ((100 : Int32) < (0 : Int32))) ((by decide) : ¬ ((100 : Int32) < (100 : Int32)))) hZ tw41 tw40 (by decide) (by decide)) (g := (mkF m 119 #[.val (.int p0), .val (.int p1), .val (.int p2), .val (.int p3), .val (.int p4), .val (.int (2 : Int32)), s6, .val (.int i7), .val (.int r_113), .val (.int r_115), .val (.int r_117), .val (.ref b118), .unset, .unset, .unset, .unset] [(.int (100 : Int32)), (.ref b118)])) rfl (by rw [hml]; rfl) (argsL := [(.int (100 : Int32))]) (rest := [(.ref b118)]) (lenOf pd_I_Ljava_lang_Integer rfl) rfl (Nat.le_of_eq rfl) (hb hby at_119) (fun _ _ => ⟨rfl, rfl, (by decide : 2 + 0 ≤ _), (by decide : 13 + 0 ≤ _)⟩)
    dsimp only [Pt.U, Pt.locs, Pt.cells, Pt.slots] at X122 l122 y122 z122 st122 hQ122
    subst y122 z122
    obtain ⟨b_122, rfl, Nq122, q122_0, q122_1, q122_2⟩ := hQ122
    have N122 : Fr n0 L122 := by rw [l122]; exact Fr.app N121 Nq122
    rw [q122_0] at q122_1 q122_2
    refine Goes.step (S' := T122.setTop (mkF m 122 #[.val (.int p0), .val (.int p1), .val (.int p2), .val (.int p3), .val (.int p4), .val (.int (2 : Int32)), s6, .val (.int i7), .val (.int r_113), .val (.int r_115), .val (.int r_117), .val (.ref b118), .unset, .unset, .unset, .unset] [(.ref b_122), (.ref b118)])) (fun t k => st122 _ k) ?_
    obtain ⟨cq123, kq123, q123a, q123b, q123c⟩ := isOf hZ q122_0 q121_2
    obtain ⟨_, _, ⟨T123, L123, k123, n123⟩, -, X123, ⟨Lc123, hQ123, l123, y123, z123⟩, st123⟩ := X122.virtualBack hx (y := mth10) (z := mth10) hown (mvT hZ tw45) (mvT hZ tw46) (notFace_of_selects (args := #[]) (mvT hZ tw48)) (mvT hZ tw48) (mvT hZ tw47) (by decide) (backOf (W := 0) (add1 l Z a0 hw [] b118 b_122 b_121 kb_121 ((0 : Int32) + (1 : Int32)) b_120 T121.heap n0 (Nat.le_trans Z0 (Nat.le_trans (Nat.le_trans E118.1 q119_0.1) q121_0.1)) q121_2 q121_4 q121_5 q121_6 q121_7 q121_8 q121_3 (Nat.le_trans Z0 (Nat.le_of_eq g118.symm)) (Nat.le_trans Z0 (Nat.le_trans (Nat.le_trans E118.1 q119_0.1) q121_1)) q122_1) hZ tw49 tw14 (by decide) (by decide)) q123a q123c (g := (mkF m 122 #[.val (.int p0), .val (.int p1), .val (.int p2), .val (.int p3), .val (.int p4), .val (.int (2 : Int32)), s6, .val (.int i7), .val (.int r_113), .val (.int r_115), .val (.int r_117), .val (.ref b118), .unset, .unset, .unset, .unset] [(.ref b_122), (.ref b118)])) rfl (by rw [hml]; rfl) (Steps.refl _) (argsL := [(.ref b_122)]) (rest := []) (lenOf pd_Ljava_lang_Object__Z rfl) rfl (Nat.le_of_eq rfl) (hb hby at_122) (fun _ _ => ⟨rfl, q122_0, (by decide : 2 + 0 ≤ _), (by decide : 13 + 0 ≤ _)⟩)
    dsimp only [Pt.U, Pt.locs, Pt.cells, Pt.slots] at X123 l123 y123 z123 st123 hQ123
    subst y123 z123
    obtain ⟨rfl, Nq123, q123_0, q123_1, q123_2, q123_3, q123_4, q123_5, q123_6⟩ := hQ123
    have N123 : Fr n0 L123 := by rw [l123]; exact Fr.app N122 Nq123
    refine Goes.step (S' := T123.setTop (mkF m 215 #[.val (.int p0), .val (.int p1), .val (.int p2), .val (.int p3), .val (.int p4), .val (.int (2 : Int32)), s6, .val (.int i7), .val (.int r_113), .val (.int r_115), .val (.int r_117), .val (.ref b118), .unset, .unset, .unset, .unset] [])) (fun t k => st123.trans (XS.pop X123.here hx rfl (hb hby at_125) rfl rfl (XS.goto X123.here hx rfl (pc0 := 126) (pc' := 215) rfl (hb hby at_126) (by decide) (by decide) k))) ?_
    obtain ⟨T124, h124, X124, e124, E124, A124, D124, U124, st124⟩ := newO X123 hx hZ hown tw73 tw74 tw75 rfl (g := (mkF m 215 #[.val (.int p0), .val (.int p1), .val (.int p2), .val (.int p3), .val (.int p4), .val (.int (2 : Int32)), s6, .val (.int i7), .val (.int r_113), .val (.int r_115), .val (.int r_117), .val (.ref b118), .unset, .unset, .unset, .unset] [])) rfl (hb hby at_215) (by decide) (by decide)
    obtain ⟨b124, g124⟩ : ∃ z, z = T123.heap.size := ⟨_, rfl⟩
    rw [← g124] at A124 D124 U124 st124
    have F124_yearOfServiceHours : Fld Z h124 b124 "com/example/planwright/planwright/model/VestingProvisions" "yearOfServiceHours" "I" (.int (0 : Int32)) := D124 (Or.inr tw81) (ty := .int) (by decide)
    have F124_breakInServiceBelowHours : Fld Z h124 b124 "com/example/planwright/planwright/model/VestingProvisions" "breakInServiceBelowHours" "I" (.int (0 : Int32)) := D124 (Or.inr tw83) (ty := .int) (by decide)
    have F124_vestedPercentByYears : Fld Z h124 b124 "com/example/planwright/planwright/model/VestingProvisions" "vestedPercentByYears" "Ljava/util/List;" .null := D124 (Or.inr tw171) (ty := (.object "java/util/List")) (by decide)
    refine Goes.step (S' := T124.setTop (mkF m 227 #[.val (.int p0), .val (.int p1), .val (.int p2), .val (.int p3), .val (.int p4), .val (.int (2 : Int32)), s6, .val (.int i7), .val (.int r_113), .val (.int r_115), .val (.int r_117), .val (.ref b118), .unset, .unset, .unset, .unset] [(.ref b118), (.int (500 : Int32)), (.int (1000 : Int32)), (.ref b124), (.ref b124)])) (fun t k => st124 _ (XS.dup X124.here hx rfl (hb hby at_218) rfl rfl (XS.sipush X124.here hx rfl (hb hby at_219) (XS.sipush X124.here hx rfl (hb hby at_222) (XS.aload X124.here hx rfl (hb hby at_225) rfl rfl k))))) ?_
    obtain ⟨_, _, ⟨T125, L125, k125, n125⟩, -, X125, ⟨Lc125, hQ125, l125, y125, z125⟩, st125⟩ := X124.specialBack hx (y := mth26) rfl hown (mvT hZ tw76) (mvT hZ tw77) (mvT hZ tw78) (by decide) (backOf (W := 1) (vpi2 l Z a0 hw [] b124 (1000 : Int32) (500 : Int32) b118 b_121 kb_121 mr b_120 b_122 h124 n0 (Nat.le_trans Z0 (Nat.le_trans (Nat.le_trans (Nat.le_trans (Nat.le_trans E118.1 q119_0.1) q121_0.1) q123_0.1) E124.1)) A124 F124_yearOfServiceHours F124_breakInServiceBelowHours F124_vestedPercentByYears (Nat.le_trans Z0 (Nat.le_trans (Nat.le_trans (Nat.le_trans (Nat.le_trans E118.1 q119_0.1) q121_0.1) q123_0.1) (Nat.le_of_eq g124.symm))) (Exa.ext E124 q123_1) (Fld.ext E124 q123_3) (Fld.ext E124 q123_4) (q123_5.ext E124) (Exa.ext E124 q123_6) (Exa.ext E124 ((q120_1.keep q121_0).keep q123_0)) (Exa.ext E124 (q122_1.keep q123_0)) MI) hZ tw78 tw75 (by decide) (by decide)) (g := (mkF m 227 #[.val (.int p0), .val (.int p1), .val (.int p2), .val (.int p3), .val (.int p4), .val (.int (2 : Int32)), s6, .val (.int i7), .val (.int r_113), .val (.int r_115), .val (.int r_117), .val (.ref b118), .unset, .unset, .unset, .unset] [(.ref b118), (.int (500 : Int32)), (.int (1000 : Int32)), (.ref b124), (.ref b124)])) rfl (by rw [hml]; rfl) (Steps.refl _) (a := b124) (argsL := [(.int (1000 : Int32)), (.int (500 : Int32)), (.ref b118)]) (rest := [(.ref b124)]) (lenOf pd_IILjava_util_List__V rfl) rfl (Nat.le_of_eq rfl) (hb hby at_227) (fun _ _ => ⟨rfl, e124, (by decide : 3 + 2 ≤ _), (by decide : 16 + 4 ≤ _)⟩)
    dsimp only [Pt.U, Pt.locs, Pt.cells, Pt.slots] at X125 l125 y125 z125 st125 hQ125
    subst y125 z125
    obtain ⟨r_125, rfl, Nq125, q125_0, q125_1, q125_2, q125_3, q125_4, q125_5, q125_6⟩ := hQ125
    have N125 : Fr n0 L125 := by rw [l125]; exact Fr.app N123 Nq125
    refine Goes.step (S' := T125.setTop (mkF m 236 #[.val (.int p0), .val (.int p1), .val (.int p2), .val (.int p3), .val (.int p4), .val (.int (2 : Int32)), s6, .val (.int i7), .val (.int r_113), .val (.int r_115), .val (.int r_117), .val (.ref b118), .val (.ref b124), .unset, .unset, .unset] [(.int i7), (.ref b124)])) (fun t k => st125.trans (XS.astore X125.here hx rfl (hb hby at_230) rfl rfl (l' := #[.val (.int p0), .val (.int p1), .val (.int p2), .val (.int p3), .val (.int p4), .val (.int (2 : Int32)), s6, .val (.int i7), .val (.int r_113), .val (.int r_115), .val (.int r_117), .val (.ref b118), .val (.ref b124), .unset, .unset, .unset]) rfl (XS.aload X125.here hx rfl (hb hby at_232) rfl rfl (XS.iload X125.here hx rfl (hb hby at_234) rfl k)))) ?_
    by_cases hc126 : i7 = (0 : Int32)
    case pos =>
      subst hc126
      obtain ⟨cq127, kq127, q127a, q127b, q127c⟩ := isOf hZ rfl q125_1
      obtain ⟨_, _, ⟨T127, L127, k127, n127⟩, -, X127, ⟨Lc127, hQ127, l127, y127, z127⟩, st127⟩ := X125.virtualBack hx (y := mth35) (z := mth35) hown (mvT hZ tw172) (mvT hZ tw173) (notFace_of_selects (args := #[]) (mvT hZ tw175)) (mvT hZ tw175) (mvT hZ tw174) (by decide) (backOf (W := 0) (vp2_0 l Z a0 hw [] b124 r_125 r_113 b_120 b_122 em T125.heap n0 (Nat.le_trans Z0 (Nat.le_trans (Nat.le_trans (Nat.le_trans (Nat.le_trans (Nat.le_trans E118.1 q119_0.1) q121_0.1) q123_0.1) E124.1) q125_0.1)) q125_1 q125_2 q125_4 q125_5 q125_6 (own_stakeep (Sta.ext E124 (own_stakeep (own_stakeep (own_stakeep (Sta.ext E118 SE) q119_0 (nsS A118.nostat ns0)) q121_0 (nsS q119_1.nostat ns0)) q123_0 (nsS q121_2.nostat (nsS q121_3.nostat ns0)))) q125_0 (nsS A124.nostat ns0)) (Exa.ne ((Exa.ext E124 (q122_1.keep q123_0)).keep q125_0) ((Exa.ext E124 ((((Exa.ext E118 EE).keep q119_0).keep q121_0).keep q123_0)).keep q125_0) (by decide)) ((Exa.ext E124 ((q120_1.keep q121_0).keep q123_0)).keep q125_0) ((Fld.ext E124 ((q120_2.keep q121_0 (ninS (Exa.ne q120_1 q119_1 (by decide)) nin0)).keep q123_0 (ninS (Exa.ne (q120_1.keep q121_0) q121_2 (by decide)) (ninS (Nat.ne_of_lt (Nat.lt_of_lt_of_le q120_1.lt q121_1)) nin0)))).keep q125_0 (ninS (Nat.ne_of_lt (Nat.lt_of_lt_of_le q120_1.lt (Nat.le_trans (Nat.le_trans q121_0.1 q123_0.1) (Nat.le_of_eq g124.symm)))) nin0))) hZ tw176 tw75 (by decide) (by decide)) q127a q127c (g := (mkF m 236 #[.val (.int p0), .val (.int p1), .val (.int p2), .val (.int p3), .val (.int p4), .val (.int (2 : Int32)), s6, .val (.int (0 : Int32)), .val (.int r_113), .val (.int r_115), .val (.int r_117), .val (.ref b118), .val (.ref b124), .unset, .unset, .unset] [(.int (0 : Int32)), (.ref b124)])) rfl (by rw [hml]; rfl) (Steps.refl _) (argsL := [(.int (0 : Int32))]) (rest := []) (lenOf pd_I_I rfl) rfl (Nat.le_of_eq rfl) (hb hby at_236) (fun _ _ => ⟨rfl, rfl, (by decide : 5 + 0 ≤ _), (by decide : 20 + 0 ≤ _)⟩)
      dsimp only [Pt.U, Pt.locs, Pt.cells, Pt.slots] at X127 l127 y127 z127 st127 hQ127
      subst y127 z127
      obtain ⟨rfl, Nq127, q127_0⟩ := hQ127
      have N127 : Fr n0 L127 := by rw [l127]; exact Fr.app N125 Nq127
      refine Goes.step (S' := T127.setTop (mkF m 247 #[.val (.int p0), .val (.int p1), .val (.int p2), .val (.int p3), .val (.int p4), .val (.int (2 : Int32)), s6, .val (.int (0 : Int32)), .val (.int r_113), .val (.int r_115), .val (.int r_117), .val (.ref b118), .val (.ref b124), .val (.int r_113), .unset, .unset] [(.int ((2 : Int32) - (1 : Int32))), (.int (0 : Int32))])) (fun t k => st127.trans (XS.istore X127.here hx rfl (hb hby at_239) rfl (l' := #[.val (.int p0), .val (.int p1), .val (.int p2), .val (.int p3), .val (.int p4), .val (.int (2 : Int32)), s6, .val (.int (0 : Int32)), .val (.int r_113), .val (.int r_115), .val (.int r_117), .val (.ref b118), .val (.ref b124), .val (.int r_113), .unset, .unset]) rfl (XS.iload X127.here hx rfl (hb hby at_241) rfl (XS.iload X127.here hx rfl (hb hby at_243) rfl (XS.iconst X127.here hx rfl (hb hby at_245) (XS.isub X127.here hx rfl (hb hby at_246) rfl k)))))) ?_
      rw [show ((2 : Int32) - (1 : Int32)) = (1 : Int32) from by decide]
      refine Goes.step (S' := T127.setTop (mkF m 267 #[.val (.int p0), .val (.int p1), .val (.int p2), .val (.int p3), .val (.int p4), .val (.int (2 : Int32)), s6, .val (.int (0 : Int32)), .val (.int r_113), .val (.int r_115), .val (.int r_117), .val (.ref b118), .val (.ref b124), .val (.int r_113), .val (.int (0 : Int32)), .unset] [(.int ((2 : Int32) - (1 : Int32))), (.int (0 : Int32))])) (fun t k => XS.icmpYes X127.here hx rfl (pc0 := 247) (pc' := 257) rfl (hb hby at_247) rfl (tlt ((by decide) : (0 : Int32) < (1 : Int32))).1 (by decide) (by decide) (XS.iload X127.here hx rfl (hb hby at_257) rfl (XS.istore X127.here hx rfl (hb hby at_259) rfl (l' := #[.val (.int p0), .val (.int p1), .val (.int p2), .val (.int p3), .val (.int p4), .val (.int (2 : Int32)), s6, .val (.int (0 : Int32)), .val (.int r_113), .val (.int r_115), .val (.int r_117), .val (.ref b118), .val (.ref b124), .val (.int r_113), .val (.int (0 : Int32)), .unset]) rfl (XS.iload X127.here hx rfl (hb hby at_261) rfl (XS.iload X127.here hx rfl (hb hby at_263) rfl (XS.iconst X127.here hx rfl (hb hby at_265) (XS.isub X127.here hx rfl (hb hby at_266) rfl k))))))) ?_
      rw [show ((2 : Int32) - (1 : Int32)) = (1 : Int32) from by decide]
      refine Goes.step (S' := T127.setTop (mkF m 310 #[.val (.int p0), .val (.int p1), .val (.int p2), .val (.int p3), .val (.int p4), .val (.int (2 : Int32)), s6, .val (.int (0 : Int32)), .val (.int r_113), .val (.int r_115), .val (.int r_117), .val (.ref b118), .val (.ref b124), .val (.int r_113), .val (.int (0 : Int32)), .val (.int r_113)] [(.int r_113), (.int r_113)])) (fun t k => XS.icmpYes X127.here hx rfl (pc0 := 267) (pc' := 277) rfl (hb hby at_267) rfl (feq ((by decide) : ¬ ((0 : Int32) = (1 : Int32)))).2 (by decide) (by decide) (XS.iload X127.here hx rfl (hb hby at_277) rfl (XS.ifNo X127.here hx rfl (hb hby at_279) rfl ((if0 _ _).trans (teq ((by decide) : (0 : Int32) = (0 : Int32))).2) (XS.iload X127.here hx rfl (hb hby at_282) rfl (XS.istore X127.here hx rfl (hb hby at_284) rfl (l' := #[.val (.int p0), .val (.int p1), .val (.int p2), .val (.int p3), .val (.int p4), .val (.int (2 : Int32)), s6, .val (.int (0 : Int32)), .val (.int r_113), .val (.int r_115), .val (.int r_117), .val (.ref b118), .val (.ref b124), .val (.int r_113), .val (.int (0 : Int32)), .val (.int r_113)]) rfl (XS.goto X127.here hx rfl (pc0 := 286) (pc' := 306) rfl (hb hby at_286) (by decide) (by decide) (XS.iload X127.here hx rfl (hb hby at_306) rfl (XS.iload X127.here hx rfl (hb hby at_308) rfl k)))))))) ?_
      refine Goes.step (S' := T127.setTop (mkF m 318 #[.val (.int p0), .val (.int p1), .val (.int p2), .val (.int p3), .val (.int p4), .val (.int (2 : Int32)), s6, .val (.int (0 : Int32)), .val (.int r_113), .val (.int r_115), .val (.int r_117), .val (.ref b118), .val (.ref b124), .val (.int r_113), .val (.int (0 : Int32)), .val (.int r_113)] [(.int (1 : Int32))])) (fun t k => XS.icmpNo X127.here hx rfl (hb hby at_310) rfl (teq (rfl : r_113 = r_113)).2 (XS.iconst X127.here hx rfl (hb hby at_313) (XS.goto X127.here hx rfl (pc0 := 314) (pc' := 318) rfl (hb hby at_314) (by decide) (by decide) k))) ?_
      refine Goes.leave (g := (mkF m 318 #[.val (.int p0), .val (.int p1), .val (.int p2), .val (.int p3), .val (.int p4), .val (.int (2 : Int32)), s6, .val (.int (0 : Int32)), .val (.int r_113), .val (.int r_115), .val (.int r_117), .val (.ref b118), .val (.ref b124), .val (.int r_113), .val (.int (0 : Int32)), .val (.int r_113)] [(.int (1 : Int32))])) X127 Bd.notSynchronized (v := (some (.int (1 : Int32)))) (fun h => by rw [Bd.returns] at h; cases h) (fun fs hr => retN X127 hx (t := .boolean) Bd.returns (by simp) (hb hby at_318) hr) q127_0 ?_ (by decide) (by decide)
      exact ⟨rfl, N127⟩
    case neg =>
      have hc128 : ¬ (i7 < (1 : Int32)) := (by have z129_0 := Hy; have z129_1 := q113_1; have z129_2 := q113_2; have z129_3 := q114_1; have z129_4 := q114_2; have z129_5 := q115_1; have z129_6 := q115_2; have z129_7 := q116_1; have z129_8 := q116_2; have z129_9 := q117_1; have z129_10 := q117_2; have z129_11 := hc126; have z129_12 := rng32 i7; have z129_13 := rng32 r_113; have z129_14 := rng32 r_114; have z129_15 := rng32 r_115; have z129_16 := rng32 r_116; have z129_17 := rng32 r_117; (try simp only [Int32.lt_iff_toInt_lt, Int64.lt_iff_toInt_lt, ne_eq, ← Int32.toInt_inj, ← Int64.toInt_inj, Int32.reduceToInt, Int64.reduceToInt, Nat.reducePow] at z129_0 z129_1 z129_2 z129_3 z129_4 z129_5 z129_6 z129_7 z129_8 z129_9 z129_10 z129_11 z129_12 z129_13 z129_14 z129_15 z129_16 z129_17 ⊢); try omega)
      obtain ⟨cq130, kq130, q130a, q130b, q130c⟩ := isOf hZ rfl q125_1
      obtain ⟨_, _, ⟨T130, L130, k130, n130⟩, -, X130, ⟨Lc130, hQ130, l130, y130, z130⟩, st130⟩ := X125.virtualBack hx (y := mth35) (z := mth35) hown (mvT hZ tw172) (mvT hZ tw173) (notFace_of_selects (args := #[]) (mvT hZ tw175)) (mvT hZ tw175) (mvT hZ tw174) (by decide) (backOf (W := 0) (vp2_1 l Z a0 hw [] b124 i7 r_125 (100 : Int32) b_120 b_122 em T125.heap n0 (Nat.le_trans Z0 (Nat.le_trans (Nat.le_trans (Nat.le_trans (Nat.le_trans (Nat.le_trans E118.1 q119_0.1) q121_0.1) q123_0.1) E124.1) q125_0.1)) q125_1 q125_2 q125_4 q125_5 q125_6 (own_stakeep (Sta.ext E124 (own_stakeep (own_stakeep (own_stakeep (Sta.ext E118 SE) q119_0 (nsS A118.nostat ns0)) q121_0 (nsS q119_1.nostat ns0)) q123_0 (nsS q121_2.nostat (nsS q121_3.nostat ns0)))) q125_0 (nsS A124.nostat ns0)) (Exa.ne ((Exa.ext E124 (q122_1.keep q123_0)).keep q125_0) ((Exa.ext E124 ((((Exa.ext E118 EE).keep q119_0).keep q121_0).keep q123_0)).keep q125_0) (by decide)) ((Exa.ext E124 (q122_1.keep q123_0)).keep q125_0) ((Fld.ext E124 (q122_2.keep q123_0 (ninS (Exa.ne q122_1 q121_2 (by decide)) (ninS (Exa.ne q122_1 q121_3 (by decide)) nin0)))).keep q125_0 (ninS (Nat.ne_of_lt (Nat.lt_of_lt_of_le q122_1.lt (Nat.le_trans q123_0.1 (Nat.le_of_eq g124.symm)))) nin0)) (hc128 : ¬ (i7 < (1 : Int32)))) hZ tw176 tw75 (by decide) (by decide)) q130a q130c (g := (mkF m 236 #[.val (.int p0), .val (.int p1), .val (.int p2), .val (.int p3), .val (.int p4), .val (.int (2 : Int32)), s6, .val (.int i7), .val (.int r_113), .val (.int r_115), .val (.int r_117), .val (.ref b118), .val (.ref b124), .unset, .unset, .unset] [(.int i7), (.ref b124)])) rfl (by rw [hml]; rfl) (Steps.refl _) (argsL := [(.int i7)]) (rest := []) (lenOf pd_I_I rfl) rfl (Nat.le_of_eq rfl) (hb hby at_236) (fun _ _ => ⟨rfl, rfl, (by decide : 5 + 0 ≤ _), (by decide : 20 + 0 ≤ _)⟩)
      dsimp only [Pt.U, Pt.locs, Pt.cells, Pt.slots] at X130 l130 y130 z130 st130 hQ130
      subst y130 z130
      obtain ⟨rfl, Nq130, q130_0⟩ := hQ130
      have N130 : Fr n0 L130 := by rw [l130]; exact Fr.app N125 Nq130
      refine Goes.step (S' := T130.setTop (mkF m 247 #[.val (.int p0), .val (.int p1), .val (.int p2), .val (.int p3), .val (.int p4), .val (.int (2 : Int32)), s6, .val (.int i7), .val (.int r_113), .val (.int r_115), .val (.int r_117), .val (.ref b118), .val (.ref b124), .val (.int (100 : Int32)), .unset, .unset] [(.int ((2 : Int32) - (1 : Int32))), (.int i7)])) (fun t k => st130.trans (XS.istore X130.here hx rfl (hb hby at_239) rfl (l' := #[.val (.int p0), .val (.int p1), .val (.int p2), .val (.int p3), .val (.int p4), .val (.int (2 : Int32)), s6, .val (.int i7), .val (.int r_113), .val (.int r_115), .val (.int r_117), .val (.ref b118), .val (.ref b124), .val (.int (100 : Int32)), .unset, .unset]) rfl (XS.iload X130.here hx rfl (hb hby at_241) rfl (XS.iload X130.here hx rfl (hb hby at_243) rfl (XS.iconst X130.here hx rfl (hb hby at_245) (XS.isub X130.here hx rfl (hb hby at_246) rfl k)))))) ?_
      rw [show ((2 : Int32) - (1 : Int32)) = (1 : Int32) from by decide]
      refine Goes.step (S' := T130.setTop (mkF m 254 #[.val (.int p0), .val (.int p1), .val (.int p2), .val (.int p3), .val (.int p4), .val (.int (2 : Int32)), s6, .val (.int i7), .val (.int r_113), .val (.int r_115), .val (.int r_117), .val (.ref b118), .val (.ref b124), .val (.int (100 : Int32)), .unset, .unset] [(.int ((2 : Int32) - (1 : Int32)))])) (fun t k => XS.icmpNo X130.here hx rfl (hb hby at_247) rfl (flt (hc128 : ¬ (i7 < (1 : Int32)))).1 (XS.iload X130.here hx rfl (hb hby at_250) rfl (XS.iconst X130.here hx rfl (hb hby at_252) (XS.isub X130.here hx rfl (hb hby at_253) rfl k)))) ?_
      rw [show ((2 : Int32) - (1 : Int32)) = (1 : Int32) from by decide]
      refine Goes.step (S' := T130.setTop (mkF m 267 #[.val (.int p0), .val (.int p1), .val (.int p2), .val (.int p3), .val (.int p4), .val (.int (2 : Int32)), s6, .val (.int i7), .val (.int r_113), .val (.int r_115), .val (.int r_117), .val (.ref b118), .val (.ref b124), .val (.int (100 : Int32)), .val (.int (1 : Int32)), .unset] [(.int ((2 : Int32) - (1 : Int32))), (.int (1 : Int32))])) (fun t k => XS.goto X130.here hx rfl (pc0 := 254) (pc' := 259) rfl (hb hby at_254) (by decide) (by decide) (XS.istore X130.here hx rfl (hb hby at_259) rfl (l' := #[.val (.int p0), .val (.int p1), .val (.int p2), .val (.int p3), .val (.int p4), .val (.int (2 : Int32)), s6, .val (.int i7), .val (.int r_113), .val (.int r_115), .val (.int r_117), .val (.ref b118), .val (.ref b124), .val (.int (100 : Int32)), .val (.int (1 : Int32)), .unset]) rfl (XS.iload X130.here hx rfl (hb hby at_261) rfl (XS.iload X130.here hx rfl (hb hby at_263) rfl (XS.iconst X130.here hx rfl (hb hby at_265) (XS.isub X130.here hx rfl (hb hby at_266) rfl k)))))) ?_
      rw [show ((2 : Int32) - (1 : Int32)) = (1 : Int32) from by decide]
      refine Goes.step (S' := T130.setTop (mkF m 314 #[.val (.int p0), .val (.int p1), .val (.int p2), .val (.int p3), .val (.int p4), .val (.int (2 : Int32)), s6, .val (.int i7), .val (.int r_113), .val (.int r_115), .val (.int r_117), .val (.ref b118), .val (.ref b124), .val (.int (100 : Int32)), .val (.int (1 : Int32)), .val (.int (100 : Int32))] [(.int (1 : Int32))])) (fun t k => XS.icmpNo X130.here hx rfl (hb hby at_267) rfl (teq ((by decide) : (1 : Int32) = (1 : Int32))).2 (XS.bipush X130.here hx rfl (hb hby at_270) (XS.istore X130.here hx rfl (hb hby at_272) rfl (l' := #[.val (.int p0), .val (.int p1), .val (.int p2), .val (.int p3), .val (.int p4), .val (.int (2 : Int32)), s6, .val (.int i7), .val (.int r_113), .val (.int r_115), .val (.int r_117), .val (.ref b118), .val (.ref b124), .val (.int (100 : Int32)), .val (.int (1 : Int32)), .val (.int (100 : Int32))]) rfl (XS.goto X130.here hx rfl (pc0 := 274) (pc' := 306) rfl (hb hby at_274) (by decide) (by decide) (XS.iload X130.here hx rfl (hb hby at_306) rfl (XS.iload X130.here hx rfl (hb hby at_308) rfl (XS.icmpNo X130.here hx rfl (hb hby at_310) rfl (teq ((by decide) : (100 : Int32) = (100 : Int32))).2 (XS.iconst X130.here hx rfl (hb hby at_313) k)))))))) ?_
      refine Goes.step (S' := T130.setTop (mkF m 318 #[.val (.int p0), .val (.int p1), .val (.int p2), .val (.int p3), .val (.int p4), .val (.int (2 : Int32)), s6, .val (.int i7), .val (.int r_113), .val (.int r_115), .val (.int r_117), .val (.ref b118), .val (.ref b124), .val (.int (100 : Int32)), .val (.int (1 : Int32)), .val (.int (100 : Int32))] [(.int (1 : Int32))])) (fun t k => XS.goto X130.here hx rfl (pc0 := 314) (pc' := 318) rfl (hb hby at_314) (by decide) (by decide) k) ?_
      refine Goes.leave (g := (mkF m 318 #[.val (.int p0), .val (.int p1), .val (.int p2), .val (.int p3), .val (.int p4), .val (.int (2 : Int32)), s6, .val (.int i7), .val (.int r_113), .val (.int r_115), .val (.int r_117), .val (.ref b118), .val (.ref b124), .val (.int (100 : Int32)), .val (.int (1 : Int32)), .val (.int (100 : Int32))] [(.int (1 : Int32))])) X130 Bd.notSynchronized (v := (some (.int (1 : Int32)))) (fun h => by rw [Bd.returns] at h; cases h) (fun fs hr => retN X130 hx (t := .boolean) Bd.returns (by simp) (hb hby at_318) hr) q130_0 ?_ (by decide) (by decide)
      exact ⟨rfl, N130⟩
  have s3 : ∀ (s6 : Slot) (i7 : Int32) (Ts3 : State) (locss3 : List Loc)  (Xs3 : Stand p l e room_1 s m #[(.int p0), (.int p1), (.int p2), (.int p3), (.int p4)] below meth c Ts3 locss3 0 0) (es3 : Ts3.heap = h0) (Ns3 : Fr n0 locss3) (Hy : ¬ (i7 < (0 : Int32))), Goes p e below (Pq (Q_law Z p0 p1 p2 p3 p4 da kd ca clc em mr h0 n0) s room_1.cells room_1.slots) (Ts3.setTop (mkF m 40 #[.val (.int p0), .val (.int p1), .val (.int p2), .val (.int p3), .val (.int p4), .val (.int (3 : Int32)), s6, .val (.int i7), .unset, .unset, .unset, .unset, .unset, .unset, .unset, .unset] [])) := by
    intro s6 i7 Ts3 locss3 Xs3 es3 Ns3 Hy
    refine Goes.step (S' := Ts3.setTop (mkF m 41 #[.val (.int p0), .val (.int p1), .val (.int p2), .val (.int p3), .val (.int p4), .val (.int (3 : Int32)), s6, .val (.int i7), .unset, .unset, .unset, .unset, .unset, .unset, .unset, .unset] [(.int p2)])) (fun t k => XS.iloadN Xs3.here hx rfl (hb hby at_40) rfl k) ?_
    obtain ⟨_, _, ⟨T131, L131, k131, n131⟩, -, X131, ⟨Lc131, hQ131, l131, y131, z131⟩, st131⟩ := Jvm.LawKit.callS Xs3 hx (y := mth2) hown (mvT hZ tw1) (mvT hZ tw2) (mvT hZ tw3) (mvT hZ tw4) (by decide) (backOf (W := 0) (pct l Z a0 hw [] p2 h0 n0 Z0 ) hZ tw4 tw3 (by decide) (by decide)) (g := (mkF m 41 #[.val (.int p0), .val (.int p1), .val (.int p2), .val (.int p3), .val (.int p4), .val (.int (3 : Int32)), s6, .val (.int i7), .unset, .unset, .unset, .unset, .unset, .unset, .unset, .unset] [(.int p2)])) rfl (by rw [hml]; rfl) (argsL := [(.int p2)]) (rest := []) (lenOf pd_I_I rfl) rfl (Nat.le_of_eq rfl) (hb hby at_41) (fun _ _ => ⟨rfl, es3, (by decide : 0 + 0 ≤ _), (by decide : 0 + 0 ≤ _)⟩)
    dsimp only [Pt.U, Pt.locs, Pt.cells, Pt.slots] at X131 l131 y131 z131 st131 hQ131
    subst y131 z131
    obtain ⟨r_131, rfl, Nq131, q131_0, q131_1, q131_2⟩ := hQ131
    have N131 : Fr n0 L131 := by rw [l131]; exact Fr.app Ns3 Nq131
    refine Goes.step (S' := T131.setTop (mkF m 49 #[.val (.int p0), .val (.int p1), .val (.int p2), .val (.int p3), .val (.int p4), .val (.int (3 : Int32)), s6, .val (.int i7), .val (.int r_131), .unset, .unset, .unset, .unset, .unset, .unset, .unset] [(.int p3), (.int r_131)])) (fun t k => st131 _ (XS.istore X131.here hx rfl (hb hby at_44) rfl (l' := #[.val (.int p0), .val (.int p1), .val (.int p2), .val (.int p3), .val (.int p4), .val (.int (3 : Int32)), s6, .val (.int i7), .val (.int r_131), .unset, .unset, .unset, .unset, .unset, .unset, .unset]) rfl (XS.iload X131.here hx rfl (hb hby at_46) rfl (XS.iloadN X131.here hx rfl (hb hby at_48) rfl k)))) ?_
    obtain ⟨_, _, ⟨T132, L132, k132, n132⟩, -, X132, ⟨Lc132, hQ132, l132, y132, z132⟩, st132⟩ := Jvm.LawKit.callS X131 hx (y := mth2) hown (mvT hZ tw1) (mvT hZ tw2) (mvT hZ tw3) (mvT hZ tw4) (by decide) (backOf (W := 1) (pct l Z a0 hw [] p3 h0 n0 Z0 ) hZ tw4 tw3 (by decide) (by decide)) (g := (mkF m 49 #[.val (.int p0), .val (.int p1), .val (.int p2), .val (.int p3), .val (.int p4), .val (.int (3 : Int32)), s6, .val (.int i7), .val (.int r_131), .unset, .unset, .unset, .unset, .unset, .unset, .unset] [(.int p3), (.int r_131)])) rfl (by rw [hml]; rfl) (argsL := [(.int p3)]) (rest := [(.int r_131)]) (lenOf pd_I_I rfl) rfl (Nat.le_of_eq rfl) (hb hby at_49) (fun _ _ => ⟨rfl, q131_0, (by decide : 0 + 0 ≤ _), (by decide : 0 + 0 ≤ _)⟩)
    dsimp only [Pt.U, Pt.locs, Pt.cells, Pt.slots] at X132 l132 y132 z132 st132 hQ132
    subst y132 z132
    obtain ⟨r_132, rfl, Nq132, q132_0, q132_1, q132_2⟩ := hQ132
    have N132 : Fr n0 L132 := by rw [l132]; exact Fr.app N131 Nq132
    refine Goes.step (S' := T132.setTop (mkF m 52 #[.val (.int p0), .val (.int p1), .val (.int p2), .val (.int p3), .val (.int p4), .val (.int (3 : Int32)), s6, .val (.int i7), .val (.int r_131), .unset, .unset, .unset, .unset, .unset, .unset, .unset] [(.int r_132), (.int r_131)])) (fun t k => st132 _ k) ?_
    obtain ⟨_, _, ⟨T133, L133, k133, n133⟩, -, X133, ⟨Lc133, hQ133, l133, y133, z133⟩, st133⟩ := Jvm.LawKit.callS X132 hx (y := mth0) hown (mvT hZ tw9) (mvT hZ tw10) (mvT hZ tw7) (mvT hZ tw11) (by decide) (backOf (W := 0) (mxr l Z a0 hw [] r_131 r_132 h0 n0 Z0 (q131_1 : ¬ (r_131 < (0 : Int32))) (q131_2 : ¬ ((100 : Int32) < r_131)) (q132_1 : ¬ (r_132 < (0 : Int32))) (q132_2 : ¬ ((100 : Int32) < r_132))) hZ tw11 tw7 (by decide) (by decide)) (g := (mkF m 52 #[.val (.int p0), .val (.int p1), .val (.int p2), .val (.int p3), .val (.int p4), .val (.int (3 : Int32)), s6, .val (.int i7), .val (.int r_131), .unset, .unset, .unset, .unset, .unset, .unset, .unset] [(.int r_132), (.int r_131)])) rfl (by rw [hml]; rfl) (argsL := [(.int r_131), (.int r_132)]) (rest := []) (lenOf pd_II_I rfl) rfl (Nat.le_of_eq rfl) (hb hby at_52) (fun _ _ => ⟨rfl, q132_0, (by decide : 0 + 0 ≤ _), (by decide : 0 + 0 ≤ _)⟩)
    dsimp only [Pt.U, Pt.locs, Pt.cells, Pt.slots] at X133 l133 y133 z133 st133 hQ133
    subst y133 z133
    obtain ⟨r_133, rfl, Nq133, q133_0, q133_1, q133_2⟩ := hQ133
    have N133 : Fr n0 L133 := by rw [l133]; exact Fr.app N132 Nq133
    refine Goes.step (S' := T133.setTop (mkF m 61 #[.val (.int p0), .val (.int p1), .val (.int p2), .val (.int p3), .val (.int p4), .val (.int (3 : Int32)), s6, .val (.int i7), .val (.int r_131), .val (.int r_133), .unset, .unset, .unset, .unset, .unset, .unset] [(.int p4), (.int r_133)])) (fun t k => st133 _ (XS.istore X133.here hx rfl (hb hby at_55) rfl (l' := #[.val (.int p0), .val (.int p1), .val (.int p2), .val (.int p3), .val (.int p4), .val (.int (3 : Int32)), s6, .val (.int i7), .val (.int r_131), .val (.int r_133), .unset, .unset, .unset, .unset, .unset, .unset]) rfl (XS.iload X133.here hx rfl (hb hby at_57) rfl (XS.iload X133.here hx rfl (hb hby at_59) rfl k)))) ?_
    obtain ⟨_, _, ⟨T134, L134, k134, n134⟩, -, X134, ⟨Lc134, hQ134, l134, y134, z134⟩, st134⟩ := Jvm.LawKit.callS X133 hx (y := mth2) hown (mvT hZ tw1) (mvT hZ tw2) (mvT hZ tw3) (mvT hZ tw4) (by decide) (backOf (W := 1) (pct l Z a0 hw [] p4 h0 n0 Z0 ) hZ tw4 tw3 (by decide) (by decide)) (g := (mkF m 61 #[.val (.int p0), .val (.int p1), .val (.int p2), .val (.int p3), .val (.int p4), .val (.int (3 : Int32)), s6, .val (.int i7), .val (.int r_131), .val (.int r_133), .unset, .unset, .unset, .unset, .unset, .unset] [(.int p4), (.int r_133)])) rfl (by rw [hml]; rfl) (argsL := [(.int p4)]) (rest := [(.int r_133)]) (lenOf pd_I_I rfl) rfl (Nat.le_of_eq rfl) (hb hby at_61) (fun _ _ => ⟨rfl, q133_0, (by decide : 0 + 0 ≤ _), (by decide : 0 + 0 ≤ _)⟩)
    dsimp only [Pt.U, Pt.locs, Pt.cells, Pt.slots] at X134 l134 y134 z134 st134 hQ134
    subst y134 z134
    obtain ⟨r_134, rfl, Nq134, q134_0, q134_1, q134_2⟩ := hQ134
    have N134 : Fr n0 L134 := by rw [l134]; exact Fr.app N133 Nq134
    refine Goes.step (S' := T134.setTop (mkF m 64 #[.val (.int p0), .val (.int p1), .val (.int p2), .val (.int p3), .val (.int p4), .val (.int (3 : Int32)), s6, .val (.int i7), .val (.int r_131), .val (.int r_133), .unset, .unset, .unset, .unset, .unset, .unset] [(.int r_134), (.int r_133)])) (fun t k => st134 _ k) ?_
    obtain ⟨_, _, ⟨T135, L135, k135, n135⟩, -, X135, ⟨Lc135, hQ135, l135, y135, z135⟩, st135⟩ := Jvm.LawKit.callS X134 hx (y := mth0) hown (mvT hZ tw9) (mvT hZ tw10) (mvT hZ tw7) (mvT hZ tw11) (by decide) (backOf (W := 0) (mxr l Z a0 hw [] r_133 r_134 h0 n0 Z0 (q133_1 : ¬ (r_133 < (0 : Int32))) (q133_2 : ¬ ((100 : Int32) < r_133)) (q134_1 : ¬ (r_134 < (0 : Int32))) (q134_2 : ¬ ((100 : Int32) < r_134))) hZ tw11 tw7 (by decide) (by decide)) (g := (mkF m 64 #[.val (.int p0), .val (.int p1), .val (.int p2), .val (.int p3), .val (.int p4), .val (.int (3 : Int32)), s6, .val (.int i7), .val (.int r_131), .val (.int r_133), .unset, .unset, .unset, .unset, .unset, .unset] [(.int r_134), (.int r_133)])) rfl (by rw [hml]; rfl) (argsL := [(.int r_133), (.int r_134)]) (rest := []) (lenOf pd_II_I rfl) rfl (Nat.le_of_eq rfl) (hb hby at_64) (fun _ _ => ⟨rfl, q134_0, (by decide : 0 + 0 ≤ _), (by decide : 0 + 0 ≤ _)⟩)
    dsimp only [Pt.U, Pt.locs, Pt.cells, Pt.slots] at X135 l135 y135 z135 st135 hQ135
    subst y135 z135
    obtain ⟨r_135, rfl, Nq135, q135_0, q135_1, q135_2⟩ := hQ135
    have N135 : Fr n0 L135 := by rw [l135]; exact Fr.app N134 Nq135
    refine Goes.step (S' := T135.setTop (mkF m 69 #[.val (.int p0), .val (.int p1), .val (.int p2), .val (.int p3), .val (.int p4), .val (.int (3 : Int32)), s6, .val (.int i7), .val (.int r_131), .val (.int r_133), .val (.int r_135), .unset, .unset, .unset, .unset, .unset] [])) (fun t k => st135 _ (XS.istore X135.here hx rfl (hb hby at_67) rfl (l' := #[.val (.int p0), .val (.int p1), .val (.int p2), .val (.int p3), .val (.int p4), .val (.int (3 : Int32)), s6, .val (.int i7), .val (.int r_131), .val (.int r_133), .val (.int r_135), .unset, .unset, .unset, .unset, .unset]) rfl k)) ?_
    obtain ⟨T136, h136, X136, e136, E136, A136, D136, U136, st136⟩ := newO X135 hx hZ hown tw12 tw13 tw14 q135_0 (g := (mkF m 69 #[.val (.int p0), .val (.int p1), .val (.int p2), .val (.int p3), .val (.int p4), .val (.int (3 : Int32)), s6, .val (.int i7), .val (.int r_131), .val (.int r_133), .val (.int r_135), .unset, .unset, .unset, .unset, .unset] [])) rfl (hb hby at_69) (by decide) (by decide)
    obtain ⟨b136, g136⟩ : ∃ z, z = h0.size := ⟨_, rfl⟩
    rw [← g136] at A136 D136 U136 st136
    have F136_modCount : Fld Z h136 b136 "java/util/AbstractList" "modCount" "I" (.int (0 : Int32)) := D136 (Or.inl tw34) (ty := .int) (by decide)
    have F136_elementData : Fld Z h136 b136 "java/util/ArrayList" "elementData" "[Ljava/lang/Object;" .null := D136 (Or.inl tw37) (ty := (.array (.object "java/lang/Object"))) (by decide)
    have F136_size : Fld Z h136 b136 "java/util/ArrayList" "size" "I" (.int (0 : Int32)) := D136 (Or.inl tw53) (ty := .int) (by decide)
    refine Goes.step (S' := T136.setTop (mkF m 73 #[.val (.int p0), .val (.int p1), .val (.int p2), .val (.int p3), .val (.int p4), .val (.int (3 : Int32)), s6, .val (.int i7), .val (.int r_131), .val (.int r_133), .val (.int r_135), .unset, .unset, .unset, .unset, .unset] [(.ref b136), (.ref b136)])) (fun t k => st136 _ (XS.dup X136.here hx rfl (hb hby at_72) rfl rfl k)) ?_
    obtain ⟨_, _, ⟨T137, L137, k137, n137⟩, -, X137, ⟨Lc137, hQ137, l137, y137, z137⟩, st137⟩ := X136.specialBack hx (y := mth6) rfl hown (mvT hZ tw15) (mvT hZ tw16) (mvT hZ tw17) (by decide) (backOf (W := 1) (arl l Z a0 hw [] b136 da h136 n0 (Nat.le_trans Z0 E136.1) A136 F136_modCount F136_elementData F136_size (Nat.le_trans Z0 (Nat.le_of_eq g136.symm)) (Sta.ext E136 SD)) hZ tw17 tw14 (by decide) (by decide)) (g := (mkF m 73 #[.val (.int p0), .val (.int p1), .val (.int p2), .val (.int p3), .val (.int p4), .val (.int (3 : Int32)), s6, .val (.int i7), .val (.int r_131), .val (.int r_133), .val (.int r_135), .unset, .unset, .unset, .unset, .unset] [(.ref b136), (.ref b136)])) rfl (by rw [hml]; rfl) (Steps.refl _) (a := b136) (argsL := []) (rest := [(.ref b136)]) (lenOf pd_V rfl) rfl (Nat.le_of_eq rfl) (hb hby at_73) (fun _ _ => ⟨rfl, e136, (by decide : 1 + 0 ≤ _), (by decide : 3 + 0 ≤ _)⟩)
    dsimp only [Pt.U, Pt.locs, Pt.cells, Pt.slots] at X137 l137 y137 z137 st137 hQ137
    subst y137 z137
    obtain ⟨rfl, Nq137, q137_0, q137_1, q137_2, q137_3, q137_4⟩ := hQ137
    have N137 : Fr n0 L137 := by rw [l137]; exact Fr.app N135 Nq137
    refine Goes.step (S' := T137.setTop (mkF m 129 #[.val (.int p0), .val (.int p1), .val (.int p2), .val (.int p3), .val (.int p4), .val (.int (3 : Int32)), s6, .val (.int i7), .val (.int r_131), .val (.int r_133), .val (.int r_135), .val (.ref b136), .unset, .unset, .unset, .unset] [])) (fun t k => st137.trans (XS.astore X137.here hx rfl (hb hby at_76) rfl rfl (l' := #[.val (.int p0), .val (.int p1), .val (.int p2), .val (.int p3), .val (.int p4), .val (.int (3 : Int32)), s6, .val (.int i7), .val (.int r_131), .val (.int r_133), .val (.int r_135), .val (.ref b136), .unset, .unset, .unset, .unset]) rfl (XS.iload X137.here hx rfl (hb hby at_78) rfl (XS.iconst X137.here hx rfl (hb hby at_80) (XS.icmpYes X137.here hx rfl (pc0 := 81) (pc' := 98) rfl (hb hby at_81) rfl (feq ((by decide) : ¬ ((3 : Int32) = (1 : Int32)))).2 (by decide) (by decide) (XS.iload X137.here hx rfl (hb hby at_98) rfl (XS.iconst X137.here hx rfl (hb hby at_100) (XS.icmpYes X137.here hx rfl (pc0 := 101) (pc' := 129) rfl (hb hby at_101) rfl (feq ((by decide) : ¬ ((3 : Int32) = (2 : Int32)))).2 (by decide) (by decide) k)))))))) ?_
    refine Goes.step (S' := T137.setTop (mkF m 139 #[.val (.int p0), .val (.int p1), .val (.int p2), .val (.int p3), .val (.int p4), .val (.int (3 : Int32)), s6, .val (.int i7), .val (.int r_131), .val (.int r_133), .val (.int r_135), .val (.ref b136), .unset, .unset, .unset, .unset] [(.int r_131), (.ref b136)])) (fun t k => XS.iload X137.here hx rfl (hb hby at_129) rfl (XS.iconst X137.here hx rfl (hb hby at_131) (XS.icmpNo X137.here hx rfl (hb hby at_132) rfl (teq ((by decide) : (3 : Int32) = (3 : Int32))).2 (XS.aload X137.here hx rfl (hb hby at_135) rfl rfl (XS.iload X137.here hx rfl (hb hby at_137) rfl k))))) ?_
    obtain ⟨_, _, ⟨T138, L138, k138, n138⟩, -, X138, ⟨Lc138, hQ138, l138, y138, z138⟩, st138⟩ := Jvm.LawKit.callS X137 hx (y := mth3) hown (mvT hZ tw38) (mvT hZ tw39) (mvT hZ tw40) (mvT hZ tw41) (by decide) (backOf (W := 1) (vof l Z a0 hw [] r_131 ca clc T137.heap n0 (Nat.le_trans Z0 (Nat.le_trans E136.1 q137_0.1)) (own_stakeep (Sta.ext E136 SH) q137_0 (nsS A136.nostat ns0)) (own_stakeep (Sta.ext E136 SC) q137_0 (nsS A136.nostat ns0)) BX ((OLD.ext E136).keep q137_0 (allS (Nat.le_trans Z0 (Nat.le_of_eq g136.symm)) all0)) (q131_1 : ¬ (r_131 < (0 : Int32))) (q131_2 : ¬ ((100 : Int32) < r_131))) hZ tw41 tw40 (by decide) (by decide)) (g := (mkF m 139 #[.val (.int p0), .val (.int p1), .val (.int p2), .val (.int p3), .val (.int p4), .val (.int (3 : Int32)), s6, .val (.int i7), .val (.int r_131), .val (.int r_133), .val (.int r_135), .val (.ref b136), .unset, .unset, .unset, .unset] [(.int r_131), (.ref b136)])) rfl (by rw [hml]; rfl) (argsL := [(.int r_131)]) (rest := [(.ref b136)]) (lenOf pd_I_Ljava_lang_Integer rfl) rfl (Nat.le_of_eq rfl) (hb hby at_139) (fun _ _ => ⟨rfl, rfl, (by decide : 1 + 0 ≤ _), (by decide : 3 + 0 ≤ _)⟩)
    dsimp only [Pt.U, Pt.locs, Pt.cells, Pt.slots] at X138 l138 y138 z138 st138 hQ138
    subst y138 z138
    obtain ⟨b_138, rfl, Nq138, q138_0, q138_1, q138_2⟩ := hQ138
    have N138 : Fr n0 L138 := by rw [l138]; exact Fr.app N137 Nq138
    rw [q138_0] at q138_1 q138_2
    refine Goes.step (S' := T138.setTop (mkF m 142 #[.val (.int p0), .val (.int p1), .val (.int p2), .val (.int p3), .val (.int p4), .val (.int (3 : Int32)), s6, .val (.int i7), .val (.int r_131), .val (.int r_133), .val (.int r_135), .val (.ref b136), .unset, .unset, .unset, .unset] [(.ref b_138), (.ref b136)])) (fun t k => st138 _ k) ?_
    obtain ⟨cq139, kq139, q139a, q139b, q139c⟩ := isOf hZ q138_0 q137_1
    obtain ⟨_, _, ⟨T139, L139, k139, n139⟩, -, X139, ⟨Lc139, hQ139, l139, y139, z139⟩, st139⟩ := X138.virtualBack hx (y := mth10) (z := mth10) hown (mvT hZ tw45) (mvT hZ tw46) (notFace_of_selects (args := #[]) (mvT hZ tw48)) (mvT hZ tw48) (mvT hZ tw47) (by decide) (backOf (W := 0) (add0 l Z a0 hw [] b136 b_138 (0 : Int32) da kd T137.heap n0 (Nat.le_trans Z0 (Nat.le_trans E136.1 q137_0.1)) q137_1 q137_2 q137_3 q137_4 (Nat.le_trans Z0 (Nat.le_of_eq g136.symm)) (own_stakeep (Sta.ext E136 SD) q137_0 (nsS A136.nostat ns0)) ((VD.ext E136).keep q137_0 (ninS (Nat.ne_of_lt (Nat.lt_of_lt_of_le VD.lt (Nat.le_of_eq g136.symm))) nin0)) q138_1) hZ tw49 tw14 (by decide) (by decide)) q139a q139c (g := (mkF m 142 #[.val (.int p0), .val (.int p1), .val (.int p2), .val (.int p3), .val (.int p4), .val (.int (3 : Int32)), s6, .val (.int i7), .val (.int r_131), .val (.int r_133), .val (.int r_135), .val (.ref b136), .unset, .unset, .unset, .unset] [(.ref b_138), (.ref b136)])) rfl (by rw [hml]; rfl) (Steps.refl _) (argsL := [(.ref b_138)]) (rest := []) (lenOf pd_Ljava_lang_Object__Z rfl) rfl (Nat.le_of_eq rfl) (hb hby at_142) (fun _ _ => ⟨rfl, q138_0, (by decide : 1 + 1 ≤ _), (by decide : 3 + 10 ≤ _)⟩)
    dsimp only [Pt.U, Pt.locs, Pt.cells, Pt.slots] at X139 l139 y139 z139 st139 hQ139
    subst y139 z139
    obtain ⟨b_139, kb_139, rfl, Nq139, q139_0, q139_1, q139_2, q139_3, q139_4, q139_5, q139_6, q139_7, q139_8⟩ := hQ139
    have N139 : Fr n0 L139 := by rw [l139]; exact Fr.app N138 Nq139
    refine Goes.step (S' := T139.setTop (mkF m 150 #[.val (.int p0), .val (.int p1), .val (.int p2), .val (.int p3), .val (.int p4), .val (.int (3 : Int32)), s6, .val (.int i7), .val (.int r_131), .val (.int r_133), .val (.int r_135), .val (.ref b136), .unset, .unset, .unset, .unset] [(.int r_133), (.ref b136)])) (fun t k => st139.trans (XS.pop X139.here hx rfl (hb hby at_145) rfl rfl (XS.aload X139.here hx rfl (hb hby at_146) rfl rfl (XS.iload X139.here hx rfl (hb hby at_148) rfl k)))) ?_
    obtain ⟨_, _, ⟨T140, L140, k140, n140⟩, -, X140, ⟨Lc140, hQ140, l140, y140, z140⟩, st140⟩ := Jvm.LawKit.callS X139 hx (y := mth3) hown (mvT hZ tw38) (mvT hZ tw39) (mvT hZ tw40) (mvT hZ tw41) (by decide) (backOf (W := 1) (vof l Z a0 hw [] r_133 ca clc T139.heap n0 (Nat.le_trans Z0 (Nat.le_trans (Nat.le_trans E136.1 q137_0.1) q139_0.1)) (own_stakeep (own_stakeep (Sta.ext E136 SH) q137_0 (nsS A136.nostat ns0)) q139_0 (nsS q137_1.nostat ns0)) (own_stakeep (own_stakeep (Sta.ext E136 SC) q137_0 (nsS A136.nostat ns0)) q139_0 (nsS q137_1.nostat ns0)) BX (((OLD.ext E136).keep q137_0 (allS (Nat.le_trans Z0 (Nat.le_of_eq g136.symm)) all0)).keep q139_0 (allS (Nat.le_trans Z0 (Nat.le_of_eq g136.symm)) all0)) (q133_1 : ¬ (r_133 < (0 : Int32))) (q133_2 : ¬ ((100 : Int32) < r_133))) hZ tw41 tw40 (by decide) (by decide)) (g := (mkF m 150 #[.val (.int p0), .val (.int p1), .val (.int p2), .val (.int p3), .val (.int p4), .val (.int (3 : Int32)), s6, .val (.int i7), .val (.int r_131), .val (.int r_133), .val (.int r_135), .val (.ref b136), .unset, .unset, .unset, .unset] [(.int r_133), (.ref b136)])) rfl (by rw [hml]; rfl) (argsL := [(.int r_133)]) (rest := [(.ref b136)]) (lenOf pd_I_Ljava_lang_Integer rfl) rfl (Nat.le_of_eq rfl) (hb hby at_150) (fun _ _ => ⟨rfl, rfl, (by decide : 2 + 0 ≤ _), (by decide : 13 + 0 ≤ _)⟩)
    dsimp only [Pt.U, Pt.locs, Pt.cells, Pt.slots] at X140 l140 y140 z140 st140 hQ140
    subst y140 z140
    obtain ⟨b_140, rfl, Nq140, q140_0, q140_1, q140_2⟩ := hQ140
    have N140 : Fr n0 L140 := by rw [l140]; exact Fr.app N139 Nq140
    rw [q140_0] at q140_1 q140_2
    refine Goes.step (S' := T140.setTop (mkF m 153 #[.val (.int p0), .val (.int p1), .val (.int p2), .val (.int p3), .val (.int p4), .val (.int (3 : Int32)), s6, .val (.int i7), .val (.int r_131), .val (.int r_133), .val (.int r_135), .val (.ref b136), .unset, .unset, .unset, .unset] [(.ref b_140), (.ref b136)])) (fun t k => st140 _ k) ?_
    obtain ⟨cq141, kq141, q141a, q141b, q141c⟩ := isOf hZ q140_0 q139_2
    obtain ⟨_, _, ⟨T141, L141, k141, n141⟩, -, X141, ⟨Lc141, hQ141, l141, y141, z141⟩, st141⟩ := X140.virtualBack hx (y := mth10) (z := mth10) hown (mvT hZ tw45) (mvT hZ tw46) (notFace_of_selects (args := #[]) (mvT hZ tw48)) (mvT hZ tw48) (mvT hZ tw47) (by decide) (backOf (W := 0) (add1 l Z a0 hw [] b136 b_140 b_139 kb_139 ((0 : Int32) + (1 : Int32)) b_138 T139.heap n0 (Nat.le_trans Z0 (Nat.le_trans (Nat.le_trans E136.1 q137_0.1) q139_0.1)) q139_2 q139_4 q139_5 q139_6 q139_7 q139_8 q139_3 (Nat.le_trans Z0 (Nat.le_of_eq g136.symm)) (Nat.le_trans Z0 (Nat.le_trans (Nat.le_trans E136.1 q137_0.1) q139_1)) q140_1) hZ tw49 tw14 (by decide) (by decide)) q141a q141c (g := (mkF m 153 #[.val (.int p0), .val (.int p1), .val (.int p2), .val (.int p3), .val (.int p4), .val (.int (3 : Int32)), s6, .val (.int i7), .val (.int r_131), .val (.int r_133), .val (.int r_135), .val (.ref b136), .unset, .unset, .unset, .unset] [(.ref b_140), (.ref b136)])) rfl (by rw [hml]; rfl) (Steps.refl _) (argsL := [(.ref b_140)]) (rest := []) (lenOf pd_Ljava_lang_Object__Z rfl) rfl (Nat.le_of_eq rfl) (hb hby at_153) (fun _ _ => ⟨rfl, q140_0, (by decide : 2 + 0 ≤ _), (by decide : 13 + 0 ≤ _)⟩)
    dsimp only [Pt.U, Pt.locs, Pt.cells, Pt.slots] at X141 l141 y141 z141 st141 hQ141
    subst y141 z141
    obtain ⟨rfl, Nq141, q141_0, q141_1, q141_2, q141_3, q141_4, q141_5, q141_6⟩ := hQ141
    have N141 : Fr n0 L141 := by rw [l141]; exact Fr.app N140 Nq141
    refine Goes.step (S' := T141.setTop (mkF m 161 #[.val (.int p0), .val (.int p1), .val (.int p2), .val (.int p3), .val (.int p4), .val (.int (3 : Int32)), s6, .val (.int i7), .val (.int r_131), .val (.int r_133), .val (.int r_135), .val (.ref b136), .unset, .unset, .unset, .unset] [(.int (100 : Int32)), (.ref b136)])) (fun t k => st141.trans (XS.pop X141.here hx rfl (hb hby at_156) rfl rfl (XS.aload X141.here hx rfl (hb hby at_157) rfl rfl (XS.bipush X141.here hx rfl (hb hby at_159) k)))) ?_
    obtain ⟨_, _, ⟨T142, L142, k142, n142⟩, -, X142, ⟨Lc142, hQ142, l142, y142, z142⟩, st142⟩ := Jvm.LawKit.callS X141 hx (y := mth3) hown (mvT hZ tw38) (mvT hZ tw39) (mvT hZ tw40) (mvT hZ tw41) (by decide) (backOf (W := 1) (vof l Z a0 hw [] (100 : Int32) ca clc T141.heap n0 (Nat.le_trans Z0 (Nat.le_trans (Nat.le_trans (Nat.le_trans E136.1 q137_0.1) q139_0.1) q141_0.1)) (own_stakeep (own_stakeep (own_stakeep (Sta.ext E136 SH) q137_0 (nsS A136.nostat ns0)) q139_0 (nsS q137_1.nostat ns0)) q141_0 (nsS q139_2.nostat (nsS q139_3.nostat ns0))) (own_stakeep (own_stakeep (own_stakeep (Sta.ext E136 SC) q137_0 (nsS A136.nostat ns0)) q139_0 (nsS q137_1.nostat ns0)) q141_0 (nsS q139_2.nostat (nsS q139_3.nostat ns0))) BX ((((OLD.ext E136).keep q137_0 (allS (Nat.le_trans Z0 (Nat.le_of_eq g136.symm)) all0)).keep q139_0 (allS (Nat.le_trans Z0 (Nat.le_of_eq g136.symm)) all0)).keep q141_0 (allS (Nat.le_trans Z0 (Nat.le_of_eq g136.symm)) (allS (Nat.le_trans Z0 (Nat.le_trans (Nat.le_trans E136.1 q137_0.1) q139_1)) all0))) ((by decide) : ¬ ((100 : Int32) < (0 : Int32))) ((by decide) : ¬ ((100 : Int32) < (100 : Int32)))) hZ tw41 tw40 (by decide) (by decide)) (g := (mkF m 161 #[.val (.int p0), .val (.int p1), .val (.int p2), .val (.int p3), .val (.int p4), .val (.int (3 : Int32)), s6, .val (.int i7), .val (.int r_131), .val (.int r_133), .val (.int r_135), .val (.ref b136), .unset, .unset, .unset, .unset] [(.int (100 : Int32)), (.ref b136)])) rfl (by rw [hml]; rfl) (argsL := [(.int (100 : Int32))]) (rest := [(.ref b136)]) (lenOf pd_I_Ljava_lang_Integer rfl) rfl (Nat.le_of_eq rfl) (hb hby at_161) (fun _ _ => ⟨rfl, rfl, (by decide : 2 + 0 ≤ _), (by decide : 13 + 0 ≤ _)⟩)
    dsimp only [Pt.U, Pt.locs, Pt.cells, Pt.slots] at X142 l142 y142 z142 st142 hQ142
    subst y142 z142
    obtain ⟨b_142, rfl, Nq142, q142_0, q142_1, q142_2⟩ := hQ142
    have N142 : Fr n0 L142 := by rw [l142]; exact Fr.app N141 Nq142
    rw [q142_0] at q142_1 q142_2
    refine Goes.step (S' := T142.setTop (mkF m 164 #[.val (.int p0), .val (.int p1), .val (.int p2), .val (.int p3), .val (.int p4), .val (.int (3 : Int32)), s6, .val (.int i7), .val (.int r_131), .val (.int r_133), .val (.int r_135), .val (.ref b136), .unset, .unset, .unset, .unset] [(.ref b_142), (.ref b136)])) (fun t k => st142 _ k) ?_
    obtain ⟨cq143, kq143, q143a, q143b, q143c⟩ := isOf hZ q142_0 q141_1
    obtain ⟨_, _, ⟨T143, L143, k143, n143⟩, -, X143, ⟨Lc143, hQ143, l143, y143, z143⟩, st143⟩ := X142.virtualBack hx (y := mth10) (z := mth10) hown (mvT hZ tw45) (mvT hZ tw46) (notFace_of_selects (args := #[]) (mvT hZ tw48)) (mvT hZ tw48) (mvT hZ tw47) (by decide) (backOf (W := 0) (add2 l Z a0 hw [] b136 b_142 b_139 kb_139 (((0 : Int32) + (1 : Int32)) + (1 : Int32)) b_138 b_140 T141.heap n0 (Nat.le_trans Z0 (Nat.le_trans (Nat.le_trans (Nat.le_trans E136.1 q137_0.1) q139_0.1) q141_0.1)) q141_1 q141_2 q141_3 q141_4 q141_5 q139_8 q141_6 (Nat.le_trans Z0 (Nat.le_of_eq g136.symm)) (Nat.le_trans Z0 (Nat.le_trans (Nat.le_trans E136.1 q137_0.1) q139_1)) q142_1) hZ tw49 tw14 (by decide) (by decide)) q143a q143c (g := (mkF m 164 #[.val (.int p0), .val (.int p1), .val (.int p2), .val (.int p3), .val (.int p4), .val (.int (3 : Int32)), s6, .val (.int i7), .val (.int r_131), .val (.int r_133), .val (.int r_135), .val (.ref b136), .unset, .unset, .unset, .unset] [(.ref b_142), (.ref b136)])) rfl (by rw [hml]; rfl) (Steps.refl _) (argsL := [(.ref b_142)]) (rest := []) (lenOf pd_Ljava_lang_Object__Z rfl) rfl (Nat.le_of_eq rfl) (hb hby at_164) (fun _ _ => ⟨rfl, q142_0, (by decide : 2 + 0 ≤ _), (by decide : 13 + 0 ≤ _)⟩)
    dsimp only [Pt.U, Pt.locs, Pt.cells, Pt.slots] at X143 l143 y143 z143 st143 hQ143
    subst y143 z143
    obtain ⟨rfl, Nq143, q143_0, q143_1, q143_2, q143_3, q143_4, q143_5, q143_6⟩ := hQ143
    have N143 : Fr n0 L143 := by rw [l143]; exact Fr.app N142 Nq143
    refine Goes.step (S' := T143.setTop (mkF m 215 #[.val (.int p0), .val (.int p1), .val (.int p2), .val (.int p3), .val (.int p4), .val (.int (3 : Int32)), s6, .val (.int i7), .val (.int r_131), .val (.int r_133), .val (.int r_135), .val (.ref b136), .unset, .unset, .unset, .unset] [])) (fun t k => st143.trans (XS.pop X143.here hx rfl (hb hby at_167) rfl rfl (XS.goto X143.here hx rfl (pc0 := 168) (pc' := 215) rfl (hb hby at_168) (by decide) (by decide) k))) ?_
    obtain ⟨T144, h144, X144, e144, E144, A144, D144, U144, st144⟩ := newO X143 hx hZ hown tw73 tw74 tw75 rfl (g := (mkF m 215 #[.val (.int p0), .val (.int p1), .val (.int p2), .val (.int p3), .val (.int p4), .val (.int (3 : Int32)), s6, .val (.int i7), .val (.int r_131), .val (.int r_133), .val (.int r_135), .val (.ref b136), .unset, .unset, .unset, .unset] [])) rfl (hb hby at_215) (by decide) (by decide)
    obtain ⟨b144, g144⟩ : ∃ z, z = T143.heap.size := ⟨_, rfl⟩
    rw [← g144] at A144 D144 U144 st144
    have F144_yearOfServiceHours : Fld Z h144 b144 "com/example/planwright/planwright/model/VestingProvisions" "yearOfServiceHours" "I" (.int (0 : Int32)) := D144 (Or.inr tw81) (ty := .int) (by decide)
    have F144_breakInServiceBelowHours : Fld Z h144 b144 "com/example/planwright/planwright/model/VestingProvisions" "breakInServiceBelowHours" "I" (.int (0 : Int32)) := D144 (Or.inr tw83) (ty := .int) (by decide)
    have F144_vestedPercentByYears : Fld Z h144 b144 "com/example/planwright/planwright/model/VestingProvisions" "vestedPercentByYears" "Ljava/util/List;" .null := D144 (Or.inr tw171) (ty := (.object "java/util/List")) (by decide)
    refine Goes.step (S' := T144.setTop (mkF m 227 #[.val (.int p0), .val (.int p1), .val (.int p2), .val (.int p3), .val (.int p4), .val (.int (3 : Int32)), s6, .val (.int i7), .val (.int r_131), .val (.int r_133), .val (.int r_135), .val (.ref b136), .unset, .unset, .unset, .unset] [(.ref b136), (.int (500 : Int32)), (.int (1000 : Int32)), (.ref b144), (.ref b144)])) (fun t k => st144 _ (XS.dup X144.here hx rfl (hb hby at_218) rfl rfl (XS.sipush X144.here hx rfl (hb hby at_219) (XS.sipush X144.here hx rfl (hb hby at_222) (XS.aload X144.here hx rfl (hb hby at_225) rfl rfl k))))) ?_
    obtain ⟨_, _, ⟨T145, L145, k145, n145⟩, -, X145, ⟨Lc145, hQ145, l145, y145, z145⟩, st145⟩ := X144.specialBack hx (y := mth26) rfl hown (mvT hZ tw76) (mvT hZ tw77) (mvT hZ tw78) (by decide) (backOf (W := 1) (vpi3 l Z a0 hw [] b144 (1000 : Int32) (500 : Int32) b136 b_139 kb_139 mr b_138 b_140 b_142 h144 n0 (Nat.le_trans Z0 (Nat.le_trans (Nat.le_trans (Nat.le_trans (Nat.le_trans (Nat.le_trans E136.1 q137_0.1) q139_0.1) q141_0.1) q143_0.1) E144.1)) A144 F144_yearOfServiceHours F144_breakInServiceBelowHours F144_vestedPercentByYears (Nat.le_trans Z0 (Nat.le_trans (Nat.le_trans (Nat.le_trans (Nat.le_trans (Nat.le_trans E136.1 q137_0.1) q139_0.1) q141_0.1) q143_0.1) (Nat.le_of_eq g144.symm))) (Exa.ext E144 q143_1) (Fld.ext E144 q143_3) (Fld.ext E144 q143_4) (q143_5.ext E144) (Exa.ext E144 q143_6) (Exa.ext E144 (((q138_1.keep q139_0).keep q141_0).keep q143_0)) (Exa.ext E144 ((q140_1.keep q141_0).keep q143_0)) (Exa.ext E144 (q142_1.keep q143_0)) MI) hZ tw78 tw75 (by decide) (by decide)) (g := (mkF m 227 #[.val (.int p0), .val (.int p1), .val (.int p2), .val (.int p3), .val (.int p4), .val (.int (3 : Int32)), s6, .val (.int i7), .val (.int r_131), .val (.int r_133), .val (.int r_135), .val (.ref b136), .unset, .unset, .unset, .unset] [(.ref b136), (.int (500 : Int32)), (.int (1000 : Int32)), (.ref b144), (.ref b144)])) rfl (by rw [hml]; rfl) (Steps.refl _) (a := b144) (argsL := [(.int (1000 : Int32)), (.int (500 : Int32)), (.ref b136)]) (rest := [(.ref b144)]) (lenOf pd_IILjava_util_List__V rfl) rfl (Nat.le_of_eq rfl) (hb hby at_227) (fun _ _ => ⟨rfl, e144, (by decide : 3 + 3 ≤ _), (by decide : 16 + 8 ≤ _)⟩)
    dsimp only [Pt.U, Pt.locs, Pt.cells, Pt.slots] at X145 l145 y145 z145 st145 hQ145
    subst y145 z145
    obtain ⟨r_145, b_145, kb_145, rfl, Nq145, q145_0, q145_1, q145_2, q145_3, q145_4, q145_5, q145_6, q145_7⟩ := hQ145
    have N145 : Fr n0 L145 := by rw [l145]; exact Fr.app N143 Nq145
    refine Goes.step (S' := T145.setTop (mkF m 236 #[.val (.int p0), .val (.int p1), .val (.int p2), .val (.int p3), .val (.int p4), .val (.int (3 : Int32)), s6, .val (.int i7), .val (.int r_131), .val (.int r_133), .val (.int r_135), .val (.ref b136), .val (.ref b144), .unset, .unset, .unset] [(.int i7), (.ref b144)])) (fun t k => st145.trans (XS.astore X145.here hx rfl (hb hby at_230) rfl rfl (l' := #[.val (.int p0), .val (.int p1), .val (.int p2), .val (.int p3), .val (.int p4), .val (.int (3 : Int32)), s6, .val (.int i7), .val (.int r_131), .val (.int r_133), .val (.int r_135), .val (.ref b136), .val (.ref b144), .unset, .unset, .unset]) rfl (XS.aload X145.here hx rfl (hb hby at_232) rfl rfl (XS.iload X145.here hx rfl (hb hby at_234) rfl k)))) ?_
    by_cases hc146 : i7 = (0 : Int32)
    case pos =>
      subst hc146
      obtain ⟨cq147, kq147, q147a, q147b, q147c⟩ := isOf hZ rfl q145_1
      obtain ⟨_, _, ⟨T147, L147, k147, n147⟩, -, X147, ⟨Lc147, hQ147, l147, y147, z147⟩, st147⟩ := X145.virtualBack hx (y := mth35) (z := mth35) hown (mvT hZ tw172) (mvT hZ tw173) (notFace_of_selects (args := #[]) (mvT hZ tw175)) (mvT hZ tw175) (mvT hZ tw174) (by decide) (backOf (W := 0) (vp3_0 l Z a0 hw [] b144 r_145 r_131 b_145 kb_145 b_138 b_140 b_142 T145.heap n0 (Nat.le_trans Z0 (Nat.le_trans (Nat.le_trans (Nat.le_trans (Nat.le_trans (Nat.le_trans (Nat.le_trans E136.1 q137_0.1) q139_0.1) q141_0.1) q143_0.1) E144.1) q145_0.1)) q145_1 q145_2 q145_5 q145_6 q145_7 ((Exa.ext E144 (((q138_1.keep q139_0).keep q141_0).keep q143_0)).keep q145_0) ((Fld.ext E144 (((q138_2.keep q139_0 (ninS (Exa.ne q138_1 q137_1 (by decide)) nin0)).keep q141_0 (ninS (Exa.ne (q138_1.keep q139_0) q139_2 (by decide)) (ninS (Nat.ne_of_lt (Nat.lt_of_lt_of_le q138_1.lt q139_1)) nin0))).keep q143_0 (ninS (Exa.ne ((q138_1.keep q139_0).keep q141_0) q141_1 (by decide)) (ninS (Nat.ne_of_lt (Nat.lt_of_lt_of_le q138_1.lt q139_1)) nin0)))).keep q145_0 (ninS (Nat.ne_of_lt (Nat.lt_of_lt_of_le q138_1.lt (Nat.le_trans (Nat.le_trans (Nat.le_trans q139_0.1 q141_0.1) q143_0.1) (Nat.le_of_eq g144.symm)))) nin0))) hZ tw176 tw75 (by decide) (by decide)) q147a q147c (g := (mkF m 236 #[.val (.int p0), .val (.int p1), .val (.int p2), .val (.int p3), .val (.int p4), .val (.int (3 : Int32)), s6, .val (.int (0 : Int32)), .val (.int r_131), .val (.int r_133), .val (.int r_135), .val (.ref b136), .val (.ref b144), .unset, .unset, .unset] [(.int (0 : Int32)), (.ref b144)])) rfl (by rw [hml]; rfl) (Steps.refl _) (argsL := [(.int (0 : Int32))]) (rest := []) (lenOf pd_I_I rfl) rfl (Nat.le_of_eq rfl) (hb hby at_236) (fun _ _ => ⟨rfl, rfl, (by decide : 6 + 0 ≤ _), (by decide : 24 + 0 ≤ _)⟩)
      dsimp only [Pt.U, Pt.locs, Pt.cells, Pt.slots] at X147 l147 y147 z147 st147 hQ147
      subst y147 z147
      obtain ⟨rfl, Nq147, q147_0⟩ := hQ147
      have N147 : Fr n0 L147 := by rw [l147]; exact Fr.app N145 Nq147
      refine Goes.step (S' := T147.setTop (mkF m 247 #[.val (.int p0), .val (.int p1), .val (.int p2), .val (.int p3), .val (.int p4), .val (.int (3 : Int32)), s6, .val (.int (0 : Int32)), .val (.int r_131), .val (.int r_133), .val (.int r_135), .val (.ref b136), .val (.ref b144), .val (.int r_131), .unset, .unset] [(.int ((3 : Int32) - (1 : Int32))), (.int (0 : Int32))])) (fun t k => st147.trans (XS.istore X147.here hx rfl (hb hby at_239) rfl (l' := #[.val (.int p0), .val (.int p1), .val (.int p2), .val (.int p3), .val (.int p4), .val (.int (3 : Int32)), s6, .val (.int (0 : Int32)), .val (.int r_131), .val (.int r_133), .val (.int r_135), .val (.ref b136), .val (.ref b144), .val (.int r_131), .unset, .unset]) rfl (XS.iload X147.here hx rfl (hb hby at_241) rfl (XS.iload X147.here hx rfl (hb hby at_243) rfl (XS.iconst X147.here hx rfl (hb hby at_245) (XS.isub X147.here hx rfl (hb hby at_246) rfl k)))))) ?_
      rw [show ((3 : Int32) - (1 : Int32)) = (2 : Int32) from by decide]
      refine Goes.step (S' := T147.setTop (mkF m 267 #[.val (.int p0), .val (.int p1), .val (.int p2), .val (.int p3), .val (.int p4), .val (.int (3 : Int32)), s6, .val (.int (0 : Int32)), .val (.int r_131), .val (.int r_133), .val (.int r_135), .val (.ref b136), .val (.ref b144), .val (.int r_131), .val (.int (0 : Int32)), .unset] [(.int ((3 : Int32) - (1 : Int32))), (.int (0 : Int32))])) (fun t k => XS.icmpYes X147.here hx rfl (pc0 := 247) (pc' := 257) rfl (hb hby at_247) rfl (tlt ((by decide) : (0 : Int32) < (2 : Int32))).1 (by decide) (by decide) (XS.iload X147.here hx rfl (hb hby at_257) rfl (XS.istore X147.here hx rfl (hb hby at_259) rfl (l' := #[.val (.int p0), .val (.int p1), .val (.int p2), .val (.int p3), .val (.int p4), .val (.int (3 : Int32)), s6, .val (.int (0 : Int32)), .val (.int r_131), .val (.int r_133), .val (.int r_135), .val (.ref b136), .val (.ref b144), .val (.int r_131), .val (.int (0 : Int32)), .unset]) rfl (XS.iload X147.here hx rfl (hb hby at_261) rfl (XS.iload X147.here hx rfl (hb hby at_263) rfl (XS.iconst X147.here hx rfl (hb hby at_265) (XS.isub X147.here hx rfl (hb hby at_266) rfl k))))))) ?_
      rw [show ((3 : Int32) - (1 : Int32)) = (2 : Int32) from by decide]
      refine Goes.step (S' := T147.setTop (mkF m 310 #[.val (.int p0), .val (.int p1), .val (.int p2), .val (.int p3), .val (.int p4), .val (.int (3 : Int32)), s6, .val (.int (0 : Int32)), .val (.int r_131), .val (.int r_133), .val (.int r_135), .val (.ref b136), .val (.ref b144), .val (.int r_131), .val (.int (0 : Int32)), .val (.int r_131)] [(.int r_131), (.int r_131)])) (fun t k => XS.icmpYes X147.here hx rfl (pc0 := 267) (pc' := 277) rfl (hb hby at_267) rfl (feq ((by decide) : ¬ ((0 : Int32) = (2 : Int32)))).2 (by decide) (by decide) (XS.iload X147.here hx rfl (hb hby at_277) rfl (XS.ifNo X147.here hx rfl (hb hby at_279) rfl ((if0 _ _).trans (teq ((by decide) : (0 : Int32) = (0 : Int32))).2) (XS.iload X147.here hx rfl (hb hby at_282) rfl (XS.istore X147.here hx rfl (hb hby at_284) rfl (l' := #[.val (.int p0), .val (.int p1), .val (.int p2), .val (.int p3), .val (.int p4), .val (.int (3 : Int32)), s6, .val (.int (0 : Int32)), .val (.int r_131), .val (.int r_133), .val (.int r_135), .val (.ref b136), .val (.ref b144), .val (.int r_131), .val (.int (0 : Int32)), .val (.int r_131)]) rfl (XS.goto X147.here hx rfl (pc0 := 286) (pc' := 306) rfl (hb hby at_286) (by decide) (by decide) (XS.iload X147.here hx rfl (hb hby at_306) rfl (XS.iload X147.here hx rfl (hb hby at_308) rfl k)))))))) ?_
      refine Goes.step (S' := T147.setTop (mkF m 318 #[.val (.int p0), .val (.int p1), .val (.int p2), .val (.int p3), .val (.int p4), .val (.int (3 : Int32)), s6, .val (.int (0 : Int32)), .val (.int r_131), .val (.int r_133), .val (.int r_135), .val (.ref b136), .val (.ref b144), .val (.int r_131), .val (.int (0 : Int32)), .val (.int r_131)] [(.int (1 : Int32))])) (fun t k => XS.icmpNo X147.here hx rfl (hb hby at_310) rfl (teq (rfl : r_131 = r_131)).2 (XS.iconst X147.here hx rfl (hb hby at_313) (XS.goto X147.here hx rfl (pc0 := 314) (pc' := 318) rfl (hb hby at_314) (by decide) (by decide) k))) ?_
      refine Goes.leave (g := (mkF m 318 #[.val (.int p0), .val (.int p1), .val (.int p2), .val (.int p3), .val (.int p4), .val (.int (3 : Int32)), s6, .val (.int (0 : Int32)), .val (.int r_131), .val (.int r_133), .val (.int r_135), .val (.ref b136), .val (.ref b144), .val (.int r_131), .val (.int (0 : Int32)), .val (.int r_131)] [(.int (1 : Int32))])) X147 Bd.notSynchronized (v := (some (.int (1 : Int32)))) (fun h => by rw [Bd.returns] at h; cases h) (fun fs hr => retN X147 hx (t := .boolean) Bd.returns (by simp) (hb hby at_318) hr) q147_0 ?_ (by decide) (by decide)
      exact ⟨rfl, N147⟩
    case neg =>
      by_cases hc148 : i7 = (1 : Int32)
      case pos =>
        subst hc148
        obtain ⟨cq149, kq149, q149a, q149b, q149c⟩ := isOf hZ rfl q145_1
        obtain ⟨_, _, ⟨T149, L149, k149, n149⟩, -, X149, ⟨Lc149, hQ149, l149, y149, z149⟩, st149⟩ := X145.virtualBack hx (y := mth35) (z := mth35) hown (mvT hZ tw172) (mvT hZ tw173) (notFace_of_selects (args := #[]) (mvT hZ tw175)) (mvT hZ tw175) (mvT hZ tw174) (by decide) (backOf (W := 0) (vp3_1 l Z a0 hw [] b144 r_145 r_133 b_145 kb_145 b_138 b_140 b_142 T145.heap n0 (Nat.le_trans Z0 (Nat.le_trans (Nat.le_trans (Nat.le_trans (Nat.le_trans (Nat.le_trans (Nat.le_trans E136.1 q137_0.1) q139_0.1) q141_0.1) q143_0.1) E144.1) q145_0.1)) q145_1 q145_2 q145_5 q145_6 q145_7 ((Exa.ext E144 ((q140_1.keep q141_0).keep q143_0)).keep q145_0) ((Fld.ext E144 ((q140_2.keep q141_0 (ninS (Exa.ne q140_1 q139_2 (by decide)) (ninS (Exa.ne q140_1 q139_3 (by decide)) nin0))).keep q143_0 (ninS (Exa.ne (q140_1.keep q141_0) q141_1 (by decide)) (ninS (Exa.ne (q140_1.keep q141_0) q141_6 (by decide)) nin0)))).keep q145_0 (ninS (Nat.ne_of_lt (Nat.lt_of_lt_of_le q140_1.lt (Nat.le_trans (Nat.le_trans q141_0.1 q143_0.1) (Nat.le_of_eq g144.symm)))) nin0))) hZ tw176 tw75 (by decide) (by decide)) q149a q149c (g := (mkF m 236 #[.val (.int p0), .val (.int p1), .val (.int p2), .val (.int p3), .val (.int p4), .val (.int (3 : Int32)), s6, .val (.int (1 : Int32)), .val (.int r_131), .val (.int r_133), .val (.int r_135), .val (.ref b136), .val (.ref b144), .unset, .unset, .unset] [(.int (1 : Int32)), (.ref b144)])) rfl (by rw [hml]; rfl) (Steps.refl _) (argsL := [(.int (1 : Int32))]) (rest := []) (lenOf pd_I_I rfl) rfl (Nat.le_of_eq rfl) (hb hby at_236) (fun _ _ => ⟨rfl, rfl, (by decide : 6 + 0 ≤ _), (by decide : 24 + 0 ≤ _)⟩)
        dsimp only [Pt.U, Pt.locs, Pt.cells, Pt.slots] at X149 l149 y149 z149 st149 hQ149
        subst y149 z149
        obtain ⟨rfl, Nq149, q149_0⟩ := hQ149
        have N149 : Fr n0 L149 := by rw [l149]; exact Fr.app N145 Nq149
        refine Goes.step (S' := T149.setTop (mkF m 247 #[.val (.int p0), .val (.int p1), .val (.int p2), .val (.int p3), .val (.int p4), .val (.int (3 : Int32)), s6, .val (.int (1 : Int32)), .val (.int r_131), .val (.int r_133), .val (.int r_135), .val (.ref b136), .val (.ref b144), .val (.int r_133), .unset, .unset] [(.int ((3 : Int32) - (1 : Int32))), (.int (1 : Int32))])) (fun t k => st149.trans (XS.istore X149.here hx rfl (hb hby at_239) rfl (l' := #[.val (.int p0), .val (.int p1), .val (.int p2), .val (.int p3), .val (.int p4), .val (.int (3 : Int32)), s6, .val (.int (1 : Int32)), .val (.int r_131), .val (.int r_133), .val (.int r_135), .val (.ref b136), .val (.ref b144), .val (.int r_133), .unset, .unset]) rfl (XS.iload X149.here hx rfl (hb hby at_241) rfl (XS.iload X149.here hx rfl (hb hby at_243) rfl (XS.iconst X149.here hx rfl (hb hby at_245) (XS.isub X149.here hx rfl (hb hby at_246) rfl k)))))) ?_
        rw [show ((3 : Int32) - (1 : Int32)) = (2 : Int32) from by decide]
        refine Goes.step (S' := T149.setTop (mkF m 267 #[.val (.int p0), .val (.int p1), .val (.int p2), .val (.int p3), .val (.int p4), .val (.int (3 : Int32)), s6, .val (.int (1 : Int32)), .val (.int r_131), .val (.int r_133), .val (.int r_135), .val (.ref b136), .val (.ref b144), .val (.int r_133), .val (.int (1 : Int32)), .unset] [(.int ((3 : Int32) - (1 : Int32))), (.int (1 : Int32))])) (fun t k => XS.icmpYes X149.here hx rfl (pc0 := 247) (pc' := 257) rfl (hb hby at_247) rfl (tlt ((by decide) : (1 : Int32) < (2 : Int32))).1 (by decide) (by decide) (XS.iload X149.here hx rfl (hb hby at_257) rfl (XS.istore X149.here hx rfl (hb hby at_259) rfl (l' := #[.val (.int p0), .val (.int p1), .val (.int p2), .val (.int p3), .val (.int p4), .val (.int (3 : Int32)), s6, .val (.int (1 : Int32)), .val (.int r_131), .val (.int r_133), .val (.int r_135), .val (.ref b136), .val (.ref b144), .val (.int r_133), .val (.int (1 : Int32)), .unset]) rfl (XS.iload X149.here hx rfl (hb hby at_261) rfl (XS.iload X149.here hx rfl (hb hby at_263) rfl (XS.iconst X149.here hx rfl (hb hby at_265) (XS.isub X149.here hx rfl (hb hby at_266) rfl k))))))) ?_
        rw [show ((3 : Int32) - (1 : Int32)) = (2 : Int32) from by decide]
        refine Goes.step (S' := T149.setTop (mkF m 299 #[.val (.int p0), .val (.int p1), .val (.int p2), .val (.int p3), .val (.int p4), .val (.int (3 : Int32)), s6, .val (.int (1 : Int32)), .val (.int r_131), .val (.int r_133), .val (.int r_135), .val (.ref b136), .val (.ref b144), .val (.int r_133), .val (.int (1 : Int32)), .val (.int r_133)] [])) (fun t k => XS.icmpYes X149.here hx rfl (pc0 := 267) (pc' := 277) rfl (hb hby at_267) rfl (feq ((by decide) : ¬ ((1 : Int32) = (2 : Int32)))).2 (by decide) (by decide) (XS.iload X149.here hx rfl (hb hby at_277) rfl (XS.ifYes X149.here hx rfl (pc0 := 279) (pc' := 289) rfl (hb hby at_279) rfl ((if0 _ _).trans (feq ((by decide) : ¬ ((1 : Int32) = (0 : Int32)))).2) (by decide) (by decide) (XS.iload X149.here hx rfl (hb hby at_289) rfl (XS.iconst X149.here hx rfl (hb hby at_291) (XS.icmpNo X149.here hx rfl (hb hby at_292) rfl (teq ((by decide) : (1 : Int32) = (1 : Int32))).2 (XS.iload X149.here hx rfl (hb hby at_295) rfl (XS.istore X149.here hx rfl (hb hby at_297) rfl (l' := #[.val (.int p0), .val (.int p1), .val (.int p2), .val (.int p3), .val (.int p4), .val (.int (3 : Int32)), s6, .val (.int (1 : Int32)), .val (.int r_131), .val (.int r_133), .val (.int r_135), .val (.ref b136), .val (.ref b144), .val (.int r_133), .val (.int (1 : Int32)), .val (.int r_133)]) rfl k)))))))) ?_
        refine Goes.step (S' := T149.setTop (mkF m 318 #[.val (.int p0), .val (.int p1), .val (.int p2), .val (.int p3), .val (.int p4), .val (.int (3 : Int32)), s6, .val (.int (1 : Int32)), .val (.int r_131), .val (.int r_133), .val (.int r_135), .val (.ref b136), .val (.ref b144), .val (.int r_133), .val (.int (1 : Int32)), .val (.int r_133)] [(.int (1 : Int32))])) (fun t k => XS.goto X149.here hx rfl (pc0 := 299) (pc' := 306) rfl (hb hby at_299) (by decide) (by decide) (XS.iload X149.here hx rfl (hb hby at_306) rfl (XS.iload X149.here hx rfl (hb hby at_308) rfl (XS.icmpNo X149.here hx rfl (hb hby at_310) rfl (teq (rfl : r_133 = r_133)).2 (XS.iconst X149.here hx rfl (hb hby at_313) (XS.goto X149.here hx rfl (pc0 := 314) (pc' := 318) rfl (hb hby at_314) (by decide) (by decide) k)))))) ?_
        refine Goes.leave (g := (mkF m 318 #[.val (.int p0), .val (.int p1), .val (.int p2), .val (.int p3), .val (.int p4), .val (.int (3 : Int32)), s6, .val (.int (1 : Int32)), .val (.int r_131), .val (.int r_133), .val (.int r_135), .val (.ref b136), .val (.ref b144), .val (.int r_133), .val (.int (1 : Int32)), .val (.int r_133)] [(.int (1 : Int32))])) X149 Bd.notSynchronized (v := (some (.int (1 : Int32)))) (fun h => by rw [Bd.returns] at h; cases h) (fun fs hr => retN X149 hx (t := .boolean) Bd.returns (by simp) (hb hby at_318) hr) q149_0 ?_ (by decide) (by decide)
        exact ⟨rfl, N149⟩
      case neg =>
        have hc150 : ¬ (i7 < (2 : Int32)) := (by have z151_0 := Hy; have z151_1 := q131_1; have z151_2 := q131_2; have z151_3 := q132_1; have z151_4 := q132_2; have z151_5 := q133_1; have z151_6 := q133_2; have z151_7 := q134_1; have z151_8 := q134_2; have z151_9 := q135_1; have z151_10 := q135_2; have z151_11 := hc146; have z151_12 := hc148; have z151_13 := rng32 i7; have z151_14 := rng32 r_131; have z151_15 := rng32 r_132; have z151_16 := rng32 r_133; have z151_17 := rng32 r_134; have z151_18 := rng32 r_135; (try simp only [Int32.lt_iff_toInt_lt, Int64.lt_iff_toInt_lt, ne_eq, ← Int32.toInt_inj, ← Int64.toInt_inj, Int32.reduceToInt, Int64.reduceToInt, Nat.reducePow] at z151_0 z151_1 z151_2 z151_3 z151_4 z151_5 z151_6 z151_7 z151_8 z151_9 z151_10 z151_11 z151_12 z151_13 z151_14 z151_15 z151_16 z151_17 z151_18 ⊢); try omega)
        obtain ⟨cq152, kq152, q152a, q152b, q152c⟩ := isOf hZ rfl q145_1
        obtain ⟨_, _, ⟨T152, L152, k152, n152⟩, -, X152, ⟨Lc152, hQ152, l152, y152, z152⟩, st152⟩ := X145.virtualBack hx (y := mth35) (z := mth35) hown (mvT hZ tw172) (mvT hZ tw173) (notFace_of_selects (args := #[]) (mvT hZ tw175)) (mvT hZ tw175) (mvT hZ tw174) (by decide) (backOf (W := 0) (vp3_2 l Z a0 hw [] b144 i7 r_145 (100 : Int32) b_145 kb_145 b_138 b_140 b_142 T145.heap n0 (Nat.le_trans Z0 (Nat.le_trans (Nat.le_trans (Nat.le_trans (Nat.le_trans (Nat.le_trans (Nat.le_trans E136.1 q137_0.1) q139_0.1) q141_0.1) q143_0.1) E144.1) q145_0.1)) q145_1 q145_2 q145_5 q145_6 q145_7 ((Exa.ext E144 (q142_1.keep q143_0)).keep q145_0) ((Fld.ext E144 (q142_2.keep q143_0 (ninS (Exa.ne q142_1 q141_1 (by decide)) (ninS (Exa.ne q142_1 q141_6 (by decide)) nin0)))).keep q145_0 (ninS (Nat.ne_of_lt (Nat.lt_of_lt_of_le q142_1.lt (Nat.le_trans q143_0.1 (Nat.le_of_eq g144.symm)))) nin0)) (hc150 : ¬ (i7 < (2 : Int32)))) hZ tw176 tw75 (by decide) (by decide)) q152a q152c (g := (mkF m 236 #[.val (.int p0), .val (.int p1), .val (.int p2), .val (.int p3), .val (.int p4), .val (.int (3 : Int32)), s6, .val (.int i7), .val (.int r_131), .val (.int r_133), .val (.int r_135), .val (.ref b136), .val (.ref b144), .unset, .unset, .unset] [(.int i7), (.ref b144)])) rfl (by rw [hml]; rfl) (Steps.refl _) (argsL := [(.int i7)]) (rest := []) (lenOf pd_I_I rfl) rfl (Nat.le_of_eq rfl) (hb hby at_236) (fun _ _ => ⟨rfl, rfl, (by decide : 6 + 0 ≤ _), (by decide : 24 + 0 ≤ _)⟩)
        dsimp only [Pt.U, Pt.locs, Pt.cells, Pt.slots] at X152 l152 y152 z152 st152 hQ152
        subst y152 z152
        obtain ⟨rfl, Nq152, q152_0⟩ := hQ152
        have N152 : Fr n0 L152 := by rw [l152]; exact Fr.app N145 Nq152
        refine Goes.step (S' := T152.setTop (mkF m 247 #[.val (.int p0), .val (.int p1), .val (.int p2), .val (.int p3), .val (.int p4), .val (.int (3 : Int32)), s6, .val (.int i7), .val (.int r_131), .val (.int r_133), .val (.int r_135), .val (.ref b136), .val (.ref b144), .val (.int (100 : Int32)), .unset, .unset] [(.int ((3 : Int32) - (1 : Int32))), (.int i7)])) (fun t k => st152.trans (XS.istore X152.here hx rfl (hb hby at_239) rfl (l' := #[.val (.int p0), .val (.int p1), .val (.int p2), .val (.int p3), .val (.int p4), .val (.int (3 : Int32)), s6, .val (.int i7), .val (.int r_131), .val (.int r_133), .val (.int r_135), .val (.ref b136), .val (.ref b144), .val (.int (100 : Int32)), .unset, .unset]) rfl (XS.iload X152.here hx rfl (hb hby at_241) rfl (XS.iload X152.here hx rfl (hb hby at_243) rfl (XS.iconst X152.here hx rfl (hb hby at_245) (XS.isub X152.here hx rfl (hb hby at_246) rfl k)))))) ?_
        rw [show ((3 : Int32) - (1 : Int32)) = (2 : Int32) from by decide]
        refine Goes.step (S' := T152.setTop (mkF m 254 #[.val (.int p0), .val (.int p1), .val (.int p2), .val (.int p3), .val (.int p4), .val (.int (3 : Int32)), s6, .val (.int i7), .val (.int r_131), .val (.int r_133), .val (.int r_135), .val (.ref b136), .val (.ref b144), .val (.int (100 : Int32)), .unset, .unset] [(.int ((3 : Int32) - (1 : Int32)))])) (fun t k => XS.icmpNo X152.here hx rfl (hb hby at_247) rfl (flt (hc150 : ¬ (i7 < (2 : Int32)))).1 (XS.iload X152.here hx rfl (hb hby at_250) rfl (XS.iconst X152.here hx rfl (hb hby at_252) (XS.isub X152.here hx rfl (hb hby at_253) rfl k)))) ?_
        rw [show ((3 : Int32) - (1 : Int32)) = (2 : Int32) from by decide]
        refine Goes.step (S' := T152.setTop (mkF m 267 #[.val (.int p0), .val (.int p1), .val (.int p2), .val (.int p3), .val (.int p4), .val (.int (3 : Int32)), s6, .val (.int i7), .val (.int r_131), .val (.int r_133), .val (.int r_135), .val (.ref b136), .val (.ref b144), .val (.int (100 : Int32)), .val (.int (2 : Int32)), .unset] [(.int ((3 : Int32) - (1 : Int32))), (.int (2 : Int32))])) (fun t k => XS.goto X152.here hx rfl (pc0 := 254) (pc' := 259) rfl (hb hby at_254) (by decide) (by decide) (XS.istore X152.here hx rfl (hb hby at_259) rfl (l' := #[.val (.int p0), .val (.int p1), .val (.int p2), .val (.int p3), .val (.int p4), .val (.int (3 : Int32)), s6, .val (.int i7), .val (.int r_131), .val (.int r_133), .val (.int r_135), .val (.ref b136), .val (.ref b144), .val (.int (100 : Int32)), .val (.int (2 : Int32)), .unset]) rfl (XS.iload X152.here hx rfl (hb hby at_261) rfl (XS.iload X152.here hx rfl (hb hby at_263) rfl (XS.iconst X152.here hx rfl (hb hby at_265) (XS.isub X152.here hx rfl (hb hby at_266) rfl k)))))) ?_
        rw [show ((3 : Int32) - (1 : Int32)) = (2 : Int32) from by decide]
        refine Goes.step (S' := T152.setTop (mkF m 314 #[.val (.int p0), .val (.int p1), .val (.int p2), .val (.int p3), .val (.int p4), .val (.int (3 : Int32)), s6, .val (.int i7), .val (.int r_131), .val (.int r_133), .val (.int r_135), .val (.ref b136), .val (.ref b144), .val (.int (100 : Int32)), .val (.int (2 : Int32)), .val (.int (100 : Int32))] [(.int (1 : Int32))])) (fun t k => XS.icmpNo X152.here hx rfl (hb hby at_267) rfl (teq ((by decide) : (2 : Int32) = (2 : Int32))).2 (XS.bipush X152.here hx rfl (hb hby at_270) (XS.istore X152.here hx rfl (hb hby at_272) rfl (l' := #[.val (.int p0), .val (.int p1), .val (.int p2), .val (.int p3), .val (.int p4), .val (.int (3 : Int32)), s6, .val (.int i7), .val (.int r_131), .val (.int r_133), .val (.int r_135), .val (.ref b136), .val (.ref b144), .val (.int (100 : Int32)), .val (.int (2 : Int32)), .val (.int (100 : Int32))]) rfl (XS.goto X152.here hx rfl (pc0 := 274) (pc' := 306) rfl (hb hby at_274) (by decide) (by decide) (XS.iload X152.here hx rfl (hb hby at_306) rfl (XS.iload X152.here hx rfl (hb hby at_308) rfl (XS.icmpNo X152.here hx rfl (hb hby at_310) rfl (teq ((by decide) : (100 : Int32) = (100 : Int32))).2 (XS.iconst X152.here hx rfl (hb hby at_313) k)))))))) ?_
        refine Goes.step (S' := T152.setTop (mkF m 318 #[.val (.int p0), .val (.int p1), .val (.int p2), .val (.int p3), .val (.int p4), .val (.int (3 : Int32)), s6, .val (.int i7), .val (.int r_131), .val (.int r_133), .val (.int r_135), .val (.ref b136), .val (.ref b144), .val (.int (100 : Int32)), .val (.int (2 : Int32)), .val (.int (100 : Int32))] [(.int (1 : Int32))])) (fun t k => XS.goto X152.here hx rfl (pc0 := 314) (pc' := 318) rfl (hb hby at_314) (by decide) (by decide) k) ?_
        refine Goes.leave (g := (mkF m 318 #[.val (.int p0), .val (.int p1), .val (.int p2), .val (.int p3), .val (.int p4), .val (.int (3 : Int32)), s6, .val (.int i7), .val (.int r_131), .val (.int r_133), .val (.int r_135), .val (.ref b136), .val (.ref b144), .val (.int (100 : Int32)), .val (.int (2 : Int32)), .val (.int (100 : Int32))] [(.int (1 : Int32))])) X152 Bd.notSynchronized (v := (some (.int (1 : Int32)))) (fun h => by rw [Bd.returns] at h; cases h) (fun fs hr => retN X152 hx (t := .boolean) Bd.returns (by simp) (hb hby at_318) hr) q152_0 ?_ (by decide) (by decide)
        exact ⟨rfl, N152⟩
  have s4 : ∀ (s6 : Slot) (i7 : Int32) (Ts4 : State) (locss4 : List Loc)  (Xs4 : Stand p l e room_1 s m #[(.int p0), (.int p1), (.int p2), (.int p3), (.int p4)] below meth c Ts4 locss4 0 0) (es4 : Ts4.heap = h0) (Ns4 : Fr n0 locss4) (Hy : ¬ (i7 < (0 : Int32))), Goes p e below (Pq (Q_law Z p0 p1 p2 p3 p4 da kd ca clc em mr h0 n0) s room_1.cells room_1.slots) (Ts4.setTop (mkF m 40 #[.val (.int p0), .val (.int p1), .val (.int p2), .val (.int p3), .val (.int p4), .val (.int (4 : Int32)), s6, .val (.int i7), .unset, .unset, .unset, .unset, .unset, .unset, .unset, .unset] [])) := by
    intro s6 i7 Ts4 locss4 Xs4 es4 Ns4 Hy
    refine Goes.step (S' := Ts4.setTop (mkF m 41 #[.val (.int p0), .val (.int p1), .val (.int p2), .val (.int p3), .val (.int p4), .val (.int (4 : Int32)), s6, .val (.int i7), .unset, .unset, .unset, .unset, .unset, .unset, .unset, .unset] [(.int p2)])) (fun t k => XS.iloadN Xs4.here hx rfl (hb hby at_40) rfl k) ?_
    obtain ⟨_, _, ⟨T153, L153, k153, n153⟩, -, X153, ⟨Lc153, hQ153, l153, y153, z153⟩, st153⟩ := Jvm.LawKit.callS Xs4 hx (y := mth2) hown (mvT hZ tw1) (mvT hZ tw2) (mvT hZ tw3) (mvT hZ tw4) (by decide) (backOf (W := 0) (pct l Z a0 hw [] p2 h0 n0 Z0 ) hZ tw4 tw3 (by decide) (by decide)) (g := (mkF m 41 #[.val (.int p0), .val (.int p1), .val (.int p2), .val (.int p3), .val (.int p4), .val (.int (4 : Int32)), s6, .val (.int i7), .unset, .unset, .unset, .unset, .unset, .unset, .unset, .unset] [(.int p2)])) rfl (by rw [hml]; rfl) (argsL := [(.int p2)]) (rest := []) (lenOf pd_I_I rfl) rfl (Nat.le_of_eq rfl) (hb hby at_41) (fun _ _ => ⟨rfl, es4, (by decide : 0 + 0 ≤ _), (by decide : 0 + 0 ≤ _)⟩)
    dsimp only [Pt.U, Pt.locs, Pt.cells, Pt.slots] at X153 l153 y153 z153 st153 hQ153
    subst y153 z153
    obtain ⟨r_153, rfl, Nq153, q153_0, q153_1, q153_2⟩ := hQ153
    have N153 : Fr n0 L153 := by rw [l153]; exact Fr.app Ns4 Nq153
    refine Goes.step (S' := T153.setTop (mkF m 49 #[.val (.int p0), .val (.int p1), .val (.int p2), .val (.int p3), .val (.int p4), .val (.int (4 : Int32)), s6, .val (.int i7), .val (.int r_153), .unset, .unset, .unset, .unset, .unset, .unset, .unset] [(.int p3), (.int r_153)])) (fun t k => st153 _ (XS.istore X153.here hx rfl (hb hby at_44) rfl (l' := #[.val (.int p0), .val (.int p1), .val (.int p2), .val (.int p3), .val (.int p4), .val (.int (4 : Int32)), s6, .val (.int i7), .val (.int r_153), .unset, .unset, .unset, .unset, .unset, .unset, .unset]) rfl (XS.iload X153.here hx rfl (hb hby at_46) rfl (XS.iloadN X153.here hx rfl (hb hby at_48) rfl k)))) ?_
    obtain ⟨_, _, ⟨T154, L154, k154, n154⟩, -, X154, ⟨Lc154, hQ154, l154, y154, z154⟩, st154⟩ := Jvm.LawKit.callS X153 hx (y := mth2) hown (mvT hZ tw1) (mvT hZ tw2) (mvT hZ tw3) (mvT hZ tw4) (by decide) (backOf (W := 1) (pct l Z a0 hw [] p3 h0 n0 Z0 ) hZ tw4 tw3 (by decide) (by decide)) (g := (mkF m 49 #[.val (.int p0), .val (.int p1), .val (.int p2), .val (.int p3), .val (.int p4), .val (.int (4 : Int32)), s6, .val (.int i7), .val (.int r_153), .unset, .unset, .unset, .unset, .unset, .unset, .unset] [(.int p3), (.int r_153)])) rfl (by rw [hml]; rfl) (argsL := [(.int p3)]) (rest := [(.int r_153)]) (lenOf pd_I_I rfl) rfl (Nat.le_of_eq rfl) (hb hby at_49) (fun _ _ => ⟨rfl, q153_0, (by decide : 0 + 0 ≤ _), (by decide : 0 + 0 ≤ _)⟩)
    dsimp only [Pt.U, Pt.locs, Pt.cells, Pt.slots] at X154 l154 y154 z154 st154 hQ154
    subst y154 z154
    obtain ⟨r_154, rfl, Nq154, q154_0, q154_1, q154_2⟩ := hQ154
    have N154 : Fr n0 L154 := by rw [l154]; exact Fr.app N153 Nq154
    refine Goes.step (S' := T154.setTop (mkF m 52 #[.val (.int p0), .val (.int p1), .val (.int p2), .val (.int p3), .val (.int p4), .val (.int (4 : Int32)), s6, .val (.int i7), .val (.int r_153), .unset, .unset, .unset, .unset, .unset, .unset, .unset] [(.int r_154), (.int r_153)])) (fun t k => st154 _ k) ?_
    obtain ⟨_, _, ⟨T155, L155, k155, n155⟩, -, X155, ⟨Lc155, hQ155, l155, y155, z155⟩, st155⟩ := Jvm.LawKit.callS X154 hx (y := mth0) hown (mvT hZ tw9) (mvT hZ tw10) (mvT hZ tw7) (mvT hZ tw11) (by decide) (backOf (W := 0) (mxr l Z a0 hw [] r_153 r_154 h0 n0 Z0 (q153_1 : ¬ (r_153 < (0 : Int32))) (q153_2 : ¬ ((100 : Int32) < r_153)) (q154_1 : ¬ (r_154 < (0 : Int32))) (q154_2 : ¬ ((100 : Int32) < r_154))) hZ tw11 tw7 (by decide) (by decide)) (g := (mkF m 52 #[.val (.int p0), .val (.int p1), .val (.int p2), .val (.int p3), .val (.int p4), .val (.int (4 : Int32)), s6, .val (.int i7), .val (.int r_153), .unset, .unset, .unset, .unset, .unset, .unset, .unset] [(.int r_154), (.int r_153)])) rfl (by rw [hml]; rfl) (argsL := [(.int r_153), (.int r_154)]) (rest := []) (lenOf pd_II_I rfl) rfl (Nat.le_of_eq rfl) (hb hby at_52) (fun _ _ => ⟨rfl, q154_0, (by decide : 0 + 0 ≤ _), (by decide : 0 + 0 ≤ _)⟩)
    dsimp only [Pt.U, Pt.locs, Pt.cells, Pt.slots] at X155 l155 y155 z155 st155 hQ155
    subst y155 z155
    obtain ⟨r_155, rfl, Nq155, q155_0, q155_1, q155_2⟩ := hQ155
    have N155 : Fr n0 L155 := by rw [l155]; exact Fr.app N154 Nq155
    refine Goes.step (S' := T155.setTop (mkF m 61 #[.val (.int p0), .val (.int p1), .val (.int p2), .val (.int p3), .val (.int p4), .val (.int (4 : Int32)), s6, .val (.int i7), .val (.int r_153), .val (.int r_155), .unset, .unset, .unset, .unset, .unset, .unset] [(.int p4), (.int r_155)])) (fun t k => st155 _ (XS.istore X155.here hx rfl (hb hby at_55) rfl (l' := #[.val (.int p0), .val (.int p1), .val (.int p2), .val (.int p3), .val (.int p4), .val (.int (4 : Int32)), s6, .val (.int i7), .val (.int r_153), .val (.int r_155), .unset, .unset, .unset, .unset, .unset, .unset]) rfl (XS.iload X155.here hx rfl (hb hby at_57) rfl (XS.iload X155.here hx rfl (hb hby at_59) rfl k)))) ?_
    obtain ⟨_, _, ⟨T156, L156, k156, n156⟩, -, X156, ⟨Lc156, hQ156, l156, y156, z156⟩, st156⟩ := Jvm.LawKit.callS X155 hx (y := mth2) hown (mvT hZ tw1) (mvT hZ tw2) (mvT hZ tw3) (mvT hZ tw4) (by decide) (backOf (W := 1) (pct l Z a0 hw [] p4 h0 n0 Z0 ) hZ tw4 tw3 (by decide) (by decide)) (g := (mkF m 61 #[.val (.int p0), .val (.int p1), .val (.int p2), .val (.int p3), .val (.int p4), .val (.int (4 : Int32)), s6, .val (.int i7), .val (.int r_153), .val (.int r_155), .unset, .unset, .unset, .unset, .unset, .unset] [(.int p4), (.int r_155)])) rfl (by rw [hml]; rfl) (argsL := [(.int p4)]) (rest := [(.int r_155)]) (lenOf pd_I_I rfl) rfl (Nat.le_of_eq rfl) (hb hby at_61) (fun _ _ => ⟨rfl, q155_0, (by decide : 0 + 0 ≤ _), (by decide : 0 + 0 ≤ _)⟩)
    dsimp only [Pt.U, Pt.locs, Pt.cells, Pt.slots] at X156 l156 y156 z156 st156 hQ156
    subst y156 z156
    obtain ⟨r_156, rfl, Nq156, q156_0, q156_1, q156_2⟩ := hQ156
    have N156 : Fr n0 L156 := by rw [l156]; exact Fr.app N155 Nq156
    refine Goes.step (S' := T156.setTop (mkF m 64 #[.val (.int p0), .val (.int p1), .val (.int p2), .val (.int p3), .val (.int p4), .val (.int (4 : Int32)), s6, .val (.int i7), .val (.int r_153), .val (.int r_155), .unset, .unset, .unset, .unset, .unset, .unset] [(.int r_156), (.int r_155)])) (fun t k => st156 _ k) ?_
    obtain ⟨_, _, ⟨T157, L157, k157, n157⟩, -, X157, ⟨Lc157, hQ157, l157, y157, z157⟩, st157⟩ := Jvm.LawKit.callS X156 hx (y := mth0) hown (mvT hZ tw9) (mvT hZ tw10) (mvT hZ tw7) (mvT hZ tw11) (by decide) (backOf (W := 0) (mxr l Z a0 hw [] r_155 r_156 h0 n0 Z0 (q155_1 : ¬ (r_155 < (0 : Int32))) (q155_2 : ¬ ((100 : Int32) < r_155)) (q156_1 : ¬ (r_156 < (0 : Int32))) (q156_2 : ¬ ((100 : Int32) < r_156))) hZ tw11 tw7 (by decide) (by decide)) (g := (mkF m 64 #[.val (.int p0), .val (.int p1), .val (.int p2), .val (.int p3), .val (.int p4), .val (.int (4 : Int32)), s6, .val (.int i7), .val (.int r_153), .val (.int r_155), .unset, .unset, .unset, .unset, .unset, .unset] [(.int r_156), (.int r_155)])) rfl (by rw [hml]; rfl) (argsL := [(.int r_155), (.int r_156)]) (rest := []) (lenOf pd_II_I rfl) rfl (Nat.le_of_eq rfl) (hb hby at_64) (fun _ _ => ⟨rfl, q156_0, (by decide : 0 + 0 ≤ _), (by decide : 0 + 0 ≤ _)⟩)
    dsimp only [Pt.U, Pt.locs, Pt.cells, Pt.slots] at X157 l157 y157 z157 st157 hQ157
    subst y157 z157
    obtain ⟨r_157, rfl, Nq157, q157_0, q157_1, q157_2⟩ := hQ157
    have N157 : Fr n0 L157 := by rw [l157]; exact Fr.app N156 Nq157
    refine Goes.step (S' := T157.setTop (mkF m 69 #[.val (.int p0), .val (.int p1), .val (.int p2), .val (.int p3), .val (.int p4), .val (.int (4 : Int32)), s6, .val (.int i7), .val (.int r_153), .val (.int r_155), .val (.int r_157), .unset, .unset, .unset, .unset, .unset] [])) (fun t k => st157 _ (XS.istore X157.here hx rfl (hb hby at_67) rfl (l' := #[.val (.int p0), .val (.int p1), .val (.int p2), .val (.int p3), .val (.int p4), .val (.int (4 : Int32)), s6, .val (.int i7), .val (.int r_153), .val (.int r_155), .val (.int r_157), .unset, .unset, .unset, .unset, .unset]) rfl k)) ?_
    obtain ⟨T158, h158, X158, e158, E158, A158, D158, U158, st158⟩ := newO X157 hx hZ hown tw12 tw13 tw14 q157_0 (g := (mkF m 69 #[.val (.int p0), .val (.int p1), .val (.int p2), .val (.int p3), .val (.int p4), .val (.int (4 : Int32)), s6, .val (.int i7), .val (.int r_153), .val (.int r_155), .val (.int r_157), .unset, .unset, .unset, .unset, .unset] [])) rfl (hb hby at_69) (by decide) (by decide)
    obtain ⟨b158, g158⟩ : ∃ z, z = h0.size := ⟨_, rfl⟩
    rw [← g158] at A158 D158 U158 st158
    have F158_modCount : Fld Z h158 b158 "java/util/AbstractList" "modCount" "I" (.int (0 : Int32)) := D158 (Or.inl tw34) (ty := .int) (by decide)
    have F158_elementData : Fld Z h158 b158 "java/util/ArrayList" "elementData" "[Ljava/lang/Object;" .null := D158 (Or.inl tw37) (ty := (.array (.object "java/lang/Object"))) (by decide)
    have F158_size : Fld Z h158 b158 "java/util/ArrayList" "size" "I" (.int (0 : Int32)) := D158 (Or.inl tw53) (ty := .int) (by decide)
    refine Goes.step (S' := T158.setTop (mkF m 73 #[.val (.int p0), .val (.int p1), .val (.int p2), .val (.int p3), .val (.int p4), .val (.int (4 : Int32)), s6, .val (.int i7), .val (.int r_153), .val (.int r_155), .val (.int r_157), .unset, .unset, .unset, .unset, .unset] [(.ref b158), (.ref b158)])) (fun t k => st158 _ (XS.dup X158.here hx rfl (hb hby at_72) rfl rfl k)) ?_
    obtain ⟨_, _, ⟨T159, L159, k159, n159⟩, -, X159, ⟨Lc159, hQ159, l159, y159, z159⟩, st159⟩ := X158.specialBack hx (y := mth6) rfl hown (mvT hZ tw15) (mvT hZ tw16) (mvT hZ tw17) (by decide) (backOf (W := 1) (arl l Z a0 hw [] b158 da h158 n0 (Nat.le_trans Z0 E158.1) A158 F158_modCount F158_elementData F158_size (Nat.le_trans Z0 (Nat.le_of_eq g158.symm)) (Sta.ext E158 SD)) hZ tw17 tw14 (by decide) (by decide)) (g := (mkF m 73 #[.val (.int p0), .val (.int p1), .val (.int p2), .val (.int p3), .val (.int p4), .val (.int (4 : Int32)), s6, .val (.int i7), .val (.int r_153), .val (.int r_155), .val (.int r_157), .unset, .unset, .unset, .unset, .unset] [(.ref b158), (.ref b158)])) rfl (by rw [hml]; rfl) (Steps.refl _) (a := b158) (argsL := []) (rest := [(.ref b158)]) (lenOf pd_V rfl) rfl (Nat.le_of_eq rfl) (hb hby at_73) (fun _ _ => ⟨rfl, e158, (by decide : 1 + 0 ≤ _), (by decide : 3 + 0 ≤ _)⟩)
    dsimp only [Pt.U, Pt.locs, Pt.cells, Pt.slots] at X159 l159 y159 z159 st159 hQ159
    subst y159 z159
    obtain ⟨rfl, Nq159, q159_0, q159_1, q159_2, q159_3, q159_4⟩ := hQ159
    have N159 : Fr n0 L159 := by rw [l159]; exact Fr.app N157 Nq159
    refine Goes.step (S' := T159.setTop (mkF m 129 #[.val (.int p0), .val (.int p1), .val (.int p2), .val (.int p3), .val (.int p4), .val (.int (4 : Int32)), s6, .val (.int i7), .val (.int r_153), .val (.int r_155), .val (.int r_157), .val (.ref b158), .unset, .unset, .unset, .unset] [])) (fun t k => st159.trans (XS.astore X159.here hx rfl (hb hby at_76) rfl rfl (l' := #[.val (.int p0), .val (.int p1), .val (.int p2), .val (.int p3), .val (.int p4), .val (.int (4 : Int32)), s6, .val (.int i7), .val (.int r_153), .val (.int r_155), .val (.int r_157), .val (.ref b158), .unset, .unset, .unset, .unset]) rfl (XS.iload X159.here hx rfl (hb hby at_78) rfl (XS.iconst X159.here hx rfl (hb hby at_80) (XS.icmpYes X159.here hx rfl (pc0 := 81) (pc' := 98) rfl (hb hby at_81) rfl (feq ((by decide) : ¬ ((4 : Int32) = (1 : Int32)))).2 (by decide) (by decide) (XS.iload X159.here hx rfl (hb hby at_98) rfl (XS.iconst X159.here hx rfl (hb hby at_100) (XS.icmpYes X159.here hx rfl (pc0 := 101) (pc' := 129) rfl (hb hby at_101) rfl (feq ((by decide) : ¬ ((4 : Int32) = (2 : Int32)))).2 (by decide) (by decide) k)))))))) ?_
    refine Goes.step (S' := T159.setTop (mkF m 175 #[.val (.int p0), .val (.int p1), .val (.int p2), .val (.int p3), .val (.int p4), .val (.int (4 : Int32)), s6, .val (.int i7), .val (.int r_153), .val (.int r_155), .val (.int r_157), .val (.ref b158), .unset, .unset, .unset, .unset] [(.int r_153), (.ref b158)])) (fun t k => XS.iload X159.here hx rfl (hb hby at_129) rfl (XS.iconst X159.here hx rfl (hb hby at_131) (XS.icmpYes X159.here hx rfl (pc0 := 132) (pc' := 171) rfl (hb hby at_132) rfl (feq ((by decide) : ¬ ((4 : Int32) = (3 : Int32)))).2 (by decide) (by decide) (XS.aload X159.here hx rfl (hb hby at_171) rfl rfl (XS.iload X159.here hx rfl (hb hby at_173) rfl k))))) ?_
    obtain ⟨_, _, ⟨T160, L160, k160, n160⟩, -, X160, ⟨Lc160, hQ160, l160, y160, z160⟩, st160⟩ := Jvm.LawKit.callS X159 hx (y := mth3) hown (mvT hZ tw38) (mvT hZ tw39) (mvT hZ tw40) (mvT hZ tw41) (by decide) (backOf (W := 1) (vof l Z a0 hw [] r_153 ca clc T159.heap n0 (Nat.le_trans Z0 (Nat.le_trans E158.1 q159_0.1)) (own_stakeep (Sta.ext E158 SH) q159_0 (nsS A158.nostat ns0)) (own_stakeep (Sta.ext E158 SC) q159_0 (nsS A158.nostat ns0)) BX ((OLD.ext E158).keep q159_0 (allS (Nat.le_trans Z0 (Nat.le_of_eq g158.symm)) all0)) (q153_1 : ¬ (r_153 < (0 : Int32))) (q153_2 : ¬ ((100 : Int32) < r_153))) hZ tw41 tw40 (by decide) (by decide)) (g := (mkF m 175 #[.val (.int p0), .val (.int p1), .val (.int p2), .val (.int p3), .val (.int p4), .val (.int (4 : Int32)), s6, .val (.int i7), .val (.int r_153), .val (.int r_155), .val (.int r_157), .val (.ref b158), .unset, .unset, .unset, .unset] [(.int r_153), (.ref b158)])) rfl (by rw [hml]; rfl) (argsL := [(.int r_153)]) (rest := [(.ref b158)]) (lenOf pd_I_Ljava_lang_Integer rfl) rfl (Nat.le_of_eq rfl) (hb hby at_175) (fun _ _ => ⟨rfl, rfl, (by decide : 1 + 0 ≤ _), (by decide : 3 + 0 ≤ _)⟩)
    dsimp only [Pt.U, Pt.locs, Pt.cells, Pt.slots] at X160 l160 y160 z160 st160 hQ160
    subst y160 z160
    obtain ⟨b_160, rfl, Nq160, q160_0, q160_1, q160_2⟩ := hQ160
    have N160 : Fr n0 L160 := by rw [l160]; exact Fr.app N159 Nq160
    rw [q160_0] at q160_1 q160_2
    refine Goes.step (S' := T160.setTop (mkF m 178 #[.val (.int p0), .val (.int p1), .val (.int p2), .val (.int p3), .val (.int p4), .val (.int (4 : Int32)), s6, .val (.int i7), .val (.int r_153), .val (.int r_155), .val (.int r_157), .val (.ref b158), .unset, .unset, .unset, .unset] [(.ref b_160), (.ref b158)])) (fun t k => st160 _ k) ?_
    obtain ⟨cq161, kq161, q161a, q161b, q161c⟩ := isOf hZ q160_0 q159_1
    obtain ⟨_, _, ⟨T161, L161, k161, n161⟩, -, X161, ⟨Lc161, hQ161, l161, y161, z161⟩, st161⟩ := X160.virtualBack hx (y := mth10) (z := mth10) hown (mvT hZ tw45) (mvT hZ tw46) (notFace_of_selects (args := #[]) (mvT hZ tw48)) (mvT hZ tw48) (mvT hZ tw47) (by decide) (backOf (W := 0) (add0 l Z a0 hw [] b158 b_160 (0 : Int32) da kd T159.heap n0 (Nat.le_trans Z0 (Nat.le_trans E158.1 q159_0.1)) q159_1 q159_2 q159_3 q159_4 (Nat.le_trans Z0 (Nat.le_of_eq g158.symm)) (own_stakeep (Sta.ext E158 SD) q159_0 (nsS A158.nostat ns0)) ((VD.ext E158).keep q159_0 (ninS (Nat.ne_of_lt (Nat.lt_of_lt_of_le VD.lt (Nat.le_of_eq g158.symm))) nin0)) q160_1) hZ tw49 tw14 (by decide) (by decide)) q161a q161c (g := (mkF m 178 #[.val (.int p0), .val (.int p1), .val (.int p2), .val (.int p3), .val (.int p4), .val (.int (4 : Int32)), s6, .val (.int i7), .val (.int r_153), .val (.int r_155), .val (.int r_157), .val (.ref b158), .unset, .unset, .unset, .unset] [(.ref b_160), (.ref b158)])) rfl (by rw [hml]; rfl) (Steps.refl _) (argsL := [(.ref b_160)]) (rest := []) (lenOf pd_Ljava_lang_Object__Z rfl) rfl (Nat.le_of_eq rfl) (hb hby at_178) (fun _ _ => ⟨rfl, q160_0, (by decide : 1 + 1 ≤ _), (by decide : 3 + 10 ≤ _)⟩)
    dsimp only [Pt.U, Pt.locs, Pt.cells, Pt.slots] at X161 l161 y161 z161 st161 hQ161
    subst y161 z161
    obtain ⟨b_161, kb_161, rfl, Nq161, q161_0, q161_1, q161_2, q161_3, q161_4, q161_5, q161_6, q161_7, q161_8⟩ := hQ161
    have N161 : Fr n0 L161 := by rw [l161]; exact Fr.app N160 Nq161
    refine Goes.step (S' := T161.setTop (mkF m 186 #[.val (.int p0), .val (.int p1), .val (.int p2), .val (.int p3), .val (.int p4), .val (.int (4 : Int32)), s6, .val (.int i7), .val (.int r_153), .val (.int r_155), .val (.int r_157), .val (.ref b158), .unset, .unset, .unset, .unset] [(.int r_155), (.ref b158)])) (fun t k => st161.trans (XS.pop X161.here hx rfl (hb hby at_181) rfl rfl (XS.aload X161.here hx rfl (hb hby at_182) rfl rfl (XS.iload X161.here hx rfl (hb hby at_184) rfl k)))) ?_
    obtain ⟨_, _, ⟨T162, L162, k162, n162⟩, -, X162, ⟨Lc162, hQ162, l162, y162, z162⟩, st162⟩ := Jvm.LawKit.callS X161 hx (y := mth3) hown (mvT hZ tw38) (mvT hZ tw39) (mvT hZ tw40) (mvT hZ tw41) (by decide) (backOf (W := 1) (vof l Z a0 hw [] r_155 ca clc T161.heap n0 (Nat.le_trans Z0 (Nat.le_trans (Nat.le_trans E158.1 q159_0.1) q161_0.1)) (own_stakeep (own_stakeep (Sta.ext E158 SH) q159_0 (nsS A158.nostat ns0)) q161_0 (nsS q159_1.nostat ns0)) (own_stakeep (own_stakeep (Sta.ext E158 SC) q159_0 (nsS A158.nostat ns0)) q161_0 (nsS q159_1.nostat ns0)) BX (((OLD.ext E158).keep q159_0 (allS (Nat.le_trans Z0 (Nat.le_of_eq g158.symm)) all0)).keep q161_0 (allS (Nat.le_trans Z0 (Nat.le_of_eq g158.symm)) all0)) (q155_1 : ¬ (r_155 < (0 : Int32))) (q155_2 : ¬ ((100 : Int32) < r_155))) hZ tw41 tw40 (by decide) (by decide)) (g := (mkF m 186 #[.val (.int p0), .val (.int p1), .val (.int p2), .val (.int p3), .val (.int p4), .val (.int (4 : Int32)), s6, .val (.int i7), .val (.int r_153), .val (.int r_155), .val (.int r_157), .val (.ref b158), .unset, .unset, .unset, .unset] [(.int r_155), (.ref b158)])) rfl (by rw [hml]; rfl) (argsL := [(.int r_155)]) (rest := [(.ref b158)]) (lenOf pd_I_Ljava_lang_Integer rfl) rfl (Nat.le_of_eq rfl) (hb hby at_186) (fun _ _ => ⟨rfl, rfl, (by decide : 2 + 0 ≤ _), (by decide : 13 + 0 ≤ _)⟩)
    dsimp only [Pt.U, Pt.locs, Pt.cells, Pt.slots] at X162 l162 y162 z162 st162 hQ162
    subst y162 z162
    obtain ⟨b_162, rfl, Nq162, q162_0, q162_1, q162_2⟩ := hQ162
    have N162 : Fr n0 L162 := by rw [l162]; exact Fr.app N161 Nq162
    rw [q162_0] at q162_1 q162_2
    refine Goes.step (S' := T162.setTop (mkF m 189 #[.val (.int p0), .val (.int p1), .val (.int p2), .val (.int p3), .val (.int p4), .val (.int (4 : Int32)), s6, .val (.int i7), .val (.int r_153), .val (.int r_155), .val (.int r_157), .val (.ref b158), .unset, .unset, .unset, .unset] [(.ref b_162), (.ref b158)])) (fun t k => st162 _ k) ?_
    obtain ⟨cq163, kq163, q163a, q163b, q163c⟩ := isOf hZ q162_0 q161_2
    obtain ⟨_, _, ⟨T163, L163, k163, n163⟩, -, X163, ⟨Lc163, hQ163, l163, y163, z163⟩, st163⟩ := X162.virtualBack hx (y := mth10) (z := mth10) hown (mvT hZ tw45) (mvT hZ tw46) (notFace_of_selects (args := #[]) (mvT hZ tw48)) (mvT hZ tw48) (mvT hZ tw47) (by decide) (backOf (W := 0) (add1 l Z a0 hw [] b158 b_162 b_161 kb_161 ((0 : Int32) + (1 : Int32)) b_160 T161.heap n0 (Nat.le_trans Z0 (Nat.le_trans (Nat.le_trans E158.1 q159_0.1) q161_0.1)) q161_2 q161_4 q161_5 q161_6 q161_7 q161_8 q161_3 (Nat.le_trans Z0 (Nat.le_of_eq g158.symm)) (Nat.le_trans Z0 (Nat.le_trans (Nat.le_trans E158.1 q159_0.1) q161_1)) q162_1) hZ tw49 tw14 (by decide) (by decide)) q163a q163c (g := (mkF m 189 #[.val (.int p0), .val (.int p1), .val (.int p2), .val (.int p3), .val (.int p4), .val (.int (4 : Int32)), s6, .val (.int i7), .val (.int r_153), .val (.int r_155), .val (.int r_157), .val (.ref b158), .unset, .unset, .unset, .unset] [(.ref b_162), (.ref b158)])) rfl (by rw [hml]; rfl) (Steps.refl _) (argsL := [(.ref b_162)]) (rest := []) (lenOf pd_Ljava_lang_Object__Z rfl) rfl (Nat.le_of_eq rfl) (hb hby at_189) (fun _ _ => ⟨rfl, q162_0, (by decide : 2 + 0 ≤ _), (by decide : 13 + 0 ≤ _)⟩)
    dsimp only [Pt.U, Pt.locs, Pt.cells, Pt.slots] at X163 l163 y163 z163 st163 hQ163
    subst y163 z163
    obtain ⟨rfl, Nq163, q163_0, q163_1, q163_2, q163_3, q163_4, q163_5, q163_6⟩ := hQ163
    have N163 : Fr n0 L163 := by rw [l163]; exact Fr.app N162 Nq163
    refine Goes.step (S' := T163.setTop (mkF m 197 #[.val (.int p0), .val (.int p1), .val (.int p2), .val (.int p3), .val (.int p4), .val (.int (4 : Int32)), s6, .val (.int i7), .val (.int r_153), .val (.int r_155), .val (.int r_157), .val (.ref b158), .unset, .unset, .unset, .unset] [(.int r_157), (.ref b158)])) (fun t k => st163.trans (XS.pop X163.here hx rfl (hb hby at_192) rfl rfl (XS.aload X163.here hx rfl (hb hby at_193) rfl rfl (XS.iload X163.here hx rfl (hb hby at_195) rfl k)))) ?_
    obtain ⟨_, _, ⟨T164, L164, k164, n164⟩, -, X164, ⟨Lc164, hQ164, l164, y164, z164⟩, st164⟩ := Jvm.LawKit.callS X163 hx (y := mth3) hown (mvT hZ tw38) (mvT hZ tw39) (mvT hZ tw40) (mvT hZ tw41) (by decide) (backOf (W := 1) (vof l Z a0 hw [] r_157 ca clc T163.heap n0 (Nat.le_trans Z0 (Nat.le_trans (Nat.le_trans (Nat.le_trans E158.1 q159_0.1) q161_0.1) q163_0.1)) (own_stakeep (own_stakeep (own_stakeep (Sta.ext E158 SH) q159_0 (nsS A158.nostat ns0)) q161_0 (nsS q159_1.nostat ns0)) q163_0 (nsS q161_2.nostat (nsS q161_3.nostat ns0))) (own_stakeep (own_stakeep (own_stakeep (Sta.ext E158 SC) q159_0 (nsS A158.nostat ns0)) q161_0 (nsS q159_1.nostat ns0)) q163_0 (nsS q161_2.nostat (nsS q161_3.nostat ns0))) BX ((((OLD.ext E158).keep q159_0 (allS (Nat.le_trans Z0 (Nat.le_of_eq g158.symm)) all0)).keep q161_0 (allS (Nat.le_trans Z0 (Nat.le_of_eq g158.symm)) all0)).keep q163_0 (allS (Nat.le_trans Z0 (Nat.le_of_eq g158.symm)) (allS (Nat.le_trans Z0 (Nat.le_trans (Nat.le_trans E158.1 q159_0.1) q161_1)) all0))) (q157_1 : ¬ (r_157 < (0 : Int32))) (q157_2 : ¬ ((100 : Int32) < r_157))) hZ tw41 tw40 (by decide) (by decide)) (g := (mkF m 197 #[.val (.int p0), .val (.int p1), .val (.int p2), .val (.int p3), .val (.int p4), .val (.int (4 : Int32)), s6, .val (.int i7), .val (.int r_153), .val (.int r_155), .val (.int r_157), .val (.ref b158), .unset, .unset, .unset, .unset] [(.int r_157), (.ref b158)])) rfl (by rw [hml]; rfl) (argsL := [(.int r_157)]) (rest := [(.ref b158)]) (lenOf pd_I_Ljava_lang_Integer rfl) rfl (Nat.le_of_eq rfl) (hb hby at_197) (fun _ _ => ⟨rfl, rfl, (by decide : 2 + 0 ≤ _), (by decide : 13 + 0 ≤ _)⟩)
    dsimp only [Pt.U, Pt.locs, Pt.cells, Pt.slots] at X164 l164 y164 z164 st164 hQ164
    subst y164 z164
    obtain ⟨b_164, rfl, Nq164, q164_0, q164_1, q164_2⟩ := hQ164
    have N164 : Fr n0 L164 := by rw [l164]; exact Fr.app N163 Nq164
    rw [q164_0] at q164_1 q164_2
    refine Goes.step (S' := T164.setTop (mkF m 200 #[.val (.int p0), .val (.int p1), .val (.int p2), .val (.int p3), .val (.int p4), .val (.int (4 : Int32)), s6, .val (.int i7), .val (.int r_153), .val (.int r_155), .val (.int r_157), .val (.ref b158), .unset, .unset, .unset, .unset] [(.ref b_164), (.ref b158)])) (fun t k => st164 _ k) ?_
    obtain ⟨cq165, kq165, q165a, q165b, q165c⟩ := isOf hZ q164_0 q163_1
    obtain ⟨_, _, ⟨T165, L165, k165, n165⟩, -, X165, ⟨Lc165, hQ165, l165, y165, z165⟩, st165⟩ := X164.virtualBack hx (y := mth10) (z := mth10) hown (mvT hZ tw45) (mvT hZ tw46) (notFace_of_selects (args := #[]) (mvT hZ tw48)) (mvT hZ tw48) (mvT hZ tw47) (by decide) (backOf (W := 0) (add2 l Z a0 hw [] b158 b_164 b_161 kb_161 (((0 : Int32) + (1 : Int32)) + (1 : Int32)) b_160 b_162 T163.heap n0 (Nat.le_trans Z0 (Nat.le_trans (Nat.le_trans (Nat.le_trans E158.1 q159_0.1) q161_0.1) q163_0.1)) q163_1 q163_2 q163_3 q163_4 q163_5 q161_8 q163_6 (Nat.le_trans Z0 (Nat.le_of_eq g158.symm)) (Nat.le_trans Z0 (Nat.le_trans (Nat.le_trans E158.1 q159_0.1) q161_1)) q164_1) hZ tw49 tw14 (by decide) (by decide)) q165a q165c (g := (mkF m 200 #[.val (.int p0), .val (.int p1), .val (.int p2), .val (.int p3), .val (.int p4), .val (.int (4 : Int32)), s6, .val (.int i7), .val (.int r_153), .val (.int r_155), .val (.int r_157), .val (.ref b158), .unset, .unset, .unset, .unset] [(.ref b_164), (.ref b158)])) rfl (by rw [hml]; rfl) (Steps.refl _) (argsL := [(.ref b_164)]) (rest := []) (lenOf pd_Ljava_lang_Object__Z rfl) rfl (Nat.le_of_eq rfl) (hb hby at_200) (fun _ _ => ⟨rfl, q164_0, (by decide : 2 + 0 ≤ _), (by decide : 13 + 0 ≤ _)⟩)
    dsimp only [Pt.U, Pt.locs, Pt.cells, Pt.slots] at X165 l165 y165 z165 st165 hQ165
    subst y165 z165
    obtain ⟨rfl, Nq165, q165_0, q165_1, q165_2, q165_3, q165_4, q165_5, q165_6⟩ := hQ165
    have N165 : Fr n0 L165 := by rw [l165]; exact Fr.app N164 Nq165
    refine Goes.step (S' := T165.setTop (mkF m 208 #[.val (.int p0), .val (.int p1), .val (.int p2), .val (.int p3), .val (.int p4), .val (.int (4 : Int32)), s6, .val (.int i7), .val (.int r_153), .val (.int r_155), .val (.int r_157), .val (.ref b158), .unset, .unset, .unset, .unset] [(.int (100 : Int32)), (.ref b158)])) (fun t k => st165.trans (XS.pop X165.here hx rfl (hb hby at_203) rfl rfl (XS.aload X165.here hx rfl (hb hby at_204) rfl rfl (XS.bipush X165.here hx rfl (hb hby at_206) k)))) ?_
    obtain ⟨_, _, ⟨T166, L166, k166, n166⟩, -, X166, ⟨Lc166, hQ166, l166, y166, z166⟩, st166⟩ := Jvm.LawKit.callS X165 hx (y := mth3) hown (mvT hZ tw38) (mvT hZ tw39) (mvT hZ tw40) (mvT hZ tw41) (by decide) (backOf (W := 1) (vof l Z a0 hw [] (100 : Int32) ca clc T165.heap n0 (Nat.le_trans Z0 (Nat.le_trans (Nat.le_trans (Nat.le_trans (Nat.le_trans E158.1 q159_0.1) q161_0.1) q163_0.1) q165_0.1)) (own_stakeep (own_stakeep (own_stakeep (own_stakeep (Sta.ext E158 SH) q159_0 (nsS A158.nostat ns0)) q161_0 (nsS q159_1.nostat ns0)) q163_0 (nsS q161_2.nostat (nsS q161_3.nostat ns0))) q165_0 (nsS q163_1.nostat (nsS q163_6.nostat ns0))) (own_stakeep (own_stakeep (own_stakeep (own_stakeep (Sta.ext E158 SC) q159_0 (nsS A158.nostat ns0)) q161_0 (nsS q159_1.nostat ns0)) q163_0 (nsS q161_2.nostat (nsS q161_3.nostat ns0))) q165_0 (nsS q163_1.nostat (nsS q163_6.nostat ns0))) BX (((((OLD.ext E158).keep q159_0 (allS (Nat.le_trans Z0 (Nat.le_of_eq g158.symm)) all0)).keep q161_0 (allS (Nat.le_trans Z0 (Nat.le_of_eq g158.symm)) all0)).keep q163_0 (allS (Nat.le_trans Z0 (Nat.le_of_eq g158.symm)) (allS (Nat.le_trans Z0 (Nat.le_trans (Nat.le_trans E158.1 q159_0.1) q161_1)) all0))).keep q165_0 (allS (Nat.le_trans Z0 (Nat.le_of_eq g158.symm)) (allS (Nat.le_trans Z0 (Nat.le_trans (Nat.le_trans E158.1 q159_0.1) q161_1)) all0))) ((by decide) : ¬ ((100 : Int32) < (0 : Int32))) ((by decide) : ¬ ((100 : Int32) < (100 : Int32)))) hZ tw41 tw40 (by decide) (by decide)) (g := (mkF m 208 #[.val (.int p0), .val (.int p1), .val (.int p2), .val (.int p3), .val (.int p4), .val (.int (4 : Int32)), s6, .val (.int i7), .val (.int r_153), .val (.int r_155), .val (.int r_157), .val (.ref b158), .unset, .unset, .unset, .unset] [(.int (100 : Int32)), (.ref b158)])) rfl (by rw [hml]; rfl) (argsL := [(.int (100 : Int32))]) (rest := [(.ref b158)]) (lenOf pd_I_Ljava_lang_Integer rfl) rfl (Nat.le_of_eq rfl) (hb hby at_208) (fun _ _ => ⟨rfl, rfl, (by decide : 2 + 0 ≤ _), (by decide : 13 + 0 ≤ _)⟩)
    dsimp only [Pt.U, Pt.locs, Pt.cells, Pt.slots] at X166 l166 y166 z166 st166 hQ166
    subst y166 z166
    obtain ⟨b_166, rfl, Nq166, q166_0, q166_1, q166_2⟩ := hQ166
    have N166 : Fr n0 L166 := by rw [l166]; exact Fr.app N165 Nq166
    rw [q166_0] at q166_1 q166_2
    refine Goes.step (S' := T166.setTop (mkF m 211 #[.val (.int p0), .val (.int p1), .val (.int p2), .val (.int p3), .val (.int p4), .val (.int (4 : Int32)), s6, .val (.int i7), .val (.int r_153), .val (.int r_155), .val (.int r_157), .val (.ref b158), .unset, .unset, .unset, .unset] [(.ref b_166), (.ref b158)])) (fun t k => st166 _ k) ?_
    obtain ⟨cq167, kq167, q167a, q167b, q167c⟩ := isOf hZ q166_0 q165_1
    obtain ⟨_, _, ⟨T167, L167, k167, n167⟩, -, X167, ⟨Lc167, hQ167, l167, y167, z167⟩, st167⟩ := X166.virtualBack hx (y := mth10) (z := mth10) hown (mvT hZ tw45) (mvT hZ tw46) (notFace_of_selects (args := #[]) (mvT hZ tw48)) (mvT hZ tw48) (mvT hZ tw47) (by decide) (backOf (W := 0) (add3 l Z a0 hw [] b158 b_166 b_161 kb_161 ((((0 : Int32) + (1 : Int32)) + (1 : Int32)) + (1 : Int32)) b_160 b_162 b_164 T165.heap n0 (Nat.le_trans Z0 (Nat.le_trans (Nat.le_trans (Nat.le_trans (Nat.le_trans E158.1 q159_0.1) q161_0.1) q163_0.1) q165_0.1)) q165_1 q165_2 q165_3 q165_4 q165_5 q161_8 q165_6 (Nat.le_trans Z0 (Nat.le_of_eq g158.symm)) (Nat.le_trans Z0 (Nat.le_trans (Nat.le_trans E158.1 q159_0.1) q161_1)) q166_1) hZ tw49 tw14 (by decide) (by decide)) q167a q167c (g := (mkF m 211 #[.val (.int p0), .val (.int p1), .val (.int p2), .val (.int p3), .val (.int p4), .val (.int (4 : Int32)), s6, .val (.int i7), .val (.int r_153), .val (.int r_155), .val (.int r_157), .val (.ref b158), .unset, .unset, .unset, .unset] [(.ref b_166), (.ref b158)])) rfl (by rw [hml]; rfl) (Steps.refl _) (argsL := [(.ref b_166)]) (rest := []) (lenOf pd_Ljava_lang_Object__Z rfl) rfl (Nat.le_of_eq rfl) (hb hby at_211) (fun _ _ => ⟨rfl, q166_0, (by decide : 2 + 0 ≤ _), (by decide : 13 + 0 ≤ _)⟩)
    dsimp only [Pt.U, Pt.locs, Pt.cells, Pt.slots] at X167 l167 y167 z167 st167 hQ167
    subst y167 z167
    obtain ⟨rfl, Nq167, q167_0, q167_1, q167_2, q167_3, q167_4, q167_5, q167_6⟩ := hQ167
    have N167 : Fr n0 L167 := by rw [l167]; exact Fr.app N166 Nq167
    refine Goes.step (S' := T167.setTop (mkF m 215 #[.val (.int p0), .val (.int p1), .val (.int p2), .val (.int p3), .val (.int p4), .val (.int (4 : Int32)), s6, .val (.int i7), .val (.int r_153), .val (.int r_155), .val (.int r_157), .val (.ref b158), .unset, .unset, .unset, .unset] [])) (fun t k => st167.trans (XS.pop X167.here hx rfl (hb hby at_214) rfl rfl k)) ?_
    obtain ⟨T168, h168, X168, e168, E168, A168, D168, U168, st168⟩ := newO X167 hx hZ hown tw73 tw74 tw75 rfl (g := (mkF m 215 #[.val (.int p0), .val (.int p1), .val (.int p2), .val (.int p3), .val (.int p4), .val (.int (4 : Int32)), s6, .val (.int i7), .val (.int r_153), .val (.int r_155), .val (.int r_157), .val (.ref b158), .unset, .unset, .unset, .unset] [])) rfl (hb hby at_215) (by decide) (by decide)
    obtain ⟨b168, g168⟩ : ∃ z, z = T167.heap.size := ⟨_, rfl⟩
    rw [← g168] at A168 D168 U168 st168
    have F168_yearOfServiceHours : Fld Z h168 b168 "com/example/planwright/planwright/model/VestingProvisions" "yearOfServiceHours" "I" (.int (0 : Int32)) := D168 (Or.inr tw81) (ty := .int) (by decide)
    have F168_breakInServiceBelowHours : Fld Z h168 b168 "com/example/planwright/planwright/model/VestingProvisions" "breakInServiceBelowHours" "I" (.int (0 : Int32)) := D168 (Or.inr tw83) (ty := .int) (by decide)
    have F168_vestedPercentByYears : Fld Z h168 b168 "com/example/planwright/planwright/model/VestingProvisions" "vestedPercentByYears" "Ljava/util/List;" .null := D168 (Or.inr tw171) (ty := (.object "java/util/List")) (by decide)
    refine Goes.step (S' := T168.setTop (mkF m 227 #[.val (.int p0), .val (.int p1), .val (.int p2), .val (.int p3), .val (.int p4), .val (.int (4 : Int32)), s6, .val (.int i7), .val (.int r_153), .val (.int r_155), .val (.int r_157), .val (.ref b158), .unset, .unset, .unset, .unset] [(.ref b158), (.int (500 : Int32)), (.int (1000 : Int32)), (.ref b168), (.ref b168)])) (fun t k => st168 _ (XS.dup X168.here hx rfl (hb hby at_218) rfl rfl (XS.sipush X168.here hx rfl (hb hby at_219) (XS.sipush X168.here hx rfl (hb hby at_222) (XS.aload X168.here hx rfl (hb hby at_225) rfl rfl k))))) ?_
    obtain ⟨_, _, ⟨T169, L169, k169, n169⟩, -, X169, ⟨Lc169, hQ169, l169, y169, z169⟩, st169⟩ := X168.specialBack hx (y := mth26) rfl hown (mvT hZ tw76) (mvT hZ tw77) (mvT hZ tw78) (by decide) (backOf (W := 1) (vpi4 l Z a0 hw [] b168 (1000 : Int32) (500 : Int32) b158 b_161 kb_161 mr b_160 b_162 b_164 b_166 h168 n0 (Nat.le_trans Z0 (Nat.le_trans (Nat.le_trans (Nat.le_trans (Nat.le_trans (Nat.le_trans (Nat.le_trans E158.1 q159_0.1) q161_0.1) q163_0.1) q165_0.1) q167_0.1) E168.1)) A168 F168_yearOfServiceHours F168_breakInServiceBelowHours F168_vestedPercentByYears (Nat.le_trans Z0 (Nat.le_trans (Nat.le_trans (Nat.le_trans (Nat.le_trans (Nat.le_trans (Nat.le_trans E158.1 q159_0.1) q161_0.1) q163_0.1) q165_0.1) q167_0.1) (Nat.le_of_eq g168.symm))) (Exa.ext E168 q167_1) (Fld.ext E168 q167_3) (Fld.ext E168 q167_4) (q167_5.ext E168) (Exa.ext E168 q167_6) (Exa.ext E168 ((((q160_1.keep q161_0).keep q163_0).keep q165_0).keep q167_0)) (Exa.ext E168 (((q162_1.keep q163_0).keep q165_0).keep q167_0)) (Exa.ext E168 ((q164_1.keep q165_0).keep q167_0)) (Exa.ext E168 (q166_1.keep q167_0)) MI) hZ tw78 tw75 (by decide) (by decide)) (g := (mkF m 227 #[.val (.int p0), .val (.int p1), .val (.int p2), .val (.int p3), .val (.int p4), .val (.int (4 : Int32)), s6, .val (.int i7), .val (.int r_153), .val (.int r_155), .val (.int r_157), .val (.ref b158), .unset, .unset, .unset, .unset] [(.ref b158), (.int (500 : Int32)), (.int (1000 : Int32)), (.ref b168), (.ref b168)])) rfl (by rw [hml]; rfl) (Steps.refl _) (a := b168) (argsL := [(.int (1000 : Int32)), (.int (500 : Int32)), (.ref b158)]) (rest := [(.ref b168)]) (lenOf pd_IILjava_util_List__V rfl) rfl (Nat.le_of_eq rfl) (hb hby at_227) (fun _ _ => ⟨rfl, e168, (by decide : 3 + 3 ≤ _), (by decide : 16 + 10 ≤ _)⟩)
    dsimp only [Pt.U, Pt.locs, Pt.cells, Pt.slots] at X169 l169 y169 z169 st169 hQ169
    subst y169 z169
    obtain ⟨r_169, b_169, kb_169, rfl, Nq169, q169_0, q169_1, q169_2, q169_3, q169_4, q169_5, q169_6, q169_7⟩ := hQ169
    have N169 : Fr n0 L169 := by rw [l169]; exact Fr.app N167 Nq169
    refine Goes.step (S' := T169.setTop (mkF m 236 #[.val (.int p0), .val (.int p1), .val (.int p2), .val (.int p3), .val (.int p4), .val (.int (4 : Int32)), s6, .val (.int i7), .val (.int r_153), .val (.int r_155), .val (.int r_157), .val (.ref b158), .val (.ref b168), .unset, .unset, .unset] [(.int i7), (.ref b168)])) (fun t k => st169.trans (XS.astore X169.here hx rfl (hb hby at_230) rfl rfl (l' := #[.val (.int p0), .val (.int p1), .val (.int p2), .val (.int p3), .val (.int p4), .val (.int (4 : Int32)), s6, .val (.int i7), .val (.int r_153), .val (.int r_155), .val (.int r_157), .val (.ref b158), .val (.ref b168), .unset, .unset, .unset]) rfl (XS.aload X169.here hx rfl (hb hby at_232) rfl rfl (XS.iload X169.here hx rfl (hb hby at_234) rfl k)))) ?_
    by_cases hc170 : i7 = (0 : Int32)
    case pos =>
      subst hc170
      obtain ⟨cq171, kq171, q171a, q171b, q171c⟩ := isOf hZ rfl q169_1
      obtain ⟨_, _, ⟨T171, L171, k171, n171⟩, -, X171, ⟨Lc171, hQ171, l171, y171, z171⟩, st171⟩ := X169.virtualBack hx (y := mth35) (z := mth35) hown (mvT hZ tw172) (mvT hZ tw173) (notFace_of_selects (args := #[]) (mvT hZ tw175)) (mvT hZ tw175) (mvT hZ tw174) (by decide) (backOf (W := 0) (vp4_0 l Z a0 hw [] b168 r_169 r_153 b_169 kb_169 b_160 b_162 b_164 b_166 T169.heap n0 (Nat.le_trans Z0 (Nat.le_trans (Nat.le_trans (Nat.le_trans (Nat.le_trans (Nat.le_trans (Nat.le_trans (Nat.le_trans E158.1 q159_0.1) q161_0.1) q163_0.1) q165_0.1) q167_0.1) E168.1) q169_0.1)) q169_1 q169_2 q169_5 q169_6 q169_7 ((Exa.ext E168 ((((q160_1.keep q161_0).keep q163_0).keep q165_0).keep q167_0)).keep q169_0) ((Fld.ext E168 ((((q160_2.keep q161_0 (ninS (Exa.ne q160_1 q159_1 (by decide)) nin0)).keep q163_0 (ninS (Exa.ne (q160_1.keep q161_0) q161_2 (by decide)) (ninS (Nat.ne_of_lt (Nat.lt_of_lt_of_le q160_1.lt q161_1)) nin0))).keep q165_0 (ninS (Exa.ne ((q160_1.keep q161_0).keep q163_0) q163_1 (by decide)) (ninS (Nat.ne_of_lt (Nat.lt_of_lt_of_le q160_1.lt q161_1)) nin0))).keep q167_0 (ninS (Exa.ne (((q160_1.keep q161_0).keep q163_0).keep q165_0) q165_1 (by decide)) (ninS (Nat.ne_of_lt (Nat.lt_of_lt_of_le q160_1.lt q161_1)) nin0)))).keep q169_0 (ninS (Nat.ne_of_lt (Nat.lt_of_lt_of_le q160_1.lt (Nat.le_trans (Nat.le_trans (Nat.le_trans (Nat.le_trans q161_0.1 q163_0.1) q165_0.1) q167_0.1) (Nat.le_of_eq g168.symm)))) nin0))) hZ tw176 tw75 (by decide) (by decide)) q171a q171c (g := (mkF m 236 #[.val (.int p0), .val (.int p1), .val (.int p2), .val (.int p3), .val (.int p4), .val (.int (4 : Int32)), s6, .val (.int (0 : Int32)), .val (.int r_153), .val (.int r_155), .val (.int r_157), .val (.ref b158), .val (.ref b168), .unset, .unset, .unset] [(.int (0 : Int32)), (.ref b168)])) rfl (by rw [hml]; rfl) (Steps.refl _) (argsL := [(.int (0 : Int32))]) (rest := []) (lenOf pd_I_I rfl) rfl (Nat.le_of_eq rfl) (hb hby at_236) (fun _ _ => ⟨rfl, rfl, (by decide : 6 + 0 ≤ _), (by decide : 26 + 0 ≤ _)⟩)
      dsimp only [Pt.U, Pt.locs, Pt.cells, Pt.slots] at X171 l171 y171 z171 st171 hQ171
      subst y171 z171
      obtain ⟨rfl, Nq171, q171_0⟩ := hQ171
      have N171 : Fr n0 L171 := by rw [l171]; exact Fr.app N169 Nq171
      refine Goes.step (S' := T171.setTop (mkF m 247 #[.val (.int p0), .val (.int p1), .val (.int p2), .val (.int p3), .val (.int p4), .val (.int (4 : Int32)), s6, .val (.int (0 : Int32)), .val (.int r_153), .val (.int r_155), .val (.int r_157), .val (.ref b158), .val (.ref b168), .val (.int r_153), .unset, .unset] [(.int ((4 : Int32) - (1 : Int32))), (.int (0 : Int32))])) (fun t k => st171.trans (XS.istore X171.here hx rfl (hb hby at_239) rfl (l' := #[.val (.int p0), .val (.int p1), .val (.int p2), .val (.int p3), .val (.int p4), .val (.int (4 : Int32)), s6, .val (.int (0 : Int32)), .val (.int r_153), .val (.int r_155), .val (.int r_157), .val (.ref b158), .val (.ref b168), .val (.int r_153), .unset, .unset]) rfl (XS.iload X171.here hx rfl (hb hby at_241) rfl (XS.iload X171.here hx rfl (hb hby at_243) rfl (XS.iconst X171.here hx rfl (hb hby at_245) (XS.isub X171.here hx rfl (hb hby at_246) rfl k)))))) ?_
      rw [show ((4 : Int32) - (1 : Int32)) = (3 : Int32) from by decide]
      refine Goes.step (S' := T171.setTop (mkF m 267 #[.val (.int p0), .val (.int p1), .val (.int p2), .val (.int p3), .val (.int p4), .val (.int (4 : Int32)), s6, .val (.int (0 : Int32)), .val (.int r_153), .val (.int r_155), .val (.int r_157), .val (.ref b158), .val (.ref b168), .val (.int r_153), .val (.int (0 : Int32)), .unset] [(.int ((4 : Int32) - (1 : Int32))), (.int (0 : Int32))])) (fun t k => XS.icmpYes X171.here hx rfl (pc0 := 247) (pc' := 257) rfl (hb hby at_247) rfl (tlt ((by decide) : (0 : Int32) < (3 : Int32))).1 (by decide) (by decide) (XS.iload X171.here hx rfl (hb hby at_257) rfl (XS.istore X171.here hx rfl (hb hby at_259) rfl (l' := #[.val (.int p0), .val (.int p1), .val (.int p2), .val (.int p3), .val (.int p4), .val (.int (4 : Int32)), s6, .val (.int (0 : Int32)), .val (.int r_153), .val (.int r_155), .val (.int r_157), .val (.ref b158), .val (.ref b168), .val (.int r_153), .val (.int (0 : Int32)), .unset]) rfl (XS.iload X171.here hx rfl (hb hby at_261) rfl (XS.iload X171.here hx rfl (hb hby at_263) rfl (XS.iconst X171.here hx rfl (hb hby at_265) (XS.isub X171.here hx rfl (hb hby at_266) rfl k))))))) ?_
      rw [show ((4 : Int32) - (1 : Int32)) = (3 : Int32) from by decide]
      refine Goes.step (S' := T171.setTop (mkF m 310 #[.val (.int p0), .val (.int p1), .val (.int p2), .val (.int p3), .val (.int p4), .val (.int (4 : Int32)), s6, .val (.int (0 : Int32)), .val (.int r_153), .val (.int r_155), .val (.int r_157), .val (.ref b158), .val (.ref b168), .val (.int r_153), .val (.int (0 : Int32)), .val (.int r_153)] [(.int r_153), (.int r_153)])) (fun t k => XS.icmpYes X171.here hx rfl (pc0 := 267) (pc' := 277) rfl (hb hby at_267) rfl (feq ((by decide) : ¬ ((0 : Int32) = (3 : Int32)))).2 (by decide) (by decide) (XS.iload X171.here hx rfl (hb hby at_277) rfl (XS.ifNo X171.here hx rfl (hb hby at_279) rfl ((if0 _ _).trans (teq ((by decide) : (0 : Int32) = (0 : Int32))).2) (XS.iload X171.here hx rfl (hb hby at_282) rfl (XS.istore X171.here hx rfl (hb hby at_284) rfl (l' := #[.val (.int p0), .val (.int p1), .val (.int p2), .val (.int p3), .val (.int p4), .val (.int (4 : Int32)), s6, .val (.int (0 : Int32)), .val (.int r_153), .val (.int r_155), .val (.int r_157), .val (.ref b158), .val (.ref b168), .val (.int r_153), .val (.int (0 : Int32)), .val (.int r_153)]) rfl (XS.goto X171.here hx rfl (pc0 := 286) (pc' := 306) rfl (hb hby at_286) (by decide) (by decide) (XS.iload X171.here hx rfl (hb hby at_306) rfl (XS.iload X171.here hx rfl (hb hby at_308) rfl k)))))))) ?_
      refine Goes.step (S' := T171.setTop (mkF m 318 #[.val (.int p0), .val (.int p1), .val (.int p2), .val (.int p3), .val (.int p4), .val (.int (4 : Int32)), s6, .val (.int (0 : Int32)), .val (.int r_153), .val (.int r_155), .val (.int r_157), .val (.ref b158), .val (.ref b168), .val (.int r_153), .val (.int (0 : Int32)), .val (.int r_153)] [(.int (1 : Int32))])) (fun t k => XS.icmpNo X171.here hx rfl (hb hby at_310) rfl (teq (rfl : r_153 = r_153)).2 (XS.iconst X171.here hx rfl (hb hby at_313) (XS.goto X171.here hx rfl (pc0 := 314) (pc' := 318) rfl (hb hby at_314) (by decide) (by decide) k))) ?_
      refine Goes.leave (g := (mkF m 318 #[.val (.int p0), .val (.int p1), .val (.int p2), .val (.int p3), .val (.int p4), .val (.int (4 : Int32)), s6, .val (.int (0 : Int32)), .val (.int r_153), .val (.int r_155), .val (.int r_157), .val (.ref b158), .val (.ref b168), .val (.int r_153), .val (.int (0 : Int32)), .val (.int r_153)] [(.int (1 : Int32))])) X171 Bd.notSynchronized (v := (some (.int (1 : Int32)))) (fun h => by rw [Bd.returns] at h; cases h) (fun fs hr => retN X171 hx (t := .boolean) Bd.returns (by simp) (hb hby at_318) hr) q171_0 ?_ (by decide) (by decide)
      exact ⟨rfl, N171⟩
    case neg =>
      by_cases hc172 : i7 = (1 : Int32)
      case pos =>
        subst hc172
        obtain ⟨cq173, kq173, q173a, q173b, q173c⟩ := isOf hZ rfl q169_1
        obtain ⟨_, _, ⟨T173, L173, k173, n173⟩, -, X173, ⟨Lc173, hQ173, l173, y173, z173⟩, st173⟩ := X169.virtualBack hx (y := mth35) (z := mth35) hown (mvT hZ tw172) (mvT hZ tw173) (notFace_of_selects (args := #[]) (mvT hZ tw175)) (mvT hZ tw175) (mvT hZ tw174) (by decide) (backOf (W := 0) (vp4_1 l Z a0 hw [] b168 r_169 r_155 b_169 kb_169 b_160 b_162 b_164 b_166 T169.heap n0 (Nat.le_trans Z0 (Nat.le_trans (Nat.le_trans (Nat.le_trans (Nat.le_trans (Nat.le_trans (Nat.le_trans (Nat.le_trans E158.1 q159_0.1) q161_0.1) q163_0.1) q165_0.1) q167_0.1) E168.1) q169_0.1)) q169_1 q169_2 q169_5 q169_6 q169_7 ((Exa.ext E168 (((q162_1.keep q163_0).keep q165_0).keep q167_0)).keep q169_0) ((Fld.ext E168 (((q162_2.keep q163_0 (ninS (Exa.ne q162_1 q161_2 (by decide)) (ninS (Exa.ne q162_1 q161_3 (by decide)) nin0))).keep q165_0 (ninS (Exa.ne (q162_1.keep q163_0) q163_1 (by decide)) (ninS (Exa.ne (q162_1.keep q163_0) q163_6 (by decide)) nin0))).keep q167_0 (ninS (Exa.ne ((q162_1.keep q163_0).keep q165_0) q165_1 (by decide)) (ninS (Exa.ne ((q162_1.keep q163_0).keep q165_0) q165_6 (by decide)) nin0)))).keep q169_0 (ninS (Nat.ne_of_lt (Nat.lt_of_lt_of_le q162_1.lt (Nat.le_trans (Nat.le_trans (Nat.le_trans q163_0.1 q165_0.1) q167_0.1) (Nat.le_of_eq g168.symm)))) nin0))) hZ tw176 tw75 (by decide) (by decide)) q173a q173c (g := (mkF m 236 #[.val (.int p0), .val (.int p1), .val (.int p2), .val (.int p3), .val (.int p4), .val (.int (4 : Int32)), s6, .val (.int (1 : Int32)), .val (.int r_153), .val (.int r_155), .val (.int r_157), .val (.ref b158), .val (.ref b168), .unset, .unset, .unset] [(.int (1 : Int32)), (.ref b168)])) rfl (by rw [hml]; rfl) (Steps.refl _) (argsL := [(.int (1 : Int32))]) (rest := []) (lenOf pd_I_I rfl) rfl (Nat.le_of_eq rfl) (hb hby at_236) (fun _ _ => ⟨rfl, rfl, (by decide : 6 + 0 ≤ _), (by decide : 26 + 0 ≤ _)⟩)
        dsimp only [Pt.U, Pt.locs, Pt.cells, Pt.slots] at X173 l173 y173 z173 st173 hQ173
        subst y173 z173
        obtain ⟨rfl, Nq173, q173_0⟩ := hQ173
        have N173 : Fr n0 L173 := by rw [l173]; exact Fr.app N169 Nq173
        refine Goes.step (S' := T173.setTop (mkF m 247 #[.val (.int p0), .val (.int p1), .val (.int p2), .val (.int p3), .val (.int p4), .val (.int (4 : Int32)), s6, .val (.int (1 : Int32)), .val (.int r_153), .val (.int r_155), .val (.int r_157), .val (.ref b158), .val (.ref b168), .val (.int r_155), .unset, .unset] [(.int ((4 : Int32) - (1 : Int32))), (.int (1 : Int32))])) (fun t k => st173.trans (XS.istore X173.here hx rfl (hb hby at_239) rfl (l' := #[.val (.int p0), .val (.int p1), .val (.int p2), .val (.int p3), .val (.int p4), .val (.int (4 : Int32)), s6, .val (.int (1 : Int32)), .val (.int r_153), .val (.int r_155), .val (.int r_157), .val (.ref b158), .val (.ref b168), .val (.int r_155), .unset, .unset]) rfl (XS.iload X173.here hx rfl (hb hby at_241) rfl (XS.iload X173.here hx rfl (hb hby at_243) rfl (XS.iconst X173.here hx rfl (hb hby at_245) (XS.isub X173.here hx rfl (hb hby at_246) rfl k)))))) ?_
        rw [show ((4 : Int32) - (1 : Int32)) = (3 : Int32) from by decide]
        refine Goes.step (S' := T173.setTop (mkF m 267 #[.val (.int p0), .val (.int p1), .val (.int p2), .val (.int p3), .val (.int p4), .val (.int (4 : Int32)), s6, .val (.int (1 : Int32)), .val (.int r_153), .val (.int r_155), .val (.int r_157), .val (.ref b158), .val (.ref b168), .val (.int r_155), .val (.int (1 : Int32)), .unset] [(.int ((4 : Int32) - (1 : Int32))), (.int (1 : Int32))])) (fun t k => XS.icmpYes X173.here hx rfl (pc0 := 247) (pc' := 257) rfl (hb hby at_247) rfl (tlt ((by decide) : (1 : Int32) < (3 : Int32))).1 (by decide) (by decide) (XS.iload X173.here hx rfl (hb hby at_257) rfl (XS.istore X173.here hx rfl (hb hby at_259) rfl (l' := #[.val (.int p0), .val (.int p1), .val (.int p2), .val (.int p3), .val (.int p4), .val (.int (4 : Int32)), s6, .val (.int (1 : Int32)), .val (.int r_153), .val (.int r_155), .val (.int r_157), .val (.ref b158), .val (.ref b168), .val (.int r_155), .val (.int (1 : Int32)), .unset]) rfl (XS.iload X173.here hx rfl (hb hby at_261) rfl (XS.iload X173.here hx rfl (hb hby at_263) rfl (XS.iconst X173.here hx rfl (hb hby at_265) (XS.isub X173.here hx rfl (hb hby at_266) rfl k))))))) ?_
        rw [show ((4 : Int32) - (1 : Int32)) = (3 : Int32) from by decide]
        refine Goes.step (S' := T173.setTop (mkF m 299 #[.val (.int p0), .val (.int p1), .val (.int p2), .val (.int p3), .val (.int p4), .val (.int (4 : Int32)), s6, .val (.int (1 : Int32)), .val (.int r_153), .val (.int r_155), .val (.int r_157), .val (.ref b158), .val (.ref b168), .val (.int r_155), .val (.int (1 : Int32)), .val (.int r_155)] [])) (fun t k => XS.icmpYes X173.here hx rfl (pc0 := 267) (pc' := 277) rfl (hb hby at_267) rfl (feq ((by decide) : ¬ ((1 : Int32) = (3 : Int32)))).2 (by decide) (by decide) (XS.iload X173.here hx rfl (hb hby at_277) rfl (XS.ifYes X173.here hx rfl (pc0 := 279) (pc' := 289) rfl (hb hby at_279) rfl ((if0 _ _).trans (feq ((by decide) : ¬ ((1 : Int32) = (0 : Int32)))).2) (by decide) (by decide) (XS.iload X173.here hx rfl (hb hby at_289) rfl (XS.iconst X173.here hx rfl (hb hby at_291) (XS.icmpNo X173.here hx rfl (hb hby at_292) rfl (teq ((by decide) : (1 : Int32) = (1 : Int32))).2 (XS.iload X173.here hx rfl (hb hby at_295) rfl (XS.istore X173.here hx rfl (hb hby at_297) rfl (l' := #[.val (.int p0), .val (.int p1), .val (.int p2), .val (.int p3), .val (.int p4), .val (.int (4 : Int32)), s6, .val (.int (1 : Int32)), .val (.int r_153), .val (.int r_155), .val (.int r_157), .val (.ref b158), .val (.ref b168), .val (.int r_155), .val (.int (1 : Int32)), .val (.int r_155)]) rfl k)))))))) ?_
        refine Goes.step (S' := T173.setTop (mkF m 318 #[.val (.int p0), .val (.int p1), .val (.int p2), .val (.int p3), .val (.int p4), .val (.int (4 : Int32)), s6, .val (.int (1 : Int32)), .val (.int r_153), .val (.int r_155), .val (.int r_157), .val (.ref b158), .val (.ref b168), .val (.int r_155), .val (.int (1 : Int32)), .val (.int r_155)] [(.int (1 : Int32))])) (fun t k => XS.goto X173.here hx rfl (pc0 := 299) (pc' := 306) rfl (hb hby at_299) (by decide) (by decide) (XS.iload X173.here hx rfl (hb hby at_306) rfl (XS.iload X173.here hx rfl (hb hby at_308) rfl (XS.icmpNo X173.here hx rfl (hb hby at_310) rfl (teq (rfl : r_155 = r_155)).2 (XS.iconst X173.here hx rfl (hb hby at_313) (XS.goto X173.here hx rfl (pc0 := 314) (pc' := 318) rfl (hb hby at_314) (by decide) (by decide) k)))))) ?_
        refine Goes.leave (g := (mkF m 318 #[.val (.int p0), .val (.int p1), .val (.int p2), .val (.int p3), .val (.int p4), .val (.int (4 : Int32)), s6, .val (.int (1 : Int32)), .val (.int r_153), .val (.int r_155), .val (.int r_157), .val (.ref b158), .val (.ref b168), .val (.int r_155), .val (.int (1 : Int32)), .val (.int r_155)] [(.int (1 : Int32))])) X173 Bd.notSynchronized (v := (some (.int (1 : Int32)))) (fun h => by rw [Bd.returns] at h; cases h) (fun fs hr => retN X173 hx (t := .boolean) Bd.returns (by simp) (hb hby at_318) hr) q173_0 ?_ (by decide) (by decide)
        exact ⟨rfl, N173⟩
      case neg =>
        by_cases hc174 : i7 = (2 : Int32)
        case pos =>
          subst hc174
          obtain ⟨cq175, kq175, q175a, q175b, q175c⟩ := isOf hZ rfl q169_1
          obtain ⟨_, _, ⟨T175, L175, k175, n175⟩, -, X175, ⟨Lc175, hQ175, l175, y175, z175⟩, st175⟩ := X169.virtualBack hx (y := mth35) (z := mth35) hown (mvT hZ tw172) (mvT hZ tw173) (notFace_of_selects (args := #[]) (mvT hZ tw175)) (mvT hZ tw175) (mvT hZ tw174) (by decide) (backOf (W := 0) (vp4_2 l Z a0 hw [] b168 r_169 r_157 b_169 kb_169 b_160 b_162 b_164 b_166 T169.heap n0 (Nat.le_trans Z0 (Nat.le_trans (Nat.le_trans (Nat.le_trans (Nat.le_trans (Nat.le_trans (Nat.le_trans (Nat.le_trans E158.1 q159_0.1) q161_0.1) q163_0.1) q165_0.1) q167_0.1) E168.1) q169_0.1)) q169_1 q169_2 q169_5 q169_6 q169_7 ((Exa.ext E168 ((q164_1.keep q165_0).keep q167_0)).keep q169_0) ((Fld.ext E168 ((q164_2.keep q165_0 (ninS (Exa.ne q164_1 q163_1 (by decide)) (ninS (Exa.ne q164_1 q163_6 (by decide)) nin0))).keep q167_0 (ninS (Exa.ne (q164_1.keep q165_0) q165_1 (by decide)) (ninS (Exa.ne (q164_1.keep q165_0) q165_6 (by decide)) nin0)))).keep q169_0 (ninS (Nat.ne_of_lt (Nat.lt_of_lt_of_le q164_1.lt (Nat.le_trans (Nat.le_trans q165_0.1 q167_0.1) (Nat.le_of_eq g168.symm)))) nin0))) hZ tw176 tw75 (by decide) (by decide)) q175a q175c (g := (mkF m 236 #[.val (.int p0), .val (.int p1), .val (.int p2), .val (.int p3), .val (.int p4), .val (.int (4 : Int32)), s6, .val (.int (2 : Int32)), .val (.int r_153), .val (.int r_155), .val (.int r_157), .val (.ref b158), .val (.ref b168), .unset, .unset, .unset] [(.int (2 : Int32)), (.ref b168)])) rfl (by rw [hml]; rfl) (Steps.refl _) (argsL := [(.int (2 : Int32))]) (rest := []) (lenOf pd_I_I rfl) rfl (Nat.le_of_eq rfl) (hb hby at_236) (fun _ _ => ⟨rfl, rfl, (by decide : 6 + 0 ≤ _), (by decide : 26 + 0 ≤ _)⟩)
          dsimp only [Pt.U, Pt.locs, Pt.cells, Pt.slots] at X175 l175 y175 z175 st175 hQ175
          subst y175 z175
          obtain ⟨rfl, Nq175, q175_0⟩ := hQ175
          have N175 : Fr n0 L175 := by rw [l175]; exact Fr.app N169 Nq175
          refine Goes.step (S' := T175.setTop (mkF m 247 #[.val (.int p0), .val (.int p1), .val (.int p2), .val (.int p3), .val (.int p4), .val (.int (4 : Int32)), s6, .val (.int (2 : Int32)), .val (.int r_153), .val (.int r_155), .val (.int r_157), .val (.ref b158), .val (.ref b168), .val (.int r_157), .unset, .unset] [(.int ((4 : Int32) - (1 : Int32))), (.int (2 : Int32))])) (fun t k => st175.trans (XS.istore X175.here hx rfl (hb hby at_239) rfl (l' := #[.val (.int p0), .val (.int p1), .val (.int p2), .val (.int p3), .val (.int p4), .val (.int (4 : Int32)), s6, .val (.int (2 : Int32)), .val (.int r_153), .val (.int r_155), .val (.int r_157), .val (.ref b158), .val (.ref b168), .val (.int r_157), .unset, .unset]) rfl (XS.iload X175.here hx rfl (hb hby at_241) rfl (XS.iload X175.here hx rfl (hb hby at_243) rfl (XS.iconst X175.here hx rfl (hb hby at_245) (XS.isub X175.here hx rfl (hb hby at_246) rfl k)))))) ?_
          rw [show ((4 : Int32) - (1 : Int32)) = (3 : Int32) from by decide]
          refine Goes.step (S' := T175.setTop (mkF m 267 #[.val (.int p0), .val (.int p1), .val (.int p2), .val (.int p3), .val (.int p4), .val (.int (4 : Int32)), s6, .val (.int (2 : Int32)), .val (.int r_153), .val (.int r_155), .val (.int r_157), .val (.ref b158), .val (.ref b168), .val (.int r_157), .val (.int (2 : Int32)), .unset] [(.int ((4 : Int32) - (1 : Int32))), (.int (2 : Int32))])) (fun t k => XS.icmpYes X175.here hx rfl (pc0 := 247) (pc' := 257) rfl (hb hby at_247) rfl (tlt ((by decide) : (2 : Int32) < (3 : Int32))).1 (by decide) (by decide) (XS.iload X175.here hx rfl (hb hby at_257) rfl (XS.istore X175.here hx rfl (hb hby at_259) rfl (l' := #[.val (.int p0), .val (.int p1), .val (.int p2), .val (.int p3), .val (.int p4), .val (.int (4 : Int32)), s6, .val (.int (2 : Int32)), .val (.int r_153), .val (.int r_155), .val (.int r_157), .val (.ref b158), .val (.ref b168), .val (.int r_157), .val (.int (2 : Int32)), .unset]) rfl (XS.iload X175.here hx rfl (hb hby at_261) rfl (XS.iload X175.here hx rfl (hb hby at_263) rfl (XS.iconst X175.here hx rfl (hb hby at_265) (XS.isub X175.here hx rfl (hb hby at_266) rfl k))))))) ?_
          rw [show ((4 : Int32) - (1 : Int32)) = (3 : Int32) from by decide]
          refine Goes.step (S' := T175.setTop (mkF m 306 #[.val (.int p0), .val (.int p1), .val (.int p2), .val (.int p3), .val (.int p4), .val (.int (4 : Int32)), s6, .val (.int (2 : Int32)), .val (.int r_153), .val (.int r_155), .val (.int r_157), .val (.ref b158), .val (.ref b168), .val (.int r_157), .val (.int (2 : Int32)), .val (.int r_157)] [])) (fun t k => XS.icmpYes X175.here hx rfl (pc0 := 267) (pc' := 277) rfl (hb hby at_267) rfl (feq ((by decide) : ¬ ((2 : Int32) = (3 : Int32)))).2 (by decide) (by decide) (XS.iload X175.here hx rfl (hb hby at_277) rfl (XS.ifYes X175.here hx rfl (pc0 := 279) (pc' := 289) rfl (hb hby at_279) rfl ((if0 _ _).trans (feq ((by decide) : ¬ ((2 : Int32) = (0 : Int32)))).2) (by decide) (by decide) (XS.iload X175.here hx rfl (hb hby at_289) rfl (XS.iconst X175.here hx rfl (hb hby at_291) (XS.icmpYes X175.here hx rfl (pc0 := 292) (pc' := 302) rfl (hb hby at_292) rfl (feq ((by decide) : ¬ ((2 : Int32) = (1 : Int32)))).2 (by decide) (by decide) (XS.iload X175.here hx rfl (hb hby at_302) rfl (XS.istore X175.here hx rfl (hb hby at_304) rfl (l' := #[.val (.int p0), .val (.int p1), .val (.int p2), .val (.int p3), .val (.int p4), .val (.int (4 : Int32)), s6, .val (.int (2 : Int32)), .val (.int r_153), .val (.int r_155), .val (.int r_157), .val (.ref b158), .val (.ref b168), .val (.int r_157), .val (.int (2 : Int32)), .val (.int r_157)]) rfl k)))))))) ?_
          refine Goes.step (S' := T175.setTop (mkF m 318 #[.val (.int p0), .val (.int p1), .val (.int p2), .val (.int p3), .val (.int p4), .val (.int (4 : Int32)), s6, .val (.int (2 : Int32)), .val (.int r_153), .val (.int r_155), .val (.int r_157), .val (.ref b158), .val (.ref b168), .val (.int r_157), .val (.int (2 : Int32)), .val (.int r_157)] [(.int (1 : Int32))])) (fun t k => XS.iload X175.here hx rfl (hb hby at_306) rfl (XS.iload X175.here hx rfl (hb hby at_308) rfl (XS.icmpNo X175.here hx rfl (hb hby at_310) rfl (teq (rfl : r_157 = r_157)).2 (XS.iconst X175.here hx rfl (hb hby at_313) (XS.goto X175.here hx rfl (pc0 := 314) (pc' := 318) rfl (hb hby at_314) (by decide) (by decide) k))))) ?_
          refine Goes.leave (g := (mkF m 318 #[.val (.int p0), .val (.int p1), .val (.int p2), .val (.int p3), .val (.int p4), .val (.int (4 : Int32)), s6, .val (.int (2 : Int32)), .val (.int r_153), .val (.int r_155), .val (.int r_157), .val (.ref b158), .val (.ref b168), .val (.int r_157), .val (.int (2 : Int32)), .val (.int r_157)] [(.int (1 : Int32))])) X175 Bd.notSynchronized (v := (some (.int (1 : Int32)))) (fun h => by rw [Bd.returns] at h; cases h) (fun fs hr => retN X175 hx (t := .boolean) Bd.returns (by simp) (hb hby at_318) hr) q175_0 ?_ (by decide) (by decide)
          exact ⟨rfl, N175⟩
        case neg =>
          have hc176 : ¬ (i7 < (3 : Int32)) := (by have z177_0 := Hy; have z177_1 := q153_1; have z177_2 := q153_2; have z177_3 := q154_1; have z177_4 := q154_2; have z177_5 := q155_1; have z177_6 := q155_2; have z177_7 := q156_1; have z177_8 := q156_2; have z177_9 := q157_1; have z177_10 := q157_2; have z177_11 := hc170; have z177_12 := hc172; have z177_13 := hc174; have z177_14 := rng32 i7; have z177_15 := rng32 r_153; have z177_16 := rng32 r_154; have z177_17 := rng32 r_155; have z177_18 := rng32 r_156; have z177_19 := rng32 r_157; (try simp only [Int32.lt_iff_toInt_lt, Int64.lt_iff_toInt_lt, ne_eq, ← Int32.toInt_inj, ← Int64.toInt_inj, Int32.reduceToInt, Int64.reduceToInt, Nat.reducePow] at z177_0 z177_1 z177_2 z177_3 z177_4 z177_5 z177_6 z177_7 z177_8 z177_9 z177_10 z177_11 z177_12 z177_13 z177_14 z177_15 z177_16 z177_17 z177_18 z177_19 ⊢); try omega)
          obtain ⟨cq178, kq178, q178a, q178b, q178c⟩ := isOf hZ rfl q169_1
          obtain ⟨_, _, ⟨T178, L178, k178, n178⟩, -, X178, ⟨Lc178, hQ178, l178, y178, z178⟩, st178⟩ := X169.virtualBack hx (y := mth35) (z := mth35) hown (mvT hZ tw172) (mvT hZ tw173) (notFace_of_selects (args := #[]) (mvT hZ tw175)) (mvT hZ tw175) (mvT hZ tw174) (by decide) (backOf (W := 0) (vp4_3 l Z a0 hw [] b168 i7 r_169 (100 : Int32) b_169 kb_169 b_160 b_162 b_164 b_166 T169.heap n0 (Nat.le_trans Z0 (Nat.le_trans (Nat.le_trans (Nat.le_trans (Nat.le_trans (Nat.le_trans (Nat.le_trans (Nat.le_trans E158.1 q159_0.1) q161_0.1) q163_0.1) q165_0.1) q167_0.1) E168.1) q169_0.1)) q169_1 q169_2 q169_5 q169_6 q169_7 ((Exa.ext E168 (q166_1.keep q167_0)).keep q169_0) ((Fld.ext E168 (q166_2.keep q167_0 (ninS (Exa.ne q166_1 q165_1 (by decide)) (ninS (Exa.ne q166_1 q165_6 (by decide)) nin0)))).keep q169_0 (ninS (Nat.ne_of_lt (Nat.lt_of_lt_of_le q166_1.lt (Nat.le_trans q167_0.1 (Nat.le_of_eq g168.symm)))) nin0)) (hc176 : ¬ (i7 < (3 : Int32)))) hZ tw176 tw75 (by decide) (by decide)) q178a q178c (g := (mkF m 236 #[.val (.int p0), .val (.int p1), .val (.int p2), .val (.int p3), .val (.int p4), .val (.int (4 : Int32)), s6, .val (.int i7), .val (.int r_153), .val (.int r_155), .val (.int r_157), .val (.ref b158), .val (.ref b168), .unset, .unset, .unset] [(.int i7), (.ref b168)])) rfl (by rw [hml]; rfl) (Steps.refl _) (argsL := [(.int i7)]) (rest := []) (lenOf pd_I_I rfl) rfl (Nat.le_of_eq rfl) (hb hby at_236) (fun _ _ => ⟨rfl, rfl, (by decide : 6 + 0 ≤ _), (by decide : 26 + 0 ≤ _)⟩)
          dsimp only [Pt.U, Pt.locs, Pt.cells, Pt.slots] at X178 l178 y178 z178 st178 hQ178
          subst y178 z178
          obtain ⟨rfl, Nq178, q178_0⟩ := hQ178
          have N178 : Fr n0 L178 := by rw [l178]; exact Fr.app N169 Nq178
          refine Goes.step (S' := T178.setTop (mkF m 247 #[.val (.int p0), .val (.int p1), .val (.int p2), .val (.int p3), .val (.int p4), .val (.int (4 : Int32)), s6, .val (.int i7), .val (.int r_153), .val (.int r_155), .val (.int r_157), .val (.ref b158), .val (.ref b168), .val (.int (100 : Int32)), .unset, .unset] [(.int ((4 : Int32) - (1 : Int32))), (.int i7)])) (fun t k => st178.trans (XS.istore X178.here hx rfl (hb hby at_239) rfl (l' := #[.val (.int p0), .val (.int p1), .val (.int p2), .val (.int p3), .val (.int p4), .val (.int (4 : Int32)), s6, .val (.int i7), .val (.int r_153), .val (.int r_155), .val (.int r_157), .val (.ref b158), .val (.ref b168), .val (.int (100 : Int32)), .unset, .unset]) rfl (XS.iload X178.here hx rfl (hb hby at_241) rfl (XS.iload X178.here hx rfl (hb hby at_243) rfl (XS.iconst X178.here hx rfl (hb hby at_245) (XS.isub X178.here hx rfl (hb hby at_246) rfl k)))))) ?_
          rw [show ((4 : Int32) - (1 : Int32)) = (3 : Int32) from by decide]
          refine Goes.step (S' := T178.setTop (mkF m 254 #[.val (.int p0), .val (.int p1), .val (.int p2), .val (.int p3), .val (.int p4), .val (.int (4 : Int32)), s6, .val (.int i7), .val (.int r_153), .val (.int r_155), .val (.int r_157), .val (.ref b158), .val (.ref b168), .val (.int (100 : Int32)), .unset, .unset] [(.int ((4 : Int32) - (1 : Int32)))])) (fun t k => XS.icmpNo X178.here hx rfl (hb hby at_247) rfl (flt (hc176 : ¬ (i7 < (3 : Int32)))).1 (XS.iload X178.here hx rfl (hb hby at_250) rfl (XS.iconst X178.here hx rfl (hb hby at_252) (XS.isub X178.here hx rfl (hb hby at_253) rfl k)))) ?_
          rw [show ((4 : Int32) - (1 : Int32)) = (3 : Int32) from by decide]
          refine Goes.step (S' := T178.setTop (mkF m 267 #[.val (.int p0), .val (.int p1), .val (.int p2), .val (.int p3), .val (.int p4), .val (.int (4 : Int32)), s6, .val (.int i7), .val (.int r_153), .val (.int r_155), .val (.int r_157), .val (.ref b158), .val (.ref b168), .val (.int (100 : Int32)), .val (.int (3 : Int32)), .unset] [(.int ((4 : Int32) - (1 : Int32))), (.int (3 : Int32))])) (fun t k => XS.goto X178.here hx rfl (pc0 := 254) (pc' := 259) rfl (hb hby at_254) (by decide) (by decide) (XS.istore X178.here hx rfl (hb hby at_259) rfl (l' := #[.val (.int p0), .val (.int p1), .val (.int p2), .val (.int p3), .val (.int p4), .val (.int (4 : Int32)), s6, .val (.int i7), .val (.int r_153), .val (.int r_155), .val (.int r_157), .val (.ref b158), .val (.ref b168), .val (.int (100 : Int32)), .val (.int (3 : Int32)), .unset]) rfl (XS.iload X178.here hx rfl (hb hby at_261) rfl (XS.iload X178.here hx rfl (hb hby at_263) rfl (XS.iconst X178.here hx rfl (hb hby at_265) (XS.isub X178.here hx rfl (hb hby at_266) rfl k)))))) ?_
          rw [show ((4 : Int32) - (1 : Int32)) = (3 : Int32) from by decide]
          refine Goes.step (S' := T178.setTop (mkF m 314 #[.val (.int p0), .val (.int p1), .val (.int p2), .val (.int p3), .val (.int p4), .val (.int (4 : Int32)), s6, .val (.int i7), .val (.int r_153), .val (.int r_155), .val (.int r_157), .val (.ref b158), .val (.ref b168), .val (.int (100 : Int32)), .val (.int (3 : Int32)), .val (.int (100 : Int32))] [(.int (1 : Int32))])) (fun t k => XS.icmpNo X178.here hx rfl (hb hby at_267) rfl (teq ((by decide) : (3 : Int32) = (3 : Int32))).2 (XS.bipush X178.here hx rfl (hb hby at_270) (XS.istore X178.here hx rfl (hb hby at_272) rfl (l' := #[.val (.int p0), .val (.int p1), .val (.int p2), .val (.int p3), .val (.int p4), .val (.int (4 : Int32)), s6, .val (.int i7), .val (.int r_153), .val (.int r_155), .val (.int r_157), .val (.ref b158), .val (.ref b168), .val (.int (100 : Int32)), .val (.int (3 : Int32)), .val (.int (100 : Int32))]) rfl (XS.goto X178.here hx rfl (pc0 := 274) (pc' := 306) rfl (hb hby at_274) (by decide) (by decide) (XS.iload X178.here hx rfl (hb hby at_306) rfl (XS.iload X178.here hx rfl (hb hby at_308) rfl (XS.icmpNo X178.here hx rfl (hb hby at_310) rfl (teq ((by decide) : (100 : Int32) = (100 : Int32))).2 (XS.iconst X178.here hx rfl (hb hby at_313) k)))))))) ?_
          refine Goes.step (S' := T178.setTop (mkF m 318 #[.val (.int p0), .val (.int p1), .val (.int p2), .val (.int p3), .val (.int p4), .val (.int (4 : Int32)), s6, .val (.int i7), .val (.int r_153), .val (.int r_155), .val (.int r_157), .val (.ref b158), .val (.ref b168), .val (.int (100 : Int32)), .val (.int (3 : Int32)), .val (.int (100 : Int32))] [(.int (1 : Int32))])) (fun t k => XS.goto X178.here hx rfl (pc0 := 314) (pc' := 318) rfl (hb hby at_314) (by decide) (by decide) k) ?_
          refine Goes.leave (g := (mkF m 318 #[.val (.int p0), .val (.int p1), .val (.int p2), .val (.int p3), .val (.int p4), .val (.int (4 : Int32)), s6, .val (.int i7), .val (.int r_153), .val (.int r_155), .val (.int r_157), .val (.ref b158), .val (.ref b168), .val (.int (100 : Int32)), .val (.int (3 : Int32)), .val (.int (100 : Int32))] [(.int (1 : Int32))])) X178 Bd.notSynchronized (v := (some (.int (1 : Int32)))) (fun h => by rw [Bd.returns] at h; cases h) (fun fs hr => retN X178 hx (t := .boolean) Bd.returns (by simp) (hb hby at_318) hr) q178_0 ?_ (by decide) (by decide)
          exact ⟨rfl, N178⟩
  refine Goes.step (S' := s₁.setTop (mkF m 5 #[.val (.int p0), .val (.int p1), .val (.int p2), .val (.int p3), .val (.int p4), .unset, .unset, .unset, .unset, .unset, .unset, .unset, .unset, .unset, .unset, .unset] [(.int ((p1 &&& (3 : Int32)) + (1 : Int32)))])) (fun t k => XS.iloadN X0.here hx rfl (hb hby at_0) rfl (XS.iconst X0.here hx rfl (hb hby at_1) (XS.iand X0.here hx rfl (hb hby at_2) rfl (XS.iconst X0.here hx rfl (hb hby at_3) (XS.iadd X0.here hx rfl (hb hby at_4) rfl k))))) ?_
  by_cases hc179 : ((p1 &&& (3 : Int32)) + (1 : Int32)) = (1 : Int32)
  case pos =>
    rw [hc179]
    refine Goes.step (S' := s₁.setTop (mkF m 12 #[.val (.int p0), .val (.int p1), .val (.int p2), .val (.int p3), .val (.int p4), .val (.int (1 : Int32)), .unset, .unset, .unset, .unset, .unset, .unset, .unset, .unset, .unset, .unset] [(.int ((p1 >>> ((2 : Int32) &&& 31)) &&& (1 : Int32)))])) (fun t k => XS.istore X0.here hx rfl (hb hby at_5) rfl (l' := #[.val (.int p0), .val (.int p1), .val (.int p2), .val (.int p3), .val (.int p4), .val (.int (1 : Int32)), .unset, .unset, .unset, .unset, .unset, .unset, .unset, .unset, .unset, .unset]) rfl (XS.iloadN X0.here hx rfl (hb hby at_7) rfl (XS.iconst X0.here hx rfl (hb hby at_8) (XS.ishr X0.here hx rfl (hb hby at_9) rfl (XS.iconst X0.here hx rfl (hb hby at_10) (XS.iand X0.here hx rfl (hb hby at_11) rfl k)))))) ?_
    by_cases hc180 : ((p1 >>> ((2 : Int32) &&& 31)) &&& (1 : Int32)) = (0 : Int32)
    case pos =>
      refine Goes.step (S' := s₁.setTop (mkF m 38 #[.val (.int p0), .val (.int p1), .val (.int p2), .val (.int p3), .val (.int p4), .val (.int (1 : Int32)), .val (.int (0 : Int32)), .unset, .unset, .unset, .unset, .unset, .unset, .unset, .unset, .unset] [(.int (p0 &&& (2147483647 : Int32)))])) (fun t k => XS.ifYes X0.here hx rfl (pc0 := 12) (pc' := 19) rfl (hb hby at_12) rfl ((if0 _ _).trans (teq hc180).1) (by decide) (by decide) (XS.iconst X0.here hx rfl (hb hby at_19) (XS.istore X0.here hx rfl (hb hby at_20) rfl (l' := #[.val (.int p0), .val (.int p1), .val (.int p2), .val (.int p3), .val (.int p4), .val (.int (1 : Int32)), .val (.int (0 : Int32)), .unset, .unset, .unset, .unset, .unset, .unset, .unset, .unset, .unset]) rfl (XS.iload X0.here hx rfl (hb hby at_22) rfl (XS.ifYes X0.here hx rfl (pc0 := 24) (pc' := 34) rfl (hb hby at_24) rfl ((if0 _ _).trans (teq ((by decide) : (0 : Int32) = (0 : Int32))).1) (by decide) (by decide) (XS.iloadN X0.here hx rfl (hb hby at_34) rfl (X0.ldcInt hx hown (mvT hZ tw0) (g := (mkF m 35 #[.val (.int p0), .val (.int p1), .val (.int p2), .val (.int p3), .val (.int p4), .val (.int (1 : Int32)), .val (.int (0 : Int32)), .unset, .unset, .unset, .unset, .unset, .unset, .unset, .unset, .unset] [(.int p0)])) rfl (hb hby at_35) _ (XS.iand X0.here hx rfl (hb hby at_37) rfl k)))))))) ?_
      refine Goes.step (S' := s₁.setTop (mkF m 40 #[.val (.int p0), .val (.int p1), .val (.int p2), .val (.int p3), .val (.int p4), .val (.int (1 : Int32)), .val (.int (0 : Int32)), .val (.int (p0 &&& (2147483647 : Int32))), .unset, .unset, .unset, .unset, .unset, .unset, .unset, .unset] [])) (fun t k => XS.istore X0.here hx rfl (hb hby at_38) rfl (l' := #[.val (.int p0), .val (.int p1), .val (.int p2), .val (.int p3), .val (.int p4), .val (.int (1 : Int32)), .val (.int (0 : Int32)), .val (.int (p0 &&& (2147483647 : Int32))), .unset, .unset, .unset, .unset, .unset, .unset, .unset, .unset]) rfl k) ?_
      exact s1 (.val (.int (0 : Int32))) (p0 &&& (2147483647 : Int32)) s₁ _ X0 eh0 N0 ((by have z181_0 := hc179; have z181_1 := hc180; have z181_2 := rng32 ((p1 &&& (3 : Int32)) + (1 : Int32)); have z181_3 := c_iadd (p1 &&& (3 : Int32)) (1 : Int32); have z181_4 := rng32 (p1 &&& (3 : Int32)); have z181_5 := c_mask p1 (3 : Int32) 2 (by decide) (by decide); have z181_6 := rng32 p1; have z181_7 := rng32 ((p1 >>> ((2 : Int32) &&& 31)) &&& (1 : Int32)); have z181_8 := c_mask (p1 >>> ((2 : Int32) &&& 31)) (1 : Int32) 1 (by decide) (by decide); have z181_9 := rng32 (p1 >>> ((2 : Int32) &&& 31)); have z181_10 := c_ishr p1 (2 : Int32) 2 rfl; have z181_11 := rng32 (p0 &&& (2147483647 : Int32)); have z181_12 := c_mask p0 (2147483647 : Int32) 31 (by decide) (by decide); have z181_13 := rng32 p0; (try simp only [Int32.lt_iff_toInt_lt, Int64.lt_iff_toInt_lt, ne_eq, ← Int32.toInt_inj, ← Int64.toInt_inj, Int32.reduceToInt, Int64.reduceToInt, Nat.reducePow] at z181_0 z181_1 z181_2 z181_3 z181_4 z181_5 z181_6 z181_7 z181_8 z181_9 z181_10 z181_11 z181_12 z181_13 ⊢); try omega) : ¬ ((p0 &&& (2147483647 : Int32)) < (0 : Int32)))
    case neg =>
      refine Goes.step (S' := s₁.setTop (mkF m 30 #[.val (.int p0), .val (.int p1), .val (.int p2), .val (.int p3), .val (.int p4), .val (.int (1 : Int32)), .val (.int (1 : Int32)), .unset, .unset, .unset, .unset, .unset, .unset, .unset, .unset, .unset] [(.int (7 : Int32)), (.int p0)])) (fun t k => XS.ifNo X0.here hx rfl (hb hby at_12) rfl ((if0 _ _).trans (feq hc180).1) (XS.iconst X0.here hx rfl (hb hby at_15) (XS.goto X0.here hx rfl (pc0 := 16) (pc' := 20) rfl (hb hby at_16) (by decide) (by decide) (XS.istore X0.here hx rfl (hb hby at_20) rfl (l' := #[.val (.int p0), .val (.int p1), .val (.int p2), .val (.int p3), .val (.int p4), .val (.int (1 : Int32)), .val (.int (1 : Int32)), .unset, .unset, .unset, .unset, .unset, .unset, .unset, .unset, .unset]) rfl (XS.iload X0.here hx rfl (hb hby at_22) rfl (XS.ifNo X0.here hx rfl (hb hby at_24) rfl ((if0 _ _).trans (feq ((by decide) : ¬ ((1 : Int32) = (0 : Int32)))).1) (XS.iloadN X0.here hx rfl (hb hby at_27) rfl (XS.bipush X0.here hx rfl (hb hby at_28) k)))))))) ?_
      refine Goes.step (S' := s₁.setTop (mkF m 40 #[.val (.int p0), .val (.int p1), .val (.int p2), .val (.int p3), .val (.int p4), .val (.int (1 : Int32)), .val (.int (1 : Int32)), .val (.int (p0 &&& (7 : Int32))), .unset, .unset, .unset, .unset, .unset, .unset, .unset, .unset] [])) (fun t k => XS.iand X0.here hx rfl (hb hby at_30) rfl (XS.goto X0.here hx rfl (pc0 := 31) (pc' := 38) rfl (hb hby at_31) (by decide) (by decide) (XS.istore X0.here hx rfl (hb hby at_38) rfl (l' := #[.val (.int p0), .val (.int p1), .val (.int p2), .val (.int p3), .val (.int p4), .val (.int (1 : Int32)), .val (.int (1 : Int32)), .val (.int (p0 &&& (7 : Int32))), .unset, .unset, .unset, .unset, .unset, .unset, .unset, .unset]) rfl k))) ?_
      exact s1 (.val (.int (1 : Int32))) (p0 &&& (7 : Int32)) s₁ _ X0 eh0 N0 ((by have z182_0 := hc179; have z182_1 := hc180; have z182_2 := rng32 ((p1 &&& (3 : Int32)) + (1 : Int32)); have z182_3 := c_iadd (p1 &&& (3 : Int32)) (1 : Int32); have z182_4 := rng32 (p1 &&& (3 : Int32)); have z182_5 := c_mask p1 (3 : Int32) 2 (by decide) (by decide); have z182_6 := rng32 p1; have z182_7 := rng32 ((p1 >>> ((2 : Int32) &&& 31)) &&& (1 : Int32)); have z182_8 := c_mask (p1 >>> ((2 : Int32) &&& 31)) (1 : Int32) 1 (by decide) (by decide); have z182_9 := rng32 (p1 >>> ((2 : Int32) &&& 31)); have z182_10 := c_ishr p1 (2 : Int32) 2 rfl; have z182_11 := rng32 (p0 &&& (7 : Int32)); have z182_12 := c_mask p0 (7 : Int32) 3 (by decide) (by decide); have z182_13 := rng32 p0; (try simp only [Int32.lt_iff_toInt_lt, Int64.lt_iff_toInt_lt, ne_eq, ← Int32.toInt_inj, ← Int64.toInt_inj, Int32.reduceToInt, Int64.reduceToInt, Nat.reducePow] at z182_0 z182_1 z182_2 z182_3 z182_4 z182_5 z182_6 z182_7 z182_8 z182_9 z182_10 z182_11 z182_12 z182_13 ⊢); try omega) : ¬ ((p0 &&& (7 : Int32)) < (0 : Int32)))
  case neg =>
    by_cases hc183 : ((p1 &&& (3 : Int32)) + (1 : Int32)) = (2 : Int32)
    case pos =>
      rw [hc183]
      refine Goes.step (S' := s₁.setTop (mkF m 12 #[.val (.int p0), .val (.int p1), .val (.int p2), .val (.int p3), .val (.int p4), .val (.int (2 : Int32)), .unset, .unset, .unset, .unset, .unset, .unset, .unset, .unset, .unset, .unset] [(.int ((p1 >>> ((2 : Int32) &&& 31)) &&& (1 : Int32)))])) (fun t k => XS.istore X0.here hx rfl (hb hby at_5) rfl (l' := #[.val (.int p0), .val (.int p1), .val (.int p2), .val (.int p3), .val (.int p4), .val (.int (2 : Int32)), .unset, .unset, .unset, .unset, .unset, .unset, .unset, .unset, .unset, .unset]) rfl (XS.iloadN X0.here hx rfl (hb hby at_7) rfl (XS.iconst X0.here hx rfl (hb hby at_8) (XS.ishr X0.here hx rfl (hb hby at_9) rfl (XS.iconst X0.here hx rfl (hb hby at_10) (XS.iand X0.here hx rfl (hb hby at_11) rfl k)))))) ?_
      by_cases hc184 : ((p1 >>> ((2 : Int32) &&& 31)) &&& (1 : Int32)) = (0 : Int32)
      case pos =>
        refine Goes.step (S' := s₁.setTop (mkF m 38 #[.val (.int p0), .val (.int p1), .val (.int p2), .val (.int p3), .val (.int p4), .val (.int (2 : Int32)), .val (.int (0 : Int32)), .unset, .unset, .unset, .unset, .unset, .unset, .unset, .unset, .unset] [(.int (p0 &&& (2147483647 : Int32)))])) (fun t k => XS.ifYes X0.here hx rfl (pc0 := 12) (pc' := 19) rfl (hb hby at_12) rfl ((if0 _ _).trans (teq hc184).1) (by decide) (by decide) (XS.iconst X0.here hx rfl (hb hby at_19) (XS.istore X0.here hx rfl (hb hby at_20) rfl (l' := #[.val (.int p0), .val (.int p1), .val (.int p2), .val (.int p3), .val (.int p4), .val (.int (2 : Int32)), .val (.int (0 : Int32)), .unset, .unset, .unset, .unset, .unset, .unset, .unset, .unset, .unset]) rfl (XS.iload X0.here hx rfl (hb hby at_22) rfl (XS.ifYes X0.here hx rfl (pc0 := 24) (pc' := 34) rfl (hb hby at_24) rfl ((if0 _ _).trans (teq ((by decide) : (0 : Int32) = (0 : Int32))).1) (by decide) (by decide) (XS.iloadN X0.here hx rfl (hb hby at_34) rfl (X0.ldcInt hx hown (mvT hZ tw0) (g := (mkF m 35 #[.val (.int p0), .val (.int p1), .val (.int p2), .val (.int p3), .val (.int p4), .val (.int (2 : Int32)), .val (.int (0 : Int32)), .unset, .unset, .unset, .unset, .unset, .unset, .unset, .unset, .unset] [(.int p0)])) rfl (hb hby at_35) _ (XS.iand X0.here hx rfl (hb hby at_37) rfl k)))))))) ?_
        refine Goes.step (S' := s₁.setTop (mkF m 40 #[.val (.int p0), .val (.int p1), .val (.int p2), .val (.int p3), .val (.int p4), .val (.int (2 : Int32)), .val (.int (0 : Int32)), .val (.int (p0 &&& (2147483647 : Int32))), .unset, .unset, .unset, .unset, .unset, .unset, .unset, .unset] [])) (fun t k => XS.istore X0.here hx rfl (hb hby at_38) rfl (l' := #[.val (.int p0), .val (.int p1), .val (.int p2), .val (.int p3), .val (.int p4), .val (.int (2 : Int32)), .val (.int (0 : Int32)), .val (.int (p0 &&& (2147483647 : Int32))), .unset, .unset, .unset, .unset, .unset, .unset, .unset, .unset]) rfl k) ?_
        exact s2 (.val (.int (0 : Int32))) (p0 &&& (2147483647 : Int32)) s₁ _ X0 eh0 N0 ((by have z185_0 := hc179; have z185_1 := hc183; have z185_2 := hc184; have z185_3 := rng32 ((p1 &&& (3 : Int32)) + (1 : Int32)); have z185_4 := c_iadd (p1 &&& (3 : Int32)) (1 : Int32); have z185_5 := rng32 (p1 &&& (3 : Int32)); have z185_6 := c_mask p1 (3 : Int32) 2 (by decide) (by decide); have z185_7 := rng32 p1; have z185_8 := rng32 ((p1 >>> ((2 : Int32) &&& 31)) &&& (1 : Int32)); have z185_9 := c_mask (p1 >>> ((2 : Int32) &&& 31)) (1 : Int32) 1 (by decide) (by decide); have z185_10 := rng32 (p1 >>> ((2 : Int32) &&& 31)); have z185_11 := c_ishr p1 (2 : Int32) 2 rfl; have z185_12 := rng32 (p0 &&& (2147483647 : Int32)); have z185_13 := c_mask p0 (2147483647 : Int32) 31 (by decide) (by decide); have z185_14 := rng32 p0; (try simp only [Int32.lt_iff_toInt_lt, Int64.lt_iff_toInt_lt, ne_eq, ← Int32.toInt_inj, ← Int64.toInt_inj, Int32.reduceToInt, Int64.reduceToInt, Nat.reducePow] at z185_0 z185_1 z185_2 z185_3 z185_4 z185_5 z185_6 z185_7 z185_8 z185_9 z185_10 z185_11 z185_12 z185_13 z185_14 ⊢); try omega) : ¬ ((p0 &&& (2147483647 : Int32)) < (0 : Int32)))
      case neg =>
        refine Goes.step (S' := s₁.setTop (mkF m 30 #[.val (.int p0), .val (.int p1), .val (.int p2), .val (.int p3), .val (.int p4), .val (.int (2 : Int32)), .val (.int (1 : Int32)), .unset, .unset, .unset, .unset, .unset, .unset, .unset, .unset, .unset] [(.int (7 : Int32)), (.int p0)])) (fun t k => XS.ifNo X0.here hx rfl (hb hby at_12) rfl ((if0 _ _).trans (feq hc184).1) (XS.iconst X0.here hx rfl (hb hby at_15) (XS.goto X0.here hx rfl (pc0 := 16) (pc' := 20) rfl (hb hby at_16) (by decide) (by decide) (XS.istore X0.here hx rfl (hb hby at_20) rfl (l' := #[.val (.int p0), .val (.int p1), .val (.int p2), .val (.int p3), .val (.int p4), .val (.int (2 : Int32)), .val (.int (1 : Int32)), .unset, .unset, .unset, .unset, .unset, .unset, .unset, .unset, .unset]) rfl (XS.iload X0.here hx rfl (hb hby at_22) rfl (XS.ifNo X0.here hx rfl (hb hby at_24) rfl ((if0 _ _).trans (feq ((by decide) : ¬ ((1 : Int32) = (0 : Int32)))).1) (XS.iloadN X0.here hx rfl (hb hby at_27) rfl (XS.bipush X0.here hx rfl (hb hby at_28) k)))))))) ?_
        refine Goes.step (S' := s₁.setTop (mkF m 40 #[.val (.int p0), .val (.int p1), .val (.int p2), .val (.int p3), .val (.int p4), .val (.int (2 : Int32)), .val (.int (1 : Int32)), .val (.int (p0 &&& (7 : Int32))), .unset, .unset, .unset, .unset, .unset, .unset, .unset, .unset] [])) (fun t k => XS.iand X0.here hx rfl (hb hby at_30) rfl (XS.goto X0.here hx rfl (pc0 := 31) (pc' := 38) rfl (hb hby at_31) (by decide) (by decide) (XS.istore X0.here hx rfl (hb hby at_38) rfl (l' := #[.val (.int p0), .val (.int p1), .val (.int p2), .val (.int p3), .val (.int p4), .val (.int (2 : Int32)), .val (.int (1 : Int32)), .val (.int (p0 &&& (7 : Int32))), .unset, .unset, .unset, .unset, .unset, .unset, .unset, .unset]) rfl k))) ?_
        exact s2 (.val (.int (1 : Int32))) (p0 &&& (7 : Int32)) s₁ _ X0 eh0 N0 ((by have z186_0 := hc179; have z186_1 := hc183; have z186_2 := hc184; have z186_3 := rng32 ((p1 &&& (3 : Int32)) + (1 : Int32)); have z186_4 := c_iadd (p1 &&& (3 : Int32)) (1 : Int32); have z186_5 := rng32 (p1 &&& (3 : Int32)); have z186_6 := c_mask p1 (3 : Int32) 2 (by decide) (by decide); have z186_7 := rng32 p1; have z186_8 := rng32 ((p1 >>> ((2 : Int32) &&& 31)) &&& (1 : Int32)); have z186_9 := c_mask (p1 >>> ((2 : Int32) &&& 31)) (1 : Int32) 1 (by decide) (by decide); have z186_10 := rng32 (p1 >>> ((2 : Int32) &&& 31)); have z186_11 := c_ishr p1 (2 : Int32) 2 rfl; have z186_12 := rng32 (p0 &&& (7 : Int32)); have z186_13 := c_mask p0 (7 : Int32) 3 (by decide) (by decide); have z186_14 := rng32 p0; (try simp only [Int32.lt_iff_toInt_lt, Int64.lt_iff_toInt_lt, ne_eq, ← Int32.toInt_inj, ← Int64.toInt_inj, Int32.reduceToInt, Int64.reduceToInt, Nat.reducePow] at z186_0 z186_1 z186_2 z186_3 z186_4 z186_5 z186_6 z186_7 z186_8 z186_9 z186_10 z186_11 z186_12 z186_13 z186_14 ⊢); try omega) : ¬ ((p0 &&& (7 : Int32)) < (0 : Int32)))
    case neg =>
      by_cases hc187 : ((p1 &&& (3 : Int32)) + (1 : Int32)) = (3 : Int32)
      case pos =>
        rw [hc187]
        refine Goes.step (S' := s₁.setTop (mkF m 12 #[.val (.int p0), .val (.int p1), .val (.int p2), .val (.int p3), .val (.int p4), .val (.int (3 : Int32)), .unset, .unset, .unset, .unset, .unset, .unset, .unset, .unset, .unset, .unset] [(.int ((p1 >>> ((2 : Int32) &&& 31)) &&& (1 : Int32)))])) (fun t k => XS.istore X0.here hx rfl (hb hby at_5) rfl (l' := #[.val (.int p0), .val (.int p1), .val (.int p2), .val (.int p3), .val (.int p4), .val (.int (3 : Int32)), .unset, .unset, .unset, .unset, .unset, .unset, .unset, .unset, .unset, .unset]) rfl (XS.iloadN X0.here hx rfl (hb hby at_7) rfl (XS.iconst X0.here hx rfl (hb hby at_8) (XS.ishr X0.here hx rfl (hb hby at_9) rfl (XS.iconst X0.here hx rfl (hb hby at_10) (XS.iand X0.here hx rfl (hb hby at_11) rfl k)))))) ?_
        by_cases hc188 : ((p1 >>> ((2 : Int32) &&& 31)) &&& (1 : Int32)) = (0 : Int32)
        case pos =>
          refine Goes.step (S' := s₁.setTop (mkF m 38 #[.val (.int p0), .val (.int p1), .val (.int p2), .val (.int p3), .val (.int p4), .val (.int (3 : Int32)), .val (.int (0 : Int32)), .unset, .unset, .unset, .unset, .unset, .unset, .unset, .unset, .unset] [(.int (p0 &&& (2147483647 : Int32)))])) (fun t k => XS.ifYes X0.here hx rfl (pc0 := 12) (pc' := 19) rfl (hb hby at_12) rfl ((if0 _ _).trans (teq hc188).1) (by decide) (by decide) (XS.iconst X0.here hx rfl (hb hby at_19) (XS.istore X0.here hx rfl (hb hby at_20) rfl (l' := #[.val (.int p0), .val (.int p1), .val (.int p2), .val (.int p3), .val (.int p4), .val (.int (3 : Int32)), .val (.int (0 : Int32)), .unset, .unset, .unset, .unset, .unset, .unset, .unset, .unset, .unset]) rfl (XS.iload X0.here hx rfl (hb hby at_22) rfl (XS.ifYes X0.here hx rfl (pc0 := 24) (pc' := 34) rfl (hb hby at_24) rfl ((if0 _ _).trans (teq ((by decide) : (0 : Int32) = (0 : Int32))).1) (by decide) (by decide) (XS.iloadN X0.here hx rfl (hb hby at_34) rfl (X0.ldcInt hx hown (mvT hZ tw0) (g := (mkF m 35 #[.val (.int p0), .val (.int p1), .val (.int p2), .val (.int p3), .val (.int p4), .val (.int (3 : Int32)), .val (.int (0 : Int32)), .unset, .unset, .unset, .unset, .unset, .unset, .unset, .unset, .unset] [(.int p0)])) rfl (hb hby at_35) _ (XS.iand X0.here hx rfl (hb hby at_37) rfl k)))))))) ?_
          refine Goes.step (S' := s₁.setTop (mkF m 40 #[.val (.int p0), .val (.int p1), .val (.int p2), .val (.int p3), .val (.int p4), .val (.int (3 : Int32)), .val (.int (0 : Int32)), .val (.int (p0 &&& (2147483647 : Int32))), .unset, .unset, .unset, .unset, .unset, .unset, .unset, .unset] [])) (fun t k => XS.istore X0.here hx rfl (hb hby at_38) rfl (l' := #[.val (.int p0), .val (.int p1), .val (.int p2), .val (.int p3), .val (.int p4), .val (.int (3 : Int32)), .val (.int (0 : Int32)), .val (.int (p0 &&& (2147483647 : Int32))), .unset, .unset, .unset, .unset, .unset, .unset, .unset, .unset]) rfl k) ?_
          exact s3 (.val (.int (0 : Int32))) (p0 &&& (2147483647 : Int32)) s₁ _ X0 eh0 N0 ((by have z189_0 := hc179; have z189_1 := hc183; have z189_2 := hc187; have z189_3 := hc188; have z189_4 := rng32 ((p1 &&& (3 : Int32)) + (1 : Int32)); have z189_5 := c_iadd (p1 &&& (3 : Int32)) (1 : Int32); have z189_6 := rng32 (p1 &&& (3 : Int32)); have z189_7 := c_mask p1 (3 : Int32) 2 (by decide) (by decide); have z189_8 := rng32 p1; have z189_9 := rng32 ((p1 >>> ((2 : Int32) &&& 31)) &&& (1 : Int32)); have z189_10 := c_mask (p1 >>> ((2 : Int32) &&& 31)) (1 : Int32) 1 (by decide) (by decide); have z189_11 := rng32 (p1 >>> ((2 : Int32) &&& 31)); have z189_12 := c_ishr p1 (2 : Int32) 2 rfl; have z189_13 := rng32 (p0 &&& (2147483647 : Int32)); have z189_14 := c_mask p0 (2147483647 : Int32) 31 (by decide) (by decide); have z189_15 := rng32 p0; (try simp only [Int32.lt_iff_toInt_lt, Int64.lt_iff_toInt_lt, ne_eq, ← Int32.toInt_inj, ← Int64.toInt_inj, Int32.reduceToInt, Int64.reduceToInt, Nat.reducePow] at z189_0 z189_1 z189_2 z189_3 z189_4 z189_5 z189_6 z189_7 z189_8 z189_9 z189_10 z189_11 z189_12 z189_13 z189_14 z189_15 ⊢); try omega) : ¬ ((p0 &&& (2147483647 : Int32)) < (0 : Int32)))
        case neg =>
          refine Goes.step (S' := s₁.setTop (mkF m 30 #[.val (.int p0), .val (.int p1), .val (.int p2), .val (.int p3), .val (.int p4), .val (.int (3 : Int32)), .val (.int (1 : Int32)), .unset, .unset, .unset, .unset, .unset, .unset, .unset, .unset, .unset] [(.int (7 : Int32)), (.int p0)])) (fun t k => XS.ifNo X0.here hx rfl (hb hby at_12) rfl ((if0 _ _).trans (feq hc188).1) (XS.iconst X0.here hx rfl (hb hby at_15) (XS.goto X0.here hx rfl (pc0 := 16) (pc' := 20) rfl (hb hby at_16) (by decide) (by decide) (XS.istore X0.here hx rfl (hb hby at_20) rfl (l' := #[.val (.int p0), .val (.int p1), .val (.int p2), .val (.int p3), .val (.int p4), .val (.int (3 : Int32)), .val (.int (1 : Int32)), .unset, .unset, .unset, .unset, .unset, .unset, .unset, .unset, .unset]) rfl (XS.iload X0.here hx rfl (hb hby at_22) rfl (XS.ifNo X0.here hx rfl (hb hby at_24) rfl ((if0 _ _).trans (feq ((by decide) : ¬ ((1 : Int32) = (0 : Int32)))).1) (XS.iloadN X0.here hx rfl (hb hby at_27) rfl (XS.bipush X0.here hx rfl (hb hby at_28) k)))))))) ?_
          refine Goes.step (S' := s₁.setTop (mkF m 40 #[.val (.int p0), .val (.int p1), .val (.int p2), .val (.int p3), .val (.int p4), .val (.int (3 : Int32)), .val (.int (1 : Int32)), .val (.int (p0 &&& (7 : Int32))), .unset, .unset, .unset, .unset, .unset, .unset, .unset, .unset] [])) (fun t k => XS.iand X0.here hx rfl (hb hby at_30) rfl (XS.goto X0.here hx rfl (pc0 := 31) (pc' := 38) rfl (hb hby at_31) (by decide) (by decide) (XS.istore X0.here hx rfl (hb hby at_38) rfl (l' := #[.val (.int p0), .val (.int p1), .val (.int p2), .val (.int p3), .val (.int p4), .val (.int (3 : Int32)), .val (.int (1 : Int32)), .val (.int (p0 &&& (7 : Int32))), .unset, .unset, .unset, .unset, .unset, .unset, .unset, .unset]) rfl k))) ?_
          exact s3 (.val (.int (1 : Int32))) (p0 &&& (7 : Int32)) s₁ _ X0 eh0 N0 ((by have z190_0 := hc179; have z190_1 := hc183; have z190_2 := hc187; have z190_3 := hc188; have z190_4 := rng32 ((p1 &&& (3 : Int32)) + (1 : Int32)); have z190_5 := c_iadd (p1 &&& (3 : Int32)) (1 : Int32); have z190_6 := rng32 (p1 &&& (3 : Int32)); have z190_7 := c_mask p1 (3 : Int32) 2 (by decide) (by decide); have z190_8 := rng32 p1; have z190_9 := rng32 ((p1 >>> ((2 : Int32) &&& 31)) &&& (1 : Int32)); have z190_10 := c_mask (p1 >>> ((2 : Int32) &&& 31)) (1 : Int32) 1 (by decide) (by decide); have z190_11 := rng32 (p1 >>> ((2 : Int32) &&& 31)); have z190_12 := c_ishr p1 (2 : Int32) 2 rfl; have z190_13 := rng32 (p0 &&& (7 : Int32)); have z190_14 := c_mask p0 (7 : Int32) 3 (by decide) (by decide); have z190_15 := rng32 p0; (try simp only [Int32.lt_iff_toInt_lt, Int64.lt_iff_toInt_lt, ne_eq, ← Int32.toInt_inj, ← Int64.toInt_inj, Int32.reduceToInt, Int64.reduceToInt, Nat.reducePow] at z190_0 z190_1 z190_2 z190_3 z190_4 z190_5 z190_6 z190_7 z190_8 z190_9 z190_10 z190_11 z190_12 z190_13 z190_14 z190_15 ⊢); try omega) : ¬ ((p0 &&& (7 : Int32)) < (0 : Int32)))
      case neg =>
        have hc191 : ((p1 &&& (3 : Int32)) + (1 : Int32)) = (4 : Int32) := (by have z192_0 := hc179; have z192_1 := hc183; have z192_2 := hc187; have z192_3 := rng32 ((p1 &&& (3 : Int32)) + (1 : Int32)); have z192_4 := c_iadd (p1 &&& (3 : Int32)) (1 : Int32); have z192_5 := rng32 (p1 &&& (3 : Int32)); have z192_6 := c_mask p1 (3 : Int32) 2 (by decide) (by decide); have z192_7 := rng32 p1; (try simp only [Int32.lt_iff_toInt_lt, Int64.lt_iff_toInt_lt, ne_eq, ← Int32.toInt_inj, ← Int64.toInt_inj, Int32.reduceToInt, Int64.reduceToInt, Nat.reducePow] at z192_0 z192_1 z192_2 z192_3 z192_4 z192_5 z192_6 z192_7 ⊢); try omega)
        rw [hc191]
        refine Goes.step (S' := s₁.setTop (mkF m 12 #[.val (.int p0), .val (.int p1), .val (.int p2), .val (.int p3), .val (.int p4), .val (.int (4 : Int32)), .unset, .unset, .unset, .unset, .unset, .unset, .unset, .unset, .unset, .unset] [(.int ((p1 >>> ((2 : Int32) &&& 31)) &&& (1 : Int32)))])) (fun t k => XS.istore X0.here hx rfl (hb hby at_5) rfl (l' := #[.val (.int p0), .val (.int p1), .val (.int p2), .val (.int p3), .val (.int p4), .val (.int (4 : Int32)), .unset, .unset, .unset, .unset, .unset, .unset, .unset, .unset, .unset, .unset]) rfl (XS.iloadN X0.here hx rfl (hb hby at_7) rfl (XS.iconst X0.here hx rfl (hb hby at_8) (XS.ishr X0.here hx rfl (hb hby at_9) rfl (XS.iconst X0.here hx rfl (hb hby at_10) (XS.iand X0.here hx rfl (hb hby at_11) rfl k)))))) ?_
        by_cases hc193 : ((p1 >>> ((2 : Int32) &&& 31)) &&& (1 : Int32)) = (0 : Int32)
        case pos =>
          refine Goes.step (S' := s₁.setTop (mkF m 38 #[.val (.int p0), .val (.int p1), .val (.int p2), .val (.int p3), .val (.int p4), .val (.int (4 : Int32)), .val (.int (0 : Int32)), .unset, .unset, .unset, .unset, .unset, .unset, .unset, .unset, .unset] [(.int (p0 &&& (2147483647 : Int32)))])) (fun t k => XS.ifYes X0.here hx rfl (pc0 := 12) (pc' := 19) rfl (hb hby at_12) rfl ((if0 _ _).trans (teq hc193).1) (by decide) (by decide) (XS.iconst X0.here hx rfl (hb hby at_19) (XS.istore X0.here hx rfl (hb hby at_20) rfl (l' := #[.val (.int p0), .val (.int p1), .val (.int p2), .val (.int p3), .val (.int p4), .val (.int (4 : Int32)), .val (.int (0 : Int32)), .unset, .unset, .unset, .unset, .unset, .unset, .unset, .unset, .unset]) rfl (XS.iload X0.here hx rfl (hb hby at_22) rfl (XS.ifYes X0.here hx rfl (pc0 := 24) (pc' := 34) rfl (hb hby at_24) rfl ((if0 _ _).trans (teq ((by decide) : (0 : Int32) = (0 : Int32))).1) (by decide) (by decide) (XS.iloadN X0.here hx rfl (hb hby at_34) rfl (X0.ldcInt hx hown (mvT hZ tw0) (g := (mkF m 35 #[.val (.int p0), .val (.int p1), .val (.int p2), .val (.int p3), .val (.int p4), .val (.int (4 : Int32)), .val (.int (0 : Int32)), .unset, .unset, .unset, .unset, .unset, .unset, .unset, .unset, .unset] [(.int p0)])) rfl (hb hby at_35) _ (XS.iand X0.here hx rfl (hb hby at_37) rfl k)))))))) ?_
          refine Goes.step (S' := s₁.setTop (mkF m 40 #[.val (.int p0), .val (.int p1), .val (.int p2), .val (.int p3), .val (.int p4), .val (.int (4 : Int32)), .val (.int (0 : Int32)), .val (.int (p0 &&& (2147483647 : Int32))), .unset, .unset, .unset, .unset, .unset, .unset, .unset, .unset] [])) (fun t k => XS.istore X0.here hx rfl (hb hby at_38) rfl (l' := #[.val (.int p0), .val (.int p1), .val (.int p2), .val (.int p3), .val (.int p4), .val (.int (4 : Int32)), .val (.int (0 : Int32)), .val (.int (p0 &&& (2147483647 : Int32))), .unset, .unset, .unset, .unset, .unset, .unset, .unset, .unset]) rfl k) ?_
          exact s4 (.val (.int (0 : Int32))) (p0 &&& (2147483647 : Int32)) s₁ _ X0 eh0 N0 ((by have z194_0 := hc179; have z194_1 := hc183; have z194_2 := hc187; have z194_3 := hc191; have z194_4 := hc193; have z194_5 := rng32 ((p1 &&& (3 : Int32)) + (1 : Int32)); have z194_6 := c_iadd (p1 &&& (3 : Int32)) (1 : Int32); have z194_7 := rng32 (p1 &&& (3 : Int32)); have z194_8 := c_mask p1 (3 : Int32) 2 (by decide) (by decide); have z194_9 := rng32 p1; have z194_10 := rng32 ((p1 >>> ((2 : Int32) &&& 31)) &&& (1 : Int32)); have z194_11 := c_mask (p1 >>> ((2 : Int32) &&& 31)) (1 : Int32) 1 (by decide) (by decide); have z194_12 := rng32 (p1 >>> ((2 : Int32) &&& 31)); have z194_13 := c_ishr p1 (2 : Int32) 2 rfl; have z194_14 := rng32 (p0 &&& (2147483647 : Int32)); have z194_15 := c_mask p0 (2147483647 : Int32) 31 (by decide) (by decide); have z194_16 := rng32 p0; (try simp only [Int32.lt_iff_toInt_lt, Int64.lt_iff_toInt_lt, ne_eq, ← Int32.toInt_inj, ← Int64.toInt_inj, Int32.reduceToInt, Int64.reduceToInt, Nat.reducePow] at z194_0 z194_1 z194_2 z194_3 z194_4 z194_5 z194_6 z194_7 z194_8 z194_9 z194_10 z194_11 z194_12 z194_13 z194_14 z194_15 z194_16 ⊢); try omega) : ¬ ((p0 &&& (2147483647 : Int32)) < (0 : Int32)))
        case neg =>
          refine Goes.step (S' := s₁.setTop (mkF m 30 #[.val (.int p0), .val (.int p1), .val (.int p2), .val (.int p3), .val (.int p4), .val (.int (4 : Int32)), .val (.int (1 : Int32)), .unset, .unset, .unset, .unset, .unset, .unset, .unset, .unset, .unset] [(.int (7 : Int32)), (.int p0)])) (fun t k => XS.ifNo X0.here hx rfl (hb hby at_12) rfl ((if0 _ _).trans (feq hc193).1) (XS.iconst X0.here hx rfl (hb hby at_15) (XS.goto X0.here hx rfl (pc0 := 16) (pc' := 20) rfl (hb hby at_16) (by decide) (by decide) (XS.istore X0.here hx rfl (hb hby at_20) rfl (l' := #[.val (.int p0), .val (.int p1), .val (.int p2), .val (.int p3), .val (.int p4), .val (.int (4 : Int32)), .val (.int (1 : Int32)), .unset, .unset, .unset, .unset, .unset, .unset, .unset, .unset, .unset]) rfl (XS.iload X0.here hx rfl (hb hby at_22) rfl (XS.ifNo X0.here hx rfl (hb hby at_24) rfl ((if0 _ _).trans (feq ((by decide) : ¬ ((1 : Int32) = (0 : Int32)))).1) (XS.iloadN X0.here hx rfl (hb hby at_27) rfl (XS.bipush X0.here hx rfl (hb hby at_28) k)))))))) ?_
          refine Goes.step (S' := s₁.setTop (mkF m 40 #[.val (.int p0), .val (.int p1), .val (.int p2), .val (.int p3), .val (.int p4), .val (.int (4 : Int32)), .val (.int (1 : Int32)), .val (.int (p0 &&& (7 : Int32))), .unset, .unset, .unset, .unset, .unset, .unset, .unset, .unset] [])) (fun t k => XS.iand X0.here hx rfl (hb hby at_30) rfl (XS.goto X0.here hx rfl (pc0 := 31) (pc' := 38) rfl (hb hby at_31) (by decide) (by decide) (XS.istore X0.here hx rfl (hb hby at_38) rfl (l' := #[.val (.int p0), .val (.int p1), .val (.int p2), .val (.int p3), .val (.int p4), .val (.int (4 : Int32)), .val (.int (1 : Int32)), .val (.int (p0 &&& (7 : Int32))), .unset, .unset, .unset, .unset, .unset, .unset, .unset, .unset]) rfl k))) ?_
          exact s4 (.val (.int (1 : Int32))) (p0 &&& (7 : Int32)) s₁ _ X0 eh0 N0 ((by have z195_0 := hc179; have z195_1 := hc183; have z195_2 := hc187; have z195_3 := hc191; have z195_4 := hc193; have z195_5 := rng32 ((p1 &&& (3 : Int32)) + (1 : Int32)); have z195_6 := c_iadd (p1 &&& (3 : Int32)) (1 : Int32); have z195_7 := rng32 (p1 &&& (3 : Int32)); have z195_8 := c_mask p1 (3 : Int32) 2 (by decide) (by decide); have z195_9 := rng32 p1; have z195_10 := rng32 ((p1 >>> ((2 : Int32) &&& 31)) &&& (1 : Int32)); have z195_11 := c_mask (p1 >>> ((2 : Int32) &&& 31)) (1 : Int32) 1 (by decide) (by decide); have z195_12 := rng32 (p1 >>> ((2 : Int32) &&& 31)); have z195_13 := c_ishr p1 (2 : Int32) 2 rfl; have z195_14 := rng32 (p0 &&& (7 : Int32)); have z195_15 := c_mask p0 (7 : Int32) 3 (by decide) (by decide); have z195_16 := rng32 p0; (try simp only [Int32.lt_iff_toInt_lt, Int64.lt_iff_toInt_lt, ne_eq, ← Int32.toInt_inj, ← Int64.toInt_inj, Int32.reduceToInt, Int64.reduceToInt, Nat.reducePow] at z195_0 z195_1 z195_2 z195_3 z195_4 z195_5 z195_6 z195_7 z195_8 z195_9 z195_10 z195_11 z195_12 z195_13 z195_14 z195_15 z195_16 ⊢); try omega) : ¬ ((p0 &&& (7 : Int32)) < (0 : Int32)))

set_option maxRecDepth 65536 in
set_option maxHeartbeats 40000000 in
theorem comes_1 {Post : Tables → Env → Array Value → State → Outcome → State → Prop} (hpost : ∀ tb e args s v u, (limb_1_1.after args s (.returned v) u = true ∧ limb_1_2.after args s (.returned v) u = true ∧ True) → FrameEnd s (.returned v) u (Jvm.fieldLocs frame_1_writes args s ++ Jvm.arrayLocs frame_1_arrays args s ++ Jvm.staticLocs frame_1_statics s) 24 128 → Post tb e args s (.returned v) u) :
    ArmFor flags0 classFile x code maxLocals ret World_1 tables_1 room_1 Calls_1 rest_1 Pre_1 Post := by
  intro l hfl _ _ p e ha hc hk s m args below hf hA hF happ hP
  obtain ⟨hcalls, hrest, hpre⟩ := hP
  obtain ⟨-, -, -, hnamed, -, -, -, hat⟩ := (Spec.applies_iff hf).mp happ
  obtain ⟨hg, hn⟩ := and_e (Cond.before_iff.mp (show (Jvm.Cond.and given_1 narrow_1).before args s = true from hpre))
  obtain ⟨g1, g2⟩ := and_e hg
  obtain ⟨g3, g4⟩ := and_e g2
  obtain ⟨g5, g6⟩ := and_e g4
  obtain ⟨g7, g8⟩ := and_e g6
  obtain ⟨g9, g10⟩ := and_e g8
  obtain ⟨w0, w1, w2, w3, w4, rfl⟩ : ∃ w0 w1 w2 w3 w4 : Value, args = #[w0, w1, w2, w3, w4] := by
    have hs : args.size = 5 := by simpa [Cond.value, given_1] using g1
    obtain ⟨L⟩ := args
    match L, hs with
    | [w0, w1, w2, w3, w4], _ => exact ⟨w0, w1, w2, w3, w4, rfl⟩
  have hw := fun d (hd : d ∈ tables_1) => atoms_spec (ws := Jvm.Cond.code x code maxLocals ret :: tables_1) hat d (List.mem_cons_of_mem _ hd)
  have hfit : Fit s := fun {y c} hc i hi => by
    obtain ⟨ha, rfl⟩ := Array.getElem?_eq_some_iff.mp hc
    have q := List.all_eq_true.mp ((Array.all_eq_true_iff_forall_mem.mp hF) _ (Array.getElem_mem ha)) i (List.mem_range.mpr hi)
    simpa [Array.getElem?_eq_getElem hi] using q
  obtain ⟨hsets, hown0⟩ := atoms_of _ (rest_1_c_eq ▸ (show rest_1_c.before _ s = true from hrest))
  have hr0 := Cond.before_iff.mp hown0
  obtain ⟨i0, ei0⟩ := is_v g3
  obtain rfl : w0 = (.int i0) := Option.some.inj ei0
  obtain ⟨i1, ei1⟩ := is_v g5
  obtain rfl : w1 = (.int i1) := Option.some.inj ei1
  obtain ⟨i2, ei2⟩ := is_v g7
  obtain rfl : w2 = (.int i2) := Option.some.inj ei2
  obtain ⟨i3, ei3⟩ := is_v g9
  obtain rfl : w3 = (.int i3) := Option.some.inj ei3
  obtain ⟨i4, ei4⟩ := is_v g10
  obtain rfl : w4 = (.int i4) := Option.some.inj ei4
  -- hn says: Jvm.Cond.tt
  obtain ⟨da, ev_da⟩ := exa_v (Cond.before_iff.mp (hsets _ (List.mem_of_getElem? (i := 7) rfl)))
  have S_da : Sta s s.heap "java/util/ArrayList" "DEFAULTCAPACITY_EMPTY_ELEMENTDATA" "[Ljava/lang/Object;" (.ref da) := Sta.start ev_da (Or.inr ⟨(hw _ (List.mem_of_getElem? (i := 14) rfl)), (hsets _ (List.mem_of_getElem? (i := 2) rfl))⟩)
  obtain ⟨cda, Ada⟩ := Arr.start ev_da (Cond.before_iff.mp (hsets _ (List.mem_of_getElem? (i := 6) rfl)))
  have lda := own_eqI (Cond.before_iff.mp (hsets _ (List.mem_of_getElem? (i := 8) rfl)))
  have Vda : Arv s s.heap da cda.cls (.object "java/lang/Object") (0 : Int32) [] .null := own_len0 ev_da Ada lda rfl
  obtain ⟨ca, ev_ca⟩ := exa_v (Cond.before_iff.mp (hsets _ (List.mem_of_getElem? (i := 14) rfl)))
  have S_ca : Sta s s.heap "java/lang/Integer$IntegerCache" "cache" "[Ljava/lang/Integer;" (.ref ca) := Sta.start ev_ca (Or.inr ⟨(hw _ (List.mem_of_getElem? (i := 43) rfl)), (hsets _ (List.mem_of_getElem? (i := 11) rfl))⟩)
  obtain ⟨clc, Aca⟩ := Arr.start ev_ca (Cond.before_iff.mp (hsets _ (List.mem_of_getElem? (i := 13) rfl)))
  have lca := own_eqI (Cond.before_iff.mp (hsets _ (List.mem_of_getElem? (i := 15) rfl)))
  have BX := own_bxs ev_ca Aca lca (Cond.before_iff.mp (hsets _ (List.mem_of_getElem? (i := 16) rfl)))
  have S_high : Sta s s.heap "java/lang/Integer$IntegerCache" "high" "I" (.int (127 : Int32)) := Sta.start (own_eqI (Cond.before_iff.mp (hsets _ (List.mem_of_getElem? (i := 12) rfl)))) (Or.inr ⟨(hw _ (List.mem_of_getElem? (i := 43) rfl)), (hsets _ (List.mem_of_getElem? (i := 9) rfl))⟩)
  obtain ⟨em, ev_em⟩ := exa_v (Cond.before_iff.mp (hsets _ (List.mem_of_getElem? (i := 19) rfl)))
  have S_em : Sta s s.heap "java/util/ImmutableCollections" "EMPTY" "Ljava/lang/Object;" (.ref em) := Sta.start ev_em (Or.inr ⟨(hw _ (List.mem_of_getElem? (i := 90) rfl)), (hsets _ (List.mem_of_getElem? (i := 17) rfl))⟩)
  have E_em : Exa s s.heap em "java/lang/Object" := Exa.start ev_em (Cond.before_iff.mp (hsets _ (List.mem_of_getElem? (i := 19) rfl)))
  obtain ⟨mr, MI⟩ := own_mir hcalls.1
  obtain ⟨n, o, h1, h2, h3, _, L, rfl, ⟨rfl, N⟩, hq⟩ := law l s _ hw tables_1 i0 i1 i2 i3 i4 da cda.cls ca clc em mr s.heap s.heap.size (Nat.le_refl _) S_da Vda S_high S_ca BX (Old.start s) S_em E_em MI p e ha hc hk s m _ below hf ((Spec.applies_iff_loose hf).mp happ).1 ⟨rfl, State.Warmed39.refl s, rfl⟩ trivial
  refine ⟨n, _, h1, h2, h3, hpost _ _ _ _ _ _ ⟨Cond.after_iff.mpr rfl, Cond.after_iff.mpr (eq_i res_at (Term.int_eval (1)) rfl), trivial⟩ ⟨hq.1, hq.2.1, (hq.2.2.sift fun y hy => Or.inr (N y hy)).mono (by decide) (by decide)⟩⟩
theorem main_1_1 : Claimed_1_1 := comes_1 fun _ _ _ _ _ _ h hF => ⟨h.1, hF⟩
theorem main_1_2 : Claimed_1_2 := comes_1 fun _ _ _ _ _ _ h hF => ⟨h.2.1, hF⟩
end Jvm.Pilot.@@N@@
namespace Jvm.Pilot.@@N@@
open Jvm Jvm.ClassFile Sem Op Lib Jvm.Free Jvm.Stand Jvm.Pilot.@@N@@.Jvm.D
/-! MADE BY PROGRAM (witnessworld.py) out of the Statement's table words and the real class files: 35 classes; the members and pool entries that the words name. The judged class is class 1, her method 2. -/
namespace start1
open Jvm.ClassFile
def u (s : String) : CpInfo := .utf8 (stringToUtf16 s)
/-- a pool by its gaps: so many unusable entries, then the entry; so many at the end -/
def gap : Nat → List CpInfo → List CpInfo
  | 0, r => r
  | n + 1, r => .unusable :: gap n r
def poolList (es : List (Nat × CpInfo)) (last : Nat) : List CpInfo := es.foldr (fun e r => gap e.1 (e.2 :: r)) (gap last [])
def pool (es : List (Nat × CpInfo)) (last : Nat) : Array CpInfo := ⟨poolList es last⟩
def fileOf (pool : Array CpInfo) (this : Nat) (attrs : Array Attribute := #[]) (ms : Array MethodInfo := #[]) (fl : Nat := 33) (sup : Nat := 0) (ifs : Array Nat := #[]) (fds : Array FieldInfo := #[]) : ClassFile where
  minorVersion := 0
  majorVersion := 65
  constantPool := pool
  accessFlags := fl
  thisClass := this
  superClass := sup
  interfaces := ifs
  fields := fds
  methods := ms
  attributes := attrs
def plain (name : String) (sup : Option ClassId) : Class where
  name := name
  kind := .ordinary
  loader := none
  accessFlags := 33
  super := sup
  interfaces := #[]
  cf := none
  fields := #[]
  methods := #[]
  instanceTypes := #[]
  staticTypes := #[]
  resolved := #[]
  callSites := []
  init := .initialized
  statics := none
  mirror := none

def pool0 : Array CpInfo := pool [(5, u "<init>"), (0, u "()V"), (1, .class_ 10), (1, u "java/lang/Object"), (0, u "getClass"), (0, u "()Ljava/lang/Class;")] 111

def k0c0 : Code := { maxStack := 0, maxLocals := 1, code := object_method_1_code, exceptionTable := #[], attributes := #[] }
def k0m0 : Method := { name := "<init>", desc := "()V", sig := { parameters := [], returnType := none }, accessFlags := 1, code := some k0c0 }
def k0m1 : Method := { name := "getClass", desc := "()Ljava/lang/Class;", sig := { parameters := [], returnType := some (.object "java/lang/Class") }, accessFlags := 273, code := none }
/-- java/lang/Object -/
def k0 : Class := { plain "java/lang/Object" none with
  accessFlags := 33
  interfaces := #[]
  cf := some (fileOf pool0 8 #[] #[{ accessFlags := 1, nameIndex := 5, descriptorIndex := 6, attributes := #[] }, { accessFlags := 273, nameIndex := 11, descriptorIndex := 12, attributes := #[] }] 33 0 #[] #[])
  fields := #[]
  methods := #[k0m0, k0m1]
  instanceTypes := #[]
  staticTypes := #[]
  resolved := Array.replicate 124 none
  statics := none }

def pool1 : Array CpInfo := pool [(2, .class_ 4), (0, .nameAndType 5 6), (0, u "java/lang/Object"), (0, u "<init>"), (0, u "()V"), (0, .methodref 8 9), (0, .class_ 10), (0, .nameAndType 11 12), (0, u "java/lang/Math"), (0, u "min"), (0, u "(II)I"), (0, .integer 2147483647), (0, .methodref 15 16), (0, .class_ 17), (0, .nameAndType 18 19), (0, u "com/example/planwright/planwright/model/VestingProvisionsVestedPercentPinLaw"), (0, u "pct"), (0, u "(I)I"), (0, .methodref 8 21), (0, .nameAndType 22 12), (0, u "max"), (0, .class_ 24), (0, u "java/util/ArrayList"), (0, .methodref 23 3), (0, .methodref 27 28), (0, .class_ 29), (0, .nameAndType 30 31), (0, u "java/lang/Integer"), (0, u "valueOf"), (0, u "(I)Ljava/lang/Integer;"), (0, .methodref 23 33), (0, .nameAndType 34 35), (0, u "add"), (0, u "(Ljava/lang/Object;)Z"), (0, .class_ 37), (0, u "com/example/planwright/planwright/model/VestingProvisions"), (0, .methodref 36 39), (0, .nameAndType 5 40), (0, u "(IILjava/util/List;)V"), (0, .methodref 36 42), (0, .nameAndType 43 19), (0, u "vestedPercent"), (2, u "law"), (0, u "(IIIII)Z")] 3

def k1m0 : Method := { name := "<init>", desc := "()V", sig := { parameters := [], returnType := none }, accessFlags := 1, code := none }
def k1c1 : Code := { maxStack := 2, maxLocals := 1, code := method_2_code, exceptionTable := #[], attributes := #[] }
def k1m1 : Method := { name := "pct", desc := "(I)I", sig := { parameters := [.int], returnType := some .int }, accessFlags := 10, code := some k1c1 }
def k1c2 : Code := { maxStack := 5, maxLocals := 16, code := code, exceptionTable := #[], attributes := #[] }
def k1m2 : Method := { name := "law", desc := "(IIIII)Z", sig := { parameters := [.int, .int, .int, .int, .int], returnType := some .boolean }, accessFlags := 9, code := some k1c2 }
/-- com/example/planwright/planwright/model/VestingProvisionsVestedPercentPinLaw -/
def k1 : Class := { plain "com/example/planwright/planwright/model/VestingProvisionsVestedPercentPinLaw" (some 0) with
  accessFlags := 49
  interfaces := #[]
  cf := some (fileOf pool1 15 #[] #[{ accessFlags := 1, nameIndex := 5, descriptorIndex := 6, attributes := #[] }, { accessFlags := 10, nameIndex := 18, descriptorIndex := 19, attributes := #[] }, { accessFlags := 9, nameIndex := 46, descriptorIndex := 47, attributes := #[] }] 49 2 #[] #[])
  fields := #[]
  methods := #[k1m0, k1m1, k1m2]
  instanceTypes := #[]
  staticTypes := #[]
  resolved := Array.replicate 51 none
  statics := none }

def pool2 : Array CpInfo := pool [(1, .class_ 2), (0, u "java/lang/Math"), (1, .class_ 6), (1, u "java/lang/Object"), (0, u "<init>"), (0, u "()V"), (89, .class_ 100), (1, u "java/lang/Math$RandomNumberGeneratorHolder"), (71, u "negativeZeroFloatBits"), (0, u "J"), (2, u "negativeZeroDoubleBits"), (21, u "max"), (2, u "min"), (43, u "$assertionsDisabled"), (0, u "Z"), (88, u "(II)I"), (2, u "twoToTheDoubleScaleDown"), (0, u "D"), (4, u "twoToTheDoubleScaleUp"), (9, u "E"), (3, u "PI"), (2, u "TAU"), (2, u "DEGREES_TO_RADIANS"), (0, u "RADIANS_TO_DEGREES")] 94

def k2m0 : Method := { name := "<init>", desc := "()V", sig := { parameters := [], returnType := none }, accessFlags := 2, code := none }
def k2c1 : Code := { maxStack := 2, maxLocals := 2, code := jdk_29_method_65_code, exceptionTable := #[], attributes := #[] }
def k2m1 : Method := { name := "max", desc := "(II)I", sig := { parameters := [.int, .int], returnType := some .int }, accessFlags := 9, code := some k2c1 }
def k2c2 : Code := { maxStack := 2, maxLocals := 2, code := jdk_29_method_69_code, exceptionTable := #[], attributes := #[] }
def k2m2 : Method := { name := "min", desc := "(II)I", sig := { parameters := [.int, .int], returnType := some .int }, accessFlags := 9, code := some k2c2 }
/-- java/lang/Math -/
def k2 : Class := { plain "java/lang/Math" (some 0) with
  accessFlags := 49
  interfaces := #[]
  cf := some (fileOf pool2 1 #[.nestMembers #[98]] #[{ accessFlags := 2, nameIndex := 7, descriptorIndex := 8, attributes := #[] }, { accessFlags := 9, nameIndex := 198, descriptorIndex := 335, attributes := #[] }, { accessFlags := 9, nameIndex := 201, descriptorIndex := 335, attributes := #[] }] 49 4 #[] #[{ accessFlags := 25, nameIndex := 354, descriptorIndex := 339, attributes := #[] }, { accessFlags := 25, nameIndex := 358, descriptorIndex := 339, attributes := #[] }, { accessFlags := 25, nameIndex := 361, descriptorIndex := 339, attributes := #[] }, { accessFlags := 26, nameIndex := 364, descriptorIndex := 339, attributes := #[] }, { accessFlags := 26, nameIndex := 365, descriptorIndex := 339, attributes := #[] }, { accessFlags := 26, nameIndex := 172, descriptorIndex := 173, attributes := #[] }, { accessFlags := 26, nameIndex := 176, descriptorIndex := 173, attributes := #[] }, { accessFlags := 8, nameIndex := 344, descriptorIndex := 339, attributes := #[] }, { accessFlags := 8, nameIndex := 338, descriptorIndex := 339, attributes := #[] }, { accessFlags := 4120, nameIndex := 245, descriptorIndex := 246, attributes := #[] }])
  fields := #[{ name := "E", type := .double, accessFlags := 25, slot := 0, constantValue := 0 }, { name := "PI", type := .double, accessFlags := 25, slot := 1, constantValue := 0 }, { name := "TAU", type := .double, accessFlags := 25, slot := 2, constantValue := 0 }, { name := "DEGREES_TO_RADIANS", type := .double, accessFlags := 26, slot := 3, constantValue := 0 }, { name := "RADIANS_TO_DEGREES", type := .double, accessFlags := 26, slot := 4, constantValue := 0 }, { name := "negativeZeroFloatBits", type := .long, accessFlags := 26, slot := 5, constantValue := 0 }, { name := "negativeZeroDoubleBits", type := .long, accessFlags := 26, slot := 6, constantValue := 0 }, { name := "twoToTheDoubleScaleUp", type := .double, accessFlags := 8, slot := 7, constantValue := 0 }, { name := "twoToTheDoubleScaleDown", type := .double, accessFlags := 8, slot := 8, constantValue := 0 }, { name := "$assertionsDisabled", type := .boolean, accessFlags := 4120, slot := 9, constantValue := 0 }]
  methods := #[k2m0, k2m1, k2m2]
  instanceTypes := #[]
  staticTypes := #[.double, .double, .double, .double, .double, .long, .long, .double, .double, .boolean]
  resolved := Array.replicate 460 none
  statics := none }

def pool3 : Array CpInfo := pool [(8, .class_ 10), (1, u "java/lang/Iterable"), (24, .class_ 36), (0, u "java/lang/Object")] 25

/-- java/lang/Iterable -/
def k3 : Class := { plain "java/lang/Iterable" (some 0) with
  accessFlags := 1537
  interfaces := #[]
  cf := some (fileOf pool3 8 #[] #[] 1537 35 #[] #[])
  fields := #[]
  methods := #[]
  instanceTypes := #[]
  staticTypes := #[]
  resolved := Array.replicate 62 none
  statics := none }

def pool4 : Array CpInfo := pool [(10, .class_ 12), (1, u "java/util/Collection"), (0, u "toArray"), (16, u "()Z"), (29, .class_ 61), (0, u "java/lang/Object"), (0, .class_ 63), (0, u "java/lang/Iterable"), (2, u "isEmpty"), (3, u "()[Ljava/lang/Object;")] 44

def k4m0 : Method := { name := "isEmpty", desc := "()Z", sig := { parameters := [], returnType := some .boolean }, accessFlags := 1025, code := none }
def k4m1 : Method := { name := "toArray", desc := "()[Ljava/lang/Object;", sig := { parameters := [], returnType := some (.array (.object "java/lang/Object")) }, accessFlags := 1025, code := none }
/-- java/util/Collection -/
def k4 : Class := { plain "java/util/Collection" (some 0) with
  accessFlags := 1537
  interfaces := #[3]
  cf := some (fileOf pool4 10 #[] #[{ accessFlags := 1025, nameIndex := 66, descriptorIndex := 30, attributes := #[] }, { accessFlags := 1025, nameIndex := 13, descriptorIndex := 70, attributes := #[] }] 1537 60 #[62] #[])
  fields := #[]
  methods := #[k4m0, k4m1]
  instanceTypes := #[]
  staticTypes := #[]
  resolved := Array.replicate 115 none
  statics := none }

def pool5 : Array CpInfo := pool [(1, .methodref 2 3), (0, .class_ 4), (0, .nameAndType 5 6), (0, u "java/lang/Object"), (0, u "<init>"), (0, u "()V"), (1, .class_ 10), (1, u "java/util/AbstractCollection"), (66, .class_ 78), (0, u "java/util/Collection")] 81

def k5c0 : Code := { maxStack := 1, maxLocals := 1, code := jdk_22_method_1_code, exceptionTable := #[], attributes := #[] }
def k5m0 : Method := { name := "<init>", desc := "()V", sig := { parameters := [], returnType := none }, accessFlags := 4, code := some k5c0 }
/-- java/util/AbstractCollection -/
def k5 : Class := { plain "java/util/AbstractCollection" (some 0) with
  accessFlags := 1057
  interfaces := #[4]
  cf := some (fileOf pool5 8 #[] #[{ accessFlags := 4, nameIndex := 5, descriptorIndex := 6, attributes := #[] }] 1057 2 #[77] #[])
  fields := #[]
  methods := #[k5m0]
  instanceTypes := #[]
  staticTypes := #[]
  resolved := Array.replicate 160 none
  statics := none }

def pool6 : Array CpInfo := pool [(8, .class_ 10), (1, u "java/util/SequencedCollection"), (15, .class_ 27), (0, u "java/lang/Object"), (0, .class_ 29), (0, u "java/util/Collection")] 27

/-- java/util/SequencedCollection -/
def k6 : Class := { plain "java/util/SequencedCollection" (some 0) with
  accessFlags := 1537
  interfaces := #[4]
  cf := some (fileOf pool6 8 #[] #[] 1537 26 #[28] #[])
  fields := #[]
  methods := #[]
  instanceTypes := #[]
  staticTypes := #[]
  resolved := Array.replicate 57 none
  statics := none }

def pool7 : Array CpInfo := pool [(8, .class_ 10), (1, u "java/util/List"), (20, u "(Ljava/lang/Object;)V"), (16, u "<init>"), (26, u "get"), (0, u "(I)Ljava/lang/Object;"), (2, u "size"), (0, u "()I"), (7, u "of"), (2, .class_ 93), (1, u "java/util/ImmutableCollections"), (2, .class_ 97), (0, u "java/util/ImmutableCollections$List12"), (0, .methodref 96 99), (0, .nameAndType 48 31), (0, .methodref 96 101), (0, .nameAndType 48 102), (0, u "(Ljava/lang/Object;Ljava/lang/Object;)V"), (0, .class_ 104), (0, u "java/lang/Object"), (3, u "([Ljava/lang/Object;)Ljava/util/List;"), (0, .methodref 91 110), (0, .nameAndType 111 108), (0, u "listFromArray"), (0, .methodref 91 113), (0, .nameAndType 114 115), (0, u "listCopy"), (0, u "(Ljava/util/Collection;)Ljava/util/List;"), (4, .class_ 121), (0, u "java/util/SequencedCollection"), (112, u "copyOf")] 16

def k7m0 : Method := { name := "size", desc := "()I", sig := { parameters := [], returnType := some .int }, accessFlags := 1025, code := none }
def k7m1 : Method := { name := "get", desc := "(I)Ljava/lang/Object;", sig := { parameters := [.int], returnType := some (.object "java/lang/Object") }, accessFlags := 1025, code := none }
def k7c2 : Code := { maxStack := 5, maxLocals := 2, code := jdk_40_method_47_code, exceptionTable := #[], attributes := #[] }
def k7m2 : Method := { name := "of", desc := "([Ljava/lang/Object;)Ljava/util/List;", sig := { parameters := [(.array (.object "java/lang/Object"))], returnType := some (.object "java/util/List") }, accessFlags := 137, code := some k7c2 }
def k7c3 : Code := { maxStack := 1, maxLocals := 1, code := jdk_40_method_48_code, exceptionTable := #[], attributes := #[] }
def k7m3 : Method := { name := "copyOf", desc := "(Ljava/util/Collection;)Ljava/util/List;", sig := { parameters := [(.object "java/util/Collection")], returnType := some (.object "java/util/List") }, accessFlags := 9, code := some k7c3 }
/-- java/util/List -/
def k7 : Class := { plain "java/util/List" (some 0) with
  accessFlags := 1537
  interfaces := #[6]
  cf := some (fileOf pool7 8 #[] #[{ accessFlags := 1025, nameIndex := 79, descriptorIndex := 80, attributes := #[] }, { accessFlags := 1025, nameIndex := 75, descriptorIndex := 76, attributes := #[] }, { accessFlags := 137, nameIndex := 88, descriptorIndex := 108, attributes := #[] }, { accessFlags := 9, nameIndex := 234, descriptorIndex := 115, attributes := #[] }] 1537 103 #[120] #[])
  fields := #[]
  methods := #[k7m0, k7m1, k7m2, k7m3]
  instanceTypes := #[]
  staticTypes := #[]
  resolved := Array.replicate 251 none
  statics := none }

def pool8 : Array CpInfo := pool [(1, .methodref 2 3), (0, .class_ 4), (0, .nameAndType 5 6), (0, u "java/util/AbstractCollection"), (0, u "<init>"), (0, u "()V"), (0, .fieldref 8 9), (0, .class_ 10), (0, .nameAndType 11 12), (0, u "java/util/AbstractList"), (0, u "modCount"), (0, u "I"), (64, .class_ 78), (0, u "java/util/AbstractList$Itr"), (3, .class_ 83), (0, u "java/util/AbstractList$ListItr"), (9, .class_ 94), (0, u "java/util/AbstractList$RandomAccessSubList"), (3, .class_ 99), (0, u "java/util/AbstractList$SubList"), (33, .class_ 134), (0, u "java/util/List"), (73, .class_ 209), (0, u "java/util/AbstractList$SubList$1"), (0, .class_ 211), (0, u "java/util/AbstractList$RandomAccessSpliterator")] 6

def k8c0 : Code := { maxStack := 2, maxLocals := 1, code := jdk_39_method_1_code, exceptionTable := #[], attributes := #[] }
def k8m0 : Method := { name := "<init>", desc := "()V", sig := { parameters := [], returnType := none }, accessFlags := 4, code := some k8c0 }
/-- java/util/AbstractList -/
def k8 : Class := { plain "java/util/AbstractList" (some 5) with
  accessFlags := 1057
  interfaces := #[7]
  cf := some (fileOf pool8 8 #[.nestMembers #[93, 98, 208, 210, 82, 77]] #[{ accessFlags := 4, nameIndex := 5, descriptorIndex := 6, attributes := #[] }] 1057 2 #[133] #[{ accessFlags := 132, nameIndex := 11, descriptorIndex := 12, attributes := #[] }])
  fields := #[{ name := "modCount", type := .int, accessFlags := 132, slot := 0, constantValue := 0 }]
  methods := #[k8m0]
  instanceTypes := #[.int]
  staticTypes := #[]
  resolved := Array.replicate 218 none
  statics := none }

def pool9 : Array CpInfo := pool [(1, .class_ 2), (0, u "java/util/RandomAccess"), (0, .class_ 4), (0, u "java/lang/Object")] 2

/-- java/util/RandomAccess -/
def k9 : Class := { plain "java/util/RandomAccess" (some 0) with
  accessFlags := 1537
  interfaces := #[]
  cf := some (fileOf pool9 1 #[] #[] 1537 3 #[] #[])
  fields := #[]
  methods := #[]
  instanceTypes := #[]
  staticTypes := #[]
  resolved := Array.replicate 7 none
  statics := none }

def pool10 : Array CpInfo := pool [(1, .class_ 2), (0, u "java/lang/Cloneable"), (0, .class_ 4), (0, u "java/lang/Object")] 2

/-- java/lang/Cloneable -/
def k10 : Class := { plain "java/lang/Cloneable" (some 0) with
  accessFlags := 1537
  interfaces := #[]
  cf := some (fileOf pool10 1 #[] #[] 1537 3 #[] #[])
  fields := #[]
  methods := #[]
  instanceTypes := #[]
  staticTypes := #[]
  resolved := Array.replicate 7 none
  statics := none }

def pool11 : Array CpInfo := pool [(1, .class_ 2), (0, u "java/io/Serializable"), (0, .class_ 4), (0, u "java/lang/Object")] 2

/-- java/io/Serializable -/
def k11 : Class := { plain "java/io/Serializable" (some 0) with
  accessFlags := 1537
  interfaces := #[]
  cf := some (fileOf pool11 1 #[] #[] 1537 3 #[] #[])
  fields := #[]
  methods := #[]
  instanceTypes := #[]
  staticTypes := #[]
  resolved := Array.replicate 7 none
  statics := none }

def pool12 : Array CpInfo := pool [(1, .methodref 2 3), (0, .class_ 4), (0, .nameAndType 5 6), (0, u "java/util/AbstractList"), (0, u "<init>"), (0, u "()V"), (0, .class_ 8), (0, u "java/lang/Object"), (0, .fieldref 10 11), (0, .class_ 12), (0, .nameAndType 13 14), (0, u "java/util/ArrayList"), (0, u "elementData"), (0, u "[Ljava/lang/Object;"), (2, u "EMPTY_ELEMENTDATA"), (21, .fieldref 10 40), (0, .nameAndType 41 14), (0, u "DEFAULTCAPACITY_EMPTY_ELEMENTDATA"), (4, u "toArray"), (0, u "()[Ljava/lang/Object;"), (0, .fieldref 10 49), (0, .nameAndType 50 51), (0, u "size"), (0, u "I"), (6, .class_ 60), (1, u "java/util/Arrays"), (0, u "copyOf"), (1, .fieldref 10 64), (0, .nameAndType 65 51), (0, u "modCount"), (0, .methodref 58 67), (0, .nameAndType 61 68), (0, u "([Ljava/lang/Object;I)[Ljava/lang/Object;"), (0, .methodref 10 70), (0, .nameAndType 71 72), (0, u "grow"), (0, u "(I)[Ljava/lang/Object;"), (6, .methodref 80 81), (0, .class_ 82), (0, .nameAndType 83 84), (0, u "java/lang/Math"), (0, u "max"), (0, u "(II)I"), (11, u "(Ljava/lang/Object;)Z"), (32, .methodref 10 130), (0, .nameAndType 71 47), (0, .methodref 10 132), (0, .nameAndType 133 134), (0, u "add"), (0, u "(Ljava/lang/Object;[Ljava/lang/Object;I)V"), (13, .class_ 149), (0, u "java/util/List"), (23, u "()Z"), (88, .class_ 263), (0, u "java/util/ArrayList$ListItr"), (3, .class_ 268), (0, u "java/util/ArrayList$Itr"), (7, .class_ 277), (0, u "java/util/ArrayList$SubList"), (12, .class_ 291), (0, u "java/util/ArrayList$ArrayListSpliterator"), (37, .class_ 330), (0, u "java/util/RandomAccess"), (0, .class_ 332), (0, u "java/lang/Cloneable"), (0, .class_ 334), (0, u "java/io/Serializable"), (0, u "serialVersionUID"), (0, u "J"), (3, u "DEFAULT_CAPACITY"), (22, u "isEmpty"), (136, .class_ 501), (0, u "java/util/ArrayList$SubList$2"), (0, .class_ 503), (0, u "java/util/ArrayList$SubList$1")] 5

def k12c0 : Code := { maxStack := 2, maxLocals := 1, code := jdk_38_method_2_code, exceptionTable := #[], attributes := #[] }
def k12m0 : Method := { name := "<init>", desc := "()V", sig := { parameters := [], returnType := none }, accessFlags := 1, code := some k12c0 }
def k12c1 : Code := { maxStack := 4, maxLocals := 4, code := jdk_38_method_6_code, exceptionTable := #[], attributes := #[] }
def k12m1 : Method := { name := "grow", desc := "(I)[Ljava/lang/Object;", sig := { parameters := [.int], returnType := some (.array (.object "java/lang/Object")) }, accessFlags := 2, code := some k12c1 }
def k12c2 : Code := { maxStack := 3, maxLocals := 1, code := jdk_38_method_7_code, exceptionTable := #[], attributes := #[] }
def k12m2 : Method := { name := "grow", desc := "()[Ljava/lang/Object;", sig := { parameters := [], returnType := some (.array (.object "java/lang/Object")) }, accessFlags := 2, code := some k12c2 }
def k12c3 : Code := { maxStack := 1, maxLocals := 1, code := jdk_38_method_9_code, exceptionTable := #[], attributes := #[] }
def k12m3 : Method := { name := "isEmpty", desc := "()Z", sig := { parameters := [], returnType := some .boolean }, accessFlags := 1, code := some k12c3 }
def k12c4 : Code := { maxStack := 2, maxLocals := 1, code := jdk_38_method_16_code, exceptionTable := #[], attributes := #[] }
def k12m4 : Method := { name := "toArray", desc := "()[Ljava/lang/Object;", sig := { parameters := [], returnType := some (.array (.object "java/lang/Object")) }, accessFlags := 1, code := some k12c4 }
def k12c5 : Code := { maxStack := 3, maxLocals := 4, code := jdk_38_method_24_code, exceptionTable := #[], attributes := #[] }
def k12m5 : Method := { name := "add", desc := "(Ljava/lang/Object;[Ljava/lang/Object;I)V", sig := { parameters := [(.object "java/lang/Object"), (.array (.object "java/lang/Object")), .int], returnType := none }, accessFlags := 2, code := some k12c5 }
def k12c6 : Code := { maxStack := 4, maxLocals := 2, code := jdk_38_method_25_code, exceptionTable := #[], attributes := #[] }
def k12m6 : Method := { name := "add", desc := "(Ljava/lang/Object;)Z", sig := { parameters := [(.object "java/lang/Object")], returnType := some .boolean }, accessFlags := 1, code := some k12c6 }
/-- java/util/ArrayList -/
def k12 : Class := { plain "java/util/ArrayList" (some 8) with
  accessFlags := 33
  interfaces := #[7, 9, 10, 11]
  cf := some (fileOf pool12 10 #[.nestMembers #[290, 276, 500, 502, 262, 267]] #[{ accessFlags := 1, nameIndex := 5, descriptorIndex := 6, attributes := #[] }, { accessFlags := 2, nameIndex := 71, descriptorIndex := 72, attributes := #[] }, { accessFlags := 2, nameIndex := 71, descriptorIndex := 47, attributes := #[] }, { accessFlags := 1, nameIndex := 363, descriptorIndex := 173, attributes := #[] }, { accessFlags := 1, nameIndex := 46, descriptorIndex := 47, attributes := #[] }, { accessFlags := 2, nameIndex := 133, descriptorIndex := 134, attributes := #[] }, { accessFlags := 1, nameIndex := 133, descriptorIndex := 96, attributes := #[] }] 33 2 #[148, 329, 331, 333] #[{ accessFlags := 26, nameIndex := 335, descriptorIndex := 336, attributes := #[] }, { accessFlags := 26, nameIndex := 340, descriptorIndex := 51, attributes := #[] }, { accessFlags := 26, nameIndex := 17, descriptorIndex := 14, attributes := #[] }, { accessFlags := 26, nameIndex := 41, descriptorIndex := 14, attributes := #[] }, { accessFlags := 128, nameIndex := 13, descriptorIndex := 14, attributes := #[] }, { accessFlags := 2, nameIndex := 50, descriptorIndex := 51, attributes := #[] }])
  fields := #[{ name := "serialVersionUID", type := .long, accessFlags := 26, slot := 0, constantValue := 0 }, { name := "DEFAULT_CAPACITY", type := .int, accessFlags := 26, slot := 1, constantValue := 0 }, { name := "EMPTY_ELEMENTDATA", type := (.array (.object "java/lang/Object")), accessFlags := 26, slot := 2, constantValue := 0 }, { name := "DEFAULTCAPACITY_EMPTY_ELEMENTDATA", type := (.array (.object "java/lang/Object")), accessFlags := 26, slot := 3, constantValue := 0 }, { name := "elementData", type := (.array (.object "java/lang/Object")), accessFlags := 128, slot := 1, constantValue := 0 }, { name := "size", type := .int, accessFlags := 2, slot := 2, constantValue := 0 }]
  methods := #[k12m0, k12m1, k12m2, k12m3, k12m4, k12m5, k12m6]
  instanceTypes := #[.int, (.array (.object "java/lang/Object")), .int]
  staticTypes := #[.long, .int, (.array (.object "java/lang/Object")), (.array (.object "java/lang/Object"))]
  resolved := Array.replicate 509 none
  statics := some 0 }

def pool13 : Array CpInfo := pool [(2, .class_ 4), (1, u "java/lang/Object"), (0, u "<init>"), (0, u "()V"), (1, .class_ 10), (1, u "java/lang/Number"), (2, .class_ 14), (0, u "java/io/Serializable"), (0, u "serialVersionUID"), (0, u "J")] 20

def k13m0 : Method := { name := "<init>", desc := "()V", sig := { parameters := [], returnType := none }, accessFlags := 1, code := none }
/-- java/lang/Number -/
def k13 : Class := { plain "java/lang/Number" (some 0) with
  accessFlags := 1057
  interfaces := #[11]
  cf := some (fileOf pool13 8 #[] #[{ accessFlags := 1, nameIndex := 5, descriptorIndex := 6, attributes := #[] }] 1057 2 #[13] #[{ accessFlags := 26, nameIndex := 15, descriptorIndex := 16, attributes := #[] }])
  fields := #[{ name := "serialVersionUID", type := .long, accessFlags := 26, slot := 0, constantValue := 0 }]
  methods := #[k13m0]
  instanceTypes := #[]
  staticTypes := #[.long]
  resolved := Array.replicate 37 none
  statics := none }

def pool14 : Array CpInfo := pool [(1, .class_ 2), (0, u "java/lang/Comparable"), (0, .class_ 4), (0, u "java/lang/Object")] 7

/-- java/lang/Comparable -/
def k14 : Class := { plain "java/lang/Comparable" (some 0) with
  accessFlags := 1537
  interfaces := #[]
  cf := some (fileOf pool14 1 #[] #[] 1537 3 #[] #[])
  fields := #[]
  methods := #[]
  instanceTypes := #[]
  staticTypes := #[]
  resolved := Array.replicate 12 none
  statics := none }

def pool15 : Array CpInfo := pool [(1, .class_ 2), (0, u "java/lang/constant/Constable"), (0, .class_ 4), (0, u "java/lang/Object")] 6

/-- java/lang/constant/Constable -/
def k15 : Class := { plain "java/lang/constant/Constable" (some 0) with
  accessFlags := 1537
  interfaces := #[]
  cf := some (fileOf pool15 1 #[] #[] 1537 3 #[] #[])
  fields := #[]
  methods := #[]
  instanceTypes := #[]
  staticTypes := #[]
  resolved := Array.replicate 11 none
  statics := none }

def pool16 : Array CpInfo := pool [(1, .class_ 2), (0, u "java/lang/constant/ConstantDesc"), (0, .class_ 4), (0, u "java/lang/Object")] 32

/-- java/lang/constant/ConstantDesc -/
def k16 : Class := { plain "java/lang/constant/ConstantDesc" (some 0) with
  accessFlags := 1537
  interfaces := #[]
  cf := some (fileOf pool16 1 #[] #[] 1537 3 #[] #[])
  fields := #[]
  methods := #[]
  instanceTypes := #[]
  staticTypes := #[]
  resolved := Array.replicate 37 none
  statics := none }

def pool17 : Array CpInfo := pool [(1, .class_ 2), (0, u "java/lang/Integer"), (16, u "digits"), (0, u "[C"), (64, u "DigitOnes"), (0, u "[B"), (2, u "DigitTens"), (31, u "()I"), (65, u "valueOf"), (0, u "(I)Ljava/lang/Integer;"), (0, .class_ 190), (0, u "java/lang/Integer$IntegerCache"), (0, .fieldref 189 192), (0, .nameAndType 193 194), (0, u "high"), (0, u "I"), (0, .fieldref 189 196), (0, .nameAndType 197 198), (0, u "cache"), (0, u "[Ljava/lang/Integer;"), (4, .class_ 204), (0, u "java/lang/Number"), (0, .fieldref 1 206), (0, .nameAndType 207 194), (0, u "value"), (5, u "intValue"), (88, u "TYPE"), (0, u "Ljava/lang/Class;"), (0, .class_ 305), (0, u "java/lang/Comparable"), (0, .class_ 307), (0, u "java/lang/constant/Constable"), (0, .class_ 309), (0, u "java/lang/constant/ConstantDesc"), (0, u "MIN_VALUE"), (1, u "MAX_VALUE"), (3, u "SIZE"), (1, u "BYTES"), (1, u "serialVersionUID"), (0, u "J")] 131

def k17c0 : Code := { maxStack := 3, maxLocals := 1, code := jdk_33_method_22_code, exceptionTable := #[], attributes := #[] }
def k17m0 : Method := { name := "valueOf", desc := "(I)Ljava/lang/Integer;", sig := { parameters := [.int], returnType := some (.object "java/lang/Integer") }, accessFlags := 9, code := some k17c0 }
def k17c1 : Code := { maxStack := 1, maxLocals := 1, code := jdk_33_method_27_code, exceptionTable := #[], attributes := #[] }
def k17m1 : Method := { name := "intValue", desc := "()I", sig := { parameters := [], returnType := some .int }, accessFlags := 1, code := some k17c1 }
/-- java/lang/Integer -/
def k17 : Class := { plain "java/lang/Integer" (some 13) with
  accessFlags := 49
  interfaces := #[14, 15, 16]
  cf := some (fileOf pool17 1 #[.nestMembers #[189]] #[{ accessFlags := 9, nameIndex := 187, descriptorIndex := 188, attributes := #[] }, { accessFlags := 1, nameIndex := 213, descriptorIndex := 121, attributes := #[] }] 49 203 #[304, 306, 308] #[{ accessFlags := 25, nameIndex := 310, descriptorIndex := 194, attributes := #[] }, { accessFlags := 25, nameIndex := 312, descriptorIndex := 194, attributes := #[] }, { accessFlags := 25, nameIndex := 302, descriptorIndex := 303, attributes := #[] }, { accessFlags := 24, nameIndex := 19, descriptorIndex := 20, attributes := #[] }, { accessFlags := 24, nameIndex := 89, descriptorIndex := 86, attributes := #[] }, { accessFlags := 24, nameIndex := 85, descriptorIndex := 86, attributes := #[] }, { accessFlags := 18, nameIndex := 207, descriptorIndex := 194, attributes := #[] }, { accessFlags := 25, nameIndex := 316, descriptorIndex := 194, attributes := #[] }, { accessFlags := 25, nameIndex := 318, descriptorIndex := 194, attributes := #[] }, { accessFlags := 26, nameIndex := 320, descriptorIndex := 321, attributes := #[] }])
  fields := #[{ name := "MIN_VALUE", type := .int, accessFlags := 25, slot := 0, constantValue := 0 }, { name := "MAX_VALUE", type := .int, accessFlags := 25, slot := 1, constantValue := 0 }, { name := "TYPE", type := (.object "java/lang/Class"), accessFlags := 25, slot := 2, constantValue := 0 }, { name := "digits", type := (.array .char), accessFlags := 24, slot := 3, constantValue := 0 }, { name := "DigitTens", type := (.array .byte), accessFlags := 24, slot := 4, constantValue := 0 }, { name := "DigitOnes", type := (.array .byte), accessFlags := 24, slot := 5, constantValue := 0 }, { name := "value", type := .int, accessFlags := 18, slot := 0, constantValue := 0 }, { name := "SIZE", type := .int, accessFlags := 25, slot := 6, constantValue := 0 }, { name := "BYTES", type := .int, accessFlags := 25, slot := 7, constantValue := 0 }, { name := "serialVersionUID", type := .long, accessFlags := 26, slot := 8, constantValue := 0 }]
  methods := #[k17m0, k17m1]
  instanceTypes := #[.int]
  staticTypes := #[.int, .int, (.object "java/lang/Class"), (.array .char), (.array .byte), (.array .byte), .int, .int, .long]
  resolved := Array.replicate 453 none
  statics := none }

def pool18 : Array CpInfo := pool [(2, .class_ 4), (1, u "java/lang/Object"), (0, u "<init>"), (0, u "()V"), (0, .class_ 8), (0, u "java/lang/Integer"), (7, .class_ 18), (1, u "java/lang/Integer$IntegerCache"), (0, u "$assertionsDisabled"), (0, u "Z"), (26, u "high"), (0, u "I"), (8, u "archivedCache"), (0, u "[Ljava/lang/Integer;"), (12, u "cache"), (0, u "low")] 27

def k18m0 : Method := { name := "<init>", desc := "()V", sig := { parameters := [], returnType := none }, accessFlags := 2, code := none }
/-- java/lang/Integer$IntegerCache -/
def k18 : Class := { plain "java/lang/Integer$IntegerCache" (some 0) with
  accessFlags := 48
  interfaces := #[]
  cf := some (fileOf pool18 16 #[.nestHost 7] #[{ accessFlags := 2, nameIndex := 5, descriptorIndex := 6, attributes := #[] }] 48 2 #[] #[{ accessFlags := 24, nameIndex := 72, descriptorIndex := 48, attributes := #[] }, { accessFlags := 24, nameIndex := 47, descriptorIndex := 48, attributes := #[] }, { accessFlags := 24, nameIndex := 71, descriptorIndex := 58, attributes := #[] }, { accessFlags := 8, nameIndex := 57, descriptorIndex := 58, attributes := #[] }, { accessFlags := 4120, nameIndex := 19, descriptorIndex := 20, attributes := #[] }])
  fields := #[{ name := "low", type := .int, accessFlags := 24, slot := 0, constantValue := 0 }, { name := "high", type := .int, accessFlags := 24, slot := 1, constantValue := 0 }, { name := "cache", type := (.array (.object "java/lang/Integer")), accessFlags := 24, slot := 2, constantValue := 0 }, { name := "archivedCache", type := (.array (.object "java/lang/Integer")), accessFlags := 8, slot := 3, constantValue := 0 }, { name := "$assertionsDisabled", type := .boolean, accessFlags := 4120, slot := 4, constantValue := 0 }]
  methods := #[k18m0]
  instanceTypes := #[]
  staticTypes := #[.int, .int, (.array (.object "java/lang/Integer")), (.array (.object "java/lang/Integer")), .boolean]
  resolved := Array.replicate 100 none
  statics := some 1 }

def pool19 : Array CpInfo := pool [(1, .methodref 2 3), (0, .class_ 4), (0, .nameAndType 5 6), (0, u "java/lang/Object"), (0, u "<init>"), (0, u "()V"), (0, .fieldref 8 9), (0, .class_ 10), (0, .nameAndType 11 12), (0, u "com/example/planwright/planwright/model/VestingProvisions"), (0, u "yearOfServiceHours"), (0, u "I"), (0, .fieldref 8 14), (0, .nameAndType 15 12), (0, u "breakInServiceBelowHours"), (0, .interfaceMethodref 17 18), (0, .class_ 19), (0, .nameAndType 20 21), (0, u "java/util/List"), (0, u "copyOf"), (0, u "(Ljava/util/Collection;)Ljava/util/List;"), (0, .fieldref 8 23), (0, .nameAndType 24 25), (0, u "vestedPercentByYears"), (0, u "Ljava/util/List;"), (9, .interfaceMethodref 17 36), (0, .nameAndType 37 38), (0, u "size"), (0, u "()I"), (0, .methodref 40 41), (0, .class_ 42), (0, .nameAndType 43 44), (0, u "java/lang/Math"), (0, u "min"), (0, u "(II)I"), (0, .interfaceMethodref 17 46), (0, .nameAndType 47 48), (0, u "get"), (0, u "(I)Ljava/lang/Object;"), (0, .class_ 50), (0, u "java/lang/Integer"), (0, .methodref 49 52), (0, .nameAndType 53 38), (0, u "intValue"), (2, u "(IILjava/util/List;)V"), (3, u "vestedPercent"), (0, u "(I)I")] 18

def k19c0 : Code := { maxStack := 2, maxLocals := 4, code := prog_32_method_1_code, exceptionTable := #[], attributes := #[] }
def k19m0 : Method := { name := "<init>", desc := "(IILjava/util/List;)V", sig := { parameters := [.int, .int, (.object "java/util/List")], returnType := none }, accessFlags := 0, code := some k19c0 }
def k19c1 : Code := { maxStack := 4, maxLocals := 2, code := prog_32_method_4_code, exceptionTable := #[], attributes := #[] }
def k19m1 : Method := { name := "vestedPercent", desc := "(I)I", sig := { parameters := [.int], returnType := some .int }, accessFlags := 1, code := some k19c1 }
/-- com/example/planwright/planwright/model/VestingProvisions -/
def k19 : Class := { plain "com/example/planwright/planwright/model/VestingProvisions" (some 0) with
  accessFlags := 49
  interfaces := #[]
  cf := some (fileOf pool19 8 #[] #[{ accessFlags := 0, nameIndex := 5, descriptorIndex := 56, attributes := #[] }, { accessFlags := 1, nameIndex := 60, descriptorIndex := 61, attributes := #[] }] 49 2 #[] #[{ accessFlags := 18, nameIndex := 11, descriptorIndex := 12, attributes := #[] }, { accessFlags := 18, nameIndex := 15, descriptorIndex := 12, attributes := #[] }, { accessFlags := 18, nameIndex := 24, descriptorIndex := 25, attributes := #[] }])
  fields := #[{ name := "yearOfServiceHours", type := .int, accessFlags := 18, slot := 0, constantValue := 0 }, { name := "breakInServiceBelowHours", type := .int, accessFlags := 18, slot := 1, constantValue := 0 }, { name := "vestedPercentByYears", type := (.object "java/util/List"), accessFlags := 18, slot := 2, constantValue := 0 }]
  methods := #[k19m0, k19m1]
  instanceTypes := #[.int, .int, (.object "java/util/List")]
  staticTypes := #[]
  resolved := Array.replicate 80 none
  statics := none }

def pool20 : Array CpInfo := pool [(2, .class_ 4), (1, u "java/lang/Object"), (0, u "<init>"), (0, u "()V"), (3, .class_ 11), (0, u "java/util/ImmutableCollections$List12"), (0, .class_ 13), (0, u "java/util/ImmutableCollections$ListN"), (3, u "Z"), (0, .class_ 19), (0, u "java/util/List"), (0, .interfaceMethodref 21 22), (0, .class_ 23), (0, .nameAndType 24 25), (0, u "java/util/Collection"), (0, u "isEmpty"), (0, u "()Z"), (2, u "of"), (1, .interfaceMethodref 21 31), (0, .nameAndType 32 33), (0, u "toArray"), (0, u "()[Ljava/lang/Object;"), (0, .interfaceMethodref 18 35), (0, .nameAndType 28 36), (0, u "([Ljava/lang/Object;)Ljava/util/List;"), (0, .methodref 38 39), (0, .class_ 40), (0, .nameAndType 41 42), (0, u "java/util/Objects"), (0, u "requireNonNull"), (0, u "(Ljava/lang/Object;)Ljava/lang/Object;"), (0, .methodref 12 44), (0, .nameAndType 5 45), (0, u "([Ljava/lang/Object;Z)V"), (1, .class_ 49), (1, u "java/util/ImmutableCollections"), (0, u "$assertionsDisabled"), (5, u "[Ljava/lang/Object;"), (5, u "EMPTY_LIST"), (0, u "Ljava/util/ImmutableCollections$ListN;"), (8, u "EMPTY_LIST_NULLS"), (22, u "SALT32L"), (0, u "J"), (2, u "REVERSE"), (6, u "archivedObjects"), (2, u "EMPTY"), (0, u "Ljava/lang/Object;"), (0, .class_ 112), (0, u "java/util/ImmutableCollections$SetN"), (5, u "EMPTY_SET"), (0, u "Ljava/util/ImmutableCollections$SetN;"), (0, .class_ 121), (0, u "java/util/ImmutableCollections$MapN"), (3, u "EMPTY_MAP"), (0, u "Ljava/util/ImmutableCollections$MapN;"), (4, u "EXPAND_FACTOR"), (0, u "I"), (9, u "listCopy"), (0, u "(Ljava/util/Collection;)Ljava/util/List;"), (7, u "listFromArray"), (17, .class_ 170), (0, u "java/util/ImmutableCollections$MapN$MapNIterator"), (0, .class_ 172), (0, u "java/util/ImmutableCollections$MapN$1"), (0, .class_ 174), (0, u "java/util/ImmutableCollections$Map1"), (0, .class_ 176), (0, u "java/util/ImmutableCollections$AbstractImmutableMap"), (0, .class_ 178), (0, u "java/util/ImmutableCollections$SetN$SetNIterator"), (0, .class_ 180), (0, u "java/util/ImmutableCollections$Set12"), (0, .class_ 182), (0, u "java/util/ImmutableCollections$Set12$1"), (0, .class_ 184), (0, u "java/util/ImmutableCollections$AbstractImmutableSet"), (0, .class_ 186), (0, u "java/util/ImmutableCollections$SubList"), (0, .class_ 188), (0, u "java/util/ImmutableCollections$ListItr"), (0, .class_ 190), (0, u "java/util/ImmutableCollections$AbstractImmutableList"), (0, .class_ 192), (0, u "java/util/ImmutableCollections$AbstractImmutableCollection"), (0, .class_ 194), (0, u "java/util/ImmutableCollections$Access"), (0, .class_ 196), (0, u "java/util/ImmutableCollections$Access$1")] 16

def k20m0 : Method := { name := "<init>", desc := "()V", sig := { parameters := [], returnType := none }, accessFlags := 2, code := none }
def k20c1 : Code := { maxStack := 1, maxLocals := 2, code := jdk_56_method_3_code, exceptionTable := #[], attributes := #[] }
def k20m1 : Method := { name := "listCopy", desc := "(Ljava/util/Collection;)Ljava/util/List;", sig := { parameters := [(.object "java/util/Collection")], returnType := some (.object "java/util/List") }, accessFlags := 8, code := some k20c1 }
def k20c2 : Code := { maxStack := 4, maxLocals := 3, code := jdk_56_method_4_code, exceptionTable := #[], attributes := #[] }
def k20m2 : Method := { name := "listFromArray", desc := "([Ljava/lang/Object;)Ljava/util/List;", sig := { parameters := [(.array (.object "java/lang/Object"))], returnType := some (.object "java/util/List") }, accessFlags := 136, code := some k20c2 }
/-- java/util/ImmutableCollections -/
def k20 : Class := { plain "java/util/ImmutableCollections" (some 0) with
  accessFlags := 32
  interfaces := #[]
  cf := some (fileOf pool20 47 #[.nestMembers #[120, 169, 171, 173, 175, 111, 177, 179, 181, 183, 12, 10, 185, 187, 189, 191, 193, 195]] #[{ accessFlags := 2, nameIndex := 5, descriptorIndex := 6, attributes := #[] }, { accessFlags := 8, nameIndex := 142, descriptorIndex := 143, attributes := #[] }, { accessFlags := 136, nameIndex := 151, descriptorIndex := 36, attributes := #[] }] 32 2 #[] #[{ accessFlags := 26, nameIndex := 95, descriptorIndex := 96, attributes := #[] }, { accessFlags := 26, nameIndex := 99, descriptorIndex := 17, attributes := #[] }, { accessFlags := 10, nameIndex := 106, descriptorIndex := 56, attributes := #[] }, { accessFlags := 26, nameIndex := 109, descriptorIndex := 110, attributes := #[] }, { accessFlags := 24, nameIndex := 62, descriptorIndex := 63, attributes := #[] }, { accessFlags := 24, nameIndex := 72, descriptorIndex := 63, attributes := #[] }, { accessFlags := 24, nameIndex := 118, descriptorIndex := 119, attributes := #[] }, { accessFlags := 24, nameIndex := 125, descriptorIndex := 126, attributes := #[] }, { accessFlags := 24, nameIndex := 131, descriptorIndex := 132, attributes := #[] }, { accessFlags := 4120, nameIndex := 50, descriptorIndex := 17, attributes := #[] }])
  fields := #[{ name := "SALT32L", type := .long, accessFlags := 26, slot := 0, constantValue := 0 }, { name := "REVERSE", type := .boolean, accessFlags := 26, slot := 1, constantValue := 0 }, { name := "archivedObjects", type := (.array (.object "java/lang/Object")), accessFlags := 10, slot := 2, constantValue := 0 }, { name := "EMPTY", type := (.object "java/lang/Object"), accessFlags := 26, slot := 3, constantValue := 0 }, { name := "EMPTY_LIST", type := (.object "java/util/ImmutableCollections$ListN"), accessFlags := 24, slot := 4, constantValue := 0 }, { name := "EMPTY_LIST_NULLS", type := (.object "java/util/ImmutableCollections$ListN"), accessFlags := 24, slot := 5, constantValue := 0 }, { name := "EMPTY_SET", type := (.object "java/util/ImmutableCollections$SetN"), accessFlags := 24, slot := 6, constantValue := 0 }, { name := "EMPTY_MAP", type := (.object "java/util/ImmutableCollections$MapN"), accessFlags := 24, slot := 7, constantValue := 0 }, { name := "EXPAND_FACTOR", type := .int, accessFlags := 24, slot := 8, constantValue := 0 }, { name := "$assertionsDisabled", type := .boolean, accessFlags := 4120, slot := 9, constantValue := 0 }]
  methods := #[k20m0, k20m1, k20m2]
  instanceTypes := #[]
  staticTypes := #[.long, .boolean, (.array (.object "java/lang/Object")), (.object "java/lang/Object"), (.object "java/util/ImmutableCollections$ListN"), (.object "java/util/ImmutableCollections$ListN"), (.object "java/util/ImmutableCollections$SetN"), (.object "java/util/ImmutableCollections$MapN"), .int, .boolean]
  resolved := Array.replicate 213 none
  statics := some 2 }

def pool21 : Array CpInfo := pool [(1, .methodref 2 3), (0, .class_ 4), (0, .nameAndType 5 6), (0, u "java/util/AbstractCollection"), (0, u "<init>"), (0, u "()V"), (1, .class_ 10), (1, u "java/util/ImmutableCollections"), (2, .class_ 14), (0, u "java/util/ImmutableCollections$AbstractImmutableCollection")] 41

def k21c0 : Code := { maxStack := 1, maxLocals := 1, code := jdk_47_method_1_code, exceptionTable := #[], attributes := #[] }
def k21m0 : Method := { name := "<init>", desc := "()V", sig := { parameters := [], returnType := none }, accessFlags := 0, code := some k21c0 }
/-- java/util/ImmutableCollections$AbstractImmutableCollection -/
def k21 : Class := { plain "java/util/ImmutableCollections$AbstractImmutableCollection" (some 5) with
  accessFlags := 1056
  interfaces := #[]
  cf := some (fileOf pool21 13 #[.nestHost 8] #[{ accessFlags := 0, nameIndex := 5, descriptorIndex := 6, attributes := #[] }] 1056 2 #[] #[])
  fields := #[]
  methods := #[k21m0]
  instanceTypes := #[]
  staticTypes := #[]
  resolved := Array.replicate 56 none
  statics := none }

def pool22 : Array CpInfo := pool [(1, .methodref 2 3), (0, .class_ 4), (0, .nameAndType 5 6), (0, u "java/util/ImmutableCollections$AbstractImmutableCollection"), (0, u "<init>"), (0, u "()V"), (1, .class_ 10), (1, u "java/util/ImmutableCollections"), (3, .class_ 16), (1, u "java/util/ImmutableCollections$AbstractImmutableList"), (60, .class_ 78), (0, u "java/util/List"), (45, .class_ 125), (0, u "java/util/RandomAccess")] 70

def k22c0 : Code := { maxStack := 1, maxLocals := 1, code := jdk_46_method_1_code, exceptionTable := #[], attributes := #[] }
def k22m0 : Method := { name := "<init>", desc := "()V", sig := { parameters := [], returnType := none }, accessFlags := 0, code := some k22c0 }
/-- java/util/ImmutableCollections$AbstractImmutableList -/
def k22 : Class := { plain "java/util/ImmutableCollections$AbstractImmutableList" (some 21) with
  accessFlags := 1056
  interfaces := #[7, 9]
  cf := some (fileOf pool22 14 #[.nestHost 8] #[{ accessFlags := 0, nameIndex := 5, descriptorIndex := 6, attributes := #[] }] 1056 2 #[77, 124] #[])
  fields := #[]
  methods := #[k22m0]
  instanceTypes := #[]
  staticTypes := #[]
  resolved := Array.replicate 196 none
  statics := none }

def pool23 : Array CpInfo := pool [(1, .methodref 2 3), (0, .class_ 4), (0, .nameAndType 5 6), (0, u "java/util/ImmutableCollections$AbstractImmutableList"), (0, u "<init>"), (0, u "()V"), (0, .methodref 8 9), (0, .class_ 10), (0, .nameAndType 11 12), (0, u "java/util/Objects"), (0, u "requireNonNull"), (0, u "(Ljava/lang/Object;)Ljava/lang/Object;"), (0, .fieldref 14 15), (0, .class_ 16), (0, .nameAndType 17 18), (0, u "java/util/ImmutableCollections$List12"), (0, u "e0"), (0, u "Ljava/lang/Object;"), (0, .fieldref 20 21), (0, .class_ 22), (0, .nameAndType 23 18), (0, u "java/util/ImmutableCollections"), (0, u "EMPTY"), (0, .fieldref 14 25), (0, .nameAndType 26 18), (0, u "e1"), (24, u "size"), (0, u "()I"), (17, .class_ 71), (0, u "java/io/Serializable"), (4, u "(Ljava/lang/Object;)V"), (8, u "(Ljava/lang/Object;Ljava/lang/Object;)V"), (4, u "get"), (0, u "(I)Ljava/lang/Object;")] 33

def k23c0 : Code := { maxStack := 2, maxLocals := 2, code := jdk_44_method_1_code, exceptionTable := #[], attributes := #[] }
def k23m0 : Method := { name := "<init>", desc := "(Ljava/lang/Object;)V", sig := { parameters := [(.object "java/lang/Object")], returnType := none }, accessFlags := 0, code := some k23c0 }
def k23c1 : Code := { maxStack := 2, maxLocals := 3, code := jdk_44_method_2_code, exceptionTable := #[], attributes := #[] }
def k23m1 : Method := { name := "<init>", desc := "(Ljava/lang/Object;Ljava/lang/Object;)V", sig := { parameters := [(.object "java/lang/Object"), (.object "java/lang/Object")], returnType := none }, accessFlags := 0, code := some k23c1 }
def k23c2 : Code := { maxStack := 2, maxLocals := 1, code := jdk_44_method_3_code, exceptionTable := #[], attributes := #[] }
def k23m2 : Method := { name := "size", desc := "()I", sig := { parameters := [], returnType := some .int }, accessFlags := 1, code := some k23c2 }
def k23c3 : Code := { maxStack := 2, maxLocals := 2, code := jdk_44_method_5_code, exceptionTable := #[], attributes := #[] }
def k23m3 : Method := { name := "get", desc := "(I)Ljava/lang/Object;", sig := { parameters := [.int], returnType := some (.object "java/lang/Object") }, accessFlags := 1, code := some k23c3 }
/-- java/util/ImmutableCollections$List12 -/
def k23 : Class := { plain "java/util/ImmutableCollections$List12" (some 22) with
  accessFlags := 48
  interfaces := #[11]
  cf := some (fileOf pool23 14 #[.nestHost 20] #[{ accessFlags := 0, nameIndex := 5, descriptorIndex := 76, attributes := #[] }, { accessFlags := 0, nameIndex := 5, descriptorIndex := 85, attributes := #[] }, { accessFlags := 1, nameIndex := 51, descriptorIndex := 52, attributes := #[] }, { accessFlags := 1, nameIndex := 90, descriptorIndex := 91, attributes := #[] }] 48 2 #[70] #[{ accessFlags := 18, nameIndex := 17, descriptorIndex := 18, attributes := #[] }, { accessFlags := 18, nameIndex := 26, descriptorIndex := 18, attributes := #[] }])
  fields := #[{ name := "e0", type := (.object "java/lang/Object"), accessFlags := 18, slot := 0, constantValue := 0 }, { name := "e1", type := (.object "java/lang/Object"), accessFlags := 18, slot := 1, constantValue := 0 }]
  methods := #[k23m0, k23m1, k23m2, k23m3]
  instanceTypes := #[(.object "java/lang/Object"), (.object "java/lang/Object")]
  staticTypes := #[]
  resolved := Array.replicate 125 none
  statics := none }

def pool24 : Array CpInfo := pool [(1, .methodref 2 3), (0, .class_ 4), (0, .nameAndType 5 6), (0, u "java/util/ImmutableCollections$AbstractImmutableList"), (0, u "<init>"), (0, u "()V"), (0, .fieldref 8 9), (0, .class_ 10), (0, .nameAndType 11 12), (0, u "java/util/ImmutableCollections$ListN"), (0, u "elements"), (0, u "[Ljava/lang/Object;"), (0, .fieldref 8 14), (0, .nameAndType 15 16), (0, u "allowNulls"), (0, u "Z"), (42, .class_ 60), (0, u "java/io/Serializable"), (4, u "([Ljava/lang/Object;Z)V"), (11, u "size"), (0, u "()I"), (0, u "get"), (0, u "(I)Ljava/lang/Object;"), (33, .class_ 115), (0, u "java/util/ImmutableCollections")] 3

def k24c0 : Code := { maxStack := 2, maxLocals := 3, code := jdk_45_method_1_code, exceptionTable := #[], attributes := #[] }
def k24m0 : Method := { name := "<init>", desc := "([Ljava/lang/Object;Z)V", sig := { parameters := [(.array (.object "java/lang/Object")), .boolean], returnType := none }, accessFlags := 2, code := some k24c0 }
def k24c1 : Code := { maxStack := 1, maxLocals := 1, code := jdk_45_method_3_code, exceptionTable := #[], attributes := #[] }
def k24m1 : Method := { name := "size", desc := "()I", sig := { parameters := [], returnType := some .int }, accessFlags := 1, code := some k24c1 }
def k24c2 : Code := { maxStack := 2, maxLocals := 2, code := jdk_45_method_4_code, exceptionTable := #[], attributes := #[] }
def k24m2 : Method := { name := "get", desc := "(I)Ljava/lang/Object;", sig := { parameters := [.int], returnType := some (.object "java/lang/Object") }, accessFlags := 1, code := some k24c2 }
/-- java/util/ImmutableCollections$ListN -/
def k24 : Class := { plain "java/util/ImmutableCollections$ListN" (some 22) with
  accessFlags := 48
  interfaces := #[11]
  cf := some (fileOf pool24 8 #[.nestHost 114] #[{ accessFlags := 2, nameIndex := 5, descriptorIndex := 65, attributes := #[] }, { accessFlags := 1, nameIndex := 77, descriptorIndex := 78, attributes := #[] }, { accessFlags := 1, nameIndex := 79, descriptorIndex := 80, attributes := #[] }] 48 2 #[59] #[{ accessFlags := 18, nameIndex := 11, descriptorIndex := 12, attributes := #[] }, { accessFlags := 18, nameIndex := 15, descriptorIndex := 16, attributes := #[] }])
  fields := #[{ name := "elements", type := (.array (.object "java/lang/Object")), accessFlags := 18, slot := 0, constantValue := 0 }, { name := "allowNulls", type := .boolean, accessFlags := 18, slot := 1, constantValue := 0 }]
  methods := #[k24m0, k24m1, k24m2]
  instanceTypes := #[(.array (.object "java/lang/Object")), .boolean]
  staticTypes := #[]
  resolved := Array.replicate 119 none
  statics := none }

def pool25 : Array CpInfo := pool [(2, .class_ 4), (1, u "java/lang/Object"), (0, u "<init>"), (0, u "()V"), (7, .class_ 16), (1, u "java/util/Arrays"), (57, .class_ 76), (1, u "java/util/Arrays$NaturalOrder"), (9, .methodref 2 87), (0, .nameAndType 88 89), (0, u "getClass"), (0, u "()Ljava/lang/Class;"), (20, .class_ 111), (0, u "[Ljava/lang/Object;"), (1, .class_ 115), (1, u "java/util/Arrays$LegacyMergeSort"), (1, u "Z"), (32, .methodref 151 152), (0, .class_ 153), (0, .nameAndType 154 155), (0, u "java/lang/System"), (0, u "arraycopy"), (0, u "(Ljava/lang/Object;ILjava/lang/Object;II)V"), (144, .methodref 14 301), (0, .nameAndType 302 303), (0, u "copyOf"), (0, u "([Ljava/lang/Object;ILjava/lang/Class;)[Ljava/lang/Object;"), (0, .methodref 305 306), (0, .class_ 307), (0, .nameAndType 308 309), (0, u "java/lang/Math"), (0, u "min"), (0, u "(II)I"), (65, .class_ 376), (0, u "java/util/Arrays$ArrayList"), (68, u "$assertionsDisabled"), (269, u "MIN_ARRAY_SORT_GRAN"), (0, u "I"), (2, u "INSERTIONSORT_THRESHOLD"), (140, u "([Ljava/lang/Object;I)[Ljava/lang/Object;"), (114, .class_ 976), (0, u "java/util/Arrays$ArrayItr")] 52

def k25m0 : Method := { name := "<init>", desc := "()V", sig := { parameters := [], returnType := none }, accessFlags := 2, code := none }
def k25c1 : Code := { maxStack := 3, maxLocals := 2, code := jdk_65_method_119_code, exceptionTable := #[], attributes := #[] }
def k25m1 : Method := { name := "copyOf", desc := "([Ljava/lang/Object;I)[Ljava/lang/Object;", sig := { parameters := [(.array (.object "java/lang/Object")), .int], returnType := some (.array (.object "java/lang/Object")) }, accessFlags := 9, code := some k25c1 }
def k25c2 : Code := { maxStack := 6, maxLocals := 4, code := jdk_65_method_120_code, exceptionTable := #[], attributes := #[] }
def k25m2 : Method := { name := "copyOf", desc := "([Ljava/lang/Object;ILjava/lang/Class;)[Ljava/lang/Object;", sig := { parameters := [(.array (.object "java/lang/Object")), .int, (.object "java/lang/Class")], returnType := some (.array (.object "java/lang/Object")) }, accessFlags := 9, code := some k25c2 }
/-- java/util/Arrays -/
def k25 : Class := { plain "java/util/Arrays" (some 0) with
  accessFlags := 49
  interfaces := #[]
  cf := some (fileOf pool25 14 #[.nestMembers #[975, 375, 113, 74]] #[{ accessFlags := 2, nameIndex := 5, descriptorIndex := 6, attributes := #[] }, { accessFlags := 9, nameIndex := 302, descriptorIndex := 860, attributes := #[] }, { accessFlags := 9, nameIndex := 302, descriptorIndex := 303, attributes := #[] }] 49 2 #[] #[{ accessFlags := 26, nameIndex := 715, descriptorIndex := 716, attributes := #[] }, { accessFlags := 26, nameIndex := 719, descriptorIndex := 716, attributes := #[] }, { accessFlags := 4120, nameIndex := 445, descriptorIndex := 117, attributes := #[] }])
  fields := #[{ name := "MIN_ARRAY_SORT_GRAN", type := .int, accessFlags := 26, slot := 0, constantValue := 0 }, { name := "INSERTIONSORT_THRESHOLD", type := .int, accessFlags := 26, slot := 1, constantValue := 0 }, { name := "$assertionsDisabled", type := .boolean, accessFlags := 4120, slot := 2, constantValue := 0 }]
  methods := #[k25m0, k25m1, k25m2]
  instanceTypes := #[]
  staticTypes := #[.int, .int, .boolean]
  resolved := Array.replicate 1029 none
  statics := none }

def pool26 : Array CpInfo := pool [(2, .class_ 4), (1, u "java/lang/Object"), (0, u "<init>"), (0, u "()V"), (1, .class_ 10), (1, u "java/lang/System"), (0, u "allowSecurityManager"), (0, u "I"), (16, u "cons"), (0, u "Ljava/io/Console;"), (77, .class_ 110), (1, u "java/lang/System$CallersHolder"), (43, u "initialErrStream"), (0, u "Ljava/io/PrintStream;"), (19, u "security"), (0, u "Ljava/lang/SecurityManager;"), (31, .class_ 209), (0, u "java/lang/System$1"), (7, u "props"), (0, u "Ljava/util/Properties;"), (2, u "lineSeparator"), (0, u "Ljava/lang/String;"), (96, .class_ 321), (1, u "java/lang/System$LoggerFinder"), (5, .class_ 328), (0, u "java/lang/System$Logger"), (67, u "err"), (2, u "out"), (91, u "notSupportedJnuEncoding"), (15, u "in"), (17, u "initialIn"), (0, u "Ljava/io/InputStream;"), (35, u "bootLayer"), (0, u "Ljava/lang/ModuleLayer;"), (99, .class_ 664), (0, u "java/lang/System$2"), (9, u "NEVER"), (2, u "MAYBE"), (49, u "arraycopy"), (0, u "(Ljava/lang/Object;ILjava/lang/Object;II)V"), (72, .class_ 802), (0, u "java/lang/System$Logger$Level")] 31

def k26m0 : Method := { name := "<init>", desc := "()V", sig := { parameters := [], returnType := none }, accessFlags := 2, code := none }
def k26m1 : Method := { name := "arraycopy", desc := "(Ljava/lang/Object;ILjava/lang/Object;II)V", sig := { parameters := [(.object "java/lang/Object"), .int, (.object "java/lang/Object"), .int, .int], returnType := none }, accessFlags := 265, code := none }
/-- java/lang/System -/
def k26 : Class := { plain "java/lang/System" (some 0) with
  accessFlags := 49
  interfaces := #[]
  cf := some (fileOf pool26 8 #[.nestMembers #[319, 327, 801, 108, 663, 208]] #[{ accessFlags := 2, nameIndex := 5, descriptorIndex := 6, attributes := #[] }, { accessFlags := 265, nameIndex := 727, descriptorIndex := 728, attributes := #[] }] 49 2 #[] #[{ accessFlags := 25, nameIndex := 507, descriptorIndex := 526, attributes := #[] }, { accessFlags := 25, nameIndex := 399, descriptorIndex := 155, attributes := #[] }, { accessFlags := 25, nameIndex := 396, descriptorIndex := 155, attributes := #[] }, { accessFlags := 10, nameIndex := 525, descriptorIndex := 526, attributes := #[] }, { accessFlags := 26, nameIndex := 674, descriptorIndex := 12, attributes := #[] }, { accessFlags := 26, nameIndex := 677, descriptorIndex := 12, attributes := #[] }, { accessFlags := 10, nameIndex := 11, descriptorIndex := 12, attributes := #[] }, { accessFlags := 74, nameIndex := 175, descriptorIndex := 176, attributes := #[] }, { accessFlags := 10, nameIndex := 491, descriptorIndex := 222, attributes := #[] }, { accessFlags := 74, nameIndex := 29, descriptorIndex := 30, attributes := #[] }, { accessFlags := 74, nameIndex := 154, descriptorIndex := 155, attributes := #[] }, { accessFlags := 10, nameIndex := 217, descriptorIndex := 218, attributes := #[] }, { accessFlags := 10, nameIndex := 221, descriptorIndex := 222, attributes := #[] }, { accessFlags := 8, nameIndex := 562, descriptorIndex := 563, attributes := #[] }])
  fields := #[{ name := "in", type := (.object "java/io/InputStream"), accessFlags := 25, slot := 0, constantValue := 0 }, { name := "out", type := (.object "java/io/PrintStream"), accessFlags := 25, slot := 1, constantValue := 0 }, { name := "err", type := (.object "java/io/PrintStream"), accessFlags := 25, slot := 2, constantValue := 0 }, { name := "initialIn", type := (.object "java/io/InputStream"), accessFlags := 10, slot := 3, constantValue := 0 }, { name := "NEVER", type := .int, accessFlags := 26, slot := 4, constantValue := 0 }, { name := "MAYBE", type := .int, accessFlags := 26, slot := 5, constantValue := 0 }, { name := "allowSecurityManager", type := .int, accessFlags := 10, slot := 6, constantValue := 0 }, { name := "security", type := (.object "java/lang/SecurityManager"), accessFlags := 74, slot := 7, constantValue := 0 }, { name := "notSupportedJnuEncoding", type := (.object "java/lang/String"), accessFlags := 10, slot := 8, constantValue := 0 }, { name := "cons", type := (.object "java/io/Console"), accessFlags := 74, slot := 9, constantValue := 0 }, { name := "initialErrStream", type := (.object "java/io/PrintStream"), accessFlags := 74, slot := 10, constantValue := 0 }, { name := "props", type := (.object "java/util/Properties"), accessFlags := 10, slot := 11, constantValue := 0 }, { name := "lineSeparator", type := (.object "java/lang/String"), accessFlags := 10, slot := 12, constantValue := 0 }, { name := "bootLayer", type := (.object "java/lang/ModuleLayer"), accessFlags := 8, slot := 13, constantValue := 0 }]
  methods := #[k26m0, k26m1]
  instanceTypes := #[]
  staticTypes := #[(.object "java/io/InputStream"), (.object "java/io/PrintStream"), (.object "java/io/PrintStream"), (.object "java/io/InputStream"), .int, .int, .int, (.object "java/lang/SecurityManager"), (.object "java/lang/String"), (.object "java/io/Console"), (.object "java/io/PrintStream"), (.object "java/util/Properties"), (.object "java/lang/String"), (.object "java/lang/ModuleLayer")]
  resolved := Array.replicate 834 none
  statics := none }

def pool27 : Array CpInfo := pool [(2, .class_ 4), (1, u "java/lang/Object"), (0, u "<init>"), (0, u "()V"), (35, .class_ 44), (1, u "java/util/Objects"), (0, u "requireNonNull"), (0, u "(Ljava/lang/Object;)Ljava/lang/Object;")] 137

def k27m0 : Method := { name := "<init>", desc := "()V", sig := { parameters := [], returnType := none }, accessFlags := 2, code := none }
def k27c1 : Code := { maxStack := 2, maxLocals := 1, code := jdk_31_method_10_code, exceptionTable := #[], attributes := #[] }
def k27m1 : Method := { name := "requireNonNull", desc := "(Ljava/lang/Object;)Ljava/lang/Object;", sig := { parameters := [(.object "java/lang/Object")], returnType := some (.object "java/lang/Object") }, accessFlags := 9, code := some k27c1 }
/-- java/util/Objects -/
def k27 : Class := { plain "java/util/Objects" (some 0) with
  accessFlags := 49
  interfaces := #[]
  cf := some (fileOf pool27 42 #[] #[{ accessFlags := 2, nameIndex := 5, descriptorIndex := 6, attributes := #[] }, { accessFlags := 9, nameIndex := 45, descriptorIndex := 46, attributes := #[] }] 49 2 #[] #[])
  fields := #[]
  methods := #[k27m0, k27m1]
  instanceTypes := #[]
  staticTypes := #[]
  resolved := Array.replicate 184 none
  statics := none }

def pool28 : Array CpInfo := pool [(1, .class_ 2), (0, u "java/lang/Class"), (0, .class_ 4), (0, u "java/lang/Object")] 0

/-- java/lang/Class -/
def k28 : Class := { plain "java/lang/Class" (some 0) with
  accessFlags := 49
  interfaces := #[]
  cf := some (fileOf pool28 1 #[] #[] 49 3 #[] #[])
  fields := #[]
  methods := #[]
  instanceTypes := #[]
  staticTypes := #[]
  resolved := Array.replicate 5 none
  statics := none }

/-- the primitive byte -/
def k29 : Class := { plain "byte" none with kind := .primitive 'B', accessFlags := 0x411 }
/-- [B -/
def k30 : Class := { plain "[B" (some 0) with kind := .array 29 .byte, interfaces := #[10, 11], accessFlags := 1041 }

/-- the primitive int -/
def k31 : Class := { plain "int" none with kind := .primitive 'I', accessFlags := 0x411 }
/-- [I -/
def k32 : Class := { plain "[I" (some 0) with kind := .array 31 .int, interfaces := #[10, 11], accessFlags := 1041 }

/-- [Ljava/lang/Integer; -/
def k33 : Class := { plain "[Ljava/lang/Integer;" (some 0) with kind := .array 17 (.object "java/lang/Integer"), interfaces := #[10, 11], accessFlags := 1041 }

/-- [Ljava/lang/Object; -/
def k34 : Class := { plain "[Ljava/lang/Object;" (some 0) with kind := .array 0 (.object "java/lang/Object"), interfaces := #[10, 11], accessFlags := 1041, mirror := some 3 }

def heap : Heap := #[{ cls := 12, slots := #[.long 0, .int 0, .ref 261, .ref 262], vm := .statics 12 },
  { cls := 18, slots := #[.int 0, .int 127, .ref 4, .null, .int 0], vm := .statics 18 },
  { cls := 20, slots := #[.long 0, .int 0, .null, .ref 263, .ref 264, .null, .null, .null, .int 0, .int 1], vm := .statics 20 },
  { cls := 28, slots := #[], vm := .mirror 34 },
  { cls := 33, slots := #[.ref 5, .ref 6, .ref 7, .ref 8, .ref 9, .ref 10, .ref 11, .ref 12, .ref 13, .ref 14, .ref 15, .ref 16, .ref 17, .ref 18, .ref 19, .ref 20, .ref 21, .ref 22, .ref 23, .ref 24, .ref 25, .ref 26, .ref 27, .ref 28, .ref 29, .ref 30, .ref 31, .ref 32, .ref 33, .ref 34, .ref 35, .ref 36, .ref 37, .ref 38, .ref 39, .ref 40, .ref 41, .ref 42, .ref 43, .ref 44, .ref 45, .ref 46, .ref 47, .ref 48, .ref 49, .ref 50, .ref 51, .ref 52, .ref 53, .ref 54, .ref 55, .ref 56, .ref 57, .ref 58, .ref 59, .ref 60, .ref 61, .ref 62, .ref 63, .ref 64, .ref 65, .ref 66, .ref 67, .ref 68, .ref 69, .ref 70, .ref 71, .ref 72, .ref 73, .ref 74, .ref 75, .ref 76, .ref 77, .ref 78, .ref 79, .ref 80, .ref 81, .ref 82, .ref 83, .ref 84, .ref 85, .ref 86, .ref 87, .ref 88, .ref 89, .ref 90, .ref 91, .ref 92, .ref 93, .ref 94, .ref 95, .ref 96, .ref 97, .ref 98, .ref 99, .ref 100, .ref 101, .ref 102, .ref 103, .ref 104, .ref 105, .ref 106, .ref 107, .ref 108, .ref 109, .ref 110, .ref 111, .ref 112, .ref 113, .ref 114, .ref 115, .ref 116, .ref 117, .ref 118, .ref 119, .ref 120, .ref 121, .ref 122, .ref 123, .ref 124, .ref 125, .ref 126, .ref 127, .ref 128, .ref 129, .ref 130, .ref 131, .ref 132, .ref 133, .ref 134, .ref 135, .ref 136, .ref 137, .ref 138, .ref 139, .ref 140, .ref 141, .ref 142, .ref 143, .ref 144, .ref 145, .ref 146, .ref 147, .ref 148, .ref 149, .ref 150, .ref 151, .ref 152, .ref 153, .ref 154, .ref 155, .ref 156, .ref 157, .ref 158, .ref 159, .ref 160, .ref 161, .ref 162, .ref 163, .ref 164, .ref 165, .ref 166, .ref 167, .ref 168, .ref 169, .ref 170, .ref 171, .ref 172, .ref 173, .ref 174, .ref 175, .ref 176, .ref 177, .ref 178, .ref 179, .ref 180, .ref 181, .ref 182, .ref 183, .ref 184, .ref 185, .ref 186, .ref 187, .ref 188, .ref 189, .ref 190, .ref 191, .ref 192, .ref 193, .ref 194, .ref 195, .ref 196, .ref 197, .ref 198, .ref 199, .ref 200, .ref 201, .ref 202, .ref 203, .ref 204, .ref 205, .ref 206, .ref 207, .ref 208, .ref 209, .ref 210, .ref 211, .ref 212, .ref 213, .ref 214, .ref 215, .ref 216, .ref 217, .ref 218, .ref 219, .ref 220, .ref 221, .ref 222, .ref 223, .ref 224, .ref 225, .ref 226, .ref 227, .ref 228, .ref 229, .ref 230, .ref 231, .ref 232, .ref 233, .ref 234, .ref 235, .ref 236, .ref 237, .ref 238, .ref 239, .ref 240, .ref 241, .ref 242, .ref 243, .ref 244, .ref 245, .ref 246, .ref 247, .ref 248, .ref 249, .ref 250, .ref 251, .ref 252, .ref 253, .ref 254, .ref 255, .ref 256, .ref 257, .ref 258, .ref 259, .ref 260], vm := .none },
  { cls := 17, slots := #[.int (-128)], vm := .none },
  { cls := 17, slots := #[.int (-127)], vm := .none },
  { cls := 17, slots := #[.int (-126)], vm := .none },
  { cls := 17, slots := #[.int (-125)], vm := .none },
  { cls := 17, slots := #[.int (-124)], vm := .none },
  { cls := 17, slots := #[.int (-123)], vm := .none },
  { cls := 17, slots := #[.int (-122)], vm := .none },
  { cls := 17, slots := #[.int (-121)], vm := .none },
  { cls := 17, slots := #[.int (-120)], vm := .none },
  { cls := 17, slots := #[.int (-119)], vm := .none },
  { cls := 17, slots := #[.int (-118)], vm := .none },
  { cls := 17, slots := #[.int (-117)], vm := .none },
  { cls := 17, slots := #[.int (-116)], vm := .none },
  { cls := 17, slots := #[.int (-115)], vm := .none },
  { cls := 17, slots := #[.int (-114)], vm := .none },
  { cls := 17, slots := #[.int (-113)], vm := .none },
  { cls := 17, slots := #[.int (-112)], vm := .none },
  { cls := 17, slots := #[.int (-111)], vm := .none },
  { cls := 17, slots := #[.int (-110)], vm := .none },
  { cls := 17, slots := #[.int (-109)], vm := .none },
  { cls := 17, slots := #[.int (-108)], vm := .none },
  { cls := 17, slots := #[.int (-107)], vm := .none },
  { cls := 17, slots := #[.int (-106)], vm := .none },
  { cls := 17, slots := #[.int (-105)], vm := .none },
  { cls := 17, slots := #[.int (-104)], vm := .none },
  { cls := 17, slots := #[.int (-103)], vm := .none },
  { cls := 17, slots := #[.int (-102)], vm := .none },
  { cls := 17, slots := #[.int (-101)], vm := .none },
  { cls := 17, slots := #[.int (-100)], vm := .none },
  { cls := 17, slots := #[.int (-99)], vm := .none },
  { cls := 17, slots := #[.int (-98)], vm := .none },
  { cls := 17, slots := #[.int (-97)], vm := .none },
  { cls := 17, slots := #[.int (-96)], vm := .none },
  { cls := 17, slots := #[.int (-95)], vm := .none },
  { cls := 17, slots := #[.int (-94)], vm := .none },
  { cls := 17, slots := #[.int (-93)], vm := .none },
  { cls := 17, slots := #[.int (-92)], vm := .none },
  { cls := 17, slots := #[.int (-91)], vm := .none },
  { cls := 17, slots := #[.int (-90)], vm := .none },
  { cls := 17, slots := #[.int (-89)], vm := .none },
  { cls := 17, slots := #[.int (-88)], vm := .none },
  { cls := 17, slots := #[.int (-87)], vm := .none },
  { cls := 17, slots := #[.int (-86)], vm := .none },
  { cls := 17, slots := #[.int (-85)], vm := .none },
  { cls := 17, slots := #[.int (-84)], vm := .none },
  { cls := 17, slots := #[.int (-83)], vm := .none },
  { cls := 17, slots := #[.int (-82)], vm := .none },
  { cls := 17, slots := #[.int (-81)], vm := .none },
  { cls := 17, slots := #[.int (-80)], vm := .none },
  { cls := 17, slots := #[.int (-79)], vm := .none },
  { cls := 17, slots := #[.int (-78)], vm := .none },
  { cls := 17, slots := #[.int (-77)], vm := .none },
  { cls := 17, slots := #[.int (-76)], vm := .none },
  { cls := 17, slots := #[.int (-75)], vm := .none },
  { cls := 17, slots := #[.int (-74)], vm := .none },
  { cls := 17, slots := #[.int (-73)], vm := .none },
  { cls := 17, slots := #[.int (-72)], vm := .none },
  { cls := 17, slots := #[.int (-71)], vm := .none },
  { cls := 17, slots := #[.int (-70)], vm := .none },
  { cls := 17, slots := #[.int (-69)], vm := .none },
  { cls := 17, slots := #[.int (-68)], vm := .none },
  { cls := 17, slots := #[.int (-67)], vm := .none },
  { cls := 17, slots := #[.int (-66)], vm := .none },
  { cls := 17, slots := #[.int (-65)], vm := .none },
  { cls := 17, slots := #[.int (-64)], vm := .none },
  { cls := 17, slots := #[.int (-63)], vm := .none },
  { cls := 17, slots := #[.int (-62)], vm := .none },
  { cls := 17, slots := #[.int (-61)], vm := .none },
  { cls := 17, slots := #[.int (-60)], vm := .none },
  { cls := 17, slots := #[.int (-59)], vm := .none },
  { cls := 17, slots := #[.int (-58)], vm := .none },
  { cls := 17, slots := #[.int (-57)], vm := .none },
  { cls := 17, slots := #[.int (-56)], vm := .none },
  { cls := 17, slots := #[.int (-55)], vm := .none },
  { cls := 17, slots := #[.int (-54)], vm := .none },
  { cls := 17, slots := #[.int (-53)], vm := .none },
  { cls := 17, slots := #[.int (-52)], vm := .none },
  { cls := 17, slots := #[.int (-51)], vm := .none },
  { cls := 17, slots := #[.int (-50)], vm := .none },
  { cls := 17, slots := #[.int (-49)], vm := .none },
  { cls := 17, slots := #[.int (-48)], vm := .none },
  { cls := 17, slots := #[.int (-47)], vm := .none },
  { cls := 17, slots := #[.int (-46)], vm := .none },
  { cls := 17, slots := #[.int (-45)], vm := .none },
  { cls := 17, slots := #[.int (-44)], vm := .none },
  { cls := 17, slots := #[.int (-43)], vm := .none },
  { cls := 17, slots := #[.int (-42)], vm := .none },
  { cls := 17, slots := #[.int (-41)], vm := .none },
  { cls := 17, slots := #[.int (-40)], vm := .none },
  { cls := 17, slots := #[.int (-39)], vm := .none },
  { cls := 17, slots := #[.int (-38)], vm := .none },
  { cls := 17, slots := #[.int (-37)], vm := .none },
  { cls := 17, slots := #[.int (-36)], vm := .none },
  { cls := 17, slots := #[.int (-35)], vm := .none },
  { cls := 17, slots := #[.int (-34)], vm := .none },
  { cls := 17, slots := #[.int (-33)], vm := .none },
  { cls := 17, slots := #[.int (-32)], vm := .none },
  { cls := 17, slots := #[.int (-31)], vm := .none },
  { cls := 17, slots := #[.int (-30)], vm := .none },
  { cls := 17, slots := #[.int (-29)], vm := .none },
  { cls := 17, slots := #[.int (-28)], vm := .none },
  { cls := 17, slots := #[.int (-27)], vm := .none },
  { cls := 17, slots := #[.int (-26)], vm := .none },
  { cls := 17, slots := #[.int (-25)], vm := .none },
  { cls := 17, slots := #[.int (-24)], vm := .none },
  { cls := 17, slots := #[.int (-23)], vm := .none },
  { cls := 17, slots := #[.int (-22)], vm := .none },
  { cls := 17, slots := #[.int (-21)], vm := .none },
  { cls := 17, slots := #[.int (-20)], vm := .none },
  { cls := 17, slots := #[.int (-19)], vm := .none },
  { cls := 17, slots := #[.int (-18)], vm := .none },
  { cls := 17, slots := #[.int (-17)], vm := .none },
  { cls := 17, slots := #[.int (-16)], vm := .none },
  { cls := 17, slots := #[.int (-15)], vm := .none },
  { cls := 17, slots := #[.int (-14)], vm := .none },
  { cls := 17, slots := #[.int (-13)], vm := .none },
  { cls := 17, slots := #[.int (-12)], vm := .none },
  { cls := 17, slots := #[.int (-11)], vm := .none },
  { cls := 17, slots := #[.int (-10)], vm := .none },
  { cls := 17, slots := #[.int (-9)], vm := .none },
  { cls := 17, slots := #[.int (-8)], vm := .none },
  { cls := 17, slots := #[.int (-7)], vm := .none },
  { cls := 17, slots := #[.int (-6)], vm := .none },
  { cls := 17, slots := #[.int (-5)], vm := .none },
  { cls := 17, slots := #[.int (-4)], vm := .none },
  { cls := 17, slots := #[.int (-3)], vm := .none },
  { cls := 17, slots := #[.int (-2)], vm := .none },
  { cls := 17, slots := #[.int (-1)], vm := .none },
  { cls := 17, slots := #[.int 0], vm := .none },
  { cls := 17, slots := #[.int 1], vm := .none },
  { cls := 17, slots := #[.int 2], vm := .none },
  { cls := 17, slots := #[.int 3], vm := .none },
  { cls := 17, slots := #[.int 4], vm := .none },
  { cls := 17, slots := #[.int 5], vm := .none },
  { cls := 17, slots := #[.int 6], vm := .none },
  { cls := 17, slots := #[.int 7], vm := .none },
  { cls := 17, slots := #[.int 8], vm := .none },
  { cls := 17, slots := #[.int 9], vm := .none },
  { cls := 17, slots := #[.int 10], vm := .none },
  { cls := 17, slots := #[.int 11], vm := .none },
  { cls := 17, slots := #[.int 12], vm := .none },
  { cls := 17, slots := #[.int 13], vm := .none },
  { cls := 17, slots := #[.int 14], vm := .none },
  { cls := 17, slots := #[.int 15], vm := .none },
  { cls := 17, slots := #[.int 16], vm := .none },
  { cls := 17, slots := #[.int 17], vm := .none },
  { cls := 17, slots := #[.int 18], vm := .none },
  { cls := 17, slots := #[.int 19], vm := .none },
  { cls := 17, slots := #[.int 20], vm := .none },
  { cls := 17, slots := #[.int 21], vm := .none },
  { cls := 17, slots := #[.int 22], vm := .none },
  { cls := 17, slots := #[.int 23], vm := .none },
  { cls := 17, slots := #[.int 24], vm := .none },
  { cls := 17, slots := #[.int 25], vm := .none },
  { cls := 17, slots := #[.int 26], vm := .none },
  { cls := 17, slots := #[.int 27], vm := .none },
  { cls := 17, slots := #[.int 28], vm := .none },
  { cls := 17, slots := #[.int 29], vm := .none },
  { cls := 17, slots := #[.int 30], vm := .none },
  { cls := 17, slots := #[.int 31], vm := .none },
  { cls := 17, slots := #[.int 32], vm := .none },
  { cls := 17, slots := #[.int 33], vm := .none },
  { cls := 17, slots := #[.int 34], vm := .none },
  { cls := 17, slots := #[.int 35], vm := .none },
  { cls := 17, slots := #[.int 36], vm := .none },
  { cls := 17, slots := #[.int 37], vm := .none },
  { cls := 17, slots := #[.int 38], vm := .none },
  { cls := 17, slots := #[.int 39], vm := .none },
  { cls := 17, slots := #[.int 40], vm := .none },
  { cls := 17, slots := #[.int 41], vm := .none },
  { cls := 17, slots := #[.int 42], vm := .none },
  { cls := 17, slots := #[.int 43], vm := .none },
  { cls := 17, slots := #[.int 44], vm := .none },
  { cls := 17, slots := #[.int 45], vm := .none },
  { cls := 17, slots := #[.int 46], vm := .none },
  { cls := 17, slots := #[.int 47], vm := .none },
  { cls := 17, slots := #[.int 48], vm := .none },
  { cls := 17, slots := #[.int 49], vm := .none },
  { cls := 17, slots := #[.int 50], vm := .none },
  { cls := 17, slots := #[.int 51], vm := .none },
  { cls := 17, slots := #[.int 52], vm := .none },
  { cls := 17, slots := #[.int 53], vm := .none },
  { cls := 17, slots := #[.int 54], vm := .none },
  { cls := 17, slots := #[.int 55], vm := .none },
  { cls := 17, slots := #[.int 56], vm := .none },
  { cls := 17, slots := #[.int 57], vm := .none },
  { cls := 17, slots := #[.int 58], vm := .none },
  { cls := 17, slots := #[.int 59], vm := .none },
  { cls := 17, slots := #[.int 60], vm := .none },
  { cls := 17, slots := #[.int 61], vm := .none },
  { cls := 17, slots := #[.int 62], vm := .none },
  { cls := 17, slots := #[.int 63], vm := .none },
  { cls := 17, slots := #[.int 64], vm := .none },
  { cls := 17, slots := #[.int 65], vm := .none },
  { cls := 17, slots := #[.int 66], vm := .none },
  { cls := 17, slots := #[.int 67], vm := .none },
  { cls := 17, slots := #[.int 68], vm := .none },
  { cls := 17, slots := #[.int 69], vm := .none },
  { cls := 17, slots := #[.int 70], vm := .none },
  { cls := 17, slots := #[.int 71], vm := .none },
  { cls := 17, slots := #[.int 72], vm := .none },
  { cls := 17, slots := #[.int 73], vm := .none },
  { cls := 17, slots := #[.int 74], vm := .none },
  { cls := 17, slots := #[.int 75], vm := .none },
  { cls := 17, slots := #[.int 76], vm := .none },
  { cls := 17, slots := #[.int 77], vm := .none },
  { cls := 17, slots := #[.int 78], vm := .none },
  { cls := 17, slots := #[.int 79], vm := .none },
  { cls := 17, slots := #[.int 80], vm := .none },
  { cls := 17, slots := #[.int 81], vm := .none },
  { cls := 17, slots := #[.int 82], vm := .none },
  { cls := 17, slots := #[.int 83], vm := .none },
  { cls := 17, slots := #[.int 84], vm := .none },
  { cls := 17, slots := #[.int 85], vm := .none },
  { cls := 17, slots := #[.int 86], vm := .none },
  { cls := 17, slots := #[.int 87], vm := .none },
  { cls := 17, slots := #[.int 88], vm := .none },
  { cls := 17, slots := #[.int 89], vm := .none },
  { cls := 17, slots := #[.int 90], vm := .none },
  { cls := 17, slots := #[.int 91], vm := .none },
  { cls := 17, slots := #[.int 92], vm := .none },
  { cls := 17, slots := #[.int 93], vm := .none },
  { cls := 17, slots := #[.int 94], vm := .none },
  { cls := 17, slots := #[.int 95], vm := .none },
  { cls := 17, slots := #[.int 96], vm := .none },
  { cls := 17, slots := #[.int 97], vm := .none },
  { cls := 17, slots := #[.int 98], vm := .none },
  { cls := 17, slots := #[.int 99], vm := .none },
  { cls := 17, slots := #[.int 100], vm := .none },
  { cls := 17, slots := #[.int 101], vm := .none },
  { cls := 17, slots := #[.int 102], vm := .none },
  { cls := 17, slots := #[.int 103], vm := .none },
  { cls := 17, slots := #[.int 104], vm := .none },
  { cls := 17, slots := #[.int 105], vm := .none },
  { cls := 17, slots := #[.int 106], vm := .none },
  { cls := 17, slots := #[.int 107], vm := .none },
  { cls := 17, slots := #[.int 108], vm := .none },
  { cls := 17, slots := #[.int 109], vm := .none },
  { cls := 17, slots := #[.int 110], vm := .none },
  { cls := 17, slots := #[.int 111], vm := .none },
  { cls := 17, slots := #[.int 112], vm := .none },
  { cls := 17, slots := #[.int 113], vm := .none },
  { cls := 17, slots := #[.int 114], vm := .none },
  { cls := 17, slots := #[.int 115], vm := .none },
  { cls := 17, slots := #[.int 116], vm := .none },
  { cls := 17, slots := #[.int 117], vm := .none },
  { cls := 17, slots := #[.int 118], vm := .none },
  { cls := 17, slots := #[.int 119], vm := .none },
  { cls := 17, slots := #[.int 120], vm := .none },
  { cls := 17, slots := #[.int 121], vm := .none },
  { cls := 17, slots := #[.int 122], vm := .none },
  { cls := 17, slots := #[.int 123], vm := .none },
  { cls := 17, slots := #[.int 124], vm := .none },
  { cls := 17, slots := #[.int 125], vm := .none },
  { cls := 17, slots := #[.int 126], vm := .none },
  { cls := 17, slots := #[.int 127], vm := .none },
  { cls := 34, slots := #[], vm := .none },
  { cls := 34, slots := #[], vm := .none },
  { cls := 0, slots := #[], vm := .none },
  { cls := 24, slots := #[.null, .int 0], vm := .none }]
def classes : Array Class := #[k0, k1, k2, k3, k4, k5, k6, k7, k8, k9, k10, k11, k12, k13, k14, k15, k16, k17, k18, k19, k20, k21, k22, k23, k24, k25, k26, k27, k28, k29, k30, k31, k32, k33, k34]
def interned : List (Array UInt16 × Addr) := []
def slotsUsed : Nat := 533
def theMethod : MethodId := ⟨1, 2⟩
def args0 : Array Value := #[.int 5, .int 6, .int 3, .int 1, .int 1]
def aboutOver (below : List Frame) : State where
  vm := { classes := classes, interned := interned.toArray }
  heap := heap
  slotsUsed := slotsUsed
  threads := #[{ frames := .invoking theMethod args0 :: below }]
def below0 : List Frame := [.native { method := ⟨0, 0⟩, args := #[] }]
def about1 : State := aboutOver below0
def p0 : Program := .bare "" "" ""
def e0 : Env := launch0.env 0 0 0
theorem w_frames : about1.frames = Frame.invoking theMethod args0 :: below0 := rfl
set_option maxRecDepth 65536 in
theorem w_args : argsFit about1.vm theMethod args0 = true := by decide +kernel
set_option maxRecDepth 65536 in
theorem w_heap : heapFits about1 = true := by decide +kernel
set_option maxRecDepth 65536 in
theorem w_runnable : about1.curStatus? = some .runnable := by decide +kernel
set_option maxRecDepth 65536 in
theorem w_alone : about1.alone = true := by decide +kernel
set_option maxRecDepth 65536 in
theorem w_named : about1.methodNamed? x = some theMethod := by decide +kernel
set_option maxRecDepth 65536 in
theorem w_hears : about1.hears theMethod below0 = true := by decide +kernel
set_option maxRecDepth 65536 in
theorem w_ripe : about1.ripe theMethod args0 below0 = true := by decide +kernel
theorem w_running : about1.status = .running := rfl
set_option maxRecDepth 65536 in
theorem w_room : about1.hasRoom e0.platform room_1 = true :=
  launch0.hasRoom_least _ room_1 (by decide +kernel) (by decide +kernel) (by decide +kernel) (by decide +kernel) (by decide +kernel) (by decide +kernel)
theorem allAtoms_all (ts : List Jvm.Cond) (a : Array Jvm.Value) (st : Jvm.State) : (allAtoms ts).before a st = ts.all (fun c => c.before a st) := by
  induction ts with
  | nil => rfl
  | cons c t ih =>
    show (Jvm.Cond.and c (allAtoms t)).before a st = _
    rw [Jvm.Cond.before_and, ih, List.all_cons]
def words1 : List Jvm.Cond := Jvm.Cond.code x code maxLocals ret :: tables_1
/-- a 'code' word, met by the world's own term for the bytes: nothing is compared byte by byte -/
theorem code_word {y : MethodName} {bytes : ByteArray} {mx : Nat} {rt : Option FieldType} {a : Array Value} {s : State} {m : MethodId} {meth : Method} {c : Code} (h1 : s.methodNamed? y = some m) (h2 : s.vm.method? m = some meth) (h3 : meth.code = some c) (h4 : c.code = bytes)
    (h5 : (c.maxLocals == mx && c.exceptionTable.isEmpty && decide (c.maxStack ≤ mostOperands) && decide (meth.sig.returnType = rt) && !meth.locks && decide (parseMethodDescriptor y.desc = some meth.sig)) = true) : (Jvm.Cond.code y bytes mx rt).before a s = true := by
  simp only [Bool.and_eq_true, beq_iff_eq, Bool.not_eq_true', decide_eq_true_eq] at h5
  obtain ⟨⟨⟨⟨⟨g1, g2⟩, g3⟩, g4⟩, g5⟩, g6⟩ := h5
  simp [Cond.before, Cond.holds, Cond.value, h1, h2, h3, h4, g1, g2, g3, g4, g5, g6]
def isCode : Jvm.Cond → Bool
  | .code _ _ _ _ => true
  | _ => false
theorem all_split {L : List Jvm.Cond} {P : Jvm.Cond → Bool} (h1 : L.all (fun c => isCode c || P c) = true) (h2 : ∀ c ∈ L.filter isCode, P c = true) : L.all P = true := by
  refine List.all_eq_true.mpr fun c hc => ?_
  have h := List.all_eq_true.mp h1 c hc
  rcases Bool.eq_false_or_eq_true (isCode c) with hi | hi
  · exact h2 c (List.mem_filter.mpr ⟨hc, hi⟩)
  · simpa [hi] using h
set_option maxRecDepth 65536 in
theorem w_c0 : (Jvm.Cond.code x code maxLocals ret).before args0 about1 = true := code_word (m := ⟨1, 2⟩) (meth := k1m2) (c := k1c2) (by decide +kernel) rfl rfl rfl (by decide +kernel)
set_option maxRecDepth 65536 in
theorem w_c1 : (Jvm.Cond.code ({ cls := "com/example/planwright/planwright/model/VestingProvisionsVestedPercentPinLaw", name := "pct", desc := "(I)I" } : Jvm.MethodName) method_2_code (1 : Nat) (Option.some Jvm.ClassFile.FieldType.int)).before args0 about1 = true := code_word (m := ⟨1, 1⟩) (meth := k1m1) (c := k1c1) (by decide +kernel) rfl rfl rfl (by decide +kernel)
set_option maxRecDepth 65536 in
theorem w_c2 : (Jvm.Cond.code ({ cls := "java/lang/Math", name := "min", desc := "(II)I" } : Jvm.MethodName) jdk_29_method_69_code (2 : Nat) (Option.some Jvm.ClassFile.FieldType.int)).before args0 about1 = true := code_word (m := ⟨2, 2⟩) (meth := k2m2) (c := k2c2) (by decide +kernel) rfl rfl rfl (by decide +kernel)
set_option maxRecDepth 65536 in
theorem w_c3 : (Jvm.Cond.code ({ cls := "java/lang/Math", name := "max", desc := "(II)I" } : Jvm.MethodName) jdk_29_method_65_code (2 : Nat) (Option.some Jvm.ClassFile.FieldType.int)).before args0 about1 = true := code_word (m := ⟨2, 1⟩) (meth := k2m1) (c := k2c1) (by decide +kernel) rfl rfl rfl (by decide +kernel)
set_option maxRecDepth 65536 in
theorem w_c4 : (Jvm.Cond.code ({ cls := "java/util/ArrayList", name := "<init>", desc := "()V" } : Jvm.MethodName) jdk_38_method_2_code (1 : Nat) (Option.none : Option Jvm.ClassFile.FieldType)).before args0 about1 = true := code_word (m := ⟨12, 0⟩) (meth := k12m0) (c := k12c0) (by decide +kernel) rfl rfl rfl (by decide +kernel)
set_option maxRecDepth 65536 in
theorem w_c5 : (Jvm.Cond.code ({ cls := "java/util/AbstractList", name := "<init>", desc := "()V" } : Jvm.MethodName) jdk_39_method_1_code (1 : Nat) (Option.none : Option Jvm.ClassFile.FieldType)).before args0 about1 = true := code_word (m := ⟨8, 0⟩) (meth := k8m0) (c := k8c0) (by decide +kernel) rfl rfl rfl (by decide +kernel)
set_option maxRecDepth 65536 in
theorem w_c6 : (Jvm.Cond.code ({ cls := "java/util/AbstractCollection", name := "<init>", desc := "()V" } : Jvm.MethodName) jdk_22_method_1_code (1 : Nat) (Option.none : Option Jvm.ClassFile.FieldType)).before args0 about1 = true := code_word (m := ⟨5, 0⟩) (meth := k5m0) (c := k5c0) (by decide +kernel) rfl rfl rfl (by decide +kernel)
set_option maxRecDepth 65536 in
theorem w_c7 : (Jvm.Cond.code ({ cls := "java/lang/Object", name := "<init>", desc := "()V" } : Jvm.MethodName) object_method_1_code (1 : Nat) (Option.none : Option Jvm.ClassFile.FieldType)).before args0 about1 = true := code_word (m := ⟨0, 0⟩) (meth := k0m0) (c := k0c0) (by decide +kernel) rfl rfl rfl (by decide +kernel)
set_option maxRecDepth 65536 in
theorem w_c8 : (Jvm.Cond.code ({ cls := "java/lang/Integer", name := "valueOf", desc := "(I)Ljava/lang/Integer;" } : Jvm.MethodName) jdk_33_method_22_code (1 : Nat) (Option.some (Jvm.ClassFile.FieldType.object "java/lang/Integer"))).before args0 about1 = true := code_word (m := ⟨17, 0⟩) (meth := k17m0) (c := k17c0) (by decide +kernel) rfl rfl rfl (by decide +kernel)
set_option maxRecDepth 65536 in
theorem w_c9 : (Jvm.Cond.code ({ cls := "java/util/ArrayList", name := "add", desc := "(Ljava/lang/Object;)Z" } : Jvm.MethodName) jdk_38_method_25_code (2 : Nat) (Option.some Jvm.ClassFile.FieldType.boolean)).before args0 about1 = true := code_word (m := ⟨12, 6⟩) (meth := k12m6) (c := k12c6) (by decide +kernel) rfl rfl rfl (by decide +kernel)
set_option maxRecDepth 65536 in
theorem w_c10 : (Jvm.Cond.code ({ cls := "java/util/ArrayList", name := "add", desc := "(Ljava/lang/Object;[Ljava/lang/Object;I)V" } : Jvm.MethodName) jdk_38_method_24_code (4 : Nat) (Option.none : Option Jvm.ClassFile.FieldType)).before args0 about1 = true := code_word (m := ⟨12, 5⟩) (meth := k12m5) (c := k12c5) (by decide +kernel) rfl rfl rfl (by decide +kernel)
set_option maxRecDepth 65536 in
theorem w_c11 : (Jvm.Cond.code ({ cls := "java/util/ArrayList", name := "grow", desc := "()[Ljava/lang/Object;" } : Jvm.MethodName) jdk_38_method_7_code (1 : Nat) (Option.some (Jvm.ClassFile.FieldType.array (Jvm.ClassFile.FieldType.object "java/lang/Object")))).before args0 about1 = true := code_word (m := ⟨12, 2⟩) (meth := k12m2) (c := k12c2) (by decide +kernel) rfl rfl rfl (by decide +kernel)
set_option maxRecDepth 65536 in
theorem w_c12 : (Jvm.Cond.code ({ cls := "java/util/ArrayList", name := "grow", desc := "(I)[Ljava/lang/Object;" } : Jvm.MethodName) jdk_38_method_6_code (4 : Nat) (Option.some (Jvm.ClassFile.FieldType.array (Jvm.ClassFile.FieldType.object "java/lang/Object")))).before args0 about1 = true := code_word (m := ⟨12, 1⟩) (meth := k12m1) (c := k12c1) (by decide +kernel) rfl rfl rfl (by decide +kernel)
set_option maxRecDepth 65536 in
theorem w_c13 : (Jvm.Cond.code ({ cls := "com/example/planwright/planwright/model/VestingProvisions", name := "<init>", desc := "(IILjava/util/List;)V" } : Jvm.MethodName) prog_32_method_1_code (4 : Nat) (Option.none : Option Jvm.ClassFile.FieldType)).before args0 about1 = true := code_word (m := ⟨19, 0⟩) (meth := k19m0) (c := k19c0) (by decide +kernel) rfl rfl rfl (by decide +kernel)
set_option maxRecDepth 65536 in
theorem w_c14 : (Jvm.Cond.code ({ cls := "java/util/List", name := "copyOf", desc := "(Ljava/util/Collection;)Ljava/util/List;" } : Jvm.MethodName) jdk_40_method_48_code (1 : Nat) (Option.some (Jvm.ClassFile.FieldType.object "java/util/List"))).before args0 about1 = true := code_word (m := ⟨7, 3⟩) (meth := k7m3) (c := k7c3) (by decide +kernel) rfl rfl rfl (by decide +kernel)
set_option maxRecDepth 65536 in
theorem w_c15 : (Jvm.Cond.code ({ cls := "java/util/ImmutableCollections", name := "listCopy", desc := "(Ljava/util/Collection;)Ljava/util/List;" } : Jvm.MethodName) jdk_56_method_3_code (2 : Nat) (Option.some (Jvm.ClassFile.FieldType.object "java/util/List"))).before args0 about1 = true := code_word (m := ⟨20, 1⟩) (meth := k20m1) (c := k20c1) (by decide +kernel) rfl rfl rfl (by decide +kernel)
set_option maxRecDepth 65536 in
theorem w_c16 : (Jvm.Cond.code ({ cls := "java/util/ArrayList", name := "isEmpty", desc := "()Z" } : Jvm.MethodName) jdk_38_method_9_code (1 : Nat) (Option.some Jvm.ClassFile.FieldType.boolean)).before args0 about1 = true := code_word (m := ⟨12, 3⟩) (meth := k12m3) (c := k12c3) (by decide +kernel) rfl rfl rfl (by decide +kernel)
set_option maxRecDepth 65536 in
theorem w_c17 : (Jvm.Cond.code ({ cls := "java/util/ArrayList", name := "toArray", desc := "()[Ljava/lang/Object;" } : Jvm.MethodName) jdk_38_method_16_code (1 : Nat) (Option.some (Jvm.ClassFile.FieldType.array (Jvm.ClassFile.FieldType.object "java/lang/Object")))).before args0 about1 = true := code_word (m := ⟨12, 4⟩) (meth := k12m4) (c := k12c4) (by decide +kernel) rfl rfl rfl (by decide +kernel)
set_option maxRecDepth 65536 in
theorem w_c18 : (Jvm.Cond.code ({ cls := "java/util/Arrays", name := "copyOf", desc := "([Ljava/lang/Object;I)[Ljava/lang/Object;" } : Jvm.MethodName) jdk_65_method_119_code (2 : Nat) (Option.some (Jvm.ClassFile.FieldType.array (Jvm.ClassFile.FieldType.object "java/lang/Object")))).before args0 about1 = true := code_word (m := ⟨25, 1⟩) (meth := k25m1) (c := k25c1) (by decide +kernel) rfl rfl rfl (by decide +kernel)
set_option maxRecDepth 65536 in
theorem w_c19 : (Jvm.Cond.code ({ cls := "java/util/Arrays", name := "copyOf", desc := "([Ljava/lang/Object;ILjava/lang/Class;)[Ljava/lang/Object;" } : Jvm.MethodName) jdk_65_method_120_code (4 : Nat) (Option.some (Jvm.ClassFile.FieldType.array (Jvm.ClassFile.FieldType.object "java/lang/Object")))).before args0 about1 = true := code_word (m := ⟨25, 2⟩) (meth := k25m2) (c := k25c2) (by decide +kernel) rfl rfl rfl (by decide +kernel)
set_option maxRecDepth 65536 in
theorem w_c20 : (Jvm.Cond.code ({ cls := "java/util/List", name := "of", desc := "([Ljava/lang/Object;)Ljava/util/List;" } : Jvm.MethodName) jdk_40_method_47_code (2 : Nat) (Option.some (Jvm.ClassFile.FieldType.object "java/util/List"))).before args0 about1 = true := code_word (m := ⟨7, 2⟩) (meth := k7m2) (c := k7c2) (by decide +kernel) rfl rfl rfl (by decide +kernel)
set_option maxRecDepth 65536 in
theorem w_c21 : (Jvm.Cond.code ({ cls := "java/util/ImmutableCollections", name := "listFromArray", desc := "([Ljava/lang/Object;)Ljava/util/List;" } : Jvm.MethodName) jdk_56_method_4_code (3 : Nat) (Option.some (Jvm.ClassFile.FieldType.object "java/util/List"))).before args0 about1 = true := code_word (m := ⟨20, 2⟩) (meth := k20m2) (c := k20c2) (by decide +kernel) rfl rfl rfl (by decide +kernel)
set_option maxRecDepth 65536 in
theorem w_c22 : (Jvm.Cond.code ({ cls := "java/util/Objects", name := "requireNonNull", desc := "(Ljava/lang/Object;)Ljava/lang/Object;" } : Jvm.MethodName) jdk_31_method_10_code (1 : Nat) (Option.some (Jvm.ClassFile.FieldType.object "java/lang/Object"))).before args0 about1 = true := code_word (m := ⟨27, 1⟩) (meth := k27m1) (c := k27c1) (by decide +kernel) rfl rfl rfl (by decide +kernel)
set_option maxRecDepth 65536 in
theorem w_c23 : (Jvm.Cond.code ({ cls := "java/util/ImmutableCollections$ListN", name := "<init>", desc := "([Ljava/lang/Object;Z)V" } : Jvm.MethodName) jdk_45_method_1_code (3 : Nat) (Option.none : Option Jvm.ClassFile.FieldType)).before args0 about1 = true := code_word (m := ⟨24, 0⟩) (meth := k24m0) (c := k24c0) (by decide +kernel) rfl rfl rfl (by decide +kernel)
set_option maxRecDepth 65536 in
theorem w_c24 : (Jvm.Cond.code ({ cls := "java/util/ImmutableCollections$AbstractImmutableList", name := "<init>", desc := "()V" } : Jvm.MethodName) jdk_46_method_1_code (1 : Nat) (Option.none : Option Jvm.ClassFile.FieldType)).before args0 about1 = true := code_word (m := ⟨22, 0⟩) (meth := k22m0) (c := k22c0) (by decide +kernel) rfl rfl rfl (by decide +kernel)
set_option maxRecDepth 65536 in
theorem w_c25 : (Jvm.Cond.code ({ cls := "java/util/ImmutableCollections$AbstractImmutableCollection", name := "<init>", desc := "()V" } : Jvm.MethodName) jdk_47_method_1_code (1 : Nat) (Option.none : Option Jvm.ClassFile.FieldType)).before args0 about1 = true := code_word (m := ⟨21, 0⟩) (meth := k21m0) (c := k21c0) (by decide +kernel) rfl rfl rfl (by decide +kernel)
set_option maxRecDepth 65536 in
theorem w_c26 : (Jvm.Cond.code ({ cls := "com/example/planwright/planwright/model/VestingProvisions", name := "vestedPercent", desc := "(I)I" } : Jvm.MethodName) prog_32_method_4_code (2 : Nat) (Option.some Jvm.ClassFile.FieldType.int)).before args0 about1 = true := code_word (m := ⟨19, 1⟩) (meth := k19m1) (c := k19c1) (by decide +kernel) rfl rfl rfl (by decide +kernel)
set_option maxRecDepth 65536 in
theorem w_c27 : (Jvm.Cond.code ({ cls := "java/util/ImmutableCollections$ListN", name := "size", desc := "()I" } : Jvm.MethodName) jdk_45_method_3_code (1 : Nat) (Option.some Jvm.ClassFile.FieldType.int)).before args0 about1 = true := code_word (m := ⟨24, 1⟩) (meth := k24m1) (c := k24c1) (by decide +kernel) rfl rfl rfl (by decide +kernel)
set_option maxRecDepth 65536 in
theorem w_c28 : (Jvm.Cond.code ({ cls := "java/util/ImmutableCollections$ListN", name := "get", desc := "(I)Ljava/lang/Object;" } : Jvm.MethodName) jdk_45_method_4_code (2 : Nat) (Option.some (Jvm.ClassFile.FieldType.object "java/lang/Object"))).before args0 about1 = true := code_word (m := ⟨24, 2⟩) (meth := k24m2) (c := k24c2) (by decide +kernel) rfl rfl rfl (by decide +kernel)
set_option maxRecDepth 65536 in
theorem w_c29 : (Jvm.Cond.code ({ cls := "java/lang/Integer", name := "intValue", desc := "()I" } : Jvm.MethodName) jdk_33_method_27_code (1 : Nat) (Option.some Jvm.ClassFile.FieldType.int)).before args0 about1 = true := code_word (m := ⟨17, 1⟩) (meth := k17m1) (c := k17c1) (by decide +kernel) rfl rfl rfl (by decide +kernel)
set_option maxRecDepth 65536 in
theorem w_c30 : (Jvm.Cond.code ({ cls := "java/util/ImmutableCollections$List12", name := "<init>", desc := "(Ljava/lang/Object;)V" } : Jvm.MethodName) jdk_44_method_1_code (2 : Nat) (Option.none : Option Jvm.ClassFile.FieldType)).before args0 about1 = true := code_word (m := ⟨23, 0⟩) (meth := k23m0) (c := k23c0) (by decide +kernel) rfl rfl rfl (by decide +kernel)
set_option maxRecDepth 65536 in
theorem w_c31 : (Jvm.Cond.code ({ cls := "java/util/ImmutableCollections$List12", name := "size", desc := "()I" } : Jvm.MethodName) jdk_44_method_3_code (1 : Nat) (Option.some Jvm.ClassFile.FieldType.int)).before args0 about1 = true := code_word (m := ⟨23, 2⟩) (meth := k23m2) (c := k23c2) (by decide +kernel) rfl rfl rfl (by decide +kernel)
set_option maxRecDepth 65536 in
theorem w_c32 : (Jvm.Cond.code ({ cls := "java/util/ImmutableCollections$List12", name := "get", desc := "(I)Ljava/lang/Object;" } : Jvm.MethodName) jdk_44_method_5_code (2 : Nat) (Option.some (Jvm.ClassFile.FieldType.object "java/lang/Object"))).before args0 about1 = true := code_word (m := ⟨23, 3⟩) (meth := k23m3) (c := k23c3) (by decide +kernel) rfl rfl rfl (by decide +kernel)
set_option maxRecDepth 65536 in
theorem w_c33 : (Jvm.Cond.code ({ cls := "java/util/ImmutableCollections$List12", name := "<init>", desc := "(Ljava/lang/Object;Ljava/lang/Object;)V" } : Jvm.MethodName) jdk_44_method_2_code (3 : Nat) (Option.none : Option Jvm.ClassFile.FieldType)).before args0 about1 = true := code_word (m := ⟨23, 1⟩) (meth := k23m1) (c := k23c1) (by decide +kernel) rfl rfl rfl (by decide +kernel)
def codes1 : List Jvm.Cond := [Jvm.Cond.code x code maxLocals ret, Jvm.Cond.code ({ cls := "com/example/planwright/planwright/model/VestingProvisionsVestedPercentPinLaw", name := "pct", desc := "(I)I" } : Jvm.MethodName) method_2_code (1 : Nat) (Option.some Jvm.ClassFile.FieldType.int), Jvm.Cond.code ({ cls := "java/lang/Math", name := "min", desc := "(II)I" } : Jvm.MethodName) jdk_29_method_69_code (2 : Nat) (Option.some Jvm.ClassFile.FieldType.int), Jvm.Cond.code ({ cls := "java/lang/Math", name := "max", desc := "(II)I" } : Jvm.MethodName) jdk_29_method_65_code (2 : Nat) (Option.some Jvm.ClassFile.FieldType.int), Jvm.Cond.code ({ cls := "java/util/ArrayList", name := "<init>", desc := "()V" } : Jvm.MethodName) jdk_38_method_2_code (1 : Nat) (Option.none : Option Jvm.ClassFile.FieldType), Jvm.Cond.code ({ cls := "java/util/AbstractList", name := "<init>", desc := "()V" } : Jvm.MethodName) jdk_39_method_1_code (1 : Nat) (Option.none : Option Jvm.ClassFile.FieldType), Jvm.Cond.code ({ cls := "java/util/AbstractCollection", name := "<init>", desc := "()V" } : Jvm.MethodName) jdk_22_method_1_code (1 : Nat) (Option.none : Option Jvm.ClassFile.FieldType), Jvm.Cond.code ({ cls := "java/lang/Object", name := "<init>", desc := "()V" } : Jvm.MethodName) object_method_1_code (1 : Nat) (Option.none : Option Jvm.ClassFile.FieldType), Jvm.Cond.code ({ cls := "java/lang/Integer", name := "valueOf", desc := "(I)Ljava/lang/Integer;" } : Jvm.MethodName) jdk_33_method_22_code (1 : Nat) (Option.some (Jvm.ClassFile.FieldType.object "java/lang/Integer")), Jvm.Cond.code ({ cls := "java/util/ArrayList", name := "add", desc := "(Ljava/lang/Object;)Z" } : Jvm.MethodName) jdk_38_method_25_code (2 : Nat) (Option.some Jvm.ClassFile.FieldType.boolean), Jvm.Cond.code ({ cls := "java/util/ArrayList", name := "add", desc := "(Ljava/lang/Object;[Ljava/lang/Object;I)V" } : Jvm.MethodName) jdk_38_method_24_code (4 : Nat) (Option.none : Option Jvm.ClassFile.FieldType), Jvm.Cond.code ({ cls := "java/util/ArrayList", name := "grow", desc := "()[Ljava/lang/Object;" } : Jvm.MethodName) jdk_38_method_7_code (1 : Nat) (Option.some (Jvm.ClassFile.FieldType.array (Jvm.ClassFile.FieldType.object "java/lang/Object"))), Jvm.Cond.code ({ cls := "java/util/ArrayList", name := "grow", desc := "(I)[Ljava/lang/Object;" } : Jvm.MethodName) jdk_38_method_6_code (4 : Nat) (Option.some (Jvm.ClassFile.FieldType.array (Jvm.ClassFile.FieldType.object "java/lang/Object"))), Jvm.Cond.code ({ cls := "com/example/planwright/planwright/model/VestingProvisions", name := "<init>", desc := "(IILjava/util/List;)V" } : Jvm.MethodName) prog_32_method_1_code (4 : Nat) (Option.none : Option Jvm.ClassFile.FieldType), Jvm.Cond.code ({ cls := "java/util/List", name := "copyOf", desc := "(Ljava/util/Collection;)Ljava/util/List;" } : Jvm.MethodName) jdk_40_method_48_code (1 : Nat) (Option.some (Jvm.ClassFile.FieldType.object "java/util/List")), Jvm.Cond.code ({ cls := "java/util/ImmutableCollections", name := "listCopy", desc := "(Ljava/util/Collection;)Ljava/util/List;" } : Jvm.MethodName) jdk_56_method_3_code (2 : Nat) (Option.some (Jvm.ClassFile.FieldType.object "java/util/List")), Jvm.Cond.code ({ cls := "java/util/ArrayList", name := "isEmpty", desc := "()Z" } : Jvm.MethodName) jdk_38_method_9_code (1 : Nat) (Option.some Jvm.ClassFile.FieldType.boolean), Jvm.Cond.code ({ cls := "java/util/ArrayList", name := "toArray", desc := "()[Ljava/lang/Object;" } : Jvm.MethodName) jdk_38_method_16_code (1 : Nat) (Option.some (Jvm.ClassFile.FieldType.array (Jvm.ClassFile.FieldType.object "java/lang/Object"))), Jvm.Cond.code ({ cls := "java/util/Arrays", name := "copyOf", desc := "([Ljava/lang/Object;I)[Ljava/lang/Object;" } : Jvm.MethodName) jdk_65_method_119_code (2 : Nat) (Option.some (Jvm.ClassFile.FieldType.array (Jvm.ClassFile.FieldType.object "java/lang/Object"))), Jvm.Cond.code ({ cls := "java/util/Arrays", name := "copyOf", desc := "([Ljava/lang/Object;ILjava/lang/Class;)[Ljava/lang/Object;" } : Jvm.MethodName) jdk_65_method_120_code (4 : Nat) (Option.some (Jvm.ClassFile.FieldType.array (Jvm.ClassFile.FieldType.object "java/lang/Object"))), Jvm.Cond.code ({ cls := "java/util/List", name := "of", desc := "([Ljava/lang/Object;)Ljava/util/List;" } : Jvm.MethodName) jdk_40_method_47_code (2 : Nat) (Option.some (Jvm.ClassFile.FieldType.object "java/util/List")), Jvm.Cond.code ({ cls := "java/util/ImmutableCollections", name := "listFromArray", desc := "([Ljava/lang/Object;)Ljava/util/List;" } : Jvm.MethodName) jdk_56_method_4_code (3 : Nat) (Option.some (Jvm.ClassFile.FieldType.object "java/util/List")), Jvm.Cond.code ({ cls := "java/util/Objects", name := "requireNonNull", desc := "(Ljava/lang/Object;)Ljava/lang/Object;" } : Jvm.MethodName) jdk_31_method_10_code (1 : Nat) (Option.some (Jvm.ClassFile.FieldType.object "java/lang/Object")), Jvm.Cond.code ({ cls := "java/util/ImmutableCollections$ListN", name := "<init>", desc := "([Ljava/lang/Object;Z)V" } : Jvm.MethodName) jdk_45_method_1_code (3 : Nat) (Option.none : Option Jvm.ClassFile.FieldType), Jvm.Cond.code ({ cls := "java/util/ImmutableCollections$AbstractImmutableList", name := "<init>", desc := "()V" } : Jvm.MethodName) jdk_46_method_1_code (1 : Nat) (Option.none : Option Jvm.ClassFile.FieldType), Jvm.Cond.code ({ cls := "java/util/ImmutableCollections$AbstractImmutableCollection", name := "<init>", desc := "()V" } : Jvm.MethodName) jdk_47_method_1_code (1 : Nat) (Option.none : Option Jvm.ClassFile.FieldType), Jvm.Cond.code ({ cls := "com/example/planwright/planwright/model/VestingProvisions", name := "vestedPercent", desc := "(I)I" } : Jvm.MethodName) prog_32_method_4_code (2 : Nat) (Option.some Jvm.ClassFile.FieldType.int), Jvm.Cond.code ({ cls := "java/util/ImmutableCollections$ListN", name := "size", desc := "()I" } : Jvm.MethodName) jdk_45_method_3_code (1 : Nat) (Option.some Jvm.ClassFile.FieldType.int), Jvm.Cond.code ({ cls := "java/util/ImmutableCollections$ListN", name := "get", desc := "(I)Ljava/lang/Object;" } : Jvm.MethodName) jdk_45_method_4_code (2 : Nat) (Option.some (Jvm.ClassFile.FieldType.object "java/lang/Object")), Jvm.Cond.code ({ cls := "java/lang/Integer", name := "intValue", desc := "()I" } : Jvm.MethodName) jdk_33_method_27_code (1 : Nat) (Option.some Jvm.ClassFile.FieldType.int), Jvm.Cond.code ({ cls := "java/util/ImmutableCollections$List12", name := "<init>", desc := "(Ljava/lang/Object;)V" } : Jvm.MethodName) jdk_44_method_1_code (2 : Nat) (Option.none : Option Jvm.ClassFile.FieldType), Jvm.Cond.code ({ cls := "java/util/ImmutableCollections$List12", name := "size", desc := "()I" } : Jvm.MethodName) jdk_44_method_3_code (1 : Nat) (Option.some Jvm.ClassFile.FieldType.int), Jvm.Cond.code ({ cls := "java/util/ImmutableCollections$List12", name := "get", desc := "(I)Ljava/lang/Object;" } : Jvm.MethodName) jdk_44_method_5_code (2 : Nat) (Option.some (Jvm.ClassFile.FieldType.object "java/lang/Object")), Jvm.Cond.code ({ cls := "java/util/ImmutableCollections$List12", name := "<init>", desc := "(Ljava/lang/Object;Ljava/lang/Object;)V" } : Jvm.MethodName) jdk_44_method_2_code (3 : Nat) (Option.none : Option Jvm.ClassFile.FieldType)]
set_option maxRecDepth 65536 in
theorem codes_eq : words1.filter isCode = codes1 := rfl
theorem w_codes : ∀ c ∈ words1.filter isCode, c.before args0 about1 = true := by
  rw [codes_eq]
  intro c hc
  simp only [codes1, List.mem_cons, List.not_mem_nil, or_false] at hc
  rcases hc with rfl | rfl | rfl | rfl | rfl | rfl | rfl | rfl | rfl | rfl | rfl | rfl | rfl | rfl | rfl | rfl | rfl | rfl | rfl | rfl | rfl | rfl | rfl | rfl | rfl | rfl | rfl | rfl | rfl | rfl | rfl | rfl | rfl | rfl
  · exact w_c0
  · exact w_c1
  · exact w_c2
  · exact w_c3
  · exact w_c4
  · exact w_c5
  · exact w_c6
  · exact w_c7
  · exact w_c8
  · exact w_c9
  · exact w_c10
  · exact w_c11
  · exact w_c12
  · exact w_c13
  · exact w_c14
  · exact w_c15
  · exact w_c16
  · exact w_c17
  · exact w_c18
  · exact w_c19
  · exact w_c20
  · exact w_c21
  · exact w_c22
  · exact w_c23
  · exact w_c24
  · exact w_c25
  · exact w_c26
  · exact w_c27
  · exact w_c28
  · exact w_c29
  · exact w_c30
  · exact w_c31
  · exact w_c32
  · exact w_c33
set_option maxRecDepth 65536 in
theorem w_t1 : (words1.take 24).all (fun c => isCode c || c.before args0 about1) = true := by decide +kernel
set_option maxRecDepth 65536 in
theorem w_t2 : ((words1.drop 24).take 24).all (fun c => isCode c || c.before args0 about1) = true := by decide +kernel
set_option maxRecDepth 65536 in
theorem w_t3 : (((words1.drop 24).drop 24).take 24).all (fun c => isCode c || c.before args0 about1) = true := by decide +kernel
set_option maxRecDepth 65536 in
theorem w_t4 : ((((words1.drop 24).drop 24).drop 24).take 24).all (fun c => isCode c || c.before args0 about1) = true := by decide +kernel
set_option maxRecDepth 65536 in
theorem w_t5 : (((((words1.drop 24).drop 24).drop 24).drop 24).take 24).all (fun c => isCode c || c.before args0 about1) = true := by decide +kernel
set_option maxRecDepth 65536 in
theorem w_t6 : ((((((words1.drop 24).drop 24).drop 24).drop 24).drop 24).take 24).all (fun c => isCode c || c.before args0 about1) = true := by decide +kernel
set_option maxRecDepth 65536 in
theorem w_t7 : (((((((words1.drop 24).drop 24).drop 24).drop 24).drop 24).drop 24).take 24).all (fun c => isCode c || c.before args0 about1) = true := by decide +kernel
set_option maxRecDepth 65536 in
theorem w_t8 : ((((((((words1.drop 24).drop 24).drop 24).drop 24).drop 24).drop 24).drop 24).take 24).all (fun c => isCode c || c.before args0 about1) = true := by decide +kernel
set_option maxRecDepth 65536 in
theorem w_t9 : (((((((((words1.drop 24).drop 24).drop 24).drop 24).drop 24).drop 24).drop 24).drop 24).take 24).all (fun c => isCode c || c.before args0 about1) = true := by decide +kernel
set_option maxRecDepth 65536 in
theorem w_t10 : (((((((((words1.drop 24).drop 24).drop 24).drop 24).drop 24).drop 24).drop 24).drop 24).drop 24).all (fun c => isCode c || c.before args0 about1) = true := by decide +kernel
theorem w_tables : (allAtoms (Jvm.Cond.code x code maxLocals ret :: tables_1)).before args0 about1 = true := by
  rw [allAtoms_all]
  show words1.all (fun c => c.before args0 about1) = true
  refine all_split ?_ w_codes
  rw [← List.take_append_drop 24 words1, List.all_append, w_t1, ← List.take_append_drop 24 (words1.drop 24), List.all_append, w_t2, ← List.take_append_drop 24 ((words1.drop 24).drop 24), List.all_append, w_t3, ← List.take_append_drop 24 (((words1.drop 24).drop 24).drop 24), List.all_append, w_t4, ← List.take_append_drop 24 ((((words1.drop 24).drop 24).drop 24).drop 24), List.all_append, w_t5, ← List.take_append_drop 24 (((((words1.drop 24).drop 24).drop 24).drop 24).drop 24), List.all_append, w_t6, ← List.take_append_drop 24 ((((((words1.drop 24).drop 24).drop 24).drop 24).drop 24).drop 24), List.all_append, w_t7, ← List.take_append_drop 24 (((((((words1.drop 24).drop 24).drop 24).drop 24).drop 24).drop 24).drop 24), List.all_append, w_t8, ← List.take_append_drop 24 ((((((((words1.drop 24).drop 24).drop 24).drop 24).drop 24).drop 24).drop 24).drop 24), List.all_append, w_t9, w_t10]
  rfl
set_option maxRecDepth 65536 in
theorem w_rest : rest_1_c.before args0 about1 = true := by decide +kernel
set_option maxRecDepth 65536 in
theorem w_case : (Jvm.Cond.and given_1 narrow_1).before args0 about1 = true := by decide +kernel
theorem w_applies : (headSpec (Jvm.Cond.code x code maxLocals ret :: tables_1) room_1).applies x e0.platform about1 = true :=
  (Spec.applies_iff w_frames).mpr ⟨w_running, w_runnable, w_alone, w_named, w_hears, w_ripe, w_room, w_tables⟩
set_option maxRecDepth 65536 in
theorem atStart : AtStart classFile x code maxLocals ret World_1 tables_1 room_1 Calls_1 rest_1 Pre_1 launch0 p0 e0 about1 theMethod args0 below0 :=
  ⟨lists_1, trivial, launch0.admits_env _ _ _, launch0.least_env, fairChoices_fair.cas, fairChoices_fair.clock, w_frames, w_args, w_heap, w_applies, ⟨⟨34, k34, 3, by decide +kernel, rfl, rfl, _, rfl, rfl⟩, trivial⟩, w_rest, w_case⟩
end start1
theorem witness_1 : WitnessClaimed_1 := ⟨start1.p0, start1.e0, start1.about1, start1.theMethod, start1.args0, start1.below0, start1.atStart⟩
end Jvm.Pilot.@@N@@
