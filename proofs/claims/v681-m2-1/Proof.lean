import JvmDerived
import JvmDerived.Pilot.@@N@@Statement
import JvmDerived.Pilot.@@N@@Code
set_option linter.unusedVariables false
set_option linter.unusedSimpArgs false
namespace Jvm.RoadKit
open Sem ClassFile Op Lib Jvm.Stand Jvm.Free Jvm.LawKit
section New
variable {p : Program} {l : Launch} {e : Env} {R : Room} {s : State} {m : MethodId} {args : Array Value} {below : List Frame} {meth : Method} {c : Code} {T : State} {locs : List Loc} {cells slots : Nat}
theorem retI (X : Stand p l e R s m args below meth c T locs cells slots) (hx : p.tables.exec = Jvm.exec) {pc : Nat} {Ls : Array Slot} {z : Int32} {rest : List Value} (hret : meth.sig.returnType = some .int) (hd : decode c.code pc = .ok (.ireturn, 1)) {fs : List Frame}
    (hl : ∀ (f : JFrame) (acts : List Action), f.method = m → f.locked = none → f.entered = [] → (doReturn e (T.setTop f) acts (some (.int z))).1 = T.setFrames fs) : Steps p.tables e below (T.setTop (mkF m pc Ls (.int z :: rest))) (T.setFrames fs) := by
  have hm' : T.vm.method? m = some meth := X.method'
  have hn : narrow .int (.int z) = .int z := rfl
  show Steps p.tables e below (T.setTop { method := m, pc := pc, locals := Ls, stack := _ :: rest, locked := none }) _
  jvm_step X.here [X.here.top, hx, hd, hm', hret, hn]
  first | (intro acts; rw [hl _ acts rfl rfl rfl]) | rw [hl _ _ rfl rfl rfl]
  exact Steps.refl _
theorem retJ (X : Stand p l e R s m args below meth c T locs cells slots) (hx : p.tables.exec = Jvm.exec) {pc : Nat} {Ls : Array Slot} {z : Int64} {rest : List Value} (hret : meth.sig.returnType = some .long) (hd : decode c.code pc = .ok (.lreturn, 1)) {fs : List Frame}
    (hl : ∀ (f : JFrame) (acts : List Action), f.method = m → f.locked = none → f.entered = [] → (doReturn e (T.setTop f) acts (some (.long z))).1 = T.setFrames fs) : Steps p.tables e below (T.setTop (mkF m pc Ls (.long z :: rest))) (T.setFrames fs) := by
  have hm' : T.vm.method? m = some meth := X.method'
  have hn : narrow .long (.long z) = .long z := rfl
  show Steps p.tables e below (T.setTop { method := m, pc := pc, locals := Ls, stack := _ :: rest, locked := none }) _
  jvm_step X.here [X.here.top, hx, hd, hm', hret, hn]
  first | (intro acts; rw [hl _ acts rfl rfl rfl]) | rw [hl _ _ rfl rfl rfl]
  exact Steps.refl _
/-- from S the run comes to an end of which P holds -/
def Goes (p : Program) (e : Env) (below : List Frame) (P : State → Outcome → Prop) (S : State) : Prop := ∃ t o, Steps p.tables e below S t ∧ t.status = .running ∧ Ended t below o ∧ P t o
theorem Goes.step {P : State → Outcome → Prop} {S S' : State} (h : ∀ t, Steps p.tables e below S' t → Steps p.tables e below S t) (k : Goes p e below P S') : Goes p e below P S := by
  obtain ⟨t, o, h1, h2⟩ := k
  exact ⟨t, o, h t h1, h2⟩
/-- what a contract says of its end -/
def Pq (Q : Option Value → Heap → List Loc → Prop) (s : State) (kc ks : Nat) (t : State) (o : Outcome) : Prop := ∃ v L, o = .returned v ∧ Q v t.heap L ∧ FrameEnd s o t L kc ks
theorem Goes.leave {Q : Option Value → Heap → List Loc → Prop} {kc ks : Nat} {g : JFrame} {v : Option Value} {h : Heap} (X : Stand p l e R s m args below meth c T locs cells slots) (hlk : meth.locks = false) (hv : meth.sig.returnType = none → v = none)
    (st : ∀ fs, (∀ (f : JFrame) (acts : List Action), f.method = m → f.locked = none → f.entered = [] → (doReturn e (T.setTop f) acts v).1 = T.setFrames fs) → Steps p.tables e below (T.setTop g) (T.setFrames fs))
    (eT : T.heap = h) (hQ : Q v h locs) (hc : cells ≤ kc) (hs : slots ≤ ks) : Goes p e below (Pq Q s kc ks) (T.setTop g) := by
  obtain ⟨fs, hr, hrun, hended, hW, hsame⟩ := X.leave (v := v) hv hlk
  exact ⟨_, _, st fs hr, hrun, hended, v, locs, rfl, eT ▸ hQ, ⟨_, rfl⟩, hW, hsame.mono hc hs⟩
theorem own_eqI {args : Array Value} {first s : State} {o : Option Outcome} {idx : List Nat} {t : Term} {k : Int32} (h : (Cond.eq t (.int k)).value args first o s idx = some true) : t.eval args first o idx s = some (.int k) := by
  simp only [Cond.value, Term.eval] at h
  cases ht : t.eval args first o idx s with
  | none => simp [ht] at h
  | some x => cases x <;> simp [ht] at h ⊢; exact h
theorem own_stakeep {Z : State} {h h' : Heap} {ws : List Addr} {C n d : String} {w : Value} (F : Sta Z h C n d w) (K : Keep h h' ws) (q : ∀ x ∈ ws, ∀ cell : Cell, h[x]? = some cell → cell.vm.isStatics = false) : Sta Z h' C n d w := by
  obtain ⟨cf, i, k, f, st, cell, h1, h2, h3, h4, h5, h6, h7⟩ := F
  exact ⟨cf, i, k, f, st, cell, h1, h2, h3, h4, K.2.1 st cell h5 (fun hm => by rw [q st hm cell h5] at h6; cases h6), h6, h7⟩
theorem own_selP {s : State} {args : Array Value} {y : MethodName} {k : Nat} (w1 : (Cond.instanceMethod y).before args s = true) (w2 : (Cond.privateMethod y).before args s = true) (w3 : (Cond.instantiable y.cls k).before args s = true)
    (hy : y.cls ≠ "java/lang/invoke/MethodHandle" ∧ y.cls ≠ "java/lang/invoke/VarHandle") : (Cond.selects y.cls y y).before args s = true := by
  obtain ⟨mk, meth, hn, hm, -, -⟩ := Cond.instanceMethod_spec w1
  have hp := Cond.privateMethod_at w2 mk meth hn hm
  have hf := State.methodFound?_of_named hn hy
  have hc := findClass_of_methodNamed hn
  obtain ⟨c2, k2, i1, i2, -, i4, -⟩ := Cond.instantiable_spec w3
  cases hc.symm.trans i1
  simp only [Bool.or_eq_false_iff] at i4
  simp [Cond.before, Cond.holds, Cond.value, hc, hf, hn, selectMethod_private hm hp, i2, i4.1]
theorem own_neVV {Z : State} {h : Heap} {a b : Addr} {k1 k2 : ClassId} {t1 t2 : FieldType} {z1 z2 : Int32} {v1 v2 : List Value} {d1 d2 : Value} (A : Arv Z h a k1 t1 z1 v1 d1) (B : Arv Z h b k2 t2 z2 v2 d2) (q : t1 ≠ t2) : a ≠ b := fun e => by
  subst e
  obtain ⟨c1, A1, -⟩ := A
  obtain ⟨c2, B1, -⟩ := B
  cases A1.1.symm.trans B1.1
  obtain ⟨-, k, g1, comp, g2⟩ := A1.2.1
  obtain ⟨-, k', g1', comp', g2'⟩ := B1.2.1
  cases g1.symm.trans g1'
  rw [g2] at g2'
  cases g2'
  exact q rfl
end New
end Jvm.RoadKit
namespace Jvm.Pilot.@@N@@
open Jvm Jvm.ClassFile Sem Op Lib Jvm.Free Jvm.Stand Jvm.LawKit Jvm.RoadKit Bundle Jvm.Pilot.@@N@@.Jvm.D
abbrev rom0 : Room := { frames := 0, cells := 0, slots := 0, locals := 0 }
abbrev rom1 : Room := { frames := 1, cells := 1, slots := 16, locals := 18 }
abbrev rom2 : Room := { frames := 1, cells := 2, slots := 17, locals := 12 }
abbrev rom3 : Room := { frames := 1, cells := 1, slots := 0, locals := 12 }
abbrev rom4 : Room := { frames := 1, cells := 1, slots := 1, locals := 12 }
abbrev rom5 : Room := { frames := 1, cells := 1, slots := 2, locals := 12 }
abbrev rom6 : Room := { frames := 1, cells := 1, slots := 3, locals := 12 }
abbrev rom7 : Room := { frames := 2, cells := 2, slots := 17, locals := 34 }
abbrev rom8 : Room := { frames := 3, cells := 2, slots := 17, locals := 49 }
set_option maxRecDepth 65536 in
theorem pnm0 : plainName "java/util/Arrays" = true := by first | (simp [plainName, overriddenIn]; done) | decide +kernel
set_option maxRecDepth 65536 in
theorem pnm1 : plainName "com/example/lumping/lumping/numbers/ChunkedInts" = true := by first | (simp [plainName, overriddenIn]; done) | decide +kernel
set_option maxRecDepth 65536 in
theorem pnm2 : plainName "com/example/lumping/lumping/numbers/ChunkedIntsSetPinLaw" = true := by first | (simp [plainName, overriddenIn]; done) | decide +kernel
abbrev mth0 : MethodName := ⟨"java/lang/Math", "max", "(II)I"⟩
abbrev mth1 : MethodName := ⟨"java/lang/Math", "min", "(II)I"⟩
abbrev mth2 : MethodName := ⟨"java/util/Arrays", "copyOf", "([II)[I"⟩
abbrev mth3 : MethodName := ⟨"com/example/lumping/lumping/numbers/ChunkedInts", "<init>", "()V"⟩
abbrev mth4 : MethodName := ⟨"com/example/lumping/lumping/numbers/ChunkedInts", "<init>", "(I)V"⟩
abbrev mth5 : MethodName := ⟨"com/example/lumping/lumping/numbers/ChunkedInts", "grow", "()V"⟩
abbrev mth6 : MethodName := ⟨"com/example/lumping/lumping/numbers/ChunkedInts", "add", "(I)V"⟩
abbrev mth7 : MethodName := ⟨"com/example/lumping/lumping/numbers/ChunkedInts", "set", "(II)V"⟩
abbrev mth8 : MethodName := ⟨"com/example/lumping/lumping/numbers/ChunkedInts", "get", "(I)I"⟩
abbrev mth9 : MethodName := ⟨"com/example/lumping/lumping/numbers/ChunkedInts", "size", "()I"⟩
abbrev mth10 : MethodName := ⟨"com/example/lumping/lumping/numbers/ChunkedIntsSetPinLaw", "expected", "(IIII)I"⟩
theorem d_jdk_29_method_65_code_0 : decode jdk_29_method_65_code 0 = .ok (.iload_n 0, 1) := by decide +kernel
theorem d_jdk_29_method_65_code_1 : decode jdk_29_method_65_code 1 = .ok (.iload_n 1, 1) := by decide +kernel
theorem d_jdk_29_method_65_code_2 : decode jdk_29_method_65_code 2 = .ok (.if_icmp .lt 7, 3) := by decide +kernel
theorem d_jdk_29_method_65_code_9 : decode jdk_29_method_65_code 9 = .ok (.iload_n 1, 1) := by decide +kernel
theorem d_jdk_29_method_65_code_10 : decode jdk_29_method_65_code 10 = .ok (.ireturn, 1) := by decide +kernel
theorem d_jdk_29_method_69_code_0 : decode jdk_29_method_69_code 0 = .ok (.iload_n 0, 1) := by decide +kernel
theorem d_jdk_29_method_69_code_1 : decode jdk_29_method_69_code 1 = .ok (.iload_n 1, 1) := by decide +kernel
theorem d_jdk_29_method_69_code_2 : decode jdk_29_method_69_code 2 = .ok (.if_icmp .gt 7, 3) := by decide +kernel
theorem d_jdk_29_method_69_code_5 : decode jdk_29_method_69_code 5 = .ok (.iload_n 0, 1) := by decide +kernel
theorem d_jdk_29_method_69_code_6 : decode jdk_29_method_69_code 6 = .ok (.goto 4, 3) := by decide +kernel
theorem d_jdk_29_method_69_code_10 : decode jdk_29_method_69_code 10 = .ok (.ireturn, 1) := by decide +kernel
theorem d_jdk_65_method_123_code_0 : decode jdk_65_method_123_code 0 = .ok (.iload_n 1, 1) := by decide +kernel
theorem d_jdk_65_method_123_code_1 : decode jdk_65_method_123_code 1 = .ok (.aload_n 0, 1) := by decide +kernel
theorem d_jdk_65_method_123_code_2 : decode jdk_65_method_123_code 2 = .ok (.arraylength, 1) := by decide +kernel
theorem d_jdk_65_method_123_code_3 : decode jdk_65_method_123_code 3 = .ok (.if_icmp .ne 11, 3) := by decide +kernel
theorem d_jdk_65_method_123_code_14 : decode jdk_65_method_123_code 14 = .ok (.iload_n 1, 1) := by decide +kernel
theorem d_jdk_65_method_123_code_15 : decode jdk_65_method_123_code 15 = .ok (.newarray .int, 2) := by decide +kernel
theorem d_jdk_65_method_123_code_17 : decode jdk_65_method_123_code 17 = .ok (.astore_n 2, 1) := by decide +kernel
theorem d_jdk_65_method_123_code_18 : decode jdk_65_method_123_code 18 = .ok (.aload_n 0, 1) := by decide +kernel
theorem d_jdk_65_method_123_code_19 : decode jdk_65_method_123_code 19 = .ok (.iconst 0, 1) := by decide +kernel
theorem d_jdk_65_method_123_code_20 : decode jdk_65_method_123_code 20 = .ok (.aload_n 2, 1) := by decide +kernel
theorem d_jdk_65_method_123_code_21 : decode jdk_65_method_123_code 21 = .ok (.iconst 0, 1) := by decide +kernel
theorem d_jdk_65_method_123_code_22 : decode jdk_65_method_123_code 22 = .ok (.aload_n 0, 1) := by decide +kernel
theorem d_jdk_65_method_123_code_23 : decode jdk_65_method_123_code 23 = .ok (.arraylength, 1) := by decide +kernel
theorem d_jdk_65_method_123_code_24 : decode jdk_65_method_123_code 24 = .ok (.iload_n 1, 1) := by decide +kernel
theorem d_jdk_65_method_123_code_25 : decode jdk_65_method_123_code 25 = .ok (.invokestatic 304, 3) := by decide +kernel
theorem d_jdk_65_method_123_code_28 : decode jdk_65_method_123_code 28 = .ok (.invokestatic 150, 3) := by decide +kernel
theorem d_jdk_65_method_123_code_31 : decode jdk_65_method_123_code 31 = .ok (.aload_n 2, 1) := by decide +kernel
theorem d_jdk_65_method_123_code_32 : decode jdk_65_method_123_code 32 = .ok (.areturn, 1) := by decide +kernel
theorem d_prog_79_method_1_code_0 : decode prog_79_method_1_code 0 = .ok (.aload_n 0, 1) := by decide +kernel
theorem d_prog_79_method_1_code_1 : decode prog_79_method_1_code 1 = .ok (.invokespecial 1, 3) := by decide +kernel
theorem d_prog_79_method_1_code_4 : decode prog_79_method_1_code 4 = .ok (.aload_n 0, 1) := by decide +kernel
theorem d_prog_79_method_1_code_5 : decode prog_79_method_1_code 5 = .ok (.iconst 1, 1) := by decide +kernel
theorem d_prog_79_method_1_code_6 : decode prog_79_method_1_code 6 = .ok (.anewarray 7, 3) := by decide +kernel
theorem d_prog_79_method_1_code_9 : decode prog_79_method_1_code 9 = .ok (.dup, 1) := by decide +kernel
theorem d_prog_79_method_1_code_10 : decode prog_79_method_1_code 10 = .ok (.iconst 0, 1) := by decide +kernel
theorem d_prog_79_method_1_code_11 : decode prog_79_method_1_code 11 = .ok (.bipush 16, 2) := by decide +kernel
theorem d_prog_79_method_1_code_13 : decode prog_79_method_1_code 13 = .ok (.newarray .int, 2) := by decide +kernel
theorem d_prog_79_method_1_code_15 : decode prog_79_method_1_code 15 = .ok (.aastore, 1) := by decide +kernel
theorem d_prog_79_method_1_code_16 : decode prog_79_method_1_code 16 = .ok (.putfield 9, 3) := by decide +kernel
theorem d_prog_79_method_1_code_19 : decode prog_79_method_1_code 19 = .ok (.aload_n 0, 1) := by decide +kernel
theorem d_prog_79_method_1_code_20 : decode prog_79_method_1_code 20 = .ok (.aload_n 0, 1) := by decide +kernel
theorem d_prog_79_method_1_code_21 : decode prog_79_method_1_code 21 = .ok (.getfield 9, 3) := by decide +kernel
theorem d_prog_79_method_1_code_24 : decode prog_79_method_1_code 24 = .ok (.iconst 0, 1) := by decide +kernel
theorem d_prog_79_method_1_code_25 : decode prog_79_method_1_code 25 = .ok (.aaload, 1) := by decide +kernel
theorem d_prog_79_method_1_code_26 : decode prog_79_method_1_code 26 = .ok (.putfield 15, 3) := by decide +kernel
theorem d_prog_79_method_1_code_29 : decode prog_79_method_1_code 29 = .ok (.return_, 1) := by decide +kernel
theorem d_prog_79_method_2_code_0 : decode prog_79_method_2_code 0 = .ok (.aload_n 0, 1) := by decide +kernel
theorem d_prog_79_method_2_code_1 : decode prog_79_method_2_code 1 = .ok (.invokespecial 1, 3) := by decide +kernel
theorem d_prog_79_method_2_code_4 : decode prog_79_method_2_code 4 = .ok (.aload_n 0, 1) := by decide +kernel
theorem d_prog_79_method_2_code_5 : decode prog_79_method_2_code 5 = .ok (.iload_n 1, 1) := by decide +kernel
theorem d_prog_79_method_2_code_6 : decode prog_79_method_2_code 6 = .ok (.newarray .int, 2) := by decide +kernel
theorem d_prog_79_method_2_code_8 : decode prog_79_method_2_code 8 = .ok (.putfield 18, 3) := by decide +kernel
theorem d_prog_79_method_2_code_11 : decode prog_79_method_2_code 11 = .ok (.aload_n 0, 1) := by decide +kernel
theorem d_prog_79_method_2_code_12 : decode prog_79_method_2_code 12 = .ok (.aload_n 0, 1) := by decide +kernel
theorem d_prog_79_method_2_code_13 : decode prog_79_method_2_code 13 = .ok (.getfield 18, 3) := by decide +kernel
theorem d_prog_79_method_2_code_16 : decode prog_79_method_2_code 16 = .ok (.putfield 15, 3) := by decide +kernel
theorem d_prog_79_method_2_code_19 : decode prog_79_method_2_code 19 = .ok (.return_, 1) := by decide +kernel
theorem d_prog_79_method_8_code_0 : decode prog_79_method_8_code 0 = .ok (.aload_n 0, 1) := by decide +kernel
theorem d_prog_79_method_8_code_1 : decode prog_79_method_8_code 1 = .ok (.getfield 18, 3) := by decide +kernel
theorem d_prog_79_method_8_code_4 : decode prog_79_method_8_code 4 = .ok (.ifnull 142, 3) := by decide +kernel
theorem d_prog_79_method_8_code_7 : decode prog_79_method_8_code 7 = .ok (.aload_n 0, 1) := by decide +kernel
theorem d_prog_79_method_8_code_8 : decode prog_79_method_8_code 8 = .ok (.getfield 21, 3) := by decide +kernel
theorem d_prog_79_method_8_code_11 : decode prog_79_method_8_code 11 = .ok (.ldc 25, 2) := by decide +kernel
theorem d_prog_79_method_8_code_13 : decode prog_79_method_8_code 13 = .ok (.idiv, 1) := by decide +kernel
theorem d_prog_79_method_8_code_14 : decode prog_79_method_8_code 14 = .ok (.istore_n 1, 1) := by decide +kernel
theorem d_prog_79_method_8_code_15 : decode prog_79_method_8_code 15 = .ok (.aload_n 0, 1) := by decide +kernel
theorem d_prog_79_method_8_code_16 : decode prog_79_method_8_code 16 = .ok (.iload_n 1, 1) := by decide +kernel
theorem d_prog_79_method_8_code_17 : decode prog_79_method_8_code 17 = .ok (.iconst 1, 1) := by decide +kernel
theorem d_prog_79_method_8_code_18 : decode prog_79_method_8_code 18 = .ok (.iadd, 1) := by decide +kernel
theorem d_prog_79_method_8_code_19 : decode prog_79_method_8_code 19 = .ok (.anewarray 7, 3) := by decide +kernel
theorem d_prog_79_method_8_code_22 : decode prog_79_method_8_code 22 = .ok (.putfield 9, 3) := by decide +kernel
theorem d_prog_79_method_8_code_25 : decode prog_79_method_8_code 25 = .ok (.iload_n 1, 1) := by decide +kernel
theorem d_prog_79_method_8_code_26 : decode prog_79_method_8_code 26 = .ok (.ifCond .ne 35, 3) := by decide +kernel
theorem d_prog_79_method_8_code_29 : decode prog_79_method_8_code 29 = .ok (.aload_n 0, 1) := by decide +kernel
theorem d_prog_79_method_8_code_30 : decode prog_79_method_8_code 30 = .ok (.getfield 9, 3) := by decide +kernel
theorem d_prog_79_method_8_code_33 : decode prog_79_method_8_code 33 = .ok (.iconst 0, 1) := by decide +kernel
theorem d_prog_79_method_8_code_34 : decode prog_79_method_8_code 34 = .ok (.aload_n 0, 1) := by decide +kernel
theorem d_prog_79_method_8_code_35 : decode prog_79_method_8_code 35 = .ok (.getfield 18, 3) := by decide +kernel
theorem d_prog_79_method_8_code_38 : decode prog_79_method_8_code 38 = .ok (.iconst 2, 1) := by decide +kernel
theorem d_prog_79_method_8_code_39 : decode prog_79_method_8_code 39 = .ok (.aload_n 0, 1) := by decide +kernel
theorem d_prog_79_method_8_code_40 : decode prog_79_method_8_code 40 = .ok (.getfield 21, 3) := by decide +kernel
theorem d_prog_79_method_8_code_43 : decode prog_79_method_8_code 43 = .ok (.imul, 1) := by decide +kernel
theorem d_prog_79_method_8_code_44 : decode prog_79_method_8_code 44 = .ok (.bipush 16, 2) := by decide +kernel
theorem d_prog_79_method_8_code_46 : decode prog_79_method_8_code 46 = .ok (.invokestatic 38, 3) := by decide +kernel
theorem d_prog_79_method_8_code_49 : decode prog_79_method_8_code 49 = .ok (.ldc 25, 2) := by decide +kernel
theorem d_prog_79_method_8_code_51 : decode prog_79_method_8_code 51 = .ok (.invokestatic 44, 3) := by decide +kernel
theorem d_prog_79_method_8_code_54 : decode prog_79_method_8_code 54 = .ok (.invokestatic 32, 3) := by decide +kernel
theorem d_prog_79_method_8_code_57 : decode prog_79_method_8_code 57 = .ok (.aastore, 1) := by decide +kernel
theorem d_prog_79_method_8_code_58 : decode prog_79_method_8_code 58 = .ok (.goto 57, 3) := by decide +kernel
theorem d_prog_79_method_8_code_115 : decode prog_79_method_8_code 115 = .ok (.aload_n 0, 1) := by decide +kernel
theorem d_prog_79_method_8_code_116 : decode prog_79_method_8_code 116 = .ok (.aconst_null, 1) := by decide +kernel
theorem d_prog_79_method_8_code_117 : decode prog_79_method_8_code 117 = .ok (.putfield 18, 3) := by decide +kernel
theorem d_prog_79_method_8_code_120 : decode prog_79_method_8_code 120 = .ok (.aload_n 0, 1) := by decide +kernel
theorem d_prog_79_method_8_code_121 : decode prog_79_method_8_code 121 = .ok (.aload_n 0, 1) := by decide +kernel
theorem d_prog_79_method_8_code_122 : decode prog_79_method_8_code 122 = .ok (.getfield 9, 3) := by decide +kernel
theorem d_prog_79_method_8_code_125 : decode prog_79_method_8_code 125 = .ok (.iload_n 1, 1) := by decide +kernel
theorem d_prog_79_method_8_code_126 : decode prog_79_method_8_code 126 = .ok (.aaload, 1) := by decide +kernel
theorem d_prog_79_method_8_code_127 : decode prog_79_method_8_code 127 = .ok (.putfield 15, 3) := by decide +kernel
theorem d_prog_79_method_8_code_130 : decode prog_79_method_8_code 130 = .ok (.aload_n 0, 1) := by decide +kernel
theorem d_prog_79_method_8_code_131 : decode prog_79_method_8_code 131 = .ok (.aload_n 0, 1) := by decide +kernel
theorem d_prog_79_method_8_code_132 : decode prog_79_method_8_code 132 = .ok (.getfield 21, 3) := by decide +kernel
theorem d_prog_79_method_8_code_135 : decode prog_79_method_8_code 135 = .ok (.iload_n 1, 1) := by decide +kernel
theorem d_prog_79_method_8_code_136 : decode prog_79_method_8_code 136 = .ok (.ldc 25, 2) := by decide +kernel
theorem d_prog_79_method_8_code_138 : decode prog_79_method_8_code 138 = .ok (.imul, 1) := by decide +kernel
theorem d_prog_79_method_8_code_139 : decode prog_79_method_8_code 139 = .ok (.isub, 1) := by decide +kernel
theorem d_prog_79_method_8_code_140 : decode prog_79_method_8_code 140 = .ok (.putfield 26, 3) := by decide +kernel
theorem d_prog_79_method_8_code_143 : decode prog_79_method_8_code 143 = .ok (.goto 110, 3) := by decide +kernel
theorem d_prog_79_method_8_code_253 : decode prog_79_method_8_code 253 = .ok (.return_, 1) := by decide +kernel
theorem d_prog_79_method_6_code_0 : decode prog_79_method_6_code 0 = .ok (.aload_n 0, 1) := by decide +kernel
theorem d_prog_79_method_6_code_1 : decode prog_79_method_6_code 1 = .ok (.getfield 26, 3) := by decide +kernel
theorem d_prog_79_method_6_code_4 : decode prog_79_method_6_code 4 = .ok (.aload_n 0, 1) := by decide +kernel
theorem d_prog_79_method_6_code_5 : decode prog_79_method_6_code 5 = .ok (.getfield 15, 3) := by decide +kernel
theorem d_prog_79_method_6_code_8 : decode prog_79_method_6_code 8 = .ok (.arraylength, 1) := by decide +kernel
theorem d_prog_79_method_6_code_9 : decode prog_79_method_6_code 9 = .ok (.if_icmp .ne 7, 3) := by decide +kernel
theorem d_prog_79_method_6_code_12 : decode prog_79_method_6_code 12 = .ok (.aload_n 0, 1) := by decide +kernel
theorem d_prog_79_method_6_code_13 : decode prog_79_method_6_code 13 = .ok (.invokevirtual 29, 3) := by decide +kernel
theorem d_prog_79_method_6_code_16 : decode prog_79_method_6_code 16 = .ok (.aload_n 0, 1) := by decide +kernel
theorem d_prog_79_method_6_code_17 : decode prog_79_method_6_code 17 = .ok (.getfield 15, 3) := by decide +kernel
theorem d_prog_79_method_6_code_20 : decode prog_79_method_6_code 20 = .ok (.aload_n 0, 1) := by decide +kernel
theorem d_prog_79_method_6_code_21 : decode prog_79_method_6_code 21 = .ok (.dup, 1) := by decide +kernel
theorem d_prog_79_method_6_code_22 : decode prog_79_method_6_code 22 = .ok (.getfield 26, 3) := by decide +kernel
theorem d_prog_79_method_6_code_25 : decode prog_79_method_6_code 25 = .ok (.dup_x1, 1) := by decide +kernel
theorem d_prog_79_method_6_code_26 : decode prog_79_method_6_code 26 = .ok (.iconst 1, 1) := by decide +kernel
theorem d_prog_79_method_6_code_27 : decode prog_79_method_6_code 27 = .ok (.iadd, 1) := by decide +kernel
theorem d_prog_79_method_6_code_28 : decode prog_79_method_6_code 28 = .ok (.putfield 26, 3) := by decide +kernel
theorem d_prog_79_method_6_code_31 : decode prog_79_method_6_code 31 = .ok (.iload_n 1, 1) := by decide +kernel
theorem d_prog_79_method_6_code_32 : decode prog_79_method_6_code 32 = .ok (.iastore, 1) := by decide +kernel
theorem d_prog_79_method_6_code_33 : decode prog_79_method_6_code 33 = .ok (.aload_n 0, 1) := by decide +kernel
theorem d_prog_79_method_6_code_34 : decode prog_79_method_6_code 34 = .ok (.dup, 1) := by decide +kernel
theorem d_prog_79_method_6_code_35 : decode prog_79_method_6_code 35 = .ok (.getfield 21, 3) := by decide +kernel
theorem d_prog_79_method_6_code_38 : decode prog_79_method_6_code 38 = .ok (.iconst 1, 1) := by decide +kernel
theorem d_prog_79_method_6_code_39 : decode prog_79_method_6_code 39 = .ok (.iadd, 1) := by decide +kernel
theorem d_prog_79_method_6_code_40 : decode prog_79_method_6_code 40 = .ok (.putfield 21, 3) := by decide +kernel
theorem d_prog_79_method_6_code_43 : decode prog_79_method_6_code 43 = .ok (.return_, 1) := by decide +kernel
theorem d_prog_79_method_5_code_0 : decode prog_79_method_5_code 0 = .ok (.aload_n 0, 1) := by decide +kernel
theorem d_prog_79_method_5_code_1 : decode prog_79_method_5_code 1 = .ok (.getfield 18, 3) := by decide +kernel
theorem d_prog_79_method_5_code_4 : decode prog_79_method_5_code 4 = .ok (.ifnull 13, 3) := by decide +kernel
theorem d_prog_79_method_5_code_7 : decode prog_79_method_5_code 7 = .ok (.aload_n 0, 1) := by decide +kernel
theorem d_prog_79_method_5_code_8 : decode prog_79_method_5_code 8 = .ok (.getfield 18, 3) := by decide +kernel
theorem d_prog_79_method_5_code_11 : decode prog_79_method_5_code 11 = .ok (.iload_n 1, 1) := by decide +kernel
theorem d_prog_79_method_5_code_12 : decode prog_79_method_5_code 12 = .ok (.iload_n 2, 1) := by decide +kernel
theorem d_prog_79_method_5_code_13 : decode prog_79_method_5_code 13 = .ok (.iastore, 1) := by decide +kernel
theorem d_prog_79_method_5_code_14 : decode prog_79_method_5_code 14 = .ok (.goto 18, 3) := by decide +kernel
theorem d_prog_79_method_5_code_32 : decode prog_79_method_5_code 32 = .ok (.return_, 1) := by decide +kernel
theorem d_prog_79_method_5_code_17 : decode prog_79_method_5_code 17 = .ok (.aload_n 0, 1) := by decide +kernel
theorem d_prog_79_method_5_code_18 : decode prog_79_method_5_code 18 = .ok (.getfield 9, 3) := by decide +kernel
theorem d_prog_79_method_5_code_21 : decode prog_79_method_5_code 21 = .ok (.iload_n 1, 1) := by decide +kernel
theorem d_prog_79_method_5_code_22 : decode prog_79_method_5_code 22 = .ok (.ldc 25, 2) := by decide +kernel
theorem d_prog_79_method_5_code_24 : decode prog_79_method_5_code 24 = .ok (.idiv, 1) := by decide +kernel
theorem d_prog_79_method_5_code_25 : decode prog_79_method_5_code 25 = .ok (.aaload, 1) := by decide +kernel
theorem d_prog_79_method_5_code_26 : decode prog_79_method_5_code 26 = .ok (.iload_n 1, 1) := by decide +kernel
theorem d_prog_79_method_5_code_27 : decode prog_79_method_5_code 27 = .ok (.ldc 25, 2) := by decide +kernel
theorem d_prog_79_method_5_code_29 : decode prog_79_method_5_code 29 = .ok (.irem, 1) := by decide +kernel
theorem d_prog_79_method_5_code_30 : decode prog_79_method_5_code 30 = .ok (.iload_n 2, 1) := by decide +kernel
theorem d_prog_79_method_5_code_31 : decode prog_79_method_5_code 31 = .ok (.iastore, 1) := by decide +kernel
theorem d_prog_79_method_4_code_0 : decode prog_79_method_4_code 0 = .ok (.aload_n 0, 1) := by decide +kernel
theorem d_prog_79_method_4_code_1 : decode prog_79_method_4_code 1 = .ok (.getfield 18, 3) := by decide +kernel
theorem d_prog_79_method_4_code_4 : decode prog_79_method_4_code 4 = .ok (.ifnull 12, 3) := by decide +kernel
theorem d_prog_79_method_4_code_7 : decode prog_79_method_4_code 7 = .ok (.aload_n 0, 1) := by decide +kernel
theorem d_prog_79_method_4_code_8 : decode prog_79_method_4_code 8 = .ok (.getfield 18, 3) := by decide +kernel
theorem d_prog_79_method_4_code_11 : decode prog_79_method_4_code 11 = .ok (.iload_n 1, 1) := by decide +kernel
theorem d_prog_79_method_4_code_12 : decode prog_79_method_4_code 12 = .ok (.iaload, 1) := by decide +kernel
theorem d_prog_79_method_4_code_13 : decode prog_79_method_4_code 13 = .ok (.goto 17, 3) := by decide +kernel
theorem d_prog_79_method_4_code_30 : decode prog_79_method_4_code 30 = .ok (.ireturn, 1) := by decide +kernel
theorem d_prog_79_method_4_code_16 : decode prog_79_method_4_code 16 = .ok (.aload_n 0, 1) := by decide +kernel
theorem d_prog_79_method_4_code_17 : decode prog_79_method_4_code 17 = .ok (.getfield 9, 3) := by decide +kernel
theorem d_prog_79_method_4_code_20 : decode prog_79_method_4_code 20 = .ok (.iload_n 1, 1) := by decide +kernel
theorem d_prog_79_method_4_code_21 : decode prog_79_method_4_code 21 = .ok (.ldc 25, 2) := by decide +kernel
theorem d_prog_79_method_4_code_23 : decode prog_79_method_4_code 23 = .ok (.idiv, 1) := by decide +kernel
theorem d_prog_79_method_4_code_24 : decode prog_79_method_4_code 24 = .ok (.aaload, 1) := by decide +kernel
theorem d_prog_79_method_4_code_25 : decode prog_79_method_4_code 25 = .ok (.iload_n 1, 1) := by decide +kernel
theorem d_prog_79_method_4_code_26 : decode prog_79_method_4_code 26 = .ok (.ldc 25, 2) := by decide +kernel
theorem d_prog_79_method_4_code_28 : decode prog_79_method_4_code 28 = .ok (.irem, 1) := by decide +kernel
theorem d_prog_79_method_4_code_29 : decode prog_79_method_4_code 29 = .ok (.iaload, 1) := by decide +kernel
theorem d_prog_79_method_3_code_0 : decode prog_79_method_3_code 0 = .ok (.aload_n 0, 1) := by decide +kernel
theorem d_prog_79_method_3_code_1 : decode prog_79_method_3_code 1 = .ok (.getfield 21, 3) := by decide +kernel
theorem d_prog_79_method_3_code_4 : decode prog_79_method_3_code 4 = .ok (.ireturn, 1) := by decide +kernel
theorem d_method_2_code_0 : decode method_2_code 0 = .ok (.iload_n 0, 1) := by decide +kernel
theorem d_method_2_code_1 : decode method_2_code 1 = .ok (.iload_n 1, 1) := by decide +kernel
theorem d_method_2_code_2 : decode method_2_code 2 = .ok (.if_icmp .ne 5, 3) := by decide +kernel
theorem d_method_2_code_5 : decode method_2_code 5 = .ok (.iload_n 2, 1) := by decide +kernel
theorem d_method_2_code_6 : decode method_2_code 6 = .ok (.ireturn, 1) := by decide +kernel
theorem d_method_2_code_7 : decode method_2_code 7 = .ok (.iload_n 3, 1) := by decide +kernel
theorem d_method_2_code_8 : decode method_2_code 8 = .ok (.ireturn, 1) := by decide +kernel
theorem pd_II_I : parseMethodDescriptor "(II)I" = some ⟨[.int, .int], some .int⟩ := by decide +kernel
theorem pd_II__I : parseMethodDescriptor "([II)[I" = some ⟨[(.array .int), .int], some (.array .int)⟩ := by decide +kernel
theorem pd_V : parseMethodDescriptor "()V" = some ⟨[], none⟩ := by decide +kernel
theorem pd_II_V : parseMethodDescriptor "(II)V" = some ⟨[.int, .int], none⟩ := by decide +kernel
theorem pd_I_I : parseMethodDescriptor "(I)I" = some ⟨[.int], some .int⟩ := by decide +kernel
theorem pd_I : parseMethodDescriptor "()I" = some ⟨[], some .int⟩ := by decide +kernel
theorem pd_IIII_I : parseMethodDescriptor "(IIII)I" = some ⟨[.int, .int, .int, .int], some .int⟩ := by decide +kernel
theorem pd_I_V : parseMethodDescriptor "(I)V" = some ⟨[.int], none⟩ := by decide +kernel
theorem ef_mx1 (m : MethodId) (x0 : Int32) (x1 : Int32) : entryFrame m #[(.int x0), (.int x1)] 2 = mkF m 0 #[.val (.int x0), .val (.int x1)] [] := by first | (simp [entryFrame, mkF, argsToLocals, Value.category]; done) | rfl
def Q_mx1 (Z : State) (p0 : Int32) (p1 : Int32) (h0 : Heap) (n0 : Nat) (v : Option Value) (h : Heap) (L : List Loc) : Prop := v = some (.int p1) ∧ Fr n0 L ∧ h = h0
set_option maxRecDepth 65536 in
set_option maxHeartbeats 40000000 in
theorem mx1 (l : Launch) (Z : State) (a0 : Array Value) (hw : ∀ d ∈ tables_1, d.before a0 Z = true) (ws : List Jvm.Cond) (p0 : Int32) (p1 : Int32) (h0 : Heap) (n0 : Nat) (Z0 : n0 ≤ h0.size) (H : p0 < p1) :
    MetFree l mth0 (head1 (Jvm.Cond.code mth0 jdk_29_method_65_code 2 (some .int) :: ws) rom0) (fun a U => a = #[(.int p0), (.int p1)] ∧ Z.Warmed39 U.vm ∧ U.heap = h0) (fun _ _ _ _ _ => True) (fun _ U o U' => ∃ v L, o = .returned v ∧ Q_mx1 Z p0 p1 h0 n0 v U'.heap L ∧ FrameEnd U o U' L rom0.cells rom0.slots) := by
  refine MetFree.of_bodySF (Jvm.Free.JP.mathPlain rfl (by decide +kernel)) hisR ?_
  intro p e s m args below meth c s₁ Bd hml0 hP hK
  obtain ⟨rfl, hZ, hh⟩ := hP
  have hx := Bd.exec
  have hby := Bd.bytes
  have hml : c.maxLocals = 2 := hml0
  have hown : s.vm.findClass "java/lang/Math" = some m.cls := findClass_of_methodNamed Bd.named
  have hnm := (name_of_methodNamed Bd.named Bd.method).1
  have X0 : Stand p l e rom0 s m #[(.int p0), (.int p1)] below meth c s₁ [] 0 0 := Stand.of_body Bd
  have eh0 : s₁.heap = h0 := by rw [← hh, Bd.state]; rfl
  have N0 := Fr.nil n0
  show Goes p e below (Pq (Q_mx1 Z p0 p1 h0 n0) s rom0.cells rom0.slots) (s₁.setTop (entryFrame m #[(.int p0), (.int p1)] 2))
  refine Goes.step (S' := s₁.setTop (mkF m 0 #[.val (.int p0), .val (.int p1)] [])) (fun t k => castTop (ef_mx1 m p0 p1) k) ?_
  refine Goes.step (S' := s₁.setTop (mkF m 10 #[.val (.int p0), .val (.int p1)] [(.int p1)])) (fun t k => XS.iloadN X0.here hx rfl (hb hby d_jdk_29_method_65_code_0) rfl (XS.iloadN X0.here hx rfl (hb hby d_jdk_29_method_65_code_1) rfl (XS.icmpYes X0.here hx rfl (pc0 := 2) (pc' := 9) rfl (hb hby d_jdk_29_method_65_code_2) rfl (tlt (H : p0 < p1)).1 (by decide) (by decide) (XS.iloadN X0.here hx rfl (hb hby d_jdk_29_method_65_code_9) rfl k)))) ?_
  refine Goes.leave (g := (mkF m 10 #[.val (.int p0), .val (.int p1)] [(.int p1)])) X0 Bd.notSynchronized (v := (some (.int p1))) (fun h => by rw [Bd.returns] at h; cases h) (fun fs hr => retI X0 hx Bd.returns (hb hby d_jdk_29_method_65_code_10) hr) eh0 ?_ (by decide) (by decide)
  exact ⟨rfl, N0, rfl⟩

theorem ef_mn0 (m : MethodId) (x0 : Int32) (x1 : Int32) : entryFrame m #[(.int x0), (.int x1)] 2 = mkF m 0 #[.val (.int x0), .val (.int x1)] [] := by first | (simp [entryFrame, mkF, argsToLocals, Value.category]; done) | rfl
def Q_mn0 (Z : State) (p0 : Int32) (p1 : Int32) (h0 : Heap) (n0 : Nat) (v : Option Value) (h : Heap) (L : List Loc) : Prop := v = some (.int p0) ∧ Fr n0 L ∧ h = h0
set_option maxRecDepth 65536 in
set_option maxHeartbeats 40000000 in
theorem mn0 (l : Launch) (Z : State) (a0 : Array Value) (hw : ∀ d ∈ tables_1, d.before a0 Z = true) (ws : List Jvm.Cond) (p0 : Int32) (p1 : Int32) (h0 : Heap) (n0 : Nat) (Z0 : n0 ≤ h0.size) (H : ¬ (p1 < p0)) :
    MetFree l mth1 (head1 (Jvm.Cond.code mth1 jdk_29_method_69_code 2 (some .int) :: ws) rom0) (fun a U => a = #[(.int p0), (.int p1)] ∧ Z.Warmed39 U.vm ∧ U.heap = h0) (fun _ _ _ _ _ => True) (fun _ U o U' => ∃ v L, o = .returned v ∧ Q_mn0 Z p0 p1 h0 n0 v U'.heap L ∧ FrameEnd U o U' L rom0.cells rom0.slots) := by
  refine MetFree.of_bodySF (Jvm.Free.JP.mathPlain rfl (by decide +kernel)) hisR ?_
  intro p e s m args below meth c s₁ Bd hml0 hP hK
  obtain ⟨rfl, hZ, hh⟩ := hP
  have hx := Bd.exec
  have hby := Bd.bytes
  have hml : c.maxLocals = 2 := hml0
  have hown : s.vm.findClass "java/lang/Math" = some m.cls := findClass_of_methodNamed Bd.named
  have hnm := (name_of_methodNamed Bd.named Bd.method).1
  have X0 : Stand p l e rom0 s m #[(.int p0), (.int p1)] below meth c s₁ [] 0 0 := Stand.of_body Bd
  have eh0 : s₁.heap = h0 := by rw [← hh, Bd.state]; rfl
  have N0 := Fr.nil n0
  show Goes p e below (Pq (Q_mn0 Z p0 p1 h0 n0) s rom0.cells rom0.slots) (s₁.setTop (entryFrame m #[(.int p0), (.int p1)] 2))
  refine Goes.step (S' := s₁.setTop (mkF m 0 #[.val (.int p0), .val (.int p1)] [])) (fun t k => castTop (ef_mn0 m p0 p1) k) ?_
  refine Goes.step (S' := s₁.setTop (mkF m 10 #[.val (.int p0), .val (.int p1)] [(.int p0)])) (fun t k => XS.iloadN X0.here hx rfl (hb hby d_jdk_29_method_69_code_0) rfl (XS.iloadN X0.here hx rfl (hb hby d_jdk_29_method_69_code_1) rfl (XS.icmpNo X0.here hx rfl (hb hby d_jdk_29_method_69_code_2) rfl (flt (H : ¬ (p1 < p0))).2.2.1 (XS.iloadN X0.here hx rfl (hb hby d_jdk_29_method_69_code_5) rfl (XS.goto X0.here hx rfl (pc0 := 6) (pc' := 10) rfl (hb hby d_jdk_29_method_69_code_6) (by decide) (by decide) k))))) ?_
  refine Goes.leave (g := (mkF m 10 #[.val (.int p0), .val (.int p1)] [(.int p0)])) X0 Bd.notSynchronized (v := (some (.int p0))) (fun h => by rw [Bd.returns] at h; cases h) (fun fs hr => retI X0 hx Bd.returns (hb hby d_jdk_29_method_69_code_10) hr) eh0 ?_ (by decide) (by decide)
  exact ⟨rfl, N0, rfl⟩

theorem ef_cpy0 (m : MethodId) (x0 : Addr) (x1 : Int32) : entryFrame m #[(.ref x0), (.int x1)] 3 = mkF m 0 #[.val (.ref x0), .val (.int x1), .unset] [] := by first | (simp [entryFrame, mkF, argsToLocals, Value.category]; done) | rfl
def Q_cpy0 (Z : State) (a1 : Addr) (k1 : ClassId) (h0 : Heap) (n0 : Nat) (v : Option Value) (h : Heap) (L : List Loc) : Prop := ∃ (b : Addr) (kb : ClassId), v = some (.ref b) ∧ Fr n0 L ∧ Keep h0 h [] ∧ h0.size ≤ b ∧ Exa Z h b "[I" ∧ Arv Z h b kb .int (16 : Int32) [(.int (0 : Int32)), (.int (0 : Int32)), (.int (0 : Int32)), (.int (0 : Int32)), (.int (0 : Int32)), (.int (0 : Int32)), (.int (0 : Int32)), (.int (0 : Int32)), (.int (0 : Int32)), (.int (0 : Int32)), (.int (0 : Int32)), (.int (0 : Int32)), (.int (0 : Int32)), (.int (0 : Int32)), (.int (0 : Int32)), (.int (0 : Int32))] (.int (0 : Int32))
set_option maxRecDepth 65536 in
set_option maxHeartbeats 40000000 in
theorem cpy0 (l : Launch) (Z : State) (a0 : Array Value) (hw : ∀ d ∈ tables_1, d.before a0 Z = true) (ws : List Jvm.Cond) (a1 : Addr) (k1 : ClassId) (h0 : Heap) (n0 : Nat) (Z0 : n0 ≤ h0.size) (V1 : Arv Z h0 a1 k1 .int (0 : Int32) [] (.int (0 : Int32))) :
    MetFree l mth2 (head1 (Jvm.Cond.code mth2 jdk_65_method_123_code 3 (some (.array .int)) :: ws) rom1) (fun a U => a = #[(.ref a1), (.int (16 : Int32))] ∧ Z.Warmed39 U.vm ∧ U.heap = h0) (fun _ _ _ _ _ => True) (fun _ U o U' => ∃ v L, o = .returned v ∧ Q_cpy0 Z a1 k1 h0 n0 v U'.heap L ∧ FrameEnd U o U' L rom1.cells rom1.slots) := by
  refine MetFree.of_bodySF (plainFor_of_name pnm0) hisR ?_
  intro p e s m args below meth c s₁ Bd hml0 hP hK
  obtain ⟨rfl, hZ, hh⟩ := hP
  have hx := Bd.exec
  have hby := Bd.bytes
  have hml : c.maxLocals = 3 := hml0
  have hown : s.vm.findClass "java/util/Arrays" = some m.cls := findClass_of_methodNamed Bd.named
  have hnm := (name_of_methodNamed Bd.named Bd.method).1
  have X0 : Stand p l e rom1 s m #[(.ref a1), (.int (16 : Int32))] below meth c s₁ [] 0 0 := Stand.of_body Bd
  have eh0 : s₁.heap = h0 := by rw [← hh, Bd.state]; rfl
  have N0 := Fr.nil n0
  have tw9 := hw _ (List.mem_of_getElem? (i := 9) rfl)
  have tw34 := hw _ (List.mem_of_getElem? (i := 34) rfl)
  have tw37 := hw _ (List.mem_of_getElem? (i := 37) rfl)
  have tw38 := hw _ (List.mem_of_getElem? (i := 38) rfl)
  have tw43 := hw _ (List.mem_of_getElem? (i := 43) rfl)
  have tw44 := hw _ (List.mem_of_getElem? (i := 44) rfl)
  have tw45 := hw _ (List.mem_of_getElem? (i := 45) rfl)
  have tw46 := hw _ (List.mem_of_getElem? (i := 46) rfl)
  have tw47 := hw _ (List.mem_of_getElem? (i := 47) rfl)
  show Goes p e below (Pq (Q_cpy0 Z a1 k1 h0 n0) s rom1.cells rom1.slots) (s₁.setTop (entryFrame m #[(.ref a1), (.int (16 : Int32))] 3))
  refine Goes.step (S' := s₁.setTop (mkF m 0 #[.val (.ref a1), .val (.int (16 : Int32)), .unset] [])) (fun t k => castTop (ef_cpy0 m a1 (16 : Int32)) k) ?_
  refine Goes.step (S' := s₁.setTop (mkF m 2 #[.val (.ref a1), .val (.int (16 : Int32)), .unset] [(.ref a1), (.int (16 : Int32))])) (fun t k => XS.iloadN X0.here hx rfl (hb hby d_jdk_65_method_123_code_0) rfl (XS.aloadN X0.here hx rfl (hb hby d_jdk_65_method_123_code_1) rfl rfl k)) ?_
  obtain ⟨cl101, Ar101, qk101, Sz101, Nn101, Hs101, Gs101⟩ := id V1
  refine Goes.step (S' := s₁.setTop (mkF m 3 #[.val (.ref a1), .val (.int (16 : Int32)), .unset] [(.int (0 : Int32)), (.int (16 : Int32))])) (fun t k => X0.arraylength hx (by rw [eh0]; exact Ar101.1) (State.isArrayOf_alike hZ.alike Ar101.2.1) (g := (mkF m 2 #[.val (.ref a1), .val (.int (16 : Int32)), .unset] [(.ref a1), (.int (16 : Int32))])) rfl rfl (hb hby d_jdk_65_method_123_code_2) _ (by rw [len_of Sz101 Nn101]; exact k)) ?_
  refine Goes.step (S' := s₁.setTop (mkF m 15 #[.val (.ref a1), .val (.int (16 : Int32)), .unset] [(.int (16 : Int32))])) (fun t k => XS.icmpYes X0.here hx rfl (pc0 := 3) (pc' := 14) rfl (hb hby d_jdk_65_method_123_code_3) rfl (feq ((by decide) : ¬ ((16 : Int32) = (0 : Int32)))).2 (by decide) (by decide) (XS.iloadN X0.here hx rfl (hb hby d_jdk_65_method_123_code_14) rfl k)) ?_
  obtain ⟨T102, h102, k102, X102, e102, E102, A102, AE102, st102⟩ := newPE (aty := .int) X0 hx hZ tw9 eh0 (g := (mkF m 15 #[.val (.ref a1), .val (.int (16 : Int32)), .unset] [(.int (16 : Int32))])) rfl (hb hby d_jdk_65_method_123_code_15) rfl (by decide) (cap := 16) (by decide) (by decide) (by decide) (by decide) (ad := "[I") rfl
  obtain ⟨b102, g102⟩ : ∃ z, z = h0.size := ⟨_, rfl⟩
  rw [← g102] at A102 AE102 st102
  have V102 : Arv Z h102 b102 k102 .int (16 : Int32) [(.int (0 : Int32)), (.int (0 : Int32)), (.int (0 : Int32)), (.int (0 : Int32)), (.int (0 : Int32)), (.int (0 : Int32)), (.int (0 : Int32)), (.int (0 : Int32)), (.int (0 : Int32)), (.int (0 : Int32)), (.int (0 : Int32)), (.int (0 : Int32)), (.int (0 : Int32)), (.int (0 : Int32)), (.int (0 : Int32)), (.int (0 : Int32))] (.int (0 : Int32)) := (Arv.new A102 (by decide)).pad (pad_rep [] (.int (0 : Int32)) 16)
  refine Goes.step (S' := T102.setTop (mkF m 23 #[.val (.ref a1), .val (.int (16 : Int32)), .val (.ref b102)] [(.ref a1), (.int (0 : Int32)), (.ref b102), (.int (0 : Int32)), (.ref a1)])) (fun t k => st102 _ (XS.astoreN X102.here hx rfl (hb hby d_jdk_65_method_123_code_17) rfl rfl (l' := #[.val (.ref a1), .val (.int (16 : Int32)), .val (.ref b102)]) rfl (XS.aloadN X102.here hx rfl (hb hby d_jdk_65_method_123_code_18) rfl rfl (XS.iconst X102.here hx rfl (hb hby d_jdk_65_method_123_code_19) (XS.aloadN X102.here hx rfl (hb hby d_jdk_65_method_123_code_20) rfl rfl (XS.iconst X102.here hx rfl (hb hby d_jdk_65_method_123_code_21) (XS.aloadN X102.here hx rfl (hb hby d_jdk_65_method_123_code_22) rfl rfl k))))))) ?_
  obtain ⟨cl103, Ar103, qk103, Sz103, Nn103, Hs103, Gs103⟩ := id (V1.ext E102)
  refine Goes.step (S' := T102.setTop (mkF m 24 #[.val (.ref a1), .val (.int (16 : Int32)), .val (.ref b102)] [(.int (0 : Int32)), (.int (0 : Int32)), (.ref b102), (.int (0 : Int32)), (.ref a1)])) (fun t k => X102.arraylength hx (by rw [e102]; exact Ar103.1) (State.isArrayOf_alike hZ.alike Ar103.2.1) (g := (mkF m 23 #[.val (.ref a1), .val (.int (16 : Int32)), .val (.ref b102)] [(.ref a1), (.int (0 : Int32)), (.ref b102), (.int (0 : Int32)), (.ref a1)])) rfl rfl (hb hby d_jdk_65_method_123_code_23) _ (by rw [len_of Sz103 Nn103]; exact k)) ?_
  refine Goes.step (S' := T102.setTop (mkF m 25 #[.val (.ref a1), .val (.int (16 : Int32)), .val (.ref b102)] [(.int (16 : Int32)), (.int (0 : Int32)), (.int (0 : Int32)), (.ref b102), (.int (0 : Int32)), (.ref a1)])) (fun t k => XS.iloadN X102.here hx rfl (hb hby d_jdk_65_method_123_code_24) rfl k) ?_
  obtain ⟨_, _, ⟨T104, L104, k104, n104⟩, -, X104, ⟨Lc104, hQ104, l104, y104, z104⟩, st104⟩ := Jvm.LawKit.callS X102 hx (y := mth1) hown (mvT hZ tw43) (mvT hZ tw37) (mvT hZ tw34) (mvT hZ tw38) (by decide) (backOf (W := 4) (mn0 l Z a0 hw [] (0 : Int32) (16 : Int32) h102 n0 (Nat.le_trans Z0 E102.1) ((by decide) : ¬ ((16 : Int32) < (0 : Int32)))) hZ tw38 tw34 (by decide) (by decide)) (g := (mkF m 25 #[.val (.ref a1), .val (.int (16 : Int32)), .val (.ref b102)] [(.int (16 : Int32)), (.int (0 : Int32)), (.int (0 : Int32)), (.ref b102), (.int (0 : Int32)), (.ref a1)])) rfl (by rw [hml]; rfl) (argsL := [(.int (0 : Int32)), (.int (16 : Int32))]) (rest := [(.int (0 : Int32)), (.ref b102), (.int (0 : Int32)), (.ref a1)]) (lenOf pd_II_I rfl) rfl (Nat.le_of_eq rfl) (hb hby d_jdk_65_method_123_code_25) (fun _ _ => ⟨rfl, e102, (by decide : 1 + 0 ≤ _), (by decide : 16 + 0 ≤ _)⟩)
  dsimp only [Pt.U, Pt.locs, Pt.cells, Pt.slots] at X104 l104 y104 z104 st104 hQ104
  subst l104 y104 z104
  obtain ⟨rfl, Nq104, q104_0⟩ := hQ104
  have N104 := Fr.app N0 Nq104
  refine Goes.step (S' := T104.setTop (mkF m 28 #[.val (.ref a1), .val (.int (16 : Int32)), .val (.ref b102)] [(.int (0 : Int32)), (.int (0 : Int32)), (.ref b102), (.int (0 : Int32)), (.ref a1)])) (fun t k => st104 _ k) ?_
  obtain ⟨T105, h105, L105, X105, e105, N105, K105, Vr105, st105⟩ := cpA X104 hx hZ hown tw44 tw47 tw45 tw46 q104_0 (sp := (0 : Int32)) (dp := (0 : Int32)) (nn := (0 : Int32)) (us := []) (V1.ext E102) V102 (Or.inl ⟨rfl, rfl⟩) (by decide) (by decide) (by decide) (by decide) (by decide) rfl (by decide) N104 (Nat.le_trans Z0 (Nat.le_of_eq g102.symm)) (g := (mkF m 28 #[.val (.ref a1), .val (.int (16 : Int32)), .val (.ref b102)] [(.int (0 : Int32)), (.int (0 : Int32)), (.ref b102), (.int (0 : Int32)), (.ref a1)])) rfl (by rw [hml]; rfl) rfl (hb hby d_jdk_65_method_123_code_28) (by decide) (W := 0) (Nat.le_of_eq rfl) (by decide)
  have V105 : Arv Z h105 b102 k102 .int (16 : Int32) [(.int (0 : Int32)), (.int (0 : Int32)), (.int (0 : Int32)), (.int (0 : Int32)), (.int (0 : Int32)), (.int (0 : Int32)), (.int (0 : Int32)), (.int (0 : Int32)), (.int (0 : Int32)), (.int (0 : Int32)), (.int (0 : Int32)), (.int (0 : Int32)), (.int (0 : Int32)), (.int (0 : Int32)), (.int (0 : Int32)), (.int (0 : Int32))] (.int (0 : Int32)) := Vr105
  refine Goes.step (S' := T105.setTop (mkF m 32 #[.val (.ref a1), .val (.int (16 : Int32)), .val (.ref b102)] [(.ref b102)])) (fun t k => st105 _ (XS.aloadN X105.here hx rfl (hb hby d_jdk_65_method_123_code_31) rfl rfl k)) ?_
  refine Goes.leave (g := (mkF m 32 #[.val (.ref a1), .val (.int (16 : Int32)), .val (.ref b102)] [(.ref b102)])) X105 Bd.notSynchronized (v := (some (.ref b102))) (fun h => by rw [Bd.returns] at h; cases h) (fun fs hr => by jvm_step X105.here [X105.here.top, hx, (hb hby d_jdk_65_method_123_code_32), X105.method', Bd.returns, Value.isRef, FieldType.isReference]; (first | (intro acts; rw [hr _ acts rfl rfl rfl]) | rw [hr _ _ rfl rfl rfl]); exact Steps.refl _) e105 ?_ (by decide) (by decide)
  exact ⟨b102, k102, rfl, N105, (((Keep.refl _ []).ext E102).trans K105 (allS (Or.inr (Nat.le_of_eq g102.symm)) all0)), (Nat.le_of_eq g102.symm), (AE102.keep K105), V105⟩

theorem ef_cpy1 (m : MethodId) (x0 : Addr) (x1 : Int32) : entryFrame m #[(.ref x0), (.int x1)] 3 = mkF m 0 #[.val (.ref x0), .val (.int x1), .unset] [] := by first | (simp [entryFrame, mkF, argsToLocals, Value.category]; done) | rfl
def Q_cpy1 (Z : State) (a1 : Addr) (k1 : ClassId) (e0 : Int32) (h0 : Heap) (n0 : Nat) (v : Option Value) (h : Heap) (L : List Loc) : Prop := ∃ (b : Addr) (kb : ClassId), v = some (.ref b) ∧ Fr n0 L ∧ Keep h0 h [] ∧ h0.size ≤ b ∧ Exa Z h b "[I" ∧ Arv Z h b kb .int (16 : Int32) [(.int e0), (.int (0 : Int32)), (.int (0 : Int32)), (.int (0 : Int32)), (.int (0 : Int32)), (.int (0 : Int32)), (.int (0 : Int32)), (.int (0 : Int32)), (.int (0 : Int32)), (.int (0 : Int32)), (.int (0 : Int32)), (.int (0 : Int32)), (.int (0 : Int32)), (.int (0 : Int32)), (.int (0 : Int32)), (.int (0 : Int32))] (.int (0 : Int32))
set_option maxRecDepth 65536 in
set_option maxHeartbeats 40000000 in
theorem cpy1 (l : Launch) (Z : State) (a0 : Array Value) (hw : ∀ d ∈ tables_1, d.before a0 Z = true) (ws : List Jvm.Cond) (a1 : Addr) (k1 : ClassId) (e0 : Int32) (h0 : Heap) (n0 : Nat) (Z0 : n0 ≤ h0.size) (V1 : Arv Z h0 a1 k1 .int (1 : Int32) [(.int e0)] (.int (0 : Int32))) :
    MetFree l mth2 (head1 (Jvm.Cond.code mth2 jdk_65_method_123_code 3 (some (.array .int)) :: ws) rom1) (fun a U => a = #[(.ref a1), (.int (16 : Int32))] ∧ Z.Warmed39 U.vm ∧ U.heap = h0) (fun _ _ _ _ _ => True) (fun _ U o U' => ∃ v L, o = .returned v ∧ Q_cpy1 Z a1 k1 e0 h0 n0 v U'.heap L ∧ FrameEnd U o U' L rom1.cells rom1.slots) := by
  refine MetFree.of_bodySF (plainFor_of_name pnm0) hisR ?_
  intro p e s m args below meth c s₁ Bd hml0 hP hK
  obtain ⟨rfl, hZ, hh⟩ := hP
  have hx := Bd.exec
  have hby := Bd.bytes
  have hml : c.maxLocals = 3 := hml0
  have hown : s.vm.findClass "java/util/Arrays" = some m.cls := findClass_of_methodNamed Bd.named
  have hnm := (name_of_methodNamed Bd.named Bd.method).1
  have X0 : Stand p l e rom1 s m #[(.ref a1), (.int (16 : Int32))] below meth c s₁ [] 0 0 := Stand.of_body Bd
  have eh0 : s₁.heap = h0 := by rw [← hh, Bd.state]; rfl
  have N0 := Fr.nil n0
  have tw9 := hw _ (List.mem_of_getElem? (i := 9) rfl)
  have tw34 := hw _ (List.mem_of_getElem? (i := 34) rfl)
  have tw37 := hw _ (List.mem_of_getElem? (i := 37) rfl)
  have tw38 := hw _ (List.mem_of_getElem? (i := 38) rfl)
  have tw43 := hw _ (List.mem_of_getElem? (i := 43) rfl)
  have tw44 := hw _ (List.mem_of_getElem? (i := 44) rfl)
  have tw45 := hw _ (List.mem_of_getElem? (i := 45) rfl)
  have tw46 := hw _ (List.mem_of_getElem? (i := 46) rfl)
  have tw47 := hw _ (List.mem_of_getElem? (i := 47) rfl)
  show Goes p e below (Pq (Q_cpy1 Z a1 k1 e0 h0 n0) s rom1.cells rom1.slots) (s₁.setTop (entryFrame m #[(.ref a1), (.int (16 : Int32))] 3))
  refine Goes.step (S' := s₁.setTop (mkF m 0 #[.val (.ref a1), .val (.int (16 : Int32)), .unset] [])) (fun t k => castTop (ef_cpy1 m a1 (16 : Int32)) k) ?_
  refine Goes.step (S' := s₁.setTop (mkF m 2 #[.val (.ref a1), .val (.int (16 : Int32)), .unset] [(.ref a1), (.int (16 : Int32))])) (fun t k => XS.iloadN X0.here hx rfl (hb hby d_jdk_65_method_123_code_0) rfl (XS.aloadN X0.here hx rfl (hb hby d_jdk_65_method_123_code_1) rfl rfl k)) ?_
  obtain ⟨cl101, Ar101, qk101, Sz101, Nn101, Hs101, Gs101⟩ := id V1
  refine Goes.step (S' := s₁.setTop (mkF m 3 #[.val (.ref a1), .val (.int (16 : Int32)), .unset] [(.int (1 : Int32)), (.int (16 : Int32))])) (fun t k => X0.arraylength hx (by rw [eh0]; exact Ar101.1) (State.isArrayOf_alike hZ.alike Ar101.2.1) (g := (mkF m 2 #[.val (.ref a1), .val (.int (16 : Int32)), .unset] [(.ref a1), (.int (16 : Int32))])) rfl rfl (hb hby d_jdk_65_method_123_code_2) _ (by rw [len_of Sz101 Nn101]; exact k)) ?_
  refine Goes.step (S' := s₁.setTop (mkF m 15 #[.val (.ref a1), .val (.int (16 : Int32)), .unset] [(.int (16 : Int32))])) (fun t k => XS.icmpYes X0.here hx rfl (pc0 := 3) (pc' := 14) rfl (hb hby d_jdk_65_method_123_code_3) rfl (feq ((by decide) : ¬ ((16 : Int32) = (1 : Int32)))).2 (by decide) (by decide) (XS.iloadN X0.here hx rfl (hb hby d_jdk_65_method_123_code_14) rfl k)) ?_
  obtain ⟨T102, h102, k102, X102, e102, E102, A102, AE102, st102⟩ := newPE (aty := .int) X0 hx hZ tw9 eh0 (g := (mkF m 15 #[.val (.ref a1), .val (.int (16 : Int32)), .unset] [(.int (16 : Int32))])) rfl (hb hby d_jdk_65_method_123_code_15) rfl (by decide) (cap := 16) (by decide) (by decide) (by decide) (by decide) (ad := "[I") rfl
  obtain ⟨b102, g102⟩ : ∃ z, z = h0.size := ⟨_, rfl⟩
  rw [← g102] at A102 AE102 st102
  have V102 : Arv Z h102 b102 k102 .int (16 : Int32) [(.int (0 : Int32)), (.int (0 : Int32)), (.int (0 : Int32)), (.int (0 : Int32)), (.int (0 : Int32)), (.int (0 : Int32)), (.int (0 : Int32)), (.int (0 : Int32)), (.int (0 : Int32)), (.int (0 : Int32)), (.int (0 : Int32)), (.int (0 : Int32)), (.int (0 : Int32)), (.int (0 : Int32)), (.int (0 : Int32)), (.int (0 : Int32))] (.int (0 : Int32)) := (Arv.new A102 (by decide)).pad (pad_rep [] (.int (0 : Int32)) 16)
  refine Goes.step (S' := T102.setTop (mkF m 23 #[.val (.ref a1), .val (.int (16 : Int32)), .val (.ref b102)] [(.ref a1), (.int (0 : Int32)), (.ref b102), (.int (0 : Int32)), (.ref a1)])) (fun t k => st102 _ (XS.astoreN X102.here hx rfl (hb hby d_jdk_65_method_123_code_17) rfl rfl (l' := #[.val (.ref a1), .val (.int (16 : Int32)), .val (.ref b102)]) rfl (XS.aloadN X102.here hx rfl (hb hby d_jdk_65_method_123_code_18) rfl rfl (XS.iconst X102.here hx rfl (hb hby d_jdk_65_method_123_code_19) (XS.aloadN X102.here hx rfl (hb hby d_jdk_65_method_123_code_20) rfl rfl (XS.iconst X102.here hx rfl (hb hby d_jdk_65_method_123_code_21) (XS.aloadN X102.here hx rfl (hb hby d_jdk_65_method_123_code_22) rfl rfl k))))))) ?_
  obtain ⟨cl103, Ar103, qk103, Sz103, Nn103, Hs103, Gs103⟩ := id (V1.ext E102)
  refine Goes.step (S' := T102.setTop (mkF m 24 #[.val (.ref a1), .val (.int (16 : Int32)), .val (.ref b102)] [(.int (1 : Int32)), (.int (0 : Int32)), (.ref b102), (.int (0 : Int32)), (.ref a1)])) (fun t k => X102.arraylength hx (by rw [e102]; exact Ar103.1) (State.isArrayOf_alike hZ.alike Ar103.2.1) (g := (mkF m 23 #[.val (.ref a1), .val (.int (16 : Int32)), .val (.ref b102)] [(.ref a1), (.int (0 : Int32)), (.ref b102), (.int (0 : Int32)), (.ref a1)])) rfl rfl (hb hby d_jdk_65_method_123_code_23) _ (by rw [len_of Sz103 Nn103]; exact k)) ?_
  refine Goes.step (S' := T102.setTop (mkF m 25 #[.val (.ref a1), .val (.int (16 : Int32)), .val (.ref b102)] [(.int (16 : Int32)), (.int (1 : Int32)), (.int (0 : Int32)), (.ref b102), (.int (0 : Int32)), (.ref a1)])) (fun t k => XS.iloadN X102.here hx rfl (hb hby d_jdk_65_method_123_code_24) rfl k) ?_
  obtain ⟨_, _, ⟨T104, L104, k104, n104⟩, -, X104, ⟨Lc104, hQ104, l104, y104, z104⟩, st104⟩ := Jvm.LawKit.callS X102 hx (y := mth1) hown (mvT hZ tw43) (mvT hZ tw37) (mvT hZ tw34) (mvT hZ tw38) (by decide) (backOf (W := 4) (mn0 l Z a0 hw [] (1 : Int32) (16 : Int32) h102 n0 (Nat.le_trans Z0 E102.1) ((by decide) : ¬ ((16 : Int32) < (1 : Int32)))) hZ tw38 tw34 (by decide) (by decide)) (g := (mkF m 25 #[.val (.ref a1), .val (.int (16 : Int32)), .val (.ref b102)] [(.int (16 : Int32)), (.int (1 : Int32)), (.int (0 : Int32)), (.ref b102), (.int (0 : Int32)), (.ref a1)])) rfl (by rw [hml]; rfl) (argsL := [(.int (1 : Int32)), (.int (16 : Int32))]) (rest := [(.int (0 : Int32)), (.ref b102), (.int (0 : Int32)), (.ref a1)]) (lenOf pd_II_I rfl) rfl (Nat.le_of_eq rfl) (hb hby d_jdk_65_method_123_code_25) (fun _ _ => ⟨rfl, e102, (by decide : 1 + 0 ≤ _), (by decide : 16 + 0 ≤ _)⟩)
  dsimp only [Pt.U, Pt.locs, Pt.cells, Pt.slots] at X104 l104 y104 z104 st104 hQ104
  subst l104 y104 z104
  obtain ⟨rfl, Nq104, q104_0⟩ := hQ104
  have N104 := Fr.app N0 Nq104
  refine Goes.step (S' := T104.setTop (mkF m 28 #[.val (.ref a1), .val (.int (16 : Int32)), .val (.ref b102)] [(.int (1 : Int32)), (.int (0 : Int32)), (.ref b102), (.int (0 : Int32)), (.ref a1)])) (fun t k => st104 _ k) ?_
  obtain ⟨T105, h105, L105, X105, e105, N105, K105, Vr105, st105⟩ := cpA X104 hx hZ hown tw44 tw47 tw45 tw46 q104_0 (sp := (0 : Int32)) (dp := (0 : Int32)) (nn := (1 : Int32)) (us := [(.int e0)]) (V1.ext E102) V102 (Or.inl ⟨rfl, rfl⟩) (by decide) (by decide) (by decide) (by decide) (by decide) rfl (by decide) N104 (Nat.le_trans Z0 (Nat.le_of_eq g102.symm)) (g := (mkF m 28 #[.val (.ref a1), .val (.int (16 : Int32)), .val (.ref b102)] [(.int (1 : Int32)), (.int (0 : Int32)), (.ref b102), (.int (0 : Int32)), (.ref a1)])) rfl (by rw [hml]; rfl) rfl (hb hby d_jdk_65_method_123_code_28) (by decide) (W := 0) (Nat.le_of_eq rfl) (by decide)
  have V105 : Arv Z h105 b102 k102 .int (16 : Int32) [(.int e0), (.int (0 : Int32)), (.int (0 : Int32)), (.int (0 : Int32)), (.int (0 : Int32)), (.int (0 : Int32)), (.int (0 : Int32)), (.int (0 : Int32)), (.int (0 : Int32)), (.int (0 : Int32)), (.int (0 : Int32)), (.int (0 : Int32)), (.int (0 : Int32)), (.int (0 : Int32)), (.int (0 : Int32)), (.int (0 : Int32))] (.int (0 : Int32)) := Vr105
  refine Goes.step (S' := T105.setTop (mkF m 32 #[.val (.ref a1), .val (.int (16 : Int32)), .val (.ref b102)] [(.ref b102)])) (fun t k => st105 _ (XS.aloadN X105.here hx rfl (hb hby d_jdk_65_method_123_code_31) rfl rfl k)) ?_
  refine Goes.leave (g := (mkF m 32 #[.val (.ref a1), .val (.int (16 : Int32)), .val (.ref b102)] [(.ref b102)])) X105 Bd.notSynchronized (v := (some (.ref b102))) (fun h => by rw [Bd.returns] at h; cases h) (fun fs hr => by jvm_step X105.here [X105.here.top, hx, (hb hby d_jdk_65_method_123_code_32), X105.method', Bd.returns, Value.isRef, FieldType.isReference]; (first | (intro acts; rw [hr _ acts rfl rfl rfl]) | rw [hr _ _ rfl rfl rfl]); exact Steps.refl _) e105 ?_ (by decide) (by decide)
  exact ⟨b102, k102, rfl, N105, (((Keep.refl _ []).ext E102).trans K105 (allS (Or.inr (Nat.le_of_eq g102.symm)) all0)), (Nat.le_of_eq g102.symm), (AE102.keep K105), V105⟩

theorem ef_cpy2 (m : MethodId) (x0 : Addr) (x1 : Int32) : entryFrame m #[(.ref x0), (.int x1)] 3 = mkF m 0 #[.val (.ref x0), .val (.int x1), .unset] [] := by first | (simp [entryFrame, mkF, argsToLocals, Value.category]; done) | rfl
def Q_cpy2 (Z : State) (a1 : Addr) (k1 : ClassId) (e0 : Int32) (e1 : Int32) (h0 : Heap) (n0 : Nat) (v : Option Value) (h : Heap) (L : List Loc) : Prop := ∃ (b : Addr) (kb : ClassId), v = some (.ref b) ∧ Fr n0 L ∧ Keep h0 h [] ∧ h0.size ≤ b ∧ Exa Z h b "[I" ∧ Arv Z h b kb .int (16 : Int32) [(.int e0), (.int e1), (.int (0 : Int32)), (.int (0 : Int32)), (.int (0 : Int32)), (.int (0 : Int32)), (.int (0 : Int32)), (.int (0 : Int32)), (.int (0 : Int32)), (.int (0 : Int32)), (.int (0 : Int32)), (.int (0 : Int32)), (.int (0 : Int32)), (.int (0 : Int32)), (.int (0 : Int32)), (.int (0 : Int32))] (.int (0 : Int32))
set_option maxRecDepth 65536 in
set_option maxHeartbeats 40000000 in
theorem cpy2 (l : Launch) (Z : State) (a0 : Array Value) (hw : ∀ d ∈ tables_1, d.before a0 Z = true) (ws : List Jvm.Cond) (a1 : Addr) (k1 : ClassId) (e0 : Int32) (e1 : Int32) (h0 : Heap) (n0 : Nat) (Z0 : n0 ≤ h0.size) (V1 : Arv Z h0 a1 k1 .int (2 : Int32) [(.int e0), (.int e1)] (.int (0 : Int32))) :
    MetFree l mth2 (head1 (Jvm.Cond.code mth2 jdk_65_method_123_code 3 (some (.array .int)) :: ws) rom1) (fun a U => a = #[(.ref a1), (.int (16 : Int32))] ∧ Z.Warmed39 U.vm ∧ U.heap = h0) (fun _ _ _ _ _ => True) (fun _ U o U' => ∃ v L, o = .returned v ∧ Q_cpy2 Z a1 k1 e0 e1 h0 n0 v U'.heap L ∧ FrameEnd U o U' L rom1.cells rom1.slots) := by
  refine MetFree.of_bodySF (plainFor_of_name pnm0) hisR ?_
  intro p e s m args below meth c s₁ Bd hml0 hP hK
  obtain ⟨rfl, hZ, hh⟩ := hP
  have hx := Bd.exec
  have hby := Bd.bytes
  have hml : c.maxLocals = 3 := hml0
  have hown : s.vm.findClass "java/util/Arrays" = some m.cls := findClass_of_methodNamed Bd.named
  have hnm := (name_of_methodNamed Bd.named Bd.method).1
  have X0 : Stand p l e rom1 s m #[(.ref a1), (.int (16 : Int32))] below meth c s₁ [] 0 0 := Stand.of_body Bd
  have eh0 : s₁.heap = h0 := by rw [← hh, Bd.state]; rfl
  have N0 := Fr.nil n0
  have tw9 := hw _ (List.mem_of_getElem? (i := 9) rfl)
  have tw34 := hw _ (List.mem_of_getElem? (i := 34) rfl)
  have tw37 := hw _ (List.mem_of_getElem? (i := 37) rfl)
  have tw38 := hw _ (List.mem_of_getElem? (i := 38) rfl)
  have tw43 := hw _ (List.mem_of_getElem? (i := 43) rfl)
  have tw44 := hw _ (List.mem_of_getElem? (i := 44) rfl)
  have tw45 := hw _ (List.mem_of_getElem? (i := 45) rfl)
  have tw46 := hw _ (List.mem_of_getElem? (i := 46) rfl)
  have tw47 := hw _ (List.mem_of_getElem? (i := 47) rfl)
  show Goes p e below (Pq (Q_cpy2 Z a1 k1 e0 e1 h0 n0) s rom1.cells rom1.slots) (s₁.setTop (entryFrame m #[(.ref a1), (.int (16 : Int32))] 3))
  refine Goes.step (S' := s₁.setTop (mkF m 0 #[.val (.ref a1), .val (.int (16 : Int32)), .unset] [])) (fun t k => castTop (ef_cpy2 m a1 (16 : Int32)) k) ?_
  refine Goes.step (S' := s₁.setTop (mkF m 2 #[.val (.ref a1), .val (.int (16 : Int32)), .unset] [(.ref a1), (.int (16 : Int32))])) (fun t k => XS.iloadN X0.here hx rfl (hb hby d_jdk_65_method_123_code_0) rfl (XS.aloadN X0.here hx rfl (hb hby d_jdk_65_method_123_code_1) rfl rfl k)) ?_
  obtain ⟨cl101, Ar101, qk101, Sz101, Nn101, Hs101, Gs101⟩ := id V1
  refine Goes.step (S' := s₁.setTop (mkF m 3 #[.val (.ref a1), .val (.int (16 : Int32)), .unset] [(.int (2 : Int32)), (.int (16 : Int32))])) (fun t k => X0.arraylength hx (by rw [eh0]; exact Ar101.1) (State.isArrayOf_alike hZ.alike Ar101.2.1) (g := (mkF m 2 #[.val (.ref a1), .val (.int (16 : Int32)), .unset] [(.ref a1), (.int (16 : Int32))])) rfl rfl (hb hby d_jdk_65_method_123_code_2) _ (by rw [len_of Sz101 Nn101]; exact k)) ?_
  refine Goes.step (S' := s₁.setTop (mkF m 15 #[.val (.ref a1), .val (.int (16 : Int32)), .unset] [(.int (16 : Int32))])) (fun t k => XS.icmpYes X0.here hx rfl (pc0 := 3) (pc' := 14) rfl (hb hby d_jdk_65_method_123_code_3) rfl (feq ((by decide) : ¬ ((16 : Int32) = (2 : Int32)))).2 (by decide) (by decide) (XS.iloadN X0.here hx rfl (hb hby d_jdk_65_method_123_code_14) rfl k)) ?_
  obtain ⟨T102, h102, k102, X102, e102, E102, A102, AE102, st102⟩ := newPE (aty := .int) X0 hx hZ tw9 eh0 (g := (mkF m 15 #[.val (.ref a1), .val (.int (16 : Int32)), .unset] [(.int (16 : Int32))])) rfl (hb hby d_jdk_65_method_123_code_15) rfl (by decide) (cap := 16) (by decide) (by decide) (by decide) (by decide) (ad := "[I") rfl
  obtain ⟨b102, g102⟩ : ∃ z, z = h0.size := ⟨_, rfl⟩
  rw [← g102] at A102 AE102 st102
  have V102 : Arv Z h102 b102 k102 .int (16 : Int32) [(.int (0 : Int32)), (.int (0 : Int32)), (.int (0 : Int32)), (.int (0 : Int32)), (.int (0 : Int32)), (.int (0 : Int32)), (.int (0 : Int32)), (.int (0 : Int32)), (.int (0 : Int32)), (.int (0 : Int32)), (.int (0 : Int32)), (.int (0 : Int32)), (.int (0 : Int32)), (.int (0 : Int32)), (.int (0 : Int32)), (.int (0 : Int32))] (.int (0 : Int32)) := (Arv.new A102 (by decide)).pad (pad_rep [] (.int (0 : Int32)) 16)
  refine Goes.step (S' := T102.setTop (mkF m 23 #[.val (.ref a1), .val (.int (16 : Int32)), .val (.ref b102)] [(.ref a1), (.int (0 : Int32)), (.ref b102), (.int (0 : Int32)), (.ref a1)])) (fun t k => st102 _ (XS.astoreN X102.here hx rfl (hb hby d_jdk_65_method_123_code_17) rfl rfl (l' := #[.val (.ref a1), .val (.int (16 : Int32)), .val (.ref b102)]) rfl (XS.aloadN X102.here hx rfl (hb hby d_jdk_65_method_123_code_18) rfl rfl (XS.iconst X102.here hx rfl (hb hby d_jdk_65_method_123_code_19) (XS.aloadN X102.here hx rfl (hb hby d_jdk_65_method_123_code_20) rfl rfl (XS.iconst X102.here hx rfl (hb hby d_jdk_65_method_123_code_21) (XS.aloadN X102.here hx rfl (hb hby d_jdk_65_method_123_code_22) rfl rfl k))))))) ?_
  obtain ⟨cl103, Ar103, qk103, Sz103, Nn103, Hs103, Gs103⟩ := id (V1.ext E102)
  refine Goes.step (S' := T102.setTop (mkF m 24 #[.val (.ref a1), .val (.int (16 : Int32)), .val (.ref b102)] [(.int (2 : Int32)), (.int (0 : Int32)), (.ref b102), (.int (0 : Int32)), (.ref a1)])) (fun t k => X102.arraylength hx (by rw [e102]; exact Ar103.1) (State.isArrayOf_alike hZ.alike Ar103.2.1) (g := (mkF m 23 #[.val (.ref a1), .val (.int (16 : Int32)), .val (.ref b102)] [(.ref a1), (.int (0 : Int32)), (.ref b102), (.int (0 : Int32)), (.ref a1)])) rfl rfl (hb hby d_jdk_65_method_123_code_23) _ (by rw [len_of Sz103 Nn103]; exact k)) ?_
  refine Goes.step (S' := T102.setTop (mkF m 25 #[.val (.ref a1), .val (.int (16 : Int32)), .val (.ref b102)] [(.int (16 : Int32)), (.int (2 : Int32)), (.int (0 : Int32)), (.ref b102), (.int (0 : Int32)), (.ref a1)])) (fun t k => XS.iloadN X102.here hx rfl (hb hby d_jdk_65_method_123_code_24) rfl k) ?_
  obtain ⟨_, _, ⟨T104, L104, k104, n104⟩, -, X104, ⟨Lc104, hQ104, l104, y104, z104⟩, st104⟩ := Jvm.LawKit.callS X102 hx (y := mth1) hown (mvT hZ tw43) (mvT hZ tw37) (mvT hZ tw34) (mvT hZ tw38) (by decide) (backOf (W := 4) (mn0 l Z a0 hw [] (2 : Int32) (16 : Int32) h102 n0 (Nat.le_trans Z0 E102.1) ((by decide) : ¬ ((16 : Int32) < (2 : Int32)))) hZ tw38 tw34 (by decide) (by decide)) (g := (mkF m 25 #[.val (.ref a1), .val (.int (16 : Int32)), .val (.ref b102)] [(.int (16 : Int32)), (.int (2 : Int32)), (.int (0 : Int32)), (.ref b102), (.int (0 : Int32)), (.ref a1)])) rfl (by rw [hml]; rfl) (argsL := [(.int (2 : Int32)), (.int (16 : Int32))]) (rest := [(.int (0 : Int32)), (.ref b102), (.int (0 : Int32)), (.ref a1)]) (lenOf pd_II_I rfl) rfl (Nat.le_of_eq rfl) (hb hby d_jdk_65_method_123_code_25) (fun _ _ => ⟨rfl, e102, (by decide : 1 + 0 ≤ _), (by decide : 16 + 0 ≤ _)⟩)
  dsimp only [Pt.U, Pt.locs, Pt.cells, Pt.slots] at X104 l104 y104 z104 st104 hQ104
  subst l104 y104 z104
  obtain ⟨rfl, Nq104, q104_0⟩ := hQ104
  have N104 := Fr.app N0 Nq104
  refine Goes.step (S' := T104.setTop (mkF m 28 #[.val (.ref a1), .val (.int (16 : Int32)), .val (.ref b102)] [(.int (2 : Int32)), (.int (0 : Int32)), (.ref b102), (.int (0 : Int32)), (.ref a1)])) (fun t k => st104 _ k) ?_
  obtain ⟨T105, h105, L105, X105, e105, N105, K105, Vr105, st105⟩ := cpA X104 hx hZ hown tw44 tw47 tw45 tw46 q104_0 (sp := (0 : Int32)) (dp := (0 : Int32)) (nn := (2 : Int32)) (us := [(.int e0), (.int e1)]) (V1.ext E102) V102 (Or.inl ⟨rfl, rfl⟩) (by decide) (by decide) (by decide) (by decide) (by decide) rfl (by decide) N104 (Nat.le_trans Z0 (Nat.le_of_eq g102.symm)) (g := (mkF m 28 #[.val (.ref a1), .val (.int (16 : Int32)), .val (.ref b102)] [(.int (2 : Int32)), (.int (0 : Int32)), (.ref b102), (.int (0 : Int32)), (.ref a1)])) rfl (by rw [hml]; rfl) rfl (hb hby d_jdk_65_method_123_code_28) (by decide) (W := 0) (Nat.le_of_eq rfl) (by decide)
  have V105 : Arv Z h105 b102 k102 .int (16 : Int32) [(.int e0), (.int e1), (.int (0 : Int32)), (.int (0 : Int32)), (.int (0 : Int32)), (.int (0 : Int32)), (.int (0 : Int32)), (.int (0 : Int32)), (.int (0 : Int32)), (.int (0 : Int32)), (.int (0 : Int32)), (.int (0 : Int32)), (.int (0 : Int32)), (.int (0 : Int32)), (.int (0 : Int32)), (.int (0 : Int32))] (.int (0 : Int32)) := Vr105
  refine Goes.step (S' := T105.setTop (mkF m 32 #[.val (.ref a1), .val (.int (16 : Int32)), .val (.ref b102)] [(.ref b102)])) (fun t k => st105 _ (XS.aloadN X105.here hx rfl (hb hby d_jdk_65_method_123_code_31) rfl rfl k)) ?_
  refine Goes.leave (g := (mkF m 32 #[.val (.ref a1), .val (.int (16 : Int32)), .val (.ref b102)] [(.ref b102)])) X105 Bd.notSynchronized (v := (some (.ref b102))) (fun h => by rw [Bd.returns] at h; cases h) (fun fs hr => by jvm_step X105.here [X105.here.top, hx, (hb hby d_jdk_65_method_123_code_32), X105.method', Bd.returns, Value.isRef, FieldType.isReference]; (first | (intro acts; rw [hr _ acts rfl rfl rfl]) | rw [hr _ _ rfl rfl rfl]); exact Steps.refl _) e105 ?_ (by decide) (by decide)
  exact ⟨b102, k102, rfl, N105, (((Keep.refl _ []).ext E102).trans K105 (allS (Or.inr (Nat.le_of_eq g102.symm)) all0)), (Nat.le_of_eq g102.symm), (AE102.keep K105), V105⟩

theorem ef_ci0 (m : MethodId) (x0 : Addr) : entryFrame m #[(.ref x0)] 1 = mkF m 0 #[.val (.ref x0)] [] := by first | (simp [entryFrame, mkF, argsToLocals, Value.category]; done) | rfl
def Q_ci0 (Z : State) (a1 : Addr) (h0 : Heap) (n0 : Nat) (v : Option Value) (h : Heap) (L : List Loc) : Prop := ∃ (c : Addr) (kc : ClassId) (b : Addr) (kb : ClassId), v = none ∧ Fr n0 L ∧ Keep h0 h [a1] ∧ h0.size ≤ c ∧ h0.size ≤ b ∧ Exa Z h a1 "com/example/lumping/lumping/numbers/ChunkedInts" ∧ Fld Z h a1 "com/example/lumping/lumping/numbers/ChunkedInts" "whole" "[I" .null ∧ Fld Z h a1 "com/example/lumping/lumping/numbers/ChunkedInts" "chunks" "[[I" (.ref c) ∧ Fld Z h a1 "com/example/lumping/lumping/numbers/ChunkedInts" "filling" "[I" (.ref b) ∧ Fld Z h a1 "com/example/lumping/lumping/numbers/ChunkedInts" "filled" "I" (.int (0 : Int32)) ∧ Fld Z h a1 "com/example/lumping/lumping/numbers/ChunkedInts" "size" "I" (.int (0 : Int32)) ∧ Arv Z h c kc (.array .int) (1 : Int32) [(.ref b)] .null ∧ Arv Z h b kb .int (16 : Int32) [(.int (0 : Int32)), (.int (0 : Int32)), (.int (0 : Int32)), (.int (0 : Int32)), (.int (0 : Int32)), (.int (0 : Int32)), (.int (0 : Int32)), (.int (0 : Int32)), (.int (0 : Int32)), (.int (0 : Int32)), (.int (0 : Int32)), (.int (0 : Int32)), (.int (0 : Int32)), (.int (0 : Int32)), (.int (0 : Int32)), (.int (0 : Int32))] (.int (0 : Int32))
set_option maxRecDepth 65536 in
set_option maxHeartbeats 40000000 in
theorem ci0 (l : Launch) (Z : State) (a0 : Array Value) (hw : ∀ d ∈ tables_1, d.before a0 Z = true) (ws : List Jvm.Cond) (a1 : Addr) (h0 : Heap) (n0 : Nat) (Z0 : n0 ≤ h0.size) (E1 : Exa Z h0 a1 "com/example/lumping/lumping/numbers/ChunkedInts") (Fw : Fld Z h0 a1 "com/example/lumping/lumping/numbers/ChunkedInts" "whole" "[I" .null) (Fc : Fld Z h0 a1 "com/example/lumping/lumping/numbers/ChunkedInts" "chunks" "[[I" .null) (Ff : Fld Z h0 a1 "com/example/lumping/lumping/numbers/ChunkedInts" "filling" "[I" .null) (Fd : Fld Z h0 a1 "com/example/lumping/lumping/numbers/ChunkedInts" "filled" "I" (.int (0 : Int32))) (Fs : Fld Z h0 a1 "com/example/lumping/lumping/numbers/ChunkedInts" "size" "I" (.int (0 : Int32))) (G1 : n0 ≤ a1) :
    MetFree l mth3 (head1 (Jvm.Cond.code mth3 prog_79_method_1_code 1 none :: ws) rom2) (fun a U => a = #[(.ref a1)] ∧ Z.Warmed39 U.vm ∧ U.heap = h0) (fun _ _ _ _ _ => True) (fun _ U o U' => ∃ v L, o = .returned v ∧ Q_ci0 Z a1 h0 n0 v U'.heap L ∧ FrameEnd U o U' L rom2.cells rom2.slots) := by
  refine MetFree.of_bodySF (plainFor_of_name pnm1) hisR ?_
  intro p e s m args below meth c s₁ Bd hml0 hP hK
  obtain ⟨rfl, hZ, hh⟩ := hP
  have hx := Bd.exec
  have hby := Bd.bytes
  have hml : c.maxLocals = 1 := hml0
  have hown : s.vm.findClass "com/example/lumping/lumping/numbers/ChunkedInts" = some m.cls := findClass_of_methodNamed Bd.named
  have hnm := (name_of_methodNamed Bd.named Bd.method).1
  have X0 : Stand p l e rom2 s m #[(.ref a1)] below meth c s₁ [] 0 0 := Stand.of_body Bd
  have eh0 : s₁.heap = h0 := by rw [← hh, Bd.state]; rfl
  have N0 := Fr.nil n0
  have tw1 := hw _ (List.mem_of_getElem? (i := 1) rfl)
  have tw6 := hw _ (List.mem_of_getElem? (i := 6) rfl)
  have tw7 := hw _ (List.mem_of_getElem? (i := 7) rfl)
  have tw8 := hw _ (List.mem_of_getElem? (i := 8) rfl)
  have tw9 := hw _ (List.mem_of_getElem? (i := 9) rfl)
  have tw11 := hw _ (List.mem_of_getElem? (i := 11) rfl)
  have tw12 := hw _ (List.mem_of_getElem? (i := 12) rfl)
  have tw13 := hw _ (List.mem_of_getElem? (i := 13) rfl)
  have tw20 := hw _ (List.mem_of_getElem? (i := 20) rfl)
  have tw22 := hw _ (List.mem_of_getElem? (i := 22) rfl)
  have tw28 := hw _ (List.mem_of_getElem? (i := 28) rfl)
  have tw29 := hw _ (List.mem_of_getElem? (i := 29) rfl)
  have tw30 := hw _ (List.mem_of_getElem? (i := 30) rfl)
  have tw31 := hw _ (List.mem_of_getElem? (i := 31) rfl)
  show Goes p e below (Pq (Q_ci0 Z a1 h0 n0) s rom2.cells rom2.slots) (s₁.setTop (entryFrame m #[(.ref a1)] 1))
  refine Goes.step (S' := s₁.setTop (mkF m 0 #[.val (.ref a1)] [])) (fun t k => castTop (ef_ci0 m a1) k) ?_
  refine Goes.step (S' := s₁.setTop (mkF m 1 #[.val (.ref a1)] [(.ref a1)])) (fun t k => XS.aloadN X0.here hx rfl (hb hby d_prog_79_method_1_code_0) rfl rfl k) ?_
  obtain ⟨T101, X101, e101, st101⟩ := initO X0 hx hZ hown tw6 tw7 tw8 eh0 (g := (mkF m 1 #[.val (.ref a1)] [(.ref a1)])) rfl (by rw [hml]; rfl) rfl (hb hby d_prog_79_method_1_code_1) (by decide) (W := 0) (Nat.le_of_eq rfl) (by decide)
  refine Goes.step (S' := T101.setTop (mkF m 6 #[.val (.ref a1)] [(.int (1 : Int32)), (.ref a1)])) (fun t k => st101 _ (XS.aloadN X101.here hx rfl (hb hby d_prog_79_method_1_code_4) rfl rfl (XS.iconst X101.here hx rfl (hb hby d_prog_79_method_1_code_5) k))) ?_
  obtain ⟨T102, h102, k102, X102, e102, E102, A102, AE102, O102, st102⟩ := newRA X101 hx hZ hown (ty := .int) (C := "[I") rfl tw28 tw29 e101 (g := (mkF m 6 #[.val (.ref a1)] [(.int (1 : Int32)), (.ref a1)])) rfl (hb hby d_prog_79_method_1_code_6) rfl (by decide) (cap := 1) (by decide) (by decide) (by decide) (by decide) (ad := "[[I") rfl
  obtain ⟨b102, g102⟩ : ∃ z, z = h0.size := ⟨_, rfl⟩
  rw [← g102] at A102 AE102 st102
  have V102 : Arv Z h102 b102 k102 (.array .int) (1 : Int32) [.null] .null := (Arv.new A102 (by decide)).pad (pad_rep [] .null 1)
  refine Goes.step (S' := T102.setTop (mkF m 13 #[.val (.ref a1)] [(.int (16 : Int32)), (.int (0 : Int32)), (.ref b102), (.ref b102), (.ref a1)])) (fun t k => st102 _ (XS.dup X102.here hx rfl (hb hby d_prog_79_method_1_code_9) rfl rfl (XS.iconst X102.here hx rfl (hb hby d_prog_79_method_1_code_10) (XS.bipush X102.here hx rfl (hb hby d_prog_79_method_1_code_11) k)))) ?_
  obtain ⟨T103, h103, k103, X103, e103, E103, A103, AE103, st103⟩ := newPE (aty := .int) X102 hx hZ tw9 e102 (g := (mkF m 13 #[.val (.ref a1)] [(.int (16 : Int32)), (.int (0 : Int32)), (.ref b102), (.ref b102), (.ref a1)])) rfl (hb hby d_prog_79_method_1_code_13) rfl (by decide) (cap := 16) (by decide) (by decide) (by decide) (by decide) (ad := "[I") rfl
  obtain ⟨b103, g103⟩ : ∃ z, z = h102.size := ⟨_, rfl⟩
  rw [← g103] at A103 AE103 st103
  have V103 : Arv Z h103 b103 k103 .int (16 : Int32) [(.int (0 : Int32)), (.int (0 : Int32)), (.int (0 : Int32)), (.int (0 : Int32)), (.int (0 : Int32)), (.int (0 : Int32)), (.int (0 : Int32)), (.int (0 : Int32)), (.int (0 : Int32)), (.int (0 : Int32)), (.int (0 : Int32)), (.int (0 : Int32)), (.int (0 : Int32)), (.int (0 : Int32)), (.int (0 : Int32)), (.int (0 : Int32))] (.int (0 : Int32)) := (Arv.new A103 (by decide)).pad (pad_rep [] (.int (0 : Int32)) 16)
  refine Goes.step (S' := T103.setTop (mkF m 15 #[.val (.ref a1)] [(.ref b103), (.int (0 : Int32)), (.ref b102), (.ref b102), (.ref a1)])) (fun t k => st103 _ k) ?_
  obtain ⟨cl104, Ar104, qk104, Sz104, Nn104, Hs104, Gs104⟩ := id (V102.ext E103)
  obtain ⟨T104, h104, X104, e104, W104, st104⟩ := stR X103 hx hZ e103 Ar104 (j := (0 : Int32)) (inb_of (j := (0 : Int32)) Sz104 ⟨by decide, by decide⟩) rfl (Sto.ofVA Ar104 qk104 O102 (Ins.self AE103)) (g := (mkF m 15 #[.val (.ref a1)] [(.ref b103), (.int (0 : Int32)), (.ref b102), (.ref b102), (.ref a1)])) rfl rfl (hb hby d_prog_79_method_1_code_15)
  have V104 : Arv Z h104 b102 k102 (.array .int) (1 : Int32) [(.ref b103)] .null := Arv.set Ar104 qk104 Sz104 Nn104 Hs104 Gs104 rfl W104 0 rfl (Nat.le_of_ble_eq_true rfl)
  have N104 := Fr.snoc X104 N0 (Nat.le_trans Z0 (Nat.le_of_eq g102.symm))
  refine Goes.step (S' := T104.setTop (mkF m 16 #[.val (.ref a1)] [(.ref b102), (.ref a1)])) (fun t k => st104 _ k) ?_
  obtain ⟨T105, h105, X105, e105, W105, st105⟩ := putF X104 hx hZ hown (host := "") (Or.inl tw30) Via.refl e104 (Fld.other W104 (Fld.ext E103 (Fld.ext E102 Fc)) (Or.inl (Nat.ne_of_lt (Nat.lt_of_lt_of_le E1.lt (Nat.le_of_eq g102.symm))))) (Exa.wr W104 (Exa.ext E103 (Exa.ext E102 E1))) (Or.inl tw31) tw1 (ty := (.array (.array .int))) (by decide) rfl rfl (g := (mkF m 16 #[.val (.ref a1)] [(.ref b102), (.ref a1)])) rfl rfl (hb hby d_prog_79_method_1_code_16)
  have Fw105 : Fld Z h105 a1 "com/example/lumping/lumping/numbers/ChunkedInts" "chunks" "[[I" (.ref b102) := Fld.same W105 (Fld.other W104 (Fld.ext E103 (Fld.ext E102 Fc)) (Or.inl (Nat.ne_of_lt (Nat.lt_of_lt_of_le E1.lt (Nat.le_of_eq g102.symm)))))
  have N105 := Fr.snoc X105 N104 G1
  refine Goes.step (S' := T105.setTop (mkF m 21 #[.val (.ref a1)] [(.ref a1), (.ref a1)])) (fun t k => st105 _ (XS.aloadN X105.here hx rfl (hb hby d_prog_79_method_1_code_19) rfl rfl (XS.aloadN X105.here hx rfl (hb hby d_prog_79_method_1_code_20) rfl rfl k))) ?_
  obtain ⟨T106, X106, e106, st106⟩ := getF X105 hx hZ hown (host := "") (Or.inl tw30) Via.refl e105 Fw105 (g := (mkF m 21 #[.val (.ref a1)] [(.ref a1), (.ref a1)])) rfl rfl (hb hby d_prog_79_method_1_code_21)
  refine Goes.step (S' := T106.setTop (mkF m 25 #[.val (.ref a1)] [(.int (0 : Int32)), (.ref b102), (.ref a1)])) (fun t k => st106 _ (XS.iconst X106.here hx rfl (hb hby d_prog_79_method_1_code_24) k)) ?_
  obtain ⟨cl107, Ar107, qk107, Sz107, Nn107, Hs107, Gs107⟩ := id (V104.other W105 (Ne.symm (Nat.ne_of_lt (Nat.lt_of_lt_of_le E1.lt (Nat.le_of_eq g102.symm)))))
  have hin107 := (inb_of (j := (0 : Int32)) Sz107 ⟨by decide, by decide⟩)
  refine Goes.step (S' := T106.setTop (mkF m 26 #[.val (.ref a1)] [(.ref b103), (.ref a1)])) (fun t k => X106.aaload hx (j := (0 : Int32)) (v := (.ref b103)) (by rw [e106]; exact Ar107.1) (State.isArrayOf_alike hZ.alike Ar107.2.1) rfl Ar107.2.2 hin107 (Has.at Hs107 hin107 rfl) (g := (mkF m 25 #[.val (.ref a1)] [(.int (0 : Int32)), (.ref b102), (.ref a1)])) rfl rfl (hb hby d_prog_79_method_1_code_25) _ k) ?_
  obtain ⟨T108, h108, X108, e108, W108, st108⟩ := putF X106 hx hZ hown (host := "") (Or.inl tw12) Via.refl e106 (Fld.other W105 (Fld.other W104 (Fld.ext E103 (Fld.ext E102 Ff)) (Or.inl (Nat.ne_of_lt (Nat.lt_of_lt_of_le E1.lt (Nat.le_of_eq g102.symm))))) (Or.inr (slot_ne (Or.inl tw13) (Or.inl tw31) (by decide) (t := (.array .int)) (t' := (.array (.array .int))) (by decide) (by decide)))) (Exa.wr W105 (Exa.wr W104 (Exa.ext E103 (Exa.ext E102 E1)))) (Or.inl tw13) tw1 (ty := (.array .int)) (by decide) rfl rfl (g := (mkF m 26 #[.val (.ref a1)] [(.ref b103), (.ref a1)])) rfl rfl (hb hby d_prog_79_method_1_code_26)
  have Fw108 : Fld Z h108 a1 "com/example/lumping/lumping/numbers/ChunkedInts" "filling" "[I" (.ref b103) := Fld.same W108 (Fld.other W105 (Fld.other W104 (Fld.ext E103 (Fld.ext E102 Ff)) (Or.inl (Nat.ne_of_lt (Nat.lt_of_lt_of_le E1.lt (Nat.le_of_eq g102.symm))))) (Or.inr (slot_ne (Or.inl tw13) (Or.inl tw31) (by decide) (t := (.array .int)) (t' := (.array (.array .int))) (by decide) (by decide))))
  have N108 := Fr.snoc X108 N105 G1
  refine Goes.step (S' := T108.setTop (mkF m 29 #[.val (.ref a1)] [])) (fun t k => st108 _ k) ?_
  refine Goes.leave (g := (mkF m 29 #[.val (.ref a1)] [])) X108 Bd.notSynchronized (v := none) (fun _ => rfl) (fun fs hr => X108.returnOut hx Bd.returns (hb hby d_prog_79_method_1_code_29) hr) e108 ?_ (by decide) (by decide)
  exact ⟨b102, k102, b103, k103, rfl, N108, ((((((Keep.refl _ [a1]).ext E102).ext E103).wr W104 (Or.inr (Nat.le_of_eq g102.symm))).wr W105 (Or.inl (List.mem_of_getElem? (i := 0) rfl))).wr W108 (Or.inl (List.mem_of_getElem? (i := 0) rfl))), (Nat.le_of_eq g102.symm), (Nat.le_trans E102.1 (Nat.le_of_eq g103.symm)), (Exa.wr W108 (Exa.wr W105 (Exa.wr W104 (Exa.ext E103 (Exa.ext E102 E1))))), (Fld.other W108 (Fld.other W105 (Fld.other W104 (Fld.ext E103 (Fld.ext E102 Fw)) (Or.inl (Nat.ne_of_lt (Nat.lt_of_lt_of_le E1.lt (Nat.le_of_eq g102.symm))))) (Or.inr (slot_ne (Or.inl tw11) (Or.inl tw31) (by decide) (t := (.array .int)) (t' := (.array (.array .int))) (by decide) (by decide)))) (Or.inr (slot_ne (Or.inl tw11) (Or.inl tw13) (by decide) (t := (.array .int)) (t' := (.array .int)) (by decide) (by decide)))), (Fld.other W108 Fw105 (Or.inr (slot_ne (Or.inl tw31) (Or.inl tw13) (by decide) (t := (.array (.array .int))) (t' := (.array .int)) (by decide) (by decide)))), Fw108, (Fld.other W108 (Fld.other W105 (Fld.other W104 (Fld.ext E103 (Fld.ext E102 Fd)) (Or.inl (Nat.ne_of_lt (Nat.lt_of_lt_of_le E1.lt (Nat.le_of_eq g102.symm))))) (Or.inr (slot_ne (Or.inl tw20) (Or.inl tw31) (by decide) (t := .int) (t' := (.array (.array .int))) (by decide) (by decide)))) (Or.inr (slot_ne (Or.inl tw20) (Or.inl tw13) (by decide) (t := .int) (t' := (.array .int)) (by decide) (by decide)))), (Fld.other W108 (Fld.other W105 (Fld.other W104 (Fld.ext E103 (Fld.ext E102 Fs)) (Or.inl (Nat.ne_of_lt (Nat.lt_of_lt_of_le E1.lt (Nat.le_of_eq g102.symm))))) (Or.inr (slot_ne (Or.inl tw22) (Or.inl tw31) (by decide) (t := .int) (t' := (.array (.array .int))) (by decide) (by decide)))) (Or.inr (slot_ne (Or.inl tw22) (Or.inl tw13) (by decide) (t := .int) (t' := (.array .int)) (by decide) (by decide)))), ((V104.other W105 (Ne.symm (Nat.ne_of_lt (Nat.lt_of_lt_of_le E1.lt (Nat.le_of_eq g102.symm))))).other W108 (Ne.symm (Nat.ne_of_lt (Nat.lt_of_lt_of_le E1.lt (Nat.le_of_eq g102.symm))))), (((V103.other W104 (Ne.symm (Nat.ne_of_lt (Nat.lt_of_lt_of_le V102.lt (Nat.le_of_eq g103.symm))))).other W105 (Ne.symm (Nat.ne_of_lt (Nat.lt_of_lt_of_le E1.lt (Nat.le_trans E102.1 (Nat.le_of_eq g103.symm)))))).other W108 (Ne.symm (Nat.ne_of_lt (Nat.lt_of_lt_of_le E1.lt (Nat.le_trans E102.1 (Nat.le_of_eq g103.symm))))))⟩

theorem ef_ci1_0 (m : MethodId) (x0 : Addr) (x1 : Int32) : entryFrame m #[(.ref x0), (.int x1)] 2 = mkF m 0 #[.val (.ref x0), .val (.int x1)] [] := by first | (simp [entryFrame, mkF, argsToLocals, Value.category]; done) | rfl
def Q_ci1_0 (Z : State) (a1 : Addr) (h0 : Heap) (n0 : Nat) (v : Option Value) (h : Heap) (L : List Loc) : Prop := ∃ (b : Addr) (kb : ClassId), v = none ∧ Fr n0 L ∧ Keep h0 h [a1] ∧ h0.size ≤ b ∧ Exa Z h a1 "com/example/lumping/lumping/numbers/ChunkedInts" ∧ Fld Z h a1 "com/example/lumping/lumping/numbers/ChunkedInts" "whole" "[I" (.ref b) ∧ Fld Z h a1 "com/example/lumping/lumping/numbers/ChunkedInts" "chunks" "[[I" .null ∧ Fld Z h a1 "com/example/lumping/lumping/numbers/ChunkedInts" "filling" "[I" (.ref b) ∧ Fld Z h a1 "com/example/lumping/lumping/numbers/ChunkedInts" "filled" "I" (.int (0 : Int32)) ∧ Fld Z h a1 "com/example/lumping/lumping/numbers/ChunkedInts" "size" "I" (.int (0 : Int32)) ∧ Arv Z h b kb .int (0 : Int32) [] (.int (0 : Int32))
set_option maxRecDepth 65536 in
set_option maxHeartbeats 40000000 in
theorem ci1_0 (l : Launch) (Z : State) (a0 : Array Value) (hw : ∀ d ∈ tables_1, d.before a0 Z = true) (ws : List Jvm.Cond) (a1 : Addr) (h0 : Heap) (n0 : Nat) (Z0 : n0 ≤ h0.size) (E1 : Exa Z h0 a1 "com/example/lumping/lumping/numbers/ChunkedInts") (Fw : Fld Z h0 a1 "com/example/lumping/lumping/numbers/ChunkedInts" "whole" "[I" .null) (Fc : Fld Z h0 a1 "com/example/lumping/lumping/numbers/ChunkedInts" "chunks" "[[I" .null) (Ff : Fld Z h0 a1 "com/example/lumping/lumping/numbers/ChunkedInts" "filling" "[I" .null) (Fd : Fld Z h0 a1 "com/example/lumping/lumping/numbers/ChunkedInts" "filled" "I" (.int (0 : Int32))) (Fs : Fld Z h0 a1 "com/example/lumping/lumping/numbers/ChunkedInts" "size" "I" (.int (0 : Int32))) (G1 : n0 ≤ a1) :
    MetFree l mth4 (head1 (Jvm.Cond.code mth4 prog_79_method_2_code 2 none :: ws) rom3) (fun a U => a = #[(.ref a1), (.int (0 : Int32))] ∧ Z.Warmed39 U.vm ∧ U.heap = h0) (fun _ _ _ _ _ => True) (fun _ U o U' => ∃ v L, o = .returned v ∧ Q_ci1_0 Z a1 h0 n0 v U'.heap L ∧ FrameEnd U o U' L rom3.cells rom3.slots) := by
  refine MetFree.of_bodySF (plainFor_of_name pnm1) hisR ?_
  intro p e s m args below meth c s₁ Bd hml0 hP hK
  obtain ⟨rfl, hZ, hh⟩ := hP
  have hx := Bd.exec
  have hby := Bd.bytes
  have hml : c.maxLocals = 2 := hml0
  have hown : s.vm.findClass "com/example/lumping/lumping/numbers/ChunkedInts" = some m.cls := findClass_of_methodNamed Bd.named
  have hnm := (name_of_methodNamed Bd.named Bd.method).1
  have X0 : Stand p l e rom3 s m #[(.ref a1), (.int (0 : Int32))] below meth c s₁ [] 0 0 := Stand.of_body Bd
  have eh0 : s₁.heap = h0 := by rw [← hh, Bd.state]; rfl
  have N0 := Fr.nil n0
  have tw1 := hw _ (List.mem_of_getElem? (i := 1) rfl)
  have tw6 := hw _ (List.mem_of_getElem? (i := 6) rfl)
  have tw7 := hw _ (List.mem_of_getElem? (i := 7) rfl)
  have tw8 := hw _ (List.mem_of_getElem? (i := 8) rfl)
  have tw9 := hw _ (List.mem_of_getElem? (i := 9) rfl)
  have tw10 := hw _ (List.mem_of_getElem? (i := 10) rfl)
  have tw11 := hw _ (List.mem_of_getElem? (i := 11) rfl)
  have tw12 := hw _ (List.mem_of_getElem? (i := 12) rfl)
  have tw13 := hw _ (List.mem_of_getElem? (i := 13) rfl)
  have tw20 := hw _ (List.mem_of_getElem? (i := 20) rfl)
  have tw22 := hw _ (List.mem_of_getElem? (i := 22) rfl)
  have tw31 := hw _ (List.mem_of_getElem? (i := 31) rfl)
  show Goes p e below (Pq (Q_ci1_0 Z a1 h0 n0) s rom3.cells rom3.slots) (s₁.setTop (entryFrame m #[(.ref a1), (.int (0 : Int32))] 2))
  refine Goes.step (S' := s₁.setTop (mkF m 0 #[.val (.ref a1), .val (.int (0 : Int32))] [])) (fun t k => castTop (ef_ci1_0 m a1 (0 : Int32)) k) ?_
  refine Goes.step (S' := s₁.setTop (mkF m 1 #[.val (.ref a1), .val (.int (0 : Int32))] [(.ref a1)])) (fun t k => XS.aloadN X0.here hx rfl (hb hby d_prog_79_method_2_code_0) rfl rfl k) ?_
  obtain ⟨T101, X101, e101, st101⟩ := initO X0 hx hZ hown tw6 tw7 tw8 eh0 (g := (mkF m 1 #[.val (.ref a1), .val (.int (0 : Int32))] [(.ref a1)])) rfl (by rw [hml]; rfl) rfl (hb hby d_prog_79_method_2_code_1) (by decide) (W := 0) (Nat.le_of_eq rfl) (by decide)
  refine Goes.step (S' := T101.setTop (mkF m 6 #[.val (.ref a1), .val (.int (0 : Int32))] [(.int (0 : Int32)), (.ref a1)])) (fun t k => st101 _ (XS.aloadN X101.here hx rfl (hb hby d_prog_79_method_2_code_4) rfl rfl (XS.iloadN X101.here hx rfl (hb hby d_prog_79_method_2_code_5) rfl k))) ?_
  obtain ⟨T102, h102, k102, X102, e102, E102, A102, AE102, st102⟩ := newPE (aty := .int) X101 hx hZ tw9 e101 (g := (mkF m 6 #[.val (.ref a1), .val (.int (0 : Int32))] [(.int (0 : Int32)), (.ref a1)])) rfl (hb hby d_prog_79_method_2_code_6) rfl (by decide) (cap := 0) (by decide) (by decide) (by decide) (by decide) (ad := "[I") rfl
  obtain ⟨b102, g102⟩ : ∃ z, z = h0.size := ⟨_, rfl⟩
  rw [← g102] at A102 AE102 st102
  have V102 : Arv Z h102 b102 k102 .int (0 : Int32) [] (.int (0 : Int32)) := (Arv.new A102 (by decide)).pad (pad_rep [] (.int (0 : Int32)) 0)
  refine Goes.step (S' := T102.setTop (mkF m 8 #[.val (.ref a1), .val (.int (0 : Int32))] [(.ref b102), (.ref a1)])) (fun t k => st102 _ k) ?_
  obtain ⟨T103, h103, X103, e103, W103, st103⟩ := putF X102 hx hZ hown (host := "") (Or.inl tw10) Via.refl e102 (Fld.ext E102 Fw) (Exa.ext E102 E1) (Or.inl tw11) tw1 (ty := (.array .int)) (by decide) rfl rfl (g := (mkF m 8 #[.val (.ref a1), .val (.int (0 : Int32))] [(.ref b102), (.ref a1)])) rfl rfl (hb hby d_prog_79_method_2_code_8)
  have Fw103 : Fld Z h103 a1 "com/example/lumping/lumping/numbers/ChunkedInts" "whole" "[I" (.ref b102) := Fld.same W103 (Fld.ext E102 Fw)
  have N103 := Fr.snoc X103 N0 G1
  refine Goes.step (S' := T103.setTop (mkF m 13 #[.val (.ref a1), .val (.int (0 : Int32))] [(.ref a1), (.ref a1)])) (fun t k => st103 _ (XS.aloadN X103.here hx rfl (hb hby d_prog_79_method_2_code_11) rfl rfl (XS.aloadN X103.here hx rfl (hb hby d_prog_79_method_2_code_12) rfl rfl k))) ?_
  obtain ⟨T104, X104, e104, st104⟩ := getF X103 hx hZ hown (host := "") (Or.inl tw10) Via.refl e103 Fw103 (g := (mkF m 13 #[.val (.ref a1), .val (.int (0 : Int32))] [(.ref a1), (.ref a1)])) rfl rfl (hb hby d_prog_79_method_2_code_13)
  refine Goes.step (S' := T104.setTop (mkF m 16 #[.val (.ref a1), .val (.int (0 : Int32))] [(.ref b102), (.ref a1)])) (fun t k => st104 _ k) ?_
  obtain ⟨T105, h105, X105, e105, W105, st105⟩ := putF X104 hx hZ hown (host := "") (Or.inl tw12) Via.refl e104 (Fld.other W103 (Fld.ext E102 Ff) (Or.inr (slot_ne (Or.inl tw13) (Or.inl tw11) (by decide) (t := (.array .int)) (t' := (.array .int)) (by decide) (by decide)))) (Exa.wr W103 (Exa.ext E102 E1)) (Or.inl tw13) tw1 (ty := (.array .int)) (by decide) rfl rfl (g := (mkF m 16 #[.val (.ref a1), .val (.int (0 : Int32))] [(.ref b102), (.ref a1)])) rfl rfl (hb hby d_prog_79_method_2_code_16)
  have Fw105 : Fld Z h105 a1 "com/example/lumping/lumping/numbers/ChunkedInts" "filling" "[I" (.ref b102) := Fld.same W105 (Fld.other W103 (Fld.ext E102 Ff) (Or.inr (slot_ne (Or.inl tw13) (Or.inl tw11) (by decide) (t := (.array .int)) (t' := (.array .int)) (by decide) (by decide))))
  have N105 := Fr.snoc X105 N103 G1
  refine Goes.step (S' := T105.setTop (mkF m 19 #[.val (.ref a1), .val (.int (0 : Int32))] [])) (fun t k => st105 _ k) ?_
  refine Goes.leave (g := (mkF m 19 #[.val (.ref a1), .val (.int (0 : Int32))] [])) X105 Bd.notSynchronized (v := none) (fun _ => rfl) (fun fs hr => X105.returnOut hx Bd.returns (hb hby d_prog_79_method_2_code_19) hr) e105 ?_ (by decide) (by decide)
  exact ⟨b102, k102, rfl, N105, ((((Keep.refl _ [a1]).ext E102).wr W103 (Or.inl (List.mem_of_getElem? (i := 0) rfl))).wr W105 (Or.inl (List.mem_of_getElem? (i := 0) rfl))), (Nat.le_of_eq g102.symm), (Exa.wr W105 (Exa.wr W103 (Exa.ext E102 E1))), (Fld.other W105 Fw103 (Or.inr (slot_ne (Or.inl tw11) (Or.inl tw13) (by decide) (t := (.array .int)) (t' := (.array .int)) (by decide) (by decide)))), (Fld.other W105 (Fld.other W103 (Fld.ext E102 Fc) (Or.inr (slot_ne (Or.inl tw31) (Or.inl tw11) (by decide) (t := (.array (.array .int))) (t' := (.array .int)) (by decide) (by decide)))) (Or.inr (slot_ne (Or.inl tw31) (Or.inl tw13) (by decide) (t := (.array (.array .int))) (t' := (.array .int)) (by decide) (by decide)))), Fw105, (Fld.other W105 (Fld.other W103 (Fld.ext E102 Fd) (Or.inr (slot_ne (Or.inl tw20) (Or.inl tw11) (by decide) (t := .int) (t' := (.array .int)) (by decide) (by decide)))) (Or.inr (slot_ne (Or.inl tw20) (Or.inl tw13) (by decide) (t := .int) (t' := (.array .int)) (by decide) (by decide)))), (Fld.other W105 (Fld.other W103 (Fld.ext E102 Fs) (Or.inr (slot_ne (Or.inl tw22) (Or.inl tw11) (by decide) (t := .int) (t' := (.array .int)) (by decide) (by decide)))) (Or.inr (slot_ne (Or.inl tw22) (Or.inl tw13) (by decide) (t := .int) (t' := (.array .int)) (by decide) (by decide)))), ((V102.other W103 (Ne.symm (Nat.ne_of_lt (Nat.lt_of_lt_of_le E1.lt (Nat.le_of_eq g102.symm))))).other W105 (Ne.symm (Nat.ne_of_lt (Nat.lt_of_lt_of_le E1.lt (Nat.le_of_eq g102.symm)))))⟩

theorem ef_ci1_1 (m : MethodId) (x0 : Addr) (x1 : Int32) : entryFrame m #[(.ref x0), (.int x1)] 2 = mkF m 0 #[.val (.ref x0), .val (.int x1)] [] := by first | (simp [entryFrame, mkF, argsToLocals, Value.category]; done) | rfl
def Q_ci1_1 (Z : State) (a1 : Addr) (h0 : Heap) (n0 : Nat) (v : Option Value) (h : Heap) (L : List Loc) : Prop := ∃ (b : Addr) (kb : ClassId), v = none ∧ Fr n0 L ∧ Keep h0 h [a1] ∧ h0.size ≤ b ∧ Exa Z h a1 "com/example/lumping/lumping/numbers/ChunkedInts" ∧ Fld Z h a1 "com/example/lumping/lumping/numbers/ChunkedInts" "whole" "[I" (.ref b) ∧ Fld Z h a1 "com/example/lumping/lumping/numbers/ChunkedInts" "chunks" "[[I" .null ∧ Fld Z h a1 "com/example/lumping/lumping/numbers/ChunkedInts" "filling" "[I" (.ref b) ∧ Fld Z h a1 "com/example/lumping/lumping/numbers/ChunkedInts" "filled" "I" (.int (0 : Int32)) ∧ Fld Z h a1 "com/example/lumping/lumping/numbers/ChunkedInts" "size" "I" (.int (0 : Int32)) ∧ Arv Z h b kb .int (1 : Int32) [(.int (0 : Int32))] (.int (0 : Int32))
set_option maxRecDepth 65536 in
set_option maxHeartbeats 40000000 in
theorem ci1_1 (l : Launch) (Z : State) (a0 : Array Value) (hw : ∀ d ∈ tables_1, d.before a0 Z = true) (ws : List Jvm.Cond) (a1 : Addr) (h0 : Heap) (n0 : Nat) (Z0 : n0 ≤ h0.size) (E1 : Exa Z h0 a1 "com/example/lumping/lumping/numbers/ChunkedInts") (Fw : Fld Z h0 a1 "com/example/lumping/lumping/numbers/ChunkedInts" "whole" "[I" .null) (Fc : Fld Z h0 a1 "com/example/lumping/lumping/numbers/ChunkedInts" "chunks" "[[I" .null) (Ff : Fld Z h0 a1 "com/example/lumping/lumping/numbers/ChunkedInts" "filling" "[I" .null) (Fd : Fld Z h0 a1 "com/example/lumping/lumping/numbers/ChunkedInts" "filled" "I" (.int (0 : Int32))) (Fs : Fld Z h0 a1 "com/example/lumping/lumping/numbers/ChunkedInts" "size" "I" (.int (0 : Int32))) (G1 : n0 ≤ a1) :
    MetFree l mth4 (head1 (Jvm.Cond.code mth4 prog_79_method_2_code 2 none :: ws) rom4) (fun a U => a = #[(.ref a1), (.int (1 : Int32))] ∧ Z.Warmed39 U.vm ∧ U.heap = h0) (fun _ _ _ _ _ => True) (fun _ U o U' => ∃ v L, o = .returned v ∧ Q_ci1_1 Z a1 h0 n0 v U'.heap L ∧ FrameEnd U o U' L rom4.cells rom4.slots) := by
  refine MetFree.of_bodySF (plainFor_of_name pnm1) hisR ?_
  intro p e s m args below meth c s₁ Bd hml0 hP hK
  obtain ⟨rfl, hZ, hh⟩ := hP
  have hx := Bd.exec
  have hby := Bd.bytes
  have hml : c.maxLocals = 2 := hml0
  have hown : s.vm.findClass "com/example/lumping/lumping/numbers/ChunkedInts" = some m.cls := findClass_of_methodNamed Bd.named
  have hnm := (name_of_methodNamed Bd.named Bd.method).1
  have X0 : Stand p l e rom4 s m #[(.ref a1), (.int (1 : Int32))] below meth c s₁ [] 0 0 := Stand.of_body Bd
  have eh0 : s₁.heap = h0 := by rw [← hh, Bd.state]; rfl
  have N0 := Fr.nil n0
  have tw1 := hw _ (List.mem_of_getElem? (i := 1) rfl)
  have tw6 := hw _ (List.mem_of_getElem? (i := 6) rfl)
  have tw7 := hw _ (List.mem_of_getElem? (i := 7) rfl)
  have tw8 := hw _ (List.mem_of_getElem? (i := 8) rfl)
  have tw9 := hw _ (List.mem_of_getElem? (i := 9) rfl)
  have tw10 := hw _ (List.mem_of_getElem? (i := 10) rfl)
  have tw11 := hw _ (List.mem_of_getElem? (i := 11) rfl)
  have tw12 := hw _ (List.mem_of_getElem? (i := 12) rfl)
  have tw13 := hw _ (List.mem_of_getElem? (i := 13) rfl)
  have tw20 := hw _ (List.mem_of_getElem? (i := 20) rfl)
  have tw22 := hw _ (List.mem_of_getElem? (i := 22) rfl)
  have tw31 := hw _ (List.mem_of_getElem? (i := 31) rfl)
  show Goes p e below (Pq (Q_ci1_1 Z a1 h0 n0) s rom4.cells rom4.slots) (s₁.setTop (entryFrame m #[(.ref a1), (.int (1 : Int32))] 2))
  refine Goes.step (S' := s₁.setTop (mkF m 0 #[.val (.ref a1), .val (.int (1 : Int32))] [])) (fun t k => castTop (ef_ci1_1 m a1 (1 : Int32)) k) ?_
  refine Goes.step (S' := s₁.setTop (mkF m 1 #[.val (.ref a1), .val (.int (1 : Int32))] [(.ref a1)])) (fun t k => XS.aloadN X0.here hx rfl (hb hby d_prog_79_method_2_code_0) rfl rfl k) ?_
  obtain ⟨T101, X101, e101, st101⟩ := initO X0 hx hZ hown tw6 tw7 tw8 eh0 (g := (mkF m 1 #[.val (.ref a1), .val (.int (1 : Int32))] [(.ref a1)])) rfl (by rw [hml]; rfl) rfl (hb hby d_prog_79_method_2_code_1) (by decide) (W := 0) (Nat.le_of_eq rfl) (by decide)
  refine Goes.step (S' := T101.setTop (mkF m 6 #[.val (.ref a1), .val (.int (1 : Int32))] [(.int (1 : Int32)), (.ref a1)])) (fun t k => st101 _ (XS.aloadN X101.here hx rfl (hb hby d_prog_79_method_2_code_4) rfl rfl (XS.iloadN X101.here hx rfl (hb hby d_prog_79_method_2_code_5) rfl k))) ?_
  obtain ⟨T102, h102, k102, X102, e102, E102, A102, AE102, st102⟩ := newPE (aty := .int) X101 hx hZ tw9 e101 (g := (mkF m 6 #[.val (.ref a1), .val (.int (1 : Int32))] [(.int (1 : Int32)), (.ref a1)])) rfl (hb hby d_prog_79_method_2_code_6) rfl (by decide) (cap := 1) (by decide) (by decide) (by decide) (by decide) (ad := "[I") rfl
  obtain ⟨b102, g102⟩ : ∃ z, z = h0.size := ⟨_, rfl⟩
  rw [← g102] at A102 AE102 st102
  have V102 : Arv Z h102 b102 k102 .int (1 : Int32) [(.int (0 : Int32))] (.int (0 : Int32)) := (Arv.new A102 (by decide)).pad (pad_rep [] (.int (0 : Int32)) 1)
  refine Goes.step (S' := T102.setTop (mkF m 8 #[.val (.ref a1), .val (.int (1 : Int32))] [(.ref b102), (.ref a1)])) (fun t k => st102 _ k) ?_
  obtain ⟨T103, h103, X103, e103, W103, st103⟩ := putF X102 hx hZ hown (host := "") (Or.inl tw10) Via.refl e102 (Fld.ext E102 Fw) (Exa.ext E102 E1) (Or.inl tw11) tw1 (ty := (.array .int)) (by decide) rfl rfl (g := (mkF m 8 #[.val (.ref a1), .val (.int (1 : Int32))] [(.ref b102), (.ref a1)])) rfl rfl (hb hby d_prog_79_method_2_code_8)
  have Fw103 : Fld Z h103 a1 "com/example/lumping/lumping/numbers/ChunkedInts" "whole" "[I" (.ref b102) := Fld.same W103 (Fld.ext E102 Fw)
  have N103 := Fr.snoc X103 N0 G1
  refine Goes.step (S' := T103.setTop (mkF m 13 #[.val (.ref a1), .val (.int (1 : Int32))] [(.ref a1), (.ref a1)])) (fun t k => st103 _ (XS.aloadN X103.here hx rfl (hb hby d_prog_79_method_2_code_11) rfl rfl (XS.aloadN X103.here hx rfl (hb hby d_prog_79_method_2_code_12) rfl rfl k))) ?_
  obtain ⟨T104, X104, e104, st104⟩ := getF X103 hx hZ hown (host := "") (Or.inl tw10) Via.refl e103 Fw103 (g := (mkF m 13 #[.val (.ref a1), .val (.int (1 : Int32))] [(.ref a1), (.ref a1)])) rfl rfl (hb hby d_prog_79_method_2_code_13)
  refine Goes.step (S' := T104.setTop (mkF m 16 #[.val (.ref a1), .val (.int (1 : Int32))] [(.ref b102), (.ref a1)])) (fun t k => st104 _ k) ?_
  obtain ⟨T105, h105, X105, e105, W105, st105⟩ := putF X104 hx hZ hown (host := "") (Or.inl tw12) Via.refl e104 (Fld.other W103 (Fld.ext E102 Ff) (Or.inr (slot_ne (Or.inl tw13) (Or.inl tw11) (by decide) (t := (.array .int)) (t' := (.array .int)) (by decide) (by decide)))) (Exa.wr W103 (Exa.ext E102 E1)) (Or.inl tw13) tw1 (ty := (.array .int)) (by decide) rfl rfl (g := (mkF m 16 #[.val (.ref a1), .val (.int (1 : Int32))] [(.ref b102), (.ref a1)])) rfl rfl (hb hby d_prog_79_method_2_code_16)
  have Fw105 : Fld Z h105 a1 "com/example/lumping/lumping/numbers/ChunkedInts" "filling" "[I" (.ref b102) := Fld.same W105 (Fld.other W103 (Fld.ext E102 Ff) (Or.inr (slot_ne (Or.inl tw13) (Or.inl tw11) (by decide) (t := (.array .int)) (t' := (.array .int)) (by decide) (by decide))))
  have N105 := Fr.snoc X105 N103 G1
  refine Goes.step (S' := T105.setTop (mkF m 19 #[.val (.ref a1), .val (.int (1 : Int32))] [])) (fun t k => st105 _ k) ?_
  refine Goes.leave (g := (mkF m 19 #[.val (.ref a1), .val (.int (1 : Int32))] [])) X105 Bd.notSynchronized (v := none) (fun _ => rfl) (fun fs hr => X105.returnOut hx Bd.returns (hb hby d_prog_79_method_2_code_19) hr) e105 ?_ (by decide) (by decide)
  exact ⟨b102, k102, rfl, N105, ((((Keep.refl _ [a1]).ext E102).wr W103 (Or.inl (List.mem_of_getElem? (i := 0) rfl))).wr W105 (Or.inl (List.mem_of_getElem? (i := 0) rfl))), (Nat.le_of_eq g102.symm), (Exa.wr W105 (Exa.wr W103 (Exa.ext E102 E1))), (Fld.other W105 Fw103 (Or.inr (slot_ne (Or.inl tw11) (Or.inl tw13) (by decide) (t := (.array .int)) (t' := (.array .int)) (by decide) (by decide)))), (Fld.other W105 (Fld.other W103 (Fld.ext E102 Fc) (Or.inr (slot_ne (Or.inl tw31) (Or.inl tw11) (by decide) (t := (.array (.array .int))) (t' := (.array .int)) (by decide) (by decide)))) (Or.inr (slot_ne (Or.inl tw31) (Or.inl tw13) (by decide) (t := (.array (.array .int))) (t' := (.array .int)) (by decide) (by decide)))), Fw105, (Fld.other W105 (Fld.other W103 (Fld.ext E102 Fd) (Or.inr (slot_ne (Or.inl tw20) (Or.inl tw11) (by decide) (t := .int) (t' := (.array .int)) (by decide) (by decide)))) (Or.inr (slot_ne (Or.inl tw20) (Or.inl tw13) (by decide) (t := .int) (t' := (.array .int)) (by decide) (by decide)))), (Fld.other W105 (Fld.other W103 (Fld.ext E102 Fs) (Or.inr (slot_ne (Or.inl tw22) (Or.inl tw11) (by decide) (t := .int) (t' := (.array .int)) (by decide) (by decide)))) (Or.inr (slot_ne (Or.inl tw22) (Or.inl tw13) (by decide) (t := .int) (t' := (.array .int)) (by decide) (by decide)))), ((V102.other W103 (Ne.symm (Nat.ne_of_lt (Nat.lt_of_lt_of_le E1.lt (Nat.le_of_eq g102.symm))))).other W105 (Ne.symm (Nat.ne_of_lt (Nat.lt_of_lt_of_le E1.lt (Nat.le_of_eq g102.symm)))))⟩

theorem ef_ci1_2 (m : MethodId) (x0 : Addr) (x1 : Int32) : entryFrame m #[(.ref x0), (.int x1)] 2 = mkF m 0 #[.val (.ref x0), .val (.int x1)] [] := by first | (simp [entryFrame, mkF, argsToLocals, Value.category]; done) | rfl
def Q_ci1_2 (Z : State) (a1 : Addr) (h0 : Heap) (n0 : Nat) (v : Option Value) (h : Heap) (L : List Loc) : Prop := ∃ (b : Addr) (kb : ClassId), v = none ∧ Fr n0 L ∧ Keep h0 h [a1] ∧ h0.size ≤ b ∧ Exa Z h a1 "com/example/lumping/lumping/numbers/ChunkedInts" ∧ Fld Z h a1 "com/example/lumping/lumping/numbers/ChunkedInts" "whole" "[I" (.ref b) ∧ Fld Z h a1 "com/example/lumping/lumping/numbers/ChunkedInts" "chunks" "[[I" .null ∧ Fld Z h a1 "com/example/lumping/lumping/numbers/ChunkedInts" "filling" "[I" (.ref b) ∧ Fld Z h a1 "com/example/lumping/lumping/numbers/ChunkedInts" "filled" "I" (.int (0 : Int32)) ∧ Fld Z h a1 "com/example/lumping/lumping/numbers/ChunkedInts" "size" "I" (.int (0 : Int32)) ∧ Arv Z h b kb .int (2 : Int32) [(.int (0 : Int32)), (.int (0 : Int32))] (.int (0 : Int32))
set_option maxRecDepth 65536 in
set_option maxHeartbeats 40000000 in
theorem ci1_2 (l : Launch) (Z : State) (a0 : Array Value) (hw : ∀ d ∈ tables_1, d.before a0 Z = true) (ws : List Jvm.Cond) (a1 : Addr) (h0 : Heap) (n0 : Nat) (Z0 : n0 ≤ h0.size) (E1 : Exa Z h0 a1 "com/example/lumping/lumping/numbers/ChunkedInts") (Fw : Fld Z h0 a1 "com/example/lumping/lumping/numbers/ChunkedInts" "whole" "[I" .null) (Fc : Fld Z h0 a1 "com/example/lumping/lumping/numbers/ChunkedInts" "chunks" "[[I" .null) (Ff : Fld Z h0 a1 "com/example/lumping/lumping/numbers/ChunkedInts" "filling" "[I" .null) (Fd : Fld Z h0 a1 "com/example/lumping/lumping/numbers/ChunkedInts" "filled" "I" (.int (0 : Int32))) (Fs : Fld Z h0 a1 "com/example/lumping/lumping/numbers/ChunkedInts" "size" "I" (.int (0 : Int32))) (G1 : n0 ≤ a1) :
    MetFree l mth4 (head1 (Jvm.Cond.code mth4 prog_79_method_2_code 2 none :: ws) rom5) (fun a U => a = #[(.ref a1), (.int (2 : Int32))] ∧ Z.Warmed39 U.vm ∧ U.heap = h0) (fun _ _ _ _ _ => True) (fun _ U o U' => ∃ v L, o = .returned v ∧ Q_ci1_2 Z a1 h0 n0 v U'.heap L ∧ FrameEnd U o U' L rom5.cells rom5.slots) := by
  refine MetFree.of_bodySF (plainFor_of_name pnm1) hisR ?_
  intro p e s m args below meth c s₁ Bd hml0 hP hK
  obtain ⟨rfl, hZ, hh⟩ := hP
  have hx := Bd.exec
  have hby := Bd.bytes
  have hml : c.maxLocals = 2 := hml0
  have hown : s.vm.findClass "com/example/lumping/lumping/numbers/ChunkedInts" = some m.cls := findClass_of_methodNamed Bd.named
  have hnm := (name_of_methodNamed Bd.named Bd.method).1
  have X0 : Stand p l e rom5 s m #[(.ref a1), (.int (2 : Int32))] below meth c s₁ [] 0 0 := Stand.of_body Bd
  have eh0 : s₁.heap = h0 := by rw [← hh, Bd.state]; rfl
  have N0 := Fr.nil n0
  have tw1 := hw _ (List.mem_of_getElem? (i := 1) rfl)
  have tw6 := hw _ (List.mem_of_getElem? (i := 6) rfl)
  have tw7 := hw _ (List.mem_of_getElem? (i := 7) rfl)
  have tw8 := hw _ (List.mem_of_getElem? (i := 8) rfl)
  have tw9 := hw _ (List.mem_of_getElem? (i := 9) rfl)
  have tw10 := hw _ (List.mem_of_getElem? (i := 10) rfl)
  have tw11 := hw _ (List.mem_of_getElem? (i := 11) rfl)
  have tw12 := hw _ (List.mem_of_getElem? (i := 12) rfl)
  have tw13 := hw _ (List.mem_of_getElem? (i := 13) rfl)
  have tw20 := hw _ (List.mem_of_getElem? (i := 20) rfl)
  have tw22 := hw _ (List.mem_of_getElem? (i := 22) rfl)
  have tw31 := hw _ (List.mem_of_getElem? (i := 31) rfl)
  show Goes p e below (Pq (Q_ci1_2 Z a1 h0 n0) s rom5.cells rom5.slots) (s₁.setTop (entryFrame m #[(.ref a1), (.int (2 : Int32))] 2))
  refine Goes.step (S' := s₁.setTop (mkF m 0 #[.val (.ref a1), .val (.int (2 : Int32))] [])) (fun t k => castTop (ef_ci1_2 m a1 (2 : Int32)) k) ?_
  refine Goes.step (S' := s₁.setTop (mkF m 1 #[.val (.ref a1), .val (.int (2 : Int32))] [(.ref a1)])) (fun t k => XS.aloadN X0.here hx rfl (hb hby d_prog_79_method_2_code_0) rfl rfl k) ?_
  obtain ⟨T101, X101, e101, st101⟩ := initO X0 hx hZ hown tw6 tw7 tw8 eh0 (g := (mkF m 1 #[.val (.ref a1), .val (.int (2 : Int32))] [(.ref a1)])) rfl (by rw [hml]; rfl) rfl (hb hby d_prog_79_method_2_code_1) (by decide) (W := 0) (Nat.le_of_eq rfl) (by decide)
  refine Goes.step (S' := T101.setTop (mkF m 6 #[.val (.ref a1), .val (.int (2 : Int32))] [(.int (2 : Int32)), (.ref a1)])) (fun t k => st101 _ (XS.aloadN X101.here hx rfl (hb hby d_prog_79_method_2_code_4) rfl rfl (XS.iloadN X101.here hx rfl (hb hby d_prog_79_method_2_code_5) rfl k))) ?_
  obtain ⟨T102, h102, k102, X102, e102, E102, A102, AE102, st102⟩ := newPE (aty := .int) X101 hx hZ tw9 e101 (g := (mkF m 6 #[.val (.ref a1), .val (.int (2 : Int32))] [(.int (2 : Int32)), (.ref a1)])) rfl (hb hby d_prog_79_method_2_code_6) rfl (by decide) (cap := 2) (by decide) (by decide) (by decide) (by decide) (ad := "[I") rfl
  obtain ⟨b102, g102⟩ : ∃ z, z = h0.size := ⟨_, rfl⟩
  rw [← g102] at A102 AE102 st102
  have V102 : Arv Z h102 b102 k102 .int (2 : Int32) [(.int (0 : Int32)), (.int (0 : Int32))] (.int (0 : Int32)) := (Arv.new A102 (by decide)).pad (pad_rep [] (.int (0 : Int32)) 2)
  refine Goes.step (S' := T102.setTop (mkF m 8 #[.val (.ref a1), .val (.int (2 : Int32))] [(.ref b102), (.ref a1)])) (fun t k => st102 _ k) ?_
  obtain ⟨T103, h103, X103, e103, W103, st103⟩ := putF X102 hx hZ hown (host := "") (Or.inl tw10) Via.refl e102 (Fld.ext E102 Fw) (Exa.ext E102 E1) (Or.inl tw11) tw1 (ty := (.array .int)) (by decide) rfl rfl (g := (mkF m 8 #[.val (.ref a1), .val (.int (2 : Int32))] [(.ref b102), (.ref a1)])) rfl rfl (hb hby d_prog_79_method_2_code_8)
  have Fw103 : Fld Z h103 a1 "com/example/lumping/lumping/numbers/ChunkedInts" "whole" "[I" (.ref b102) := Fld.same W103 (Fld.ext E102 Fw)
  have N103 := Fr.snoc X103 N0 G1
  refine Goes.step (S' := T103.setTop (mkF m 13 #[.val (.ref a1), .val (.int (2 : Int32))] [(.ref a1), (.ref a1)])) (fun t k => st103 _ (XS.aloadN X103.here hx rfl (hb hby d_prog_79_method_2_code_11) rfl rfl (XS.aloadN X103.here hx rfl (hb hby d_prog_79_method_2_code_12) rfl rfl k))) ?_
  obtain ⟨T104, X104, e104, st104⟩ := getF X103 hx hZ hown (host := "") (Or.inl tw10) Via.refl e103 Fw103 (g := (mkF m 13 #[.val (.ref a1), .val (.int (2 : Int32))] [(.ref a1), (.ref a1)])) rfl rfl (hb hby d_prog_79_method_2_code_13)
  refine Goes.step (S' := T104.setTop (mkF m 16 #[.val (.ref a1), .val (.int (2 : Int32))] [(.ref b102), (.ref a1)])) (fun t k => st104 _ k) ?_
  obtain ⟨T105, h105, X105, e105, W105, st105⟩ := putF X104 hx hZ hown (host := "") (Or.inl tw12) Via.refl e104 (Fld.other W103 (Fld.ext E102 Ff) (Or.inr (slot_ne (Or.inl tw13) (Or.inl tw11) (by decide) (t := (.array .int)) (t' := (.array .int)) (by decide) (by decide)))) (Exa.wr W103 (Exa.ext E102 E1)) (Or.inl tw13) tw1 (ty := (.array .int)) (by decide) rfl rfl (g := (mkF m 16 #[.val (.ref a1), .val (.int (2 : Int32))] [(.ref b102), (.ref a1)])) rfl rfl (hb hby d_prog_79_method_2_code_16)
  have Fw105 : Fld Z h105 a1 "com/example/lumping/lumping/numbers/ChunkedInts" "filling" "[I" (.ref b102) := Fld.same W105 (Fld.other W103 (Fld.ext E102 Ff) (Or.inr (slot_ne (Or.inl tw13) (Or.inl tw11) (by decide) (t := (.array .int)) (t' := (.array .int)) (by decide) (by decide))))
  have N105 := Fr.snoc X105 N103 G1
  refine Goes.step (S' := T105.setTop (mkF m 19 #[.val (.ref a1), .val (.int (2 : Int32))] [])) (fun t k => st105 _ k) ?_
  refine Goes.leave (g := (mkF m 19 #[.val (.ref a1), .val (.int (2 : Int32))] [])) X105 Bd.notSynchronized (v := none) (fun _ => rfl) (fun fs hr => X105.returnOut hx Bd.returns (hb hby d_prog_79_method_2_code_19) hr) e105 ?_ (by decide) (by decide)
  exact ⟨b102, k102, rfl, N105, ((((Keep.refl _ [a1]).ext E102).wr W103 (Or.inl (List.mem_of_getElem? (i := 0) rfl))).wr W105 (Or.inl (List.mem_of_getElem? (i := 0) rfl))), (Nat.le_of_eq g102.symm), (Exa.wr W105 (Exa.wr W103 (Exa.ext E102 E1))), (Fld.other W105 Fw103 (Or.inr (slot_ne (Or.inl tw11) (Or.inl tw13) (by decide) (t := (.array .int)) (t' := (.array .int)) (by decide) (by decide)))), (Fld.other W105 (Fld.other W103 (Fld.ext E102 Fc) (Or.inr (slot_ne (Or.inl tw31) (Or.inl tw11) (by decide) (t := (.array (.array .int))) (t' := (.array .int)) (by decide) (by decide)))) (Or.inr (slot_ne (Or.inl tw31) (Or.inl tw13) (by decide) (t := (.array (.array .int))) (t' := (.array .int)) (by decide) (by decide)))), Fw105, (Fld.other W105 (Fld.other W103 (Fld.ext E102 Fd) (Or.inr (slot_ne (Or.inl tw20) (Or.inl tw11) (by decide) (t := .int) (t' := (.array .int)) (by decide) (by decide)))) (Or.inr (slot_ne (Or.inl tw20) (Or.inl tw13) (by decide) (t := .int) (t' := (.array .int)) (by decide) (by decide)))), (Fld.other W105 (Fld.other W103 (Fld.ext E102 Fs) (Or.inr (slot_ne (Or.inl tw22) (Or.inl tw11) (by decide) (t := .int) (t' := (.array .int)) (by decide) (by decide)))) (Or.inr (slot_ne (Or.inl tw22) (Or.inl tw13) (by decide) (t := .int) (t' := (.array .int)) (by decide) (by decide)))), ((V102.other W103 (Ne.symm (Nat.ne_of_lt (Nat.lt_of_lt_of_le E1.lt (Nat.le_of_eq g102.symm))))).other W105 (Ne.symm (Nat.ne_of_lt (Nat.lt_of_lt_of_le E1.lt (Nat.le_of_eq g102.symm)))))⟩

theorem ef_ci1_3 (m : MethodId) (x0 : Addr) (x1 : Int32) : entryFrame m #[(.ref x0), (.int x1)] 2 = mkF m 0 #[.val (.ref x0), .val (.int x1)] [] := by first | (simp [entryFrame, mkF, argsToLocals, Value.category]; done) | rfl
def Q_ci1_3 (Z : State) (a1 : Addr) (h0 : Heap) (n0 : Nat) (v : Option Value) (h : Heap) (L : List Loc) : Prop := ∃ (b : Addr) (kb : ClassId), v = none ∧ Fr n0 L ∧ Keep h0 h [a1] ∧ h0.size ≤ b ∧ Exa Z h a1 "com/example/lumping/lumping/numbers/ChunkedInts" ∧ Fld Z h a1 "com/example/lumping/lumping/numbers/ChunkedInts" "whole" "[I" (.ref b) ∧ Fld Z h a1 "com/example/lumping/lumping/numbers/ChunkedInts" "chunks" "[[I" .null ∧ Fld Z h a1 "com/example/lumping/lumping/numbers/ChunkedInts" "filling" "[I" (.ref b) ∧ Fld Z h a1 "com/example/lumping/lumping/numbers/ChunkedInts" "filled" "I" (.int (0 : Int32)) ∧ Fld Z h a1 "com/example/lumping/lumping/numbers/ChunkedInts" "size" "I" (.int (0 : Int32)) ∧ Arv Z h b kb .int (3 : Int32) [(.int (0 : Int32)), (.int (0 : Int32)), (.int (0 : Int32))] (.int (0 : Int32))
set_option maxRecDepth 65536 in
set_option maxHeartbeats 40000000 in
theorem ci1_3 (l : Launch) (Z : State) (a0 : Array Value) (hw : ∀ d ∈ tables_1, d.before a0 Z = true) (ws : List Jvm.Cond) (a1 : Addr) (h0 : Heap) (n0 : Nat) (Z0 : n0 ≤ h0.size) (E1 : Exa Z h0 a1 "com/example/lumping/lumping/numbers/ChunkedInts") (Fw : Fld Z h0 a1 "com/example/lumping/lumping/numbers/ChunkedInts" "whole" "[I" .null) (Fc : Fld Z h0 a1 "com/example/lumping/lumping/numbers/ChunkedInts" "chunks" "[[I" .null) (Ff : Fld Z h0 a1 "com/example/lumping/lumping/numbers/ChunkedInts" "filling" "[I" .null) (Fd : Fld Z h0 a1 "com/example/lumping/lumping/numbers/ChunkedInts" "filled" "I" (.int (0 : Int32))) (Fs : Fld Z h0 a1 "com/example/lumping/lumping/numbers/ChunkedInts" "size" "I" (.int (0 : Int32))) (G1 : n0 ≤ a1) :
    MetFree l mth4 (head1 (Jvm.Cond.code mth4 prog_79_method_2_code 2 none :: ws) rom6) (fun a U => a = #[(.ref a1), (.int (3 : Int32))] ∧ Z.Warmed39 U.vm ∧ U.heap = h0) (fun _ _ _ _ _ => True) (fun _ U o U' => ∃ v L, o = .returned v ∧ Q_ci1_3 Z a1 h0 n0 v U'.heap L ∧ FrameEnd U o U' L rom6.cells rom6.slots) := by
  refine MetFree.of_bodySF (plainFor_of_name pnm1) hisR ?_
  intro p e s m args below meth c s₁ Bd hml0 hP hK
  obtain ⟨rfl, hZ, hh⟩ := hP
  have hx := Bd.exec
  have hby := Bd.bytes
  have hml : c.maxLocals = 2 := hml0
  have hown : s.vm.findClass "com/example/lumping/lumping/numbers/ChunkedInts" = some m.cls := findClass_of_methodNamed Bd.named
  have hnm := (name_of_methodNamed Bd.named Bd.method).1
  have X0 : Stand p l e rom6 s m #[(.ref a1), (.int (3 : Int32))] below meth c s₁ [] 0 0 := Stand.of_body Bd
  have eh0 : s₁.heap = h0 := by rw [← hh, Bd.state]; rfl
  have N0 := Fr.nil n0
  have tw1 := hw _ (List.mem_of_getElem? (i := 1) rfl)
  have tw6 := hw _ (List.mem_of_getElem? (i := 6) rfl)
  have tw7 := hw _ (List.mem_of_getElem? (i := 7) rfl)
  have tw8 := hw _ (List.mem_of_getElem? (i := 8) rfl)
  have tw9 := hw _ (List.mem_of_getElem? (i := 9) rfl)
  have tw10 := hw _ (List.mem_of_getElem? (i := 10) rfl)
  have tw11 := hw _ (List.mem_of_getElem? (i := 11) rfl)
  have tw12 := hw _ (List.mem_of_getElem? (i := 12) rfl)
  have tw13 := hw _ (List.mem_of_getElem? (i := 13) rfl)
  have tw20 := hw _ (List.mem_of_getElem? (i := 20) rfl)
  have tw22 := hw _ (List.mem_of_getElem? (i := 22) rfl)
  have tw31 := hw _ (List.mem_of_getElem? (i := 31) rfl)
  show Goes p e below (Pq (Q_ci1_3 Z a1 h0 n0) s rom6.cells rom6.slots) (s₁.setTop (entryFrame m #[(.ref a1), (.int (3 : Int32))] 2))
  refine Goes.step (S' := s₁.setTop (mkF m 0 #[.val (.ref a1), .val (.int (3 : Int32))] [])) (fun t k => castTop (ef_ci1_3 m a1 (3 : Int32)) k) ?_
  refine Goes.step (S' := s₁.setTop (mkF m 1 #[.val (.ref a1), .val (.int (3 : Int32))] [(.ref a1)])) (fun t k => XS.aloadN X0.here hx rfl (hb hby d_prog_79_method_2_code_0) rfl rfl k) ?_
  obtain ⟨T101, X101, e101, st101⟩ := initO X0 hx hZ hown tw6 tw7 tw8 eh0 (g := (mkF m 1 #[.val (.ref a1), .val (.int (3 : Int32))] [(.ref a1)])) rfl (by rw [hml]; rfl) rfl (hb hby d_prog_79_method_2_code_1) (by decide) (W := 0) (Nat.le_of_eq rfl) (by decide)
  refine Goes.step (S' := T101.setTop (mkF m 6 #[.val (.ref a1), .val (.int (3 : Int32))] [(.int (3 : Int32)), (.ref a1)])) (fun t k => st101 _ (XS.aloadN X101.here hx rfl (hb hby d_prog_79_method_2_code_4) rfl rfl (XS.iloadN X101.here hx rfl (hb hby d_prog_79_method_2_code_5) rfl k))) ?_
  obtain ⟨T102, h102, k102, X102, e102, E102, A102, AE102, st102⟩ := newPE (aty := .int) X101 hx hZ tw9 e101 (g := (mkF m 6 #[.val (.ref a1), .val (.int (3 : Int32))] [(.int (3 : Int32)), (.ref a1)])) rfl (hb hby d_prog_79_method_2_code_6) rfl (by decide) (cap := 3) (by decide) (by decide) (by decide) (by decide) (ad := "[I") rfl
  obtain ⟨b102, g102⟩ : ∃ z, z = h0.size := ⟨_, rfl⟩
  rw [← g102] at A102 AE102 st102
  have V102 : Arv Z h102 b102 k102 .int (3 : Int32) [(.int (0 : Int32)), (.int (0 : Int32)), (.int (0 : Int32))] (.int (0 : Int32)) := (Arv.new A102 (by decide)).pad (pad_rep [] (.int (0 : Int32)) 3)
  refine Goes.step (S' := T102.setTop (mkF m 8 #[.val (.ref a1), .val (.int (3 : Int32))] [(.ref b102), (.ref a1)])) (fun t k => st102 _ k) ?_
  obtain ⟨T103, h103, X103, e103, W103, st103⟩ := putF X102 hx hZ hown (host := "") (Or.inl tw10) Via.refl e102 (Fld.ext E102 Fw) (Exa.ext E102 E1) (Or.inl tw11) tw1 (ty := (.array .int)) (by decide) rfl rfl (g := (mkF m 8 #[.val (.ref a1), .val (.int (3 : Int32))] [(.ref b102), (.ref a1)])) rfl rfl (hb hby d_prog_79_method_2_code_8)
  have Fw103 : Fld Z h103 a1 "com/example/lumping/lumping/numbers/ChunkedInts" "whole" "[I" (.ref b102) := Fld.same W103 (Fld.ext E102 Fw)
  have N103 := Fr.snoc X103 N0 G1
  refine Goes.step (S' := T103.setTop (mkF m 13 #[.val (.ref a1), .val (.int (3 : Int32))] [(.ref a1), (.ref a1)])) (fun t k => st103 _ (XS.aloadN X103.here hx rfl (hb hby d_prog_79_method_2_code_11) rfl rfl (XS.aloadN X103.here hx rfl (hb hby d_prog_79_method_2_code_12) rfl rfl k))) ?_
  obtain ⟨T104, X104, e104, st104⟩ := getF X103 hx hZ hown (host := "") (Or.inl tw10) Via.refl e103 Fw103 (g := (mkF m 13 #[.val (.ref a1), .val (.int (3 : Int32))] [(.ref a1), (.ref a1)])) rfl rfl (hb hby d_prog_79_method_2_code_13)
  refine Goes.step (S' := T104.setTop (mkF m 16 #[.val (.ref a1), .val (.int (3 : Int32))] [(.ref b102), (.ref a1)])) (fun t k => st104 _ k) ?_
  obtain ⟨T105, h105, X105, e105, W105, st105⟩ := putF X104 hx hZ hown (host := "") (Or.inl tw12) Via.refl e104 (Fld.other W103 (Fld.ext E102 Ff) (Or.inr (slot_ne (Or.inl tw13) (Or.inl tw11) (by decide) (t := (.array .int)) (t' := (.array .int)) (by decide) (by decide)))) (Exa.wr W103 (Exa.ext E102 E1)) (Or.inl tw13) tw1 (ty := (.array .int)) (by decide) rfl rfl (g := (mkF m 16 #[.val (.ref a1), .val (.int (3 : Int32))] [(.ref b102), (.ref a1)])) rfl rfl (hb hby d_prog_79_method_2_code_16)
  have Fw105 : Fld Z h105 a1 "com/example/lumping/lumping/numbers/ChunkedInts" "filling" "[I" (.ref b102) := Fld.same W105 (Fld.other W103 (Fld.ext E102 Ff) (Or.inr (slot_ne (Or.inl tw13) (Or.inl tw11) (by decide) (t := (.array .int)) (t' := (.array .int)) (by decide) (by decide))))
  have N105 := Fr.snoc X105 N103 G1
  refine Goes.step (S' := T105.setTop (mkF m 19 #[.val (.ref a1), .val (.int (3 : Int32))] [])) (fun t k => st105 _ k) ?_
  refine Goes.leave (g := (mkF m 19 #[.val (.ref a1), .val (.int (3 : Int32))] [])) X105 Bd.notSynchronized (v := none) (fun _ => rfl) (fun fs hr => X105.returnOut hx Bd.returns (hb hby d_prog_79_method_2_code_19) hr) e105 ?_ (by decide) (by decide)
  exact ⟨b102, k102, rfl, N105, ((((Keep.refl _ [a1]).ext E102).wr W103 (Or.inl (List.mem_of_getElem? (i := 0) rfl))).wr W105 (Or.inl (List.mem_of_getElem? (i := 0) rfl))), (Nat.le_of_eq g102.symm), (Exa.wr W105 (Exa.wr W103 (Exa.ext E102 E1))), (Fld.other W105 Fw103 (Or.inr (slot_ne (Or.inl tw11) (Or.inl tw13) (by decide) (t := (.array .int)) (t' := (.array .int)) (by decide) (by decide)))), (Fld.other W105 (Fld.other W103 (Fld.ext E102 Fc) (Or.inr (slot_ne (Or.inl tw31) (Or.inl tw11) (by decide) (t := (.array (.array .int))) (t' := (.array .int)) (by decide) (by decide)))) (Or.inr (slot_ne (Or.inl tw31) (Or.inl tw13) (by decide) (t := (.array (.array .int))) (t' := (.array .int)) (by decide) (by decide)))), Fw105, (Fld.other W105 (Fld.other W103 (Fld.ext E102 Fd) (Or.inr (slot_ne (Or.inl tw20) (Or.inl tw11) (by decide) (t := .int) (t' := (.array .int)) (by decide) (by decide)))) (Or.inr (slot_ne (Or.inl tw20) (Or.inl tw13) (by decide) (t := .int) (t' := (.array .int)) (by decide) (by decide)))), (Fld.other W105 (Fld.other W103 (Fld.ext E102 Fs) (Or.inr (slot_ne (Or.inl tw22) (Or.inl tw11) (by decide) (t := .int) (t' := (.array .int)) (by decide) (by decide)))) (Or.inr (slot_ne (Or.inl tw22) (Or.inl tw13) (by decide) (t := .int) (t' := (.array .int)) (by decide) (by decide)))), ((V102.other W103 (Ne.symm (Nat.ne_of_lt (Nat.lt_of_lt_of_le E1.lt (Nat.le_of_eq g102.symm))))).other W105 (Ne.symm (Nat.ne_of_lt (Nat.lt_of_lt_of_le E1.lt (Nat.le_of_eq g102.symm)))))⟩

theorem ef_grow0 (m : MethodId) (x0 : Addr) : entryFrame m #[(.ref x0)] 4 = mkF m 0 #[.val (.ref x0), .unset, .unset, .unset] [] := by first | (simp [entryFrame, mkF, argsToLocals, Value.category]; done) | rfl
def Q_grow0 (Z : State) (a1 : Addr) (b1 : Addr) (k1 : ClassId) (h0 : Heap) (n0 : Nat) (v : Option Value) (h : Heap) (L : List Loc) : Prop := ∃ (c : Addr) (kc : ClassId) (b : Addr) (kb : ClassId), v = none ∧ Fr n0 L ∧ Keep h0 h [a1] ∧ h0.size ≤ c ∧ h0.size ≤ b ∧ Exa Z h a1 "com/example/lumping/lumping/numbers/ChunkedInts" ∧ Fld Z h a1 "com/example/lumping/lumping/numbers/ChunkedInts" "whole" "[I" .null ∧ Fld Z h a1 "com/example/lumping/lumping/numbers/ChunkedInts" "chunks" "[[I" (.ref c) ∧ Fld Z h a1 "com/example/lumping/lumping/numbers/ChunkedInts" "filling" "[I" (.ref b) ∧ Fld Z h a1 "com/example/lumping/lumping/numbers/ChunkedInts" "filled" "I" (.int (0 : Int32)) ∧ Fld Z h a1 "com/example/lumping/lumping/numbers/ChunkedInts" "size" "I" (.int (0 : Int32)) ∧ Arv Z h c kc (.array .int) (1 : Int32) [(.ref b)] .null ∧ Arv Z h b kb .int (16 : Int32) [(.int (0 : Int32)), (.int (0 : Int32)), (.int (0 : Int32)), (.int (0 : Int32)), (.int (0 : Int32)), (.int (0 : Int32)), (.int (0 : Int32)), (.int (0 : Int32)), (.int (0 : Int32)), (.int (0 : Int32)), (.int (0 : Int32)), (.int (0 : Int32)), (.int (0 : Int32)), (.int (0 : Int32)), (.int (0 : Int32)), (.int (0 : Int32))] (.int (0 : Int32))
set_option maxRecDepth 65536 in
set_option maxHeartbeats 40000000 in
theorem grow0 (l : Launch) (Z : State) (a0 : Array Value) (hw : ∀ d ∈ tables_1, d.before a0 Z = true) (ws : List Jvm.Cond) (a1 : Addr) (b1 : Addr) (k1 : ClassId) (h0 : Heap) (n0 : Nat) (Z0 : n0 ≤ h0.size) (E1 : Exa Z h0 a1 "com/example/lumping/lumping/numbers/ChunkedInts") (Fw : Fld Z h0 a1 "com/example/lumping/lumping/numbers/ChunkedInts" "whole" "[I" (.ref b1)) (Fc : Fld Z h0 a1 "com/example/lumping/lumping/numbers/ChunkedInts" "chunks" "[[I" .null) (Ff : Fld Z h0 a1 "com/example/lumping/lumping/numbers/ChunkedInts" "filling" "[I" (.ref b1)) (Fd : Fld Z h0 a1 "com/example/lumping/lumping/numbers/ChunkedInts" "filled" "I" (.int (0 : Int32))) (Fs : Fld Z h0 a1 "com/example/lumping/lumping/numbers/ChunkedInts" "size" "I" (.int (0 : Int32))) (V1 : Arv Z h0 b1 k1 .int (0 : Int32) [] (.int (0 : Int32))) (G1 : n0 ≤ a1) :
    MetFree l mth5 (head1 (Jvm.Cond.code mth5 prog_79_method_8_code 4 none :: ws) rom7) (fun a U => a = #[(.ref a1)] ∧ Z.Warmed39 U.vm ∧ U.heap = h0) (fun _ _ _ _ _ => True) (fun _ U o U' => ∃ v L, o = .returned v ∧ Q_grow0 Z a1 b1 k1 h0 n0 v U'.heap L ∧ FrameEnd U o U' L rom7.cells rom7.slots) := by
  refine MetFree.of_bodySF (plainFor_of_name pnm1) hisR ?_
  intro p e s m args below meth c s₁ Bd hml0 hP hK
  obtain ⟨rfl, hZ, hh⟩ := hP
  have hx := Bd.exec
  have hby := Bd.bytes
  have hml : c.maxLocals = 4 := hml0
  have hown : s.vm.findClass "com/example/lumping/lumping/numbers/ChunkedInts" = some m.cls := findClass_of_methodNamed Bd.named
  have hnm := (name_of_methodNamed Bd.named Bd.method).1
  have X0 : Stand p l e rom7 s m #[(.ref a1)] below meth c s₁ [] 0 0 := Stand.of_body Bd
  have eh0 : s₁.heap = h0 := by rw [← hh, Bd.state]; rfl
  have N0 := Fr.nil n0
  have tw1 := hw _ (List.mem_of_getElem? (i := 1) rfl)
  have tw10 := hw _ (List.mem_of_getElem? (i := 10) rfl)
  have tw11 := hw _ (List.mem_of_getElem? (i := 11) rfl)
  have tw12 := hw _ (List.mem_of_getElem? (i := 12) rfl)
  have tw13 := hw _ (List.mem_of_getElem? (i := 13) rfl)
  have tw19 := hw _ (List.mem_of_getElem? (i := 19) rfl)
  have tw20 := hw _ (List.mem_of_getElem? (i := 20) rfl)
  have tw21 := hw _ (List.mem_of_getElem? (i := 21) rfl)
  have tw22 := hw _ (List.mem_of_getElem? (i := 22) rfl)
  have tw27 := hw _ (List.mem_of_getElem? (i := 27) rfl)
  have tw28 := hw _ (List.mem_of_getElem? (i := 28) rfl)
  have tw29 := hw _ (List.mem_of_getElem? (i := 29) rfl)
  have tw30 := hw _ (List.mem_of_getElem? (i := 30) rfl)
  have tw31 := hw _ (List.mem_of_getElem? (i := 31) rfl)
  have tw32 := hw _ (List.mem_of_getElem? (i := 32) rfl)
  have tw33 := hw _ (List.mem_of_getElem? (i := 33) rfl)
  have tw34 := hw _ (List.mem_of_getElem? (i := 34) rfl)
  have tw35 := hw _ (List.mem_of_getElem? (i := 35) rfl)
  have tw36 := hw _ (List.mem_of_getElem? (i := 36) rfl)
  have tw37 := hw _ (List.mem_of_getElem? (i := 37) rfl)
  have tw38 := hw _ (List.mem_of_getElem? (i := 38) rfl)
  have tw39 := hw _ (List.mem_of_getElem? (i := 39) rfl)
  have tw40 := hw _ (List.mem_of_getElem? (i := 40) rfl)
  have tw41 := hw _ (List.mem_of_getElem? (i := 41) rfl)
  have tw42 := hw _ (List.mem_of_getElem? (i := 42) rfl)
  show Goes p e below (Pq (Q_grow0 Z a1 b1 k1 h0 n0) s rom7.cells rom7.slots) (s₁.setTop (entryFrame m #[(.ref a1)] 4))
  refine Goes.step (S' := s₁.setTop (mkF m 0 #[.val (.ref a1), .unset, .unset, .unset] [])) (fun t k => castTop (ef_grow0 m a1) k) ?_
  refine Goes.step (S' := s₁.setTop (mkF m 1 #[.val (.ref a1), .unset, .unset, .unset] [(.ref a1)])) (fun t k => XS.aloadN X0.here hx rfl (hb hby d_prog_79_method_8_code_0) rfl rfl k) ?_
  obtain ⟨T101, X101, e101, st101⟩ := getF X0 hx hZ hown (host := "") (Or.inl tw10) Via.refl eh0 Fw (g := (mkF m 1 #[.val (.ref a1), .unset, .unset, .unset] [(.ref a1)])) rfl rfl (hb hby d_prog_79_method_8_code_1)
  refine Goes.step (S' := T101.setTop (mkF m 8 #[.val (.ref a1), .unset, .unset, .unset] [(.ref a1)])) (fun t k => st101 _ (XS.ifnullNo X101.here hx rfl (hb hby d_prog_79_method_8_code_4) rfl (XS.aloadN X101.here hx rfl (hb hby d_prog_79_method_8_code_7) rfl rfl k))) ?_
  obtain ⟨T102, X102, e102, st102⟩ := getF X101 hx hZ hown (host := "") (Or.inl tw21) Via.refl e101 Fs (g := (mkF m 8 #[.val (.ref a1), .unset, .unset, .unset] [(.ref a1)])) rfl rfl (hb hby d_prog_79_method_8_code_8)
  refine Goes.step (S' := T102.setTop (mkF m 14 #[.val (.ref a1), .unset, .unset, .unset] [(.int ((0 : Int32) / (1048572 : Int32)))])) (fun t k => st102 _ (X102.ldcInt hx hown (mvT hZ tw27) (g := (mkF m 11 #[.val (.ref a1), .unset, .unset, .unset] [(.int (0 : Int32))])) rfl (hb hby d_prog_79_method_8_code_11) _ (XS.idiv X102.here hx rfl (hb hby d_prog_79_method_8_code_13) rfl (by decide) k))) ?_
  rw [show ((0 : Int32) / (1048572 : Int32)) = (0 : Int32) from by decide]
  refine Goes.step (S' := T102.setTop (mkF m 19 #[.val (.ref a1), .val (.int (0 : Int32)), .unset, .unset] [(.int ((0 : Int32) + (1 : Int32))), (.ref a1)])) (fun t k => XS.istoreN X102.here hx rfl (hb hby d_prog_79_method_8_code_14) rfl (l' := #[.val (.ref a1), .val (.int (0 : Int32)), .unset, .unset]) rfl (XS.aloadN X102.here hx rfl (hb hby d_prog_79_method_8_code_15) rfl rfl (XS.iloadN X102.here hx rfl (hb hby d_prog_79_method_8_code_16) rfl (XS.iconst X102.here hx rfl (hb hby d_prog_79_method_8_code_17) (XS.iadd X102.here hx rfl (hb hby d_prog_79_method_8_code_18) rfl k))))) ?_
  rw [show ((0 : Int32) + (1 : Int32)) = (1 : Int32) from by decide]
  obtain ⟨T103, h103, k103, X103, e103, E103, A103, AE103, O103, st103⟩ := newRA X102 hx hZ hown (ty := .int) (C := "[I") rfl tw28 tw29 e102 (g := (mkF m 19 #[.val (.ref a1), .val (.int (0 : Int32)), .unset, .unset] [(.int (1 : Int32)), (.ref a1)])) rfl (hb hby d_prog_79_method_8_code_19) rfl (by decide) (cap := 1) (by decide) (by decide) (by decide) (by decide) (ad := "[[I") rfl
  obtain ⟨b103, g103⟩ : ∃ z, z = h0.size := ⟨_, rfl⟩
  rw [← g103] at A103 AE103 st103
  have V103 : Arv Z h103 b103 k103 (.array .int) (1 : Int32) [.null] .null := (Arv.new A103 (by decide)).pad (pad_rep [] .null 1)
  refine Goes.step (S' := T103.setTop (mkF m 22 #[.val (.ref a1), .val (.int (0 : Int32)), .unset, .unset] [(.ref b103), (.ref a1)])) (fun t k => st103 _ k) ?_
  obtain ⟨T104, h104, X104, e104, W104, st104⟩ := putF X103 hx hZ hown (host := "") (Or.inl tw30) Via.refl e103 (Fld.ext E103 Fc) (Exa.ext E103 E1) (Or.inl tw31) tw1 (ty := (.array (.array .int))) (by decide) rfl rfl (g := (mkF m 22 #[.val (.ref a1), .val (.int (0 : Int32)), .unset, .unset] [(.ref b103), (.ref a1)])) rfl rfl (hb hby d_prog_79_method_8_code_22)
  have Fw104 : Fld Z h104 a1 "com/example/lumping/lumping/numbers/ChunkedInts" "chunks" "[[I" (.ref b103) := Fld.same W104 (Fld.ext E103 Fc)
  have N104 := Fr.snoc X104 N0 G1
  refine Goes.step (S' := T104.setTop (mkF m 30 #[.val (.ref a1), .val (.int (0 : Int32)), .unset, .unset] [(.ref a1)])) (fun t k => st104 _ (XS.iloadN X104.here hx rfl (hb hby d_prog_79_method_8_code_25) rfl (XS.ifNo X104.here hx rfl (hb hby d_prog_79_method_8_code_26) rfl ((if0 _ _).trans (teq ((by decide) : (0 : Int32) = (0 : Int32))).2) (XS.aloadN X104.here hx rfl (hb hby d_prog_79_method_8_code_29) rfl rfl k)))) ?_
  obtain ⟨T105, X105, e105, st105⟩ := getF X104 hx hZ hown (host := "") (Or.inl tw30) Via.refl e104 Fw104 (g := (mkF m 30 #[.val (.ref a1), .val (.int (0 : Int32)), .unset, .unset] [(.ref a1)])) rfl rfl (hb hby d_prog_79_method_8_code_30)
  refine Goes.step (S' := T105.setTop (mkF m 35 #[.val (.ref a1), .val (.int (0 : Int32)), .unset, .unset] [(.ref a1), (.int (0 : Int32)), (.ref b103)])) (fun t k => st105 _ (XS.iconst X105.here hx rfl (hb hby d_prog_79_method_8_code_33) (XS.aloadN X105.here hx rfl (hb hby d_prog_79_method_8_code_34) rfl rfl k))) ?_
  obtain ⟨T106, X106, e106, st106⟩ := getF X105 hx hZ hown (host := "") (Or.inl tw10) Via.refl e105 (Fld.other W104 (Fld.ext E103 Fw) (Or.inr (slot_ne (Or.inl tw11) (Or.inl tw31) (by decide) (t := (.array .int)) (t' := (.array (.array .int))) (by decide) (by decide)))) (g := (mkF m 35 #[.val (.ref a1), .val (.int (0 : Int32)), .unset, .unset] [(.ref a1), (.int (0 : Int32)), (.ref b103)])) rfl rfl (hb hby d_prog_79_method_8_code_35)
  refine Goes.step (S' := T106.setTop (mkF m 40 #[.val (.ref a1), .val (.int (0 : Int32)), .unset, .unset] [(.ref a1), (.int (2 : Int32)), (.ref b1), (.int (0 : Int32)), (.ref b103)])) (fun t k => st106 _ (XS.iconst X106.here hx rfl (hb hby d_prog_79_method_8_code_38) (XS.aloadN X106.here hx rfl (hb hby d_prog_79_method_8_code_39) rfl rfl k))) ?_
  obtain ⟨T107, X107, e107, st107⟩ := getF X106 hx hZ hown (host := "") (Or.inl tw21) Via.refl e106 (Fld.other W104 (Fld.ext E103 Fs) (Or.inr (slot_ne (Or.inl tw22) (Or.inl tw31) (by decide) (t := .int) (t' := (.array (.array .int))) (by decide) (by decide)))) (g := (mkF m 40 #[.val (.ref a1), .val (.int (0 : Int32)), .unset, .unset] [(.ref a1), (.int (2 : Int32)), (.ref b1), (.int (0 : Int32)), (.ref b103)])) rfl rfl (hb hby d_prog_79_method_8_code_40)
  refine Goes.step (S' := T107.setTop (mkF m 44 #[.val (.ref a1), .val (.int (0 : Int32)), .unset, .unset] [(.int ((2 : Int32) * (0 : Int32))), (.ref b1), (.int (0 : Int32)), (.ref b103)])) (fun t k => st107 _ (XS.imul X107.here hx rfl (hb hby d_prog_79_method_8_code_43) rfl k)) ?_
  rw [show ((2 : Int32) * (0 : Int32)) = (0 : Int32) from by decide]
  refine Goes.step (S' := T107.setTop (mkF m 46 #[.val (.ref a1), .val (.int (0 : Int32)), .unset, .unset] [(.int (16 : Int32)), (.int (0 : Int32)), (.ref b1), (.int (0 : Int32)), (.ref b103)])) (fun t k => XS.bipush X107.here hx rfl (hb hby d_prog_79_method_8_code_44) k) ?_
  obtain ⟨_, _, ⟨T108, L108, k108, n108⟩, -, X108, ⟨Lc108, hQ108, l108, y108, z108⟩, st108⟩ := Jvm.LawKit.callS X107 hx (y := mth0) hown (mvT hZ tw32) (mvT hZ tw33) (mvT hZ tw34) (mvT hZ tw35) (by decide) (backOf (W := 3) (mx1 l Z a0 hw [] (0 : Int32) (16 : Int32) h104 n0 (Nat.le_trans Z0 (Nat.le_trans E103.1 (Nat.le_of_eq W104.size.symm))) ((by decide) : (0 : Int32) < (16 : Int32))) hZ tw35 tw34 (by decide) (by decide)) (g := (mkF m 46 #[.val (.ref a1), .val (.int (0 : Int32)), .unset, .unset] [(.int (16 : Int32)), (.int (0 : Int32)), (.ref b1), (.int (0 : Int32)), (.ref b103)])) rfl (by rw [hml]; rfl) (argsL := [(.int (0 : Int32)), (.int (16 : Int32))]) (rest := [(.ref b1), (.int (0 : Int32)), (.ref b103)]) (lenOf pd_II_I rfl) rfl (Nat.le_of_eq rfl) (hb hby d_prog_79_method_8_code_46) (fun _ _ => ⟨rfl, e107, (by decide : 1 + 0 ≤ _), (by decide : 1 + 0 ≤ _)⟩)
  dsimp only [Pt.U, Pt.locs, Pt.cells, Pt.slots] at X108 l108 y108 z108 st108 hQ108
  subst l108 y108 z108
  obtain ⟨rfl, Nq108, q108_0⟩ := hQ108
  have N108 := Fr.app N104 Nq108
  refine Goes.step (S' := T108.setTop (mkF m 51 #[.val (.ref a1), .val (.int (0 : Int32)), .unset, .unset] [(.int (1048572 : Int32)), (.int (16 : Int32)), (.ref b1), (.int (0 : Int32)), (.ref b103)])) (fun t k => st108 _ (X108.ldcInt hx hown (mvT hZ tw27) (g := (mkF m 49 #[.val (.ref a1), .val (.int (0 : Int32)), .unset, .unset] [(.int (16 : Int32)), (.ref b1), (.int (0 : Int32)), (.ref b103)])) rfl (hb hby d_prog_79_method_8_code_49) _ k)) ?_
  obtain ⟨_, _, ⟨T109, L109, k109, n109⟩, -, X109, ⟨Lc109, hQ109, l109, y109, z109⟩, st109⟩ := Jvm.LawKit.callS X108 hx (y := mth1) hown (mvT hZ tw36) (mvT hZ tw37) (mvT hZ tw34) (mvT hZ tw38) (by decide) (backOf (W := 3) (mn0 l Z a0 hw [] (16 : Int32) (1048572 : Int32) h104 n0 (Nat.le_trans Z0 (Nat.le_trans E103.1 (Nat.le_of_eq W104.size.symm))) ((by decide) : ¬ ((1048572 : Int32) < (16 : Int32)))) hZ tw38 tw34 (by decide) (by decide)) (g := (mkF m 51 #[.val (.ref a1), .val (.int (0 : Int32)), .unset, .unset] [(.int (1048572 : Int32)), (.int (16 : Int32)), (.ref b1), (.int (0 : Int32)), (.ref b103)])) rfl (by rw [hml]; rfl) (argsL := [(.int (16 : Int32)), (.int (1048572 : Int32))]) (rest := [(.ref b1), (.int (0 : Int32)), (.ref b103)]) (lenOf pd_II_I rfl) rfl (Nat.le_of_eq rfl) (hb hby d_prog_79_method_8_code_51) (fun _ _ => ⟨rfl, q108_0, (by decide : 1 + 0 ≤ _), (by decide : 1 + 0 ≤ _)⟩)
  dsimp only [Pt.U, Pt.locs, Pt.cells, Pt.slots] at X109 l109 y109 z109 st109 hQ109
  subst l109 y109 z109
  obtain ⟨rfl, Nq109, q109_0⟩ := hQ109
  have N109 := Fr.app N108 Nq109
  refine Goes.step (S' := T109.setTop (mkF m 54 #[.val (.ref a1), .val (.int (0 : Int32)), .unset, .unset] [(.int (16 : Int32)), (.ref b1), (.int (0 : Int32)), (.ref b103)])) (fun t k => st109 _ k) ?_
  obtain ⟨_, _, ⟨T110, L110, k110, n110⟩, -, X110, ⟨Lc110, hQ110, l110, y110, z110⟩, st110⟩ := Jvm.LawKit.callS X109 hx (y := mth2) hown (mvT hZ tw39) (mvT hZ tw40) (mvT hZ tw41) (mvT hZ tw42) (by decide) (backOf (W := 2) (cpy0 l Z a0 hw [] b1 k1 h104 n0 (Nat.le_trans Z0 (Nat.le_trans E103.1 (Nat.le_of_eq W104.size.symm))) ((V1.ext E103).other W104 (Ne.symm (Exa.neArv (Exa.ext E103 E1) (V1.ext E103) tw1)))) hZ tw42 tw41 (by decide) (by decide)) (g := (mkF m 54 #[.val (.ref a1), .val (.int (0 : Int32)), .unset, .unset] [(.int (16 : Int32)), (.ref b1), (.int (0 : Int32)), (.ref b103)])) rfl (by rw [hml]; rfl) (argsL := [(.ref b1), (.int (16 : Int32))]) (rest := [(.int (0 : Int32)), (.ref b103)]) (lenOf pd_II__I rfl) rfl (Nat.le_of_eq rfl) (hb hby d_prog_79_method_8_code_54) (fun _ _ => ⟨rfl, q109_0, (by decide : 1 + 1 ≤ _), (by decide : 1 + 16 ≤ _)⟩)
  dsimp only [Pt.U, Pt.locs, Pt.cells, Pt.slots] at X110 l110 y110 z110 st110 hQ110
  subst l110 y110 z110
  obtain ⟨b_110, kb_110, rfl, Nq110, q110_0, q110_1, q110_2, q110_3⟩ := hQ110
  have N110 := Fr.app N109 Nq110
  refine Goes.step (S' := T110.setTop (mkF m 57 #[.val (.ref a1), .val (.int (0 : Int32)), .unset, .unset] [(.ref b_110), (.int (0 : Int32)), (.ref b103)])) (fun t k => st110 _ k) ?_
  obtain ⟨cl111, Ar111, qk111, Sz111, Nn111, Hs111, Gs111⟩ := id ((V103.other W104 (Ne.symm (Nat.ne_of_lt (Nat.lt_of_lt_of_le E1.lt (Nat.le_of_eq g103.symm))))).keep q110_0 nin0)
  obtain ⟨T111, h111, X111, e111, W111, st111⟩ := stR X110 hx hZ rfl Ar111 (j := (0 : Int32)) (inb_of (j := (0 : Int32)) Sz111 ⟨by decide, by decide⟩) rfl (Sto.ofVA Ar111 qk111 O103 (Ins.self q110_2)) (g := (mkF m 57 #[.val (.ref a1), .val (.int (0 : Int32)), .unset, .unset] [(.ref b_110), (.int (0 : Int32)), (.ref b103)])) rfl rfl (hb hby d_prog_79_method_8_code_57)
  have V111 : Arv Z h111 b103 k103 (.array .int) (1 : Int32) [(.ref b_110)] .null := Arv.set Ar111 qk111 Sz111 Nn111 Hs111 Gs111 rfl W111 0 rfl (Nat.le_of_ble_eq_true rfl)
  have N111 := Fr.snoc X111 N110 (Nat.le_trans Z0 (Nat.le_of_eq g103.symm))
  refine Goes.step (S' := T111.setTop (mkF m 117 #[.val (.ref a1), .val (.int (0 : Int32)), .unset, .unset] [.null, (.ref a1)])) (fun t k => st111 _ (XS.goto X111.here hx rfl (pc0 := 58) (pc' := 115) rfl (hb hby d_prog_79_method_8_code_58) (by decide) (by decide) (XS.aloadN X111.here hx rfl (hb hby d_prog_79_method_8_code_115) rfl rfl (XS.aconstNull X111.here hx rfl (hb hby d_prog_79_method_8_code_116) k)))) ?_
  obtain ⟨T112, h112, X112, e112, W112, st112⟩ := putF X111 hx hZ hown (host := "") (Or.inl tw10) Via.refl e111 (Fld.other W111 ((Fld.other W104 (Fld.ext E103 Fw) (Or.inr (slot_ne (Or.inl tw11) (Or.inl tw31) (by decide) (t := (.array .int)) (t' := (.array (.array .int))) (by decide) (by decide)))).keep q110_0 nin0) (Or.inl (Nat.ne_of_lt (Nat.lt_of_lt_of_le E1.lt (Nat.le_of_eq g103.symm))))) (Exa.wr W111 ((Exa.wr W104 (Exa.ext E103 E1)).keep q110_0)) (Or.inl tw11) tw1 (ty := (.array .int)) (by decide) rfl rfl (g := (mkF m 117 #[.val (.ref a1), .val (.int (0 : Int32)), .unset, .unset] [.null, (.ref a1)])) rfl rfl (hb hby d_prog_79_method_8_code_117)
  have Fw112 : Fld Z h112 a1 "com/example/lumping/lumping/numbers/ChunkedInts" "whole" "[I" .null := Fld.same W112 (Fld.other W111 ((Fld.other W104 (Fld.ext E103 Fw) (Or.inr (slot_ne (Or.inl tw11) (Or.inl tw31) (by decide) (t := (.array .int)) (t' := (.array (.array .int))) (by decide) (by decide)))).keep q110_0 nin0) (Or.inl (Nat.ne_of_lt (Nat.lt_of_lt_of_le E1.lt (Nat.le_of_eq g103.symm)))))
  have N112 := Fr.snoc X112 N111 G1
  refine Goes.step (S' := T112.setTop (mkF m 122 #[.val (.ref a1), .val (.int (0 : Int32)), .unset, .unset] [(.ref a1), (.ref a1)])) (fun t k => st112 _ (XS.aloadN X112.here hx rfl (hb hby d_prog_79_method_8_code_120) rfl rfl (XS.aloadN X112.here hx rfl (hb hby d_prog_79_method_8_code_121) rfl rfl k))) ?_
  obtain ⟨T113, X113, e113, st113⟩ := getF X112 hx hZ hown (host := "") (Or.inl tw30) Via.refl e112 (Fld.other W112 (Fld.other W111 (Fw104.keep q110_0 nin0) (Or.inl (Nat.ne_of_lt (Nat.lt_of_lt_of_le E1.lt (Nat.le_of_eq g103.symm))))) (Or.inr (slot_ne (Or.inl tw31) (Or.inl tw11) (by decide) (t := (.array (.array .int))) (t' := (.array .int)) (by decide) (by decide)))) (g := (mkF m 122 #[.val (.ref a1), .val (.int (0 : Int32)), .unset, .unset] [(.ref a1), (.ref a1)])) rfl rfl (hb hby d_prog_79_method_8_code_122)
  refine Goes.step (S' := T113.setTop (mkF m 126 #[.val (.ref a1), .val (.int (0 : Int32)), .unset, .unset] [(.int (0 : Int32)), (.ref b103), (.ref a1)])) (fun t k => st113 _ (XS.iloadN X113.here hx rfl (hb hby d_prog_79_method_8_code_125) rfl k)) ?_
  obtain ⟨cl114, Ar114, qk114, Sz114, Nn114, Hs114, Gs114⟩ := id (V111.other W112 (Ne.symm (Nat.ne_of_lt (Nat.lt_of_lt_of_le E1.lt (Nat.le_of_eq g103.symm)))))
  have hin114 := (inb_of (j := (0 : Int32)) Sz114 ⟨by decide, by decide⟩)
  refine Goes.step (S' := T113.setTop (mkF m 127 #[.val (.ref a1), .val (.int (0 : Int32)), .unset, .unset] [(.ref b_110), (.ref a1)])) (fun t k => X113.aaload hx (j := (0 : Int32)) (v := (.ref b_110)) (by rw [e113]; exact Ar114.1) (State.isArrayOf_alike hZ.alike Ar114.2.1) rfl Ar114.2.2 hin114 (Has.at Hs114 hin114 rfl) (g := (mkF m 126 #[.val (.ref a1), .val (.int (0 : Int32)), .unset, .unset] [(.int (0 : Int32)), (.ref b103), (.ref a1)])) rfl rfl (hb hby d_prog_79_method_8_code_126) _ k) ?_
  obtain ⟨T115, h115, X115, e115, W115, st115⟩ := putF X113 hx hZ hown (host := "") (Or.inl tw12) Via.refl e113 (Fld.other W112 (Fld.other W111 ((Fld.other W104 (Fld.ext E103 Ff) (Or.inr (slot_ne (Or.inl tw13) (Or.inl tw31) (by decide) (t := (.array .int)) (t' := (.array (.array .int))) (by decide) (by decide)))).keep q110_0 nin0) (Or.inl (Nat.ne_of_lt (Nat.lt_of_lt_of_le E1.lt (Nat.le_of_eq g103.symm))))) (Or.inr (slot_ne (Or.inl tw13) (Or.inl tw11) (by decide) (t := (.array .int)) (t' := (.array .int)) (by decide) (by decide)))) (Exa.wr W112 (Exa.wr W111 ((Exa.wr W104 (Exa.ext E103 E1)).keep q110_0))) (Or.inl tw13) tw1 (ty := (.array .int)) (by decide) rfl rfl (g := (mkF m 127 #[.val (.ref a1), .val (.int (0 : Int32)), .unset, .unset] [(.ref b_110), (.ref a1)])) rfl rfl (hb hby d_prog_79_method_8_code_127)
  have Fw115 : Fld Z h115 a1 "com/example/lumping/lumping/numbers/ChunkedInts" "filling" "[I" (.ref b_110) := Fld.same W115 (Fld.other W112 (Fld.other W111 ((Fld.other W104 (Fld.ext E103 Ff) (Or.inr (slot_ne (Or.inl tw13) (Or.inl tw31) (by decide) (t := (.array .int)) (t' := (.array (.array .int))) (by decide) (by decide)))).keep q110_0 nin0) (Or.inl (Nat.ne_of_lt (Nat.lt_of_lt_of_le E1.lt (Nat.le_of_eq g103.symm))))) (Or.inr (slot_ne (Or.inl tw13) (Or.inl tw11) (by decide) (t := (.array .int)) (t' := (.array .int)) (by decide) (by decide))))
  have N115 := Fr.snoc X115 N112 G1
  refine Goes.step (S' := T115.setTop (mkF m 132 #[.val (.ref a1), .val (.int (0 : Int32)), .unset, .unset] [(.ref a1), (.ref a1)])) (fun t k => st115 _ (XS.aloadN X115.here hx rfl (hb hby d_prog_79_method_8_code_130) rfl rfl (XS.aloadN X115.here hx rfl (hb hby d_prog_79_method_8_code_131) rfl rfl k))) ?_
  obtain ⟨T116, X116, e116, st116⟩ := getF X115 hx hZ hown (host := "") (Or.inl tw21) Via.refl e115 (Fld.other W115 (Fld.other W112 (Fld.other W111 ((Fld.other W104 (Fld.ext E103 Fs) (Or.inr (slot_ne (Or.inl tw22) (Or.inl tw31) (by decide) (t := .int) (t' := (.array (.array .int))) (by decide) (by decide)))).keep q110_0 nin0) (Or.inl (Nat.ne_of_lt (Nat.lt_of_lt_of_le E1.lt (Nat.le_of_eq g103.symm))))) (Or.inr (slot_ne (Or.inl tw22) (Or.inl tw11) (by decide) (t := .int) (t' := (.array .int)) (by decide) (by decide)))) (Or.inr (slot_ne (Or.inl tw22) (Or.inl tw13) (by decide) (t := .int) (t' := (.array .int)) (by decide) (by decide)))) (g := (mkF m 132 #[.val (.ref a1), .val (.int (0 : Int32)), .unset, .unset] [(.ref a1), (.ref a1)])) rfl rfl (hb hby d_prog_79_method_8_code_132)
  refine Goes.step (S' := T116.setTop (mkF m 139 #[.val (.ref a1), .val (.int (0 : Int32)), .unset, .unset] [(.int ((0 : Int32) * (1048572 : Int32))), (.int (0 : Int32)), (.ref a1)])) (fun t k => st116 _ (XS.iloadN X116.here hx rfl (hb hby d_prog_79_method_8_code_135) rfl (X116.ldcInt hx hown (mvT hZ tw27) (g := (mkF m 136 #[.val (.ref a1), .val (.int (0 : Int32)), .unset, .unset] [(.int (0 : Int32)), (.int (0 : Int32)), (.ref a1)])) rfl (hb hby d_prog_79_method_8_code_136) _ (XS.imul X116.here hx rfl (hb hby d_prog_79_method_8_code_138) rfl k)))) ?_
  rw [show ((0 : Int32) * (1048572 : Int32)) = (0 : Int32) from by decide]
  refine Goes.step (S' := T116.setTop (mkF m 140 #[.val (.ref a1), .val (.int (0 : Int32)), .unset, .unset] [(.int ((0 : Int32) - (0 : Int32))), (.ref a1)])) (fun t k => XS.isub X116.here hx rfl (hb hby d_prog_79_method_8_code_139) rfl k) ?_
  rw [show ((0 : Int32) - (0 : Int32)) = (0 : Int32) from by decide]
  obtain ⟨T117, h117, X117, e117, W117, st117⟩ := putF X116 hx hZ hown (host := "") (Or.inl tw19) Via.refl e116 (Fld.other W115 (Fld.other W112 (Fld.other W111 ((Fld.other W104 (Fld.ext E103 Fd) (Or.inr (slot_ne (Or.inl tw20) (Or.inl tw31) (by decide) (t := .int) (t' := (.array (.array .int))) (by decide) (by decide)))).keep q110_0 nin0) (Or.inl (Nat.ne_of_lt (Nat.lt_of_lt_of_le E1.lt (Nat.le_of_eq g103.symm))))) (Or.inr (slot_ne (Or.inl tw20) (Or.inl tw11) (by decide) (t := .int) (t' := (.array .int)) (by decide) (by decide)))) (Or.inr (slot_ne (Or.inl tw20) (Or.inl tw13) (by decide) (t := .int) (t' := (.array .int)) (by decide) (by decide)))) (Exa.wr W115 (Exa.wr W112 (Exa.wr W111 ((Exa.wr W104 (Exa.ext E103 E1)).keep q110_0)))) (Or.inl tw20) tw1 (ty := .int) (by decide) rfl rfl (g := (mkF m 140 #[.val (.ref a1), .val (.int (0 : Int32)), .unset, .unset] [(.int (0 : Int32)), (.ref a1)])) rfl rfl (hb hby d_prog_79_method_8_code_140)
  have Fw117 : Fld Z h117 a1 "com/example/lumping/lumping/numbers/ChunkedInts" "filled" "I" (.int (0 : Int32)) := Fld.same W117 (Fld.other W115 (Fld.other W112 (Fld.other W111 ((Fld.other W104 (Fld.ext E103 Fd) (Or.inr (slot_ne (Or.inl tw20) (Or.inl tw31) (by decide) (t := .int) (t' := (.array (.array .int))) (by decide) (by decide)))).keep q110_0 nin0) (Or.inl (Nat.ne_of_lt (Nat.lt_of_lt_of_le E1.lt (Nat.le_of_eq g103.symm))))) (Or.inr (slot_ne (Or.inl tw20) (Or.inl tw11) (by decide) (t := .int) (t' := (.array .int)) (by decide) (by decide)))) (Or.inr (slot_ne (Or.inl tw20) (Or.inl tw13) (by decide) (t := .int) (t' := (.array .int)) (by decide) (by decide))))
  have N117 := Fr.snoc X117 N115 G1
  refine Goes.step (S' := T117.setTop (mkF m 253 #[.val (.ref a1), .val (.int (0 : Int32)), .unset, .unset] [])) (fun t k => st117 _ (XS.goto X117.here hx rfl (pc0 := 143) (pc' := 253) rfl (hb hby d_prog_79_method_8_code_143) (by decide) (by decide) k)) ?_
  refine Goes.leave (g := (mkF m 253 #[.val (.ref a1), .val (.int (0 : Int32)), .unset, .unset] [])) X117 Bd.notSynchronized (v := none) (fun _ => rfl) (fun fs hr => X117.returnOut hx Bd.returns (hb hby d_prog_79_method_8_code_253) hr) e117 ?_ (by decide) (by decide)
  exact ⟨b103, k103, b_110, kb_110, rfl, N117, ((((((((Keep.refl _ [a1]).ext E103).wr W104 (Or.inl (List.mem_of_getElem? (i := 0) rfl))).trans q110_0 all0).wr W111 (Or.inr (Nat.le_of_eq g103.symm))).wr W112 (Or.inl (List.mem_of_getElem? (i := 0) rfl))).wr W115 (Or.inl (List.mem_of_getElem? (i := 0) rfl))).wr W117 (Or.inl (List.mem_of_getElem? (i := 0) rfl))), (Nat.le_of_eq g103.symm), (Nat.le_trans (Nat.le_trans E103.1 (Nat.le_of_eq W104.size.symm)) q110_1), (Exa.wr W117 (Exa.wr W115 (Exa.wr W112 (Exa.wr W111 ((Exa.wr W104 (Exa.ext E103 E1)).keep q110_0))))), (Fld.other W117 (Fld.other W115 Fw112 (Or.inr (slot_ne (Or.inl tw11) (Or.inl tw13) (by decide) (t := (.array .int)) (t' := (.array .int)) (by decide) (by decide)))) (Or.inr (slot_ne (Or.inl tw11) (Or.inl tw20) (by decide) (t := (.array .int)) (t' := .int) (by decide) (by decide)))), (Fld.other W117 (Fld.other W115 (Fld.other W112 (Fld.other W111 (Fw104.keep q110_0 nin0) (Or.inl (Nat.ne_of_lt (Nat.lt_of_lt_of_le E1.lt (Nat.le_of_eq g103.symm))))) (Or.inr (slot_ne (Or.inl tw31) (Or.inl tw11) (by decide) (t := (.array (.array .int))) (t' := (.array .int)) (by decide) (by decide)))) (Or.inr (slot_ne (Or.inl tw31) (Or.inl tw13) (by decide) (t := (.array (.array .int))) (t' := (.array .int)) (by decide) (by decide)))) (Or.inr (slot_ne (Or.inl tw31) (Or.inl tw20) (by decide) (t := (.array (.array .int))) (t' := .int) (by decide) (by decide)))), (Fld.other W117 Fw115 (Or.inr (slot_ne (Or.inl tw13) (Or.inl tw20) (by decide) (t := (.array .int)) (t' := .int) (by decide) (by decide)))), Fw117, (Fld.other W117 (Fld.other W115 (Fld.other W112 (Fld.other W111 ((Fld.other W104 (Fld.ext E103 Fs) (Or.inr (slot_ne (Or.inl tw22) (Or.inl tw31) (by decide) (t := .int) (t' := (.array (.array .int))) (by decide) (by decide)))).keep q110_0 nin0) (Or.inl (Nat.ne_of_lt (Nat.lt_of_lt_of_le E1.lt (Nat.le_of_eq g103.symm))))) (Or.inr (slot_ne (Or.inl tw22) (Or.inl tw11) (by decide) (t := .int) (t' := (.array .int)) (by decide) (by decide)))) (Or.inr (slot_ne (Or.inl tw22) (Or.inl tw13) (by decide) (t := .int) (t' := (.array .int)) (by decide) (by decide)))) (Or.inr (slot_ne (Or.inl tw22) (Or.inl tw20) (by decide) (t := .int) (t' := .int) (by decide) (by decide)))), (((V111.other W112 (Ne.symm (Nat.ne_of_lt (Nat.lt_of_lt_of_le E1.lt (Nat.le_of_eq g103.symm))))).other W115 (Ne.symm (Nat.ne_of_lt (Nat.lt_of_lt_of_le E1.lt (Nat.le_of_eq g103.symm))))).other W117 (Ne.symm (Nat.ne_of_lt (Nat.lt_of_lt_of_le E1.lt (Nat.le_of_eq g103.symm))))), ((((q110_3.other W111 (Ne.symm (Nat.ne_of_lt (Nat.lt_of_lt_of_le V103.lt (Nat.le_trans (Nat.le_of_eq W104.size.symm) q110_1))))).other W112 (Ne.symm (Nat.ne_of_lt (Nat.lt_of_lt_of_le E1.lt (Nat.le_trans (Nat.le_trans E103.1 (Nat.le_of_eq W104.size.symm)) q110_1))))).other W115 (Ne.symm (Nat.ne_of_lt (Nat.lt_of_lt_of_le E1.lt (Nat.le_trans (Nat.le_trans E103.1 (Nat.le_of_eq W104.size.symm)) q110_1))))).other W117 (Ne.symm (Nat.ne_of_lt (Nat.lt_of_lt_of_le E1.lt (Nat.le_trans (Nat.le_trans E103.1 (Nat.le_of_eq W104.size.symm)) q110_1)))))⟩

theorem ef_grow1 (m : MethodId) (x0 : Addr) : entryFrame m #[(.ref x0)] 4 = mkF m 0 #[.val (.ref x0), .unset, .unset, .unset] [] := by first | (simp [entryFrame, mkF, argsToLocals, Value.category]; done) | rfl
def Q_grow1 (Z : State) (a1 : Addr) (b1 : Addr) (k1 : ClassId) (e0 : Int32) (h0 : Heap) (n0 : Nat) (v : Option Value) (h : Heap) (L : List Loc) : Prop := ∃ (c : Addr) (kc : ClassId) (b : Addr) (kb : ClassId), v = none ∧ Fr n0 L ∧ Keep h0 h [a1] ∧ h0.size ≤ c ∧ h0.size ≤ b ∧ Exa Z h a1 "com/example/lumping/lumping/numbers/ChunkedInts" ∧ Fld Z h a1 "com/example/lumping/lumping/numbers/ChunkedInts" "whole" "[I" .null ∧ Fld Z h a1 "com/example/lumping/lumping/numbers/ChunkedInts" "chunks" "[[I" (.ref c) ∧ Fld Z h a1 "com/example/lumping/lumping/numbers/ChunkedInts" "filling" "[I" (.ref b) ∧ Fld Z h a1 "com/example/lumping/lumping/numbers/ChunkedInts" "filled" "I" (.int (1 : Int32)) ∧ Fld Z h a1 "com/example/lumping/lumping/numbers/ChunkedInts" "size" "I" (.int (1 : Int32)) ∧ Arv Z h c kc (.array .int) (1 : Int32) [(.ref b)] .null ∧ Arv Z h b kb .int (16 : Int32) [(.int e0), (.int (0 : Int32)), (.int (0 : Int32)), (.int (0 : Int32)), (.int (0 : Int32)), (.int (0 : Int32)), (.int (0 : Int32)), (.int (0 : Int32)), (.int (0 : Int32)), (.int (0 : Int32)), (.int (0 : Int32)), (.int (0 : Int32)), (.int (0 : Int32)), (.int (0 : Int32)), (.int (0 : Int32)), (.int (0 : Int32))] (.int (0 : Int32))
set_option maxRecDepth 65536 in
set_option maxHeartbeats 40000000 in
theorem grow1 (l : Launch) (Z : State) (a0 : Array Value) (hw : ∀ d ∈ tables_1, d.before a0 Z = true) (ws : List Jvm.Cond) (a1 : Addr) (b1 : Addr) (k1 : ClassId) (e0 : Int32) (h0 : Heap) (n0 : Nat) (Z0 : n0 ≤ h0.size) (E1 : Exa Z h0 a1 "com/example/lumping/lumping/numbers/ChunkedInts") (Fw : Fld Z h0 a1 "com/example/lumping/lumping/numbers/ChunkedInts" "whole" "[I" (.ref b1)) (Fc : Fld Z h0 a1 "com/example/lumping/lumping/numbers/ChunkedInts" "chunks" "[[I" .null) (Ff : Fld Z h0 a1 "com/example/lumping/lumping/numbers/ChunkedInts" "filling" "[I" (.ref b1)) (Fd : Fld Z h0 a1 "com/example/lumping/lumping/numbers/ChunkedInts" "filled" "I" (.int (1 : Int32))) (Fs : Fld Z h0 a1 "com/example/lumping/lumping/numbers/ChunkedInts" "size" "I" (.int (1 : Int32))) (V1 : Arv Z h0 b1 k1 .int (1 : Int32) [(.int e0)] (.int (0 : Int32))) (G1 : n0 ≤ a1) :
    MetFree l mth5 (head1 (Jvm.Cond.code mth5 prog_79_method_8_code 4 none :: ws) rom7) (fun a U => a = #[(.ref a1)] ∧ Z.Warmed39 U.vm ∧ U.heap = h0) (fun _ _ _ _ _ => True) (fun _ U o U' => ∃ v L, o = .returned v ∧ Q_grow1 Z a1 b1 k1 e0 h0 n0 v U'.heap L ∧ FrameEnd U o U' L rom7.cells rom7.slots) := by
  refine MetFree.of_bodySF (plainFor_of_name pnm1) hisR ?_
  intro p e s m args below meth c s₁ Bd hml0 hP hK
  obtain ⟨rfl, hZ, hh⟩ := hP
  have hx := Bd.exec
  have hby := Bd.bytes
  have hml : c.maxLocals = 4 := hml0
  have hown : s.vm.findClass "com/example/lumping/lumping/numbers/ChunkedInts" = some m.cls := findClass_of_methodNamed Bd.named
  have hnm := (name_of_methodNamed Bd.named Bd.method).1
  have X0 : Stand p l e rom7 s m #[(.ref a1)] below meth c s₁ [] 0 0 := Stand.of_body Bd
  have eh0 : s₁.heap = h0 := by rw [← hh, Bd.state]; rfl
  have N0 := Fr.nil n0
  have tw1 := hw _ (List.mem_of_getElem? (i := 1) rfl)
  have tw10 := hw _ (List.mem_of_getElem? (i := 10) rfl)
  have tw11 := hw _ (List.mem_of_getElem? (i := 11) rfl)
  have tw12 := hw _ (List.mem_of_getElem? (i := 12) rfl)
  have tw13 := hw _ (List.mem_of_getElem? (i := 13) rfl)
  have tw19 := hw _ (List.mem_of_getElem? (i := 19) rfl)
  have tw20 := hw _ (List.mem_of_getElem? (i := 20) rfl)
  have tw21 := hw _ (List.mem_of_getElem? (i := 21) rfl)
  have tw22 := hw _ (List.mem_of_getElem? (i := 22) rfl)
  have tw27 := hw _ (List.mem_of_getElem? (i := 27) rfl)
  have tw28 := hw _ (List.mem_of_getElem? (i := 28) rfl)
  have tw29 := hw _ (List.mem_of_getElem? (i := 29) rfl)
  have tw30 := hw _ (List.mem_of_getElem? (i := 30) rfl)
  have tw31 := hw _ (List.mem_of_getElem? (i := 31) rfl)
  have tw32 := hw _ (List.mem_of_getElem? (i := 32) rfl)
  have tw33 := hw _ (List.mem_of_getElem? (i := 33) rfl)
  have tw34 := hw _ (List.mem_of_getElem? (i := 34) rfl)
  have tw35 := hw _ (List.mem_of_getElem? (i := 35) rfl)
  have tw36 := hw _ (List.mem_of_getElem? (i := 36) rfl)
  have tw37 := hw _ (List.mem_of_getElem? (i := 37) rfl)
  have tw38 := hw _ (List.mem_of_getElem? (i := 38) rfl)
  have tw39 := hw _ (List.mem_of_getElem? (i := 39) rfl)
  have tw40 := hw _ (List.mem_of_getElem? (i := 40) rfl)
  have tw41 := hw _ (List.mem_of_getElem? (i := 41) rfl)
  have tw42 := hw _ (List.mem_of_getElem? (i := 42) rfl)
  show Goes p e below (Pq (Q_grow1 Z a1 b1 k1 e0 h0 n0) s rom7.cells rom7.slots) (s₁.setTop (entryFrame m #[(.ref a1)] 4))
  refine Goes.step (S' := s₁.setTop (mkF m 0 #[.val (.ref a1), .unset, .unset, .unset] [])) (fun t k => castTop (ef_grow1 m a1) k) ?_
  refine Goes.step (S' := s₁.setTop (mkF m 1 #[.val (.ref a1), .unset, .unset, .unset] [(.ref a1)])) (fun t k => XS.aloadN X0.here hx rfl (hb hby d_prog_79_method_8_code_0) rfl rfl k) ?_
  obtain ⟨T101, X101, e101, st101⟩ := getF X0 hx hZ hown (host := "") (Or.inl tw10) Via.refl eh0 Fw (g := (mkF m 1 #[.val (.ref a1), .unset, .unset, .unset] [(.ref a1)])) rfl rfl (hb hby d_prog_79_method_8_code_1)
  refine Goes.step (S' := T101.setTop (mkF m 8 #[.val (.ref a1), .unset, .unset, .unset] [(.ref a1)])) (fun t k => st101 _ (XS.ifnullNo X101.here hx rfl (hb hby d_prog_79_method_8_code_4) rfl (XS.aloadN X101.here hx rfl (hb hby d_prog_79_method_8_code_7) rfl rfl k))) ?_
  obtain ⟨T102, X102, e102, st102⟩ := getF X101 hx hZ hown (host := "") (Or.inl tw21) Via.refl e101 Fs (g := (mkF m 8 #[.val (.ref a1), .unset, .unset, .unset] [(.ref a1)])) rfl rfl (hb hby d_prog_79_method_8_code_8)
  refine Goes.step (S' := T102.setTop (mkF m 14 #[.val (.ref a1), .unset, .unset, .unset] [(.int ((1 : Int32) / (1048572 : Int32)))])) (fun t k => st102 _ (X102.ldcInt hx hown (mvT hZ tw27) (g := (mkF m 11 #[.val (.ref a1), .unset, .unset, .unset] [(.int (1 : Int32))])) rfl (hb hby d_prog_79_method_8_code_11) _ (XS.idiv X102.here hx rfl (hb hby d_prog_79_method_8_code_13) rfl (by decide) k))) ?_
  rw [show ((1 : Int32) / (1048572 : Int32)) = (0 : Int32) from by decide]
  refine Goes.step (S' := T102.setTop (mkF m 19 #[.val (.ref a1), .val (.int (0 : Int32)), .unset, .unset] [(.int ((0 : Int32) + (1 : Int32))), (.ref a1)])) (fun t k => XS.istoreN X102.here hx rfl (hb hby d_prog_79_method_8_code_14) rfl (l' := #[.val (.ref a1), .val (.int (0 : Int32)), .unset, .unset]) rfl (XS.aloadN X102.here hx rfl (hb hby d_prog_79_method_8_code_15) rfl rfl (XS.iloadN X102.here hx rfl (hb hby d_prog_79_method_8_code_16) rfl (XS.iconst X102.here hx rfl (hb hby d_prog_79_method_8_code_17) (XS.iadd X102.here hx rfl (hb hby d_prog_79_method_8_code_18) rfl k))))) ?_
  rw [show ((0 : Int32) + (1 : Int32)) = (1 : Int32) from by decide]
  obtain ⟨T103, h103, k103, X103, e103, E103, A103, AE103, O103, st103⟩ := newRA X102 hx hZ hown (ty := .int) (C := "[I") rfl tw28 tw29 e102 (g := (mkF m 19 #[.val (.ref a1), .val (.int (0 : Int32)), .unset, .unset] [(.int (1 : Int32)), (.ref a1)])) rfl (hb hby d_prog_79_method_8_code_19) rfl (by decide) (cap := 1) (by decide) (by decide) (by decide) (by decide) (ad := "[[I") rfl
  obtain ⟨b103, g103⟩ : ∃ z, z = h0.size := ⟨_, rfl⟩
  rw [← g103] at A103 AE103 st103
  have V103 : Arv Z h103 b103 k103 (.array .int) (1 : Int32) [.null] .null := (Arv.new A103 (by decide)).pad (pad_rep [] .null 1)
  refine Goes.step (S' := T103.setTop (mkF m 22 #[.val (.ref a1), .val (.int (0 : Int32)), .unset, .unset] [(.ref b103), (.ref a1)])) (fun t k => st103 _ k) ?_
  obtain ⟨T104, h104, X104, e104, W104, st104⟩ := putF X103 hx hZ hown (host := "") (Or.inl tw30) Via.refl e103 (Fld.ext E103 Fc) (Exa.ext E103 E1) (Or.inl tw31) tw1 (ty := (.array (.array .int))) (by decide) rfl rfl (g := (mkF m 22 #[.val (.ref a1), .val (.int (0 : Int32)), .unset, .unset] [(.ref b103), (.ref a1)])) rfl rfl (hb hby d_prog_79_method_8_code_22)
  have Fw104 : Fld Z h104 a1 "com/example/lumping/lumping/numbers/ChunkedInts" "chunks" "[[I" (.ref b103) := Fld.same W104 (Fld.ext E103 Fc)
  have N104 := Fr.snoc X104 N0 G1
  refine Goes.step (S' := T104.setTop (mkF m 30 #[.val (.ref a1), .val (.int (0 : Int32)), .unset, .unset] [(.ref a1)])) (fun t k => st104 _ (XS.iloadN X104.here hx rfl (hb hby d_prog_79_method_8_code_25) rfl (XS.ifNo X104.here hx rfl (hb hby d_prog_79_method_8_code_26) rfl ((if0 _ _).trans (teq ((by decide) : (0 : Int32) = (0 : Int32))).2) (XS.aloadN X104.here hx rfl (hb hby d_prog_79_method_8_code_29) rfl rfl k)))) ?_
  obtain ⟨T105, X105, e105, st105⟩ := getF X104 hx hZ hown (host := "") (Or.inl tw30) Via.refl e104 Fw104 (g := (mkF m 30 #[.val (.ref a1), .val (.int (0 : Int32)), .unset, .unset] [(.ref a1)])) rfl rfl (hb hby d_prog_79_method_8_code_30)
  refine Goes.step (S' := T105.setTop (mkF m 35 #[.val (.ref a1), .val (.int (0 : Int32)), .unset, .unset] [(.ref a1), (.int (0 : Int32)), (.ref b103)])) (fun t k => st105 _ (XS.iconst X105.here hx rfl (hb hby d_prog_79_method_8_code_33) (XS.aloadN X105.here hx rfl (hb hby d_prog_79_method_8_code_34) rfl rfl k))) ?_
  obtain ⟨T106, X106, e106, st106⟩ := getF X105 hx hZ hown (host := "") (Or.inl tw10) Via.refl e105 (Fld.other W104 (Fld.ext E103 Fw) (Or.inr (slot_ne (Or.inl tw11) (Or.inl tw31) (by decide) (t := (.array .int)) (t' := (.array (.array .int))) (by decide) (by decide)))) (g := (mkF m 35 #[.val (.ref a1), .val (.int (0 : Int32)), .unset, .unset] [(.ref a1), (.int (0 : Int32)), (.ref b103)])) rfl rfl (hb hby d_prog_79_method_8_code_35)
  refine Goes.step (S' := T106.setTop (mkF m 40 #[.val (.ref a1), .val (.int (0 : Int32)), .unset, .unset] [(.ref a1), (.int (2 : Int32)), (.ref b1), (.int (0 : Int32)), (.ref b103)])) (fun t k => st106 _ (XS.iconst X106.here hx rfl (hb hby d_prog_79_method_8_code_38) (XS.aloadN X106.here hx rfl (hb hby d_prog_79_method_8_code_39) rfl rfl k))) ?_
  obtain ⟨T107, X107, e107, st107⟩ := getF X106 hx hZ hown (host := "") (Or.inl tw21) Via.refl e106 (Fld.other W104 (Fld.ext E103 Fs) (Or.inr (slot_ne (Or.inl tw22) (Or.inl tw31) (by decide) (t := .int) (t' := (.array (.array .int))) (by decide) (by decide)))) (g := (mkF m 40 #[.val (.ref a1), .val (.int (0 : Int32)), .unset, .unset] [(.ref a1), (.int (2 : Int32)), (.ref b1), (.int (0 : Int32)), (.ref b103)])) rfl rfl (hb hby d_prog_79_method_8_code_40)
  refine Goes.step (S' := T107.setTop (mkF m 44 #[.val (.ref a1), .val (.int (0 : Int32)), .unset, .unset] [(.int ((2 : Int32) * (1 : Int32))), (.ref b1), (.int (0 : Int32)), (.ref b103)])) (fun t k => st107 _ (XS.imul X107.here hx rfl (hb hby d_prog_79_method_8_code_43) rfl k)) ?_
  rw [show ((2 : Int32) * (1 : Int32)) = (2 : Int32) from by decide]
  refine Goes.step (S' := T107.setTop (mkF m 46 #[.val (.ref a1), .val (.int (0 : Int32)), .unset, .unset] [(.int (16 : Int32)), (.int (2 : Int32)), (.ref b1), (.int (0 : Int32)), (.ref b103)])) (fun t k => XS.bipush X107.here hx rfl (hb hby d_prog_79_method_8_code_44) k) ?_
  obtain ⟨_, _, ⟨T108, L108, k108, n108⟩, -, X108, ⟨Lc108, hQ108, l108, y108, z108⟩, st108⟩ := Jvm.LawKit.callS X107 hx (y := mth0) hown (mvT hZ tw32) (mvT hZ tw33) (mvT hZ tw34) (mvT hZ tw35) (by decide) (backOf (W := 3) (mx1 l Z a0 hw [] (2 : Int32) (16 : Int32) h104 n0 (Nat.le_trans Z0 (Nat.le_trans E103.1 (Nat.le_of_eq W104.size.symm))) ((by decide) : (2 : Int32) < (16 : Int32))) hZ tw35 tw34 (by decide) (by decide)) (g := (mkF m 46 #[.val (.ref a1), .val (.int (0 : Int32)), .unset, .unset] [(.int (16 : Int32)), (.int (2 : Int32)), (.ref b1), (.int (0 : Int32)), (.ref b103)])) rfl (by rw [hml]; rfl) (argsL := [(.int (2 : Int32)), (.int (16 : Int32))]) (rest := [(.ref b1), (.int (0 : Int32)), (.ref b103)]) (lenOf pd_II_I rfl) rfl (Nat.le_of_eq rfl) (hb hby d_prog_79_method_8_code_46) (fun _ _ => ⟨rfl, e107, (by decide : 1 + 0 ≤ _), (by decide : 1 + 0 ≤ _)⟩)
  dsimp only [Pt.U, Pt.locs, Pt.cells, Pt.slots] at X108 l108 y108 z108 st108 hQ108
  subst l108 y108 z108
  obtain ⟨rfl, Nq108, q108_0⟩ := hQ108
  have N108 := Fr.app N104 Nq108
  refine Goes.step (S' := T108.setTop (mkF m 51 #[.val (.ref a1), .val (.int (0 : Int32)), .unset, .unset] [(.int (1048572 : Int32)), (.int (16 : Int32)), (.ref b1), (.int (0 : Int32)), (.ref b103)])) (fun t k => st108 _ (X108.ldcInt hx hown (mvT hZ tw27) (g := (mkF m 49 #[.val (.ref a1), .val (.int (0 : Int32)), .unset, .unset] [(.int (16 : Int32)), (.ref b1), (.int (0 : Int32)), (.ref b103)])) rfl (hb hby d_prog_79_method_8_code_49) _ k)) ?_
  obtain ⟨_, _, ⟨T109, L109, k109, n109⟩, -, X109, ⟨Lc109, hQ109, l109, y109, z109⟩, st109⟩ := Jvm.LawKit.callS X108 hx (y := mth1) hown (mvT hZ tw36) (mvT hZ tw37) (mvT hZ tw34) (mvT hZ tw38) (by decide) (backOf (W := 3) (mn0 l Z a0 hw [] (16 : Int32) (1048572 : Int32) h104 n0 (Nat.le_trans Z0 (Nat.le_trans E103.1 (Nat.le_of_eq W104.size.symm))) ((by decide) : ¬ ((1048572 : Int32) < (16 : Int32)))) hZ tw38 tw34 (by decide) (by decide)) (g := (mkF m 51 #[.val (.ref a1), .val (.int (0 : Int32)), .unset, .unset] [(.int (1048572 : Int32)), (.int (16 : Int32)), (.ref b1), (.int (0 : Int32)), (.ref b103)])) rfl (by rw [hml]; rfl) (argsL := [(.int (16 : Int32)), (.int (1048572 : Int32))]) (rest := [(.ref b1), (.int (0 : Int32)), (.ref b103)]) (lenOf pd_II_I rfl) rfl (Nat.le_of_eq rfl) (hb hby d_prog_79_method_8_code_51) (fun _ _ => ⟨rfl, q108_0, (by decide : 1 + 0 ≤ _), (by decide : 1 + 0 ≤ _)⟩)
  dsimp only [Pt.U, Pt.locs, Pt.cells, Pt.slots] at X109 l109 y109 z109 st109 hQ109
  subst l109 y109 z109
  obtain ⟨rfl, Nq109, q109_0⟩ := hQ109
  have N109 := Fr.app N108 Nq109
  refine Goes.step (S' := T109.setTop (mkF m 54 #[.val (.ref a1), .val (.int (0 : Int32)), .unset, .unset] [(.int (16 : Int32)), (.ref b1), (.int (0 : Int32)), (.ref b103)])) (fun t k => st109 _ k) ?_
  obtain ⟨_, _, ⟨T110, L110, k110, n110⟩, -, X110, ⟨Lc110, hQ110, l110, y110, z110⟩, st110⟩ := Jvm.LawKit.callS X109 hx (y := mth2) hown (mvT hZ tw39) (mvT hZ tw40) (mvT hZ tw41) (mvT hZ tw42) (by decide) (backOf (W := 2) (cpy1 l Z a0 hw [] b1 k1 e0 h104 n0 (Nat.le_trans Z0 (Nat.le_trans E103.1 (Nat.le_of_eq W104.size.symm))) ((V1.ext E103).other W104 (Ne.symm (Exa.neArv (Exa.ext E103 E1) (V1.ext E103) tw1)))) hZ tw42 tw41 (by decide) (by decide)) (g := (mkF m 54 #[.val (.ref a1), .val (.int (0 : Int32)), .unset, .unset] [(.int (16 : Int32)), (.ref b1), (.int (0 : Int32)), (.ref b103)])) rfl (by rw [hml]; rfl) (argsL := [(.ref b1), (.int (16 : Int32))]) (rest := [(.int (0 : Int32)), (.ref b103)]) (lenOf pd_II__I rfl) rfl (Nat.le_of_eq rfl) (hb hby d_prog_79_method_8_code_54) (fun _ _ => ⟨rfl, q109_0, (by decide : 1 + 1 ≤ _), (by decide : 1 + 16 ≤ _)⟩)
  dsimp only [Pt.U, Pt.locs, Pt.cells, Pt.slots] at X110 l110 y110 z110 st110 hQ110
  subst l110 y110 z110
  obtain ⟨b_110, kb_110, rfl, Nq110, q110_0, q110_1, q110_2, q110_3⟩ := hQ110
  have N110 := Fr.app N109 Nq110
  refine Goes.step (S' := T110.setTop (mkF m 57 #[.val (.ref a1), .val (.int (0 : Int32)), .unset, .unset] [(.ref b_110), (.int (0 : Int32)), (.ref b103)])) (fun t k => st110 _ k) ?_
  obtain ⟨cl111, Ar111, qk111, Sz111, Nn111, Hs111, Gs111⟩ := id ((V103.other W104 (Ne.symm (Nat.ne_of_lt (Nat.lt_of_lt_of_le E1.lt (Nat.le_of_eq g103.symm))))).keep q110_0 nin0)
  obtain ⟨T111, h111, X111, e111, W111, st111⟩ := stR X110 hx hZ rfl Ar111 (j := (0 : Int32)) (inb_of (j := (0 : Int32)) Sz111 ⟨by decide, by decide⟩) rfl (Sto.ofVA Ar111 qk111 O103 (Ins.self q110_2)) (g := (mkF m 57 #[.val (.ref a1), .val (.int (0 : Int32)), .unset, .unset] [(.ref b_110), (.int (0 : Int32)), (.ref b103)])) rfl rfl (hb hby d_prog_79_method_8_code_57)
  have V111 : Arv Z h111 b103 k103 (.array .int) (1 : Int32) [(.ref b_110)] .null := Arv.set Ar111 qk111 Sz111 Nn111 Hs111 Gs111 rfl W111 0 rfl (Nat.le_of_ble_eq_true rfl)
  have N111 := Fr.snoc X111 N110 (Nat.le_trans Z0 (Nat.le_of_eq g103.symm))
  refine Goes.step (S' := T111.setTop (mkF m 117 #[.val (.ref a1), .val (.int (0 : Int32)), .unset, .unset] [.null, (.ref a1)])) (fun t k => st111 _ (XS.goto X111.here hx rfl (pc0 := 58) (pc' := 115) rfl (hb hby d_prog_79_method_8_code_58) (by decide) (by decide) (XS.aloadN X111.here hx rfl (hb hby d_prog_79_method_8_code_115) rfl rfl (XS.aconstNull X111.here hx rfl (hb hby d_prog_79_method_8_code_116) k)))) ?_
  obtain ⟨T112, h112, X112, e112, W112, st112⟩ := putF X111 hx hZ hown (host := "") (Or.inl tw10) Via.refl e111 (Fld.other W111 ((Fld.other W104 (Fld.ext E103 Fw) (Or.inr (slot_ne (Or.inl tw11) (Or.inl tw31) (by decide) (t := (.array .int)) (t' := (.array (.array .int))) (by decide) (by decide)))).keep q110_0 nin0) (Or.inl (Nat.ne_of_lt (Nat.lt_of_lt_of_le E1.lt (Nat.le_of_eq g103.symm))))) (Exa.wr W111 ((Exa.wr W104 (Exa.ext E103 E1)).keep q110_0)) (Or.inl tw11) tw1 (ty := (.array .int)) (by decide) rfl rfl (g := (mkF m 117 #[.val (.ref a1), .val (.int (0 : Int32)), .unset, .unset] [.null, (.ref a1)])) rfl rfl (hb hby d_prog_79_method_8_code_117)
  have Fw112 : Fld Z h112 a1 "com/example/lumping/lumping/numbers/ChunkedInts" "whole" "[I" .null := Fld.same W112 (Fld.other W111 ((Fld.other W104 (Fld.ext E103 Fw) (Or.inr (slot_ne (Or.inl tw11) (Or.inl tw31) (by decide) (t := (.array .int)) (t' := (.array (.array .int))) (by decide) (by decide)))).keep q110_0 nin0) (Or.inl (Nat.ne_of_lt (Nat.lt_of_lt_of_le E1.lt (Nat.le_of_eq g103.symm)))))
  have N112 := Fr.snoc X112 N111 G1
  refine Goes.step (S' := T112.setTop (mkF m 122 #[.val (.ref a1), .val (.int (0 : Int32)), .unset, .unset] [(.ref a1), (.ref a1)])) (fun t k => st112 _ (XS.aloadN X112.here hx rfl (hb hby d_prog_79_method_8_code_120) rfl rfl (XS.aloadN X112.here hx rfl (hb hby d_prog_79_method_8_code_121) rfl rfl k))) ?_
  obtain ⟨T113, X113, e113, st113⟩ := getF X112 hx hZ hown (host := "") (Or.inl tw30) Via.refl e112 (Fld.other W112 (Fld.other W111 (Fw104.keep q110_0 nin0) (Or.inl (Nat.ne_of_lt (Nat.lt_of_lt_of_le E1.lt (Nat.le_of_eq g103.symm))))) (Or.inr (slot_ne (Or.inl tw31) (Or.inl tw11) (by decide) (t := (.array (.array .int))) (t' := (.array .int)) (by decide) (by decide)))) (g := (mkF m 122 #[.val (.ref a1), .val (.int (0 : Int32)), .unset, .unset] [(.ref a1), (.ref a1)])) rfl rfl (hb hby d_prog_79_method_8_code_122)
  refine Goes.step (S' := T113.setTop (mkF m 126 #[.val (.ref a1), .val (.int (0 : Int32)), .unset, .unset] [(.int (0 : Int32)), (.ref b103), (.ref a1)])) (fun t k => st113 _ (XS.iloadN X113.here hx rfl (hb hby d_prog_79_method_8_code_125) rfl k)) ?_
  obtain ⟨cl114, Ar114, qk114, Sz114, Nn114, Hs114, Gs114⟩ := id (V111.other W112 (Ne.symm (Nat.ne_of_lt (Nat.lt_of_lt_of_le E1.lt (Nat.le_of_eq g103.symm)))))
  have hin114 := (inb_of (j := (0 : Int32)) Sz114 ⟨by decide, by decide⟩)
  refine Goes.step (S' := T113.setTop (mkF m 127 #[.val (.ref a1), .val (.int (0 : Int32)), .unset, .unset] [(.ref b_110), (.ref a1)])) (fun t k => X113.aaload hx (j := (0 : Int32)) (v := (.ref b_110)) (by rw [e113]; exact Ar114.1) (State.isArrayOf_alike hZ.alike Ar114.2.1) rfl Ar114.2.2 hin114 (Has.at Hs114 hin114 rfl) (g := (mkF m 126 #[.val (.ref a1), .val (.int (0 : Int32)), .unset, .unset] [(.int (0 : Int32)), (.ref b103), (.ref a1)])) rfl rfl (hb hby d_prog_79_method_8_code_126) _ k) ?_
  obtain ⟨T115, h115, X115, e115, W115, st115⟩ := putF X113 hx hZ hown (host := "") (Or.inl tw12) Via.refl e113 (Fld.other W112 (Fld.other W111 ((Fld.other W104 (Fld.ext E103 Ff) (Or.inr (slot_ne (Or.inl tw13) (Or.inl tw31) (by decide) (t := (.array .int)) (t' := (.array (.array .int))) (by decide) (by decide)))).keep q110_0 nin0) (Or.inl (Nat.ne_of_lt (Nat.lt_of_lt_of_le E1.lt (Nat.le_of_eq g103.symm))))) (Or.inr (slot_ne (Or.inl tw13) (Or.inl tw11) (by decide) (t := (.array .int)) (t' := (.array .int)) (by decide) (by decide)))) (Exa.wr W112 (Exa.wr W111 ((Exa.wr W104 (Exa.ext E103 E1)).keep q110_0))) (Or.inl tw13) tw1 (ty := (.array .int)) (by decide) rfl rfl (g := (mkF m 127 #[.val (.ref a1), .val (.int (0 : Int32)), .unset, .unset] [(.ref b_110), (.ref a1)])) rfl rfl (hb hby d_prog_79_method_8_code_127)
  have Fw115 : Fld Z h115 a1 "com/example/lumping/lumping/numbers/ChunkedInts" "filling" "[I" (.ref b_110) := Fld.same W115 (Fld.other W112 (Fld.other W111 ((Fld.other W104 (Fld.ext E103 Ff) (Or.inr (slot_ne (Or.inl tw13) (Or.inl tw31) (by decide) (t := (.array .int)) (t' := (.array (.array .int))) (by decide) (by decide)))).keep q110_0 nin0) (Or.inl (Nat.ne_of_lt (Nat.lt_of_lt_of_le E1.lt (Nat.le_of_eq g103.symm))))) (Or.inr (slot_ne (Or.inl tw13) (Or.inl tw11) (by decide) (t := (.array .int)) (t' := (.array .int)) (by decide) (by decide))))
  have N115 := Fr.snoc X115 N112 G1
  refine Goes.step (S' := T115.setTop (mkF m 132 #[.val (.ref a1), .val (.int (0 : Int32)), .unset, .unset] [(.ref a1), (.ref a1)])) (fun t k => st115 _ (XS.aloadN X115.here hx rfl (hb hby d_prog_79_method_8_code_130) rfl rfl (XS.aloadN X115.here hx rfl (hb hby d_prog_79_method_8_code_131) rfl rfl k))) ?_
  obtain ⟨T116, X116, e116, st116⟩ := getF X115 hx hZ hown (host := "") (Or.inl tw21) Via.refl e115 (Fld.other W115 (Fld.other W112 (Fld.other W111 ((Fld.other W104 (Fld.ext E103 Fs) (Or.inr (slot_ne (Or.inl tw22) (Or.inl tw31) (by decide) (t := .int) (t' := (.array (.array .int))) (by decide) (by decide)))).keep q110_0 nin0) (Or.inl (Nat.ne_of_lt (Nat.lt_of_lt_of_le E1.lt (Nat.le_of_eq g103.symm))))) (Or.inr (slot_ne (Or.inl tw22) (Or.inl tw11) (by decide) (t := .int) (t' := (.array .int)) (by decide) (by decide)))) (Or.inr (slot_ne (Or.inl tw22) (Or.inl tw13) (by decide) (t := .int) (t' := (.array .int)) (by decide) (by decide)))) (g := (mkF m 132 #[.val (.ref a1), .val (.int (0 : Int32)), .unset, .unset] [(.ref a1), (.ref a1)])) rfl rfl (hb hby d_prog_79_method_8_code_132)
  refine Goes.step (S' := T116.setTop (mkF m 139 #[.val (.ref a1), .val (.int (0 : Int32)), .unset, .unset] [(.int ((0 : Int32) * (1048572 : Int32))), (.int (1 : Int32)), (.ref a1)])) (fun t k => st116 _ (XS.iloadN X116.here hx rfl (hb hby d_prog_79_method_8_code_135) rfl (X116.ldcInt hx hown (mvT hZ tw27) (g := (mkF m 136 #[.val (.ref a1), .val (.int (0 : Int32)), .unset, .unset] [(.int (0 : Int32)), (.int (1 : Int32)), (.ref a1)])) rfl (hb hby d_prog_79_method_8_code_136) _ (XS.imul X116.here hx rfl (hb hby d_prog_79_method_8_code_138) rfl k)))) ?_
  rw [show ((0 : Int32) * (1048572 : Int32)) = (0 : Int32) from by decide]
  refine Goes.step (S' := T116.setTop (mkF m 140 #[.val (.ref a1), .val (.int (0 : Int32)), .unset, .unset] [(.int ((1 : Int32) - (0 : Int32))), (.ref a1)])) (fun t k => XS.isub X116.here hx rfl (hb hby d_prog_79_method_8_code_139) rfl k) ?_
  rw [show ((1 : Int32) - (0 : Int32)) = (1 : Int32) from by decide]
  obtain ⟨T117, h117, X117, e117, W117, st117⟩ := putF X116 hx hZ hown (host := "") (Or.inl tw19) Via.refl e116 (Fld.other W115 (Fld.other W112 (Fld.other W111 ((Fld.other W104 (Fld.ext E103 Fd) (Or.inr (slot_ne (Or.inl tw20) (Or.inl tw31) (by decide) (t := .int) (t' := (.array (.array .int))) (by decide) (by decide)))).keep q110_0 nin0) (Or.inl (Nat.ne_of_lt (Nat.lt_of_lt_of_le E1.lt (Nat.le_of_eq g103.symm))))) (Or.inr (slot_ne (Or.inl tw20) (Or.inl tw11) (by decide) (t := .int) (t' := (.array .int)) (by decide) (by decide)))) (Or.inr (slot_ne (Or.inl tw20) (Or.inl tw13) (by decide) (t := .int) (t' := (.array .int)) (by decide) (by decide)))) (Exa.wr W115 (Exa.wr W112 (Exa.wr W111 ((Exa.wr W104 (Exa.ext E103 E1)).keep q110_0)))) (Or.inl tw20) tw1 (ty := .int) (by decide) rfl rfl (g := (mkF m 140 #[.val (.ref a1), .val (.int (0 : Int32)), .unset, .unset] [(.int (1 : Int32)), (.ref a1)])) rfl rfl (hb hby d_prog_79_method_8_code_140)
  have Fw117 : Fld Z h117 a1 "com/example/lumping/lumping/numbers/ChunkedInts" "filled" "I" (.int (1 : Int32)) := Fld.same W117 (Fld.other W115 (Fld.other W112 (Fld.other W111 ((Fld.other W104 (Fld.ext E103 Fd) (Or.inr (slot_ne (Or.inl tw20) (Or.inl tw31) (by decide) (t := .int) (t' := (.array (.array .int))) (by decide) (by decide)))).keep q110_0 nin0) (Or.inl (Nat.ne_of_lt (Nat.lt_of_lt_of_le E1.lt (Nat.le_of_eq g103.symm))))) (Or.inr (slot_ne (Or.inl tw20) (Or.inl tw11) (by decide) (t := .int) (t' := (.array .int)) (by decide) (by decide)))) (Or.inr (slot_ne (Or.inl tw20) (Or.inl tw13) (by decide) (t := .int) (t' := (.array .int)) (by decide) (by decide))))
  have N117 := Fr.snoc X117 N115 G1
  refine Goes.step (S' := T117.setTop (mkF m 253 #[.val (.ref a1), .val (.int (0 : Int32)), .unset, .unset] [])) (fun t k => st117 _ (XS.goto X117.here hx rfl (pc0 := 143) (pc' := 253) rfl (hb hby d_prog_79_method_8_code_143) (by decide) (by decide) k)) ?_
  refine Goes.leave (g := (mkF m 253 #[.val (.ref a1), .val (.int (0 : Int32)), .unset, .unset] [])) X117 Bd.notSynchronized (v := none) (fun _ => rfl) (fun fs hr => X117.returnOut hx Bd.returns (hb hby d_prog_79_method_8_code_253) hr) e117 ?_ (by decide) (by decide)
  exact ⟨b103, k103, b_110, kb_110, rfl, N117, ((((((((Keep.refl _ [a1]).ext E103).wr W104 (Or.inl (List.mem_of_getElem? (i := 0) rfl))).trans q110_0 all0).wr W111 (Or.inr (Nat.le_of_eq g103.symm))).wr W112 (Or.inl (List.mem_of_getElem? (i := 0) rfl))).wr W115 (Or.inl (List.mem_of_getElem? (i := 0) rfl))).wr W117 (Or.inl (List.mem_of_getElem? (i := 0) rfl))), (Nat.le_of_eq g103.symm), (Nat.le_trans (Nat.le_trans E103.1 (Nat.le_of_eq W104.size.symm)) q110_1), (Exa.wr W117 (Exa.wr W115 (Exa.wr W112 (Exa.wr W111 ((Exa.wr W104 (Exa.ext E103 E1)).keep q110_0))))), (Fld.other W117 (Fld.other W115 Fw112 (Or.inr (slot_ne (Or.inl tw11) (Or.inl tw13) (by decide) (t := (.array .int)) (t' := (.array .int)) (by decide) (by decide)))) (Or.inr (slot_ne (Or.inl tw11) (Or.inl tw20) (by decide) (t := (.array .int)) (t' := .int) (by decide) (by decide)))), (Fld.other W117 (Fld.other W115 (Fld.other W112 (Fld.other W111 (Fw104.keep q110_0 nin0) (Or.inl (Nat.ne_of_lt (Nat.lt_of_lt_of_le E1.lt (Nat.le_of_eq g103.symm))))) (Or.inr (slot_ne (Or.inl tw31) (Or.inl tw11) (by decide) (t := (.array (.array .int))) (t' := (.array .int)) (by decide) (by decide)))) (Or.inr (slot_ne (Or.inl tw31) (Or.inl tw13) (by decide) (t := (.array (.array .int))) (t' := (.array .int)) (by decide) (by decide)))) (Or.inr (slot_ne (Or.inl tw31) (Or.inl tw20) (by decide) (t := (.array (.array .int))) (t' := .int) (by decide) (by decide)))), (Fld.other W117 Fw115 (Or.inr (slot_ne (Or.inl tw13) (Or.inl tw20) (by decide) (t := (.array .int)) (t' := .int) (by decide) (by decide)))), Fw117, (Fld.other W117 (Fld.other W115 (Fld.other W112 (Fld.other W111 ((Fld.other W104 (Fld.ext E103 Fs) (Or.inr (slot_ne (Or.inl tw22) (Or.inl tw31) (by decide) (t := .int) (t' := (.array (.array .int))) (by decide) (by decide)))).keep q110_0 nin0) (Or.inl (Nat.ne_of_lt (Nat.lt_of_lt_of_le E1.lt (Nat.le_of_eq g103.symm))))) (Or.inr (slot_ne (Or.inl tw22) (Or.inl tw11) (by decide) (t := .int) (t' := (.array .int)) (by decide) (by decide)))) (Or.inr (slot_ne (Or.inl tw22) (Or.inl tw13) (by decide) (t := .int) (t' := (.array .int)) (by decide) (by decide)))) (Or.inr (slot_ne (Or.inl tw22) (Or.inl tw20) (by decide) (t := .int) (t' := .int) (by decide) (by decide)))), (((V111.other W112 (Ne.symm (Nat.ne_of_lt (Nat.lt_of_lt_of_le E1.lt (Nat.le_of_eq g103.symm))))).other W115 (Ne.symm (Nat.ne_of_lt (Nat.lt_of_lt_of_le E1.lt (Nat.le_of_eq g103.symm))))).other W117 (Ne.symm (Nat.ne_of_lt (Nat.lt_of_lt_of_le E1.lt (Nat.le_of_eq g103.symm))))), ((((q110_3.other W111 (Ne.symm (Nat.ne_of_lt (Nat.lt_of_lt_of_le V103.lt (Nat.le_trans (Nat.le_of_eq W104.size.symm) q110_1))))).other W112 (Ne.symm (Nat.ne_of_lt (Nat.lt_of_lt_of_le E1.lt (Nat.le_trans (Nat.le_trans E103.1 (Nat.le_of_eq W104.size.symm)) q110_1))))).other W115 (Ne.symm (Nat.ne_of_lt (Nat.lt_of_lt_of_le E1.lt (Nat.le_trans (Nat.le_trans E103.1 (Nat.le_of_eq W104.size.symm)) q110_1))))).other W117 (Ne.symm (Nat.ne_of_lt (Nat.lt_of_lt_of_le E1.lt (Nat.le_trans (Nat.le_trans E103.1 (Nat.le_of_eq W104.size.symm)) q110_1)))))⟩

theorem ef_grow2 (m : MethodId) (x0 : Addr) : entryFrame m #[(.ref x0)] 4 = mkF m 0 #[.val (.ref x0), .unset, .unset, .unset] [] := by first | (simp [entryFrame, mkF, argsToLocals, Value.category]; done) | rfl
def Q_grow2 (Z : State) (a1 : Addr) (b1 : Addr) (k1 : ClassId) (e0 : Int32) (e1 : Int32) (h0 : Heap) (n0 : Nat) (v : Option Value) (h : Heap) (L : List Loc) : Prop := ∃ (c : Addr) (kc : ClassId) (b : Addr) (kb : ClassId), v = none ∧ Fr n0 L ∧ Keep h0 h [a1] ∧ h0.size ≤ c ∧ h0.size ≤ b ∧ Exa Z h a1 "com/example/lumping/lumping/numbers/ChunkedInts" ∧ Fld Z h a1 "com/example/lumping/lumping/numbers/ChunkedInts" "whole" "[I" .null ∧ Fld Z h a1 "com/example/lumping/lumping/numbers/ChunkedInts" "chunks" "[[I" (.ref c) ∧ Fld Z h a1 "com/example/lumping/lumping/numbers/ChunkedInts" "filling" "[I" (.ref b) ∧ Fld Z h a1 "com/example/lumping/lumping/numbers/ChunkedInts" "filled" "I" (.int (2 : Int32)) ∧ Fld Z h a1 "com/example/lumping/lumping/numbers/ChunkedInts" "size" "I" (.int (2 : Int32)) ∧ Arv Z h c kc (.array .int) (1 : Int32) [(.ref b)] .null ∧ Arv Z h b kb .int (16 : Int32) [(.int e0), (.int e1), (.int (0 : Int32)), (.int (0 : Int32)), (.int (0 : Int32)), (.int (0 : Int32)), (.int (0 : Int32)), (.int (0 : Int32)), (.int (0 : Int32)), (.int (0 : Int32)), (.int (0 : Int32)), (.int (0 : Int32)), (.int (0 : Int32)), (.int (0 : Int32)), (.int (0 : Int32)), (.int (0 : Int32))] (.int (0 : Int32))
set_option maxRecDepth 65536 in
set_option maxHeartbeats 40000000 in
theorem grow2 (l : Launch) (Z : State) (a0 : Array Value) (hw : ∀ d ∈ tables_1, d.before a0 Z = true) (ws : List Jvm.Cond) (a1 : Addr) (b1 : Addr) (k1 : ClassId) (e0 : Int32) (e1 : Int32) (h0 : Heap) (n0 : Nat) (Z0 : n0 ≤ h0.size) (E1 : Exa Z h0 a1 "com/example/lumping/lumping/numbers/ChunkedInts") (Fw : Fld Z h0 a1 "com/example/lumping/lumping/numbers/ChunkedInts" "whole" "[I" (.ref b1)) (Fc : Fld Z h0 a1 "com/example/lumping/lumping/numbers/ChunkedInts" "chunks" "[[I" .null) (Ff : Fld Z h0 a1 "com/example/lumping/lumping/numbers/ChunkedInts" "filling" "[I" (.ref b1)) (Fd : Fld Z h0 a1 "com/example/lumping/lumping/numbers/ChunkedInts" "filled" "I" (.int (2 : Int32))) (Fs : Fld Z h0 a1 "com/example/lumping/lumping/numbers/ChunkedInts" "size" "I" (.int (2 : Int32))) (V1 : Arv Z h0 b1 k1 .int (2 : Int32) [(.int e0), (.int e1)] (.int (0 : Int32))) (G1 : n0 ≤ a1) :
    MetFree l mth5 (head1 (Jvm.Cond.code mth5 prog_79_method_8_code 4 none :: ws) rom7) (fun a U => a = #[(.ref a1)] ∧ Z.Warmed39 U.vm ∧ U.heap = h0) (fun _ _ _ _ _ => True) (fun _ U o U' => ∃ v L, o = .returned v ∧ Q_grow2 Z a1 b1 k1 e0 e1 h0 n0 v U'.heap L ∧ FrameEnd U o U' L rom7.cells rom7.slots) := by
  refine MetFree.of_bodySF (plainFor_of_name pnm1) hisR ?_
  intro p e s m args below meth c s₁ Bd hml0 hP hK
  obtain ⟨rfl, hZ, hh⟩ := hP
  have hx := Bd.exec
  have hby := Bd.bytes
  have hml : c.maxLocals = 4 := hml0
  have hown : s.vm.findClass "com/example/lumping/lumping/numbers/ChunkedInts" = some m.cls := findClass_of_methodNamed Bd.named
  have hnm := (name_of_methodNamed Bd.named Bd.method).1
  have X0 : Stand p l e rom7 s m #[(.ref a1)] below meth c s₁ [] 0 0 := Stand.of_body Bd
  have eh0 : s₁.heap = h0 := by rw [← hh, Bd.state]; rfl
  have N0 := Fr.nil n0
  have tw1 := hw _ (List.mem_of_getElem? (i := 1) rfl)
  have tw10 := hw _ (List.mem_of_getElem? (i := 10) rfl)
  have tw11 := hw _ (List.mem_of_getElem? (i := 11) rfl)
  have tw12 := hw _ (List.mem_of_getElem? (i := 12) rfl)
  have tw13 := hw _ (List.mem_of_getElem? (i := 13) rfl)
  have tw19 := hw _ (List.mem_of_getElem? (i := 19) rfl)
  have tw20 := hw _ (List.mem_of_getElem? (i := 20) rfl)
  have tw21 := hw _ (List.mem_of_getElem? (i := 21) rfl)
  have tw22 := hw _ (List.mem_of_getElem? (i := 22) rfl)
  have tw27 := hw _ (List.mem_of_getElem? (i := 27) rfl)
  have tw28 := hw _ (List.mem_of_getElem? (i := 28) rfl)
  have tw29 := hw _ (List.mem_of_getElem? (i := 29) rfl)
  have tw30 := hw _ (List.mem_of_getElem? (i := 30) rfl)
  have tw31 := hw _ (List.mem_of_getElem? (i := 31) rfl)
  have tw32 := hw _ (List.mem_of_getElem? (i := 32) rfl)
  have tw33 := hw _ (List.mem_of_getElem? (i := 33) rfl)
  have tw34 := hw _ (List.mem_of_getElem? (i := 34) rfl)
  have tw35 := hw _ (List.mem_of_getElem? (i := 35) rfl)
  have tw36 := hw _ (List.mem_of_getElem? (i := 36) rfl)
  have tw37 := hw _ (List.mem_of_getElem? (i := 37) rfl)
  have tw38 := hw _ (List.mem_of_getElem? (i := 38) rfl)
  have tw39 := hw _ (List.mem_of_getElem? (i := 39) rfl)
  have tw40 := hw _ (List.mem_of_getElem? (i := 40) rfl)
  have tw41 := hw _ (List.mem_of_getElem? (i := 41) rfl)
  have tw42 := hw _ (List.mem_of_getElem? (i := 42) rfl)
  show Goes p e below (Pq (Q_grow2 Z a1 b1 k1 e0 e1 h0 n0) s rom7.cells rom7.slots) (s₁.setTop (entryFrame m #[(.ref a1)] 4))
  refine Goes.step (S' := s₁.setTop (mkF m 0 #[.val (.ref a1), .unset, .unset, .unset] [])) (fun t k => castTop (ef_grow2 m a1) k) ?_
  refine Goes.step (S' := s₁.setTop (mkF m 1 #[.val (.ref a1), .unset, .unset, .unset] [(.ref a1)])) (fun t k => XS.aloadN X0.here hx rfl (hb hby d_prog_79_method_8_code_0) rfl rfl k) ?_
  obtain ⟨T101, X101, e101, st101⟩ := getF X0 hx hZ hown (host := "") (Or.inl tw10) Via.refl eh0 Fw (g := (mkF m 1 #[.val (.ref a1), .unset, .unset, .unset] [(.ref a1)])) rfl rfl (hb hby d_prog_79_method_8_code_1)
  refine Goes.step (S' := T101.setTop (mkF m 8 #[.val (.ref a1), .unset, .unset, .unset] [(.ref a1)])) (fun t k => st101 _ (XS.ifnullNo X101.here hx rfl (hb hby d_prog_79_method_8_code_4) rfl (XS.aloadN X101.here hx rfl (hb hby d_prog_79_method_8_code_7) rfl rfl k))) ?_
  obtain ⟨T102, X102, e102, st102⟩ := getF X101 hx hZ hown (host := "") (Or.inl tw21) Via.refl e101 Fs (g := (mkF m 8 #[.val (.ref a1), .unset, .unset, .unset] [(.ref a1)])) rfl rfl (hb hby d_prog_79_method_8_code_8)
  refine Goes.step (S' := T102.setTop (mkF m 14 #[.val (.ref a1), .unset, .unset, .unset] [(.int ((2 : Int32) / (1048572 : Int32)))])) (fun t k => st102 _ (X102.ldcInt hx hown (mvT hZ tw27) (g := (mkF m 11 #[.val (.ref a1), .unset, .unset, .unset] [(.int (2 : Int32))])) rfl (hb hby d_prog_79_method_8_code_11) _ (XS.idiv X102.here hx rfl (hb hby d_prog_79_method_8_code_13) rfl (by decide) k))) ?_
  rw [show ((2 : Int32) / (1048572 : Int32)) = (0 : Int32) from by decide]
  refine Goes.step (S' := T102.setTop (mkF m 19 #[.val (.ref a1), .val (.int (0 : Int32)), .unset, .unset] [(.int ((0 : Int32) + (1 : Int32))), (.ref a1)])) (fun t k => XS.istoreN X102.here hx rfl (hb hby d_prog_79_method_8_code_14) rfl (l' := #[.val (.ref a1), .val (.int (0 : Int32)), .unset, .unset]) rfl (XS.aloadN X102.here hx rfl (hb hby d_prog_79_method_8_code_15) rfl rfl (XS.iloadN X102.here hx rfl (hb hby d_prog_79_method_8_code_16) rfl (XS.iconst X102.here hx rfl (hb hby d_prog_79_method_8_code_17) (XS.iadd X102.here hx rfl (hb hby d_prog_79_method_8_code_18) rfl k))))) ?_
  rw [show ((0 : Int32) + (1 : Int32)) = (1 : Int32) from by decide]
  obtain ⟨T103, h103, k103, X103, e103, E103, A103, AE103, O103, st103⟩ := newRA X102 hx hZ hown (ty := .int) (C := "[I") rfl tw28 tw29 e102 (g := (mkF m 19 #[.val (.ref a1), .val (.int (0 : Int32)), .unset, .unset] [(.int (1 : Int32)), (.ref a1)])) rfl (hb hby d_prog_79_method_8_code_19) rfl (by decide) (cap := 1) (by decide) (by decide) (by decide) (by decide) (ad := "[[I") rfl
  obtain ⟨b103, g103⟩ : ∃ z, z = h0.size := ⟨_, rfl⟩
  rw [← g103] at A103 AE103 st103
  have V103 : Arv Z h103 b103 k103 (.array .int) (1 : Int32) [.null] .null := (Arv.new A103 (by decide)).pad (pad_rep [] .null 1)
  refine Goes.step (S' := T103.setTop (mkF m 22 #[.val (.ref a1), .val (.int (0 : Int32)), .unset, .unset] [(.ref b103), (.ref a1)])) (fun t k => st103 _ k) ?_
  obtain ⟨T104, h104, X104, e104, W104, st104⟩ := putF X103 hx hZ hown (host := "") (Or.inl tw30) Via.refl e103 (Fld.ext E103 Fc) (Exa.ext E103 E1) (Or.inl tw31) tw1 (ty := (.array (.array .int))) (by decide) rfl rfl (g := (mkF m 22 #[.val (.ref a1), .val (.int (0 : Int32)), .unset, .unset] [(.ref b103), (.ref a1)])) rfl rfl (hb hby d_prog_79_method_8_code_22)
  have Fw104 : Fld Z h104 a1 "com/example/lumping/lumping/numbers/ChunkedInts" "chunks" "[[I" (.ref b103) := Fld.same W104 (Fld.ext E103 Fc)
  have N104 := Fr.snoc X104 N0 G1
  refine Goes.step (S' := T104.setTop (mkF m 30 #[.val (.ref a1), .val (.int (0 : Int32)), .unset, .unset] [(.ref a1)])) (fun t k => st104 _ (XS.iloadN X104.here hx rfl (hb hby d_prog_79_method_8_code_25) rfl (XS.ifNo X104.here hx rfl (hb hby d_prog_79_method_8_code_26) rfl ((if0 _ _).trans (teq ((by decide) : (0 : Int32) = (0 : Int32))).2) (XS.aloadN X104.here hx rfl (hb hby d_prog_79_method_8_code_29) rfl rfl k)))) ?_
  obtain ⟨T105, X105, e105, st105⟩ := getF X104 hx hZ hown (host := "") (Or.inl tw30) Via.refl e104 Fw104 (g := (mkF m 30 #[.val (.ref a1), .val (.int (0 : Int32)), .unset, .unset] [(.ref a1)])) rfl rfl (hb hby d_prog_79_method_8_code_30)
  refine Goes.step (S' := T105.setTop (mkF m 35 #[.val (.ref a1), .val (.int (0 : Int32)), .unset, .unset] [(.ref a1), (.int (0 : Int32)), (.ref b103)])) (fun t k => st105 _ (XS.iconst X105.here hx rfl (hb hby d_prog_79_method_8_code_33) (XS.aloadN X105.here hx rfl (hb hby d_prog_79_method_8_code_34) rfl rfl k))) ?_
  obtain ⟨T106, X106, e106, st106⟩ := getF X105 hx hZ hown (host := "") (Or.inl tw10) Via.refl e105 (Fld.other W104 (Fld.ext E103 Fw) (Or.inr (slot_ne (Or.inl tw11) (Or.inl tw31) (by decide) (t := (.array .int)) (t' := (.array (.array .int))) (by decide) (by decide)))) (g := (mkF m 35 #[.val (.ref a1), .val (.int (0 : Int32)), .unset, .unset] [(.ref a1), (.int (0 : Int32)), (.ref b103)])) rfl rfl (hb hby d_prog_79_method_8_code_35)
  refine Goes.step (S' := T106.setTop (mkF m 40 #[.val (.ref a1), .val (.int (0 : Int32)), .unset, .unset] [(.ref a1), (.int (2 : Int32)), (.ref b1), (.int (0 : Int32)), (.ref b103)])) (fun t k => st106 _ (XS.iconst X106.here hx rfl (hb hby d_prog_79_method_8_code_38) (XS.aloadN X106.here hx rfl (hb hby d_prog_79_method_8_code_39) rfl rfl k))) ?_
  obtain ⟨T107, X107, e107, st107⟩ := getF X106 hx hZ hown (host := "") (Or.inl tw21) Via.refl e106 (Fld.other W104 (Fld.ext E103 Fs) (Or.inr (slot_ne (Or.inl tw22) (Or.inl tw31) (by decide) (t := .int) (t' := (.array (.array .int))) (by decide) (by decide)))) (g := (mkF m 40 #[.val (.ref a1), .val (.int (0 : Int32)), .unset, .unset] [(.ref a1), (.int (2 : Int32)), (.ref b1), (.int (0 : Int32)), (.ref b103)])) rfl rfl (hb hby d_prog_79_method_8_code_40)
  refine Goes.step (S' := T107.setTop (mkF m 44 #[.val (.ref a1), .val (.int (0 : Int32)), .unset, .unset] [(.int ((2 : Int32) * (2 : Int32))), (.ref b1), (.int (0 : Int32)), (.ref b103)])) (fun t k => st107 _ (XS.imul X107.here hx rfl (hb hby d_prog_79_method_8_code_43) rfl k)) ?_
  rw [show ((2 : Int32) * (2 : Int32)) = (4 : Int32) from by decide]
  refine Goes.step (S' := T107.setTop (mkF m 46 #[.val (.ref a1), .val (.int (0 : Int32)), .unset, .unset] [(.int (16 : Int32)), (.int (4 : Int32)), (.ref b1), (.int (0 : Int32)), (.ref b103)])) (fun t k => XS.bipush X107.here hx rfl (hb hby d_prog_79_method_8_code_44) k) ?_
  obtain ⟨_, _, ⟨T108, L108, k108, n108⟩, -, X108, ⟨Lc108, hQ108, l108, y108, z108⟩, st108⟩ := Jvm.LawKit.callS X107 hx (y := mth0) hown (mvT hZ tw32) (mvT hZ tw33) (mvT hZ tw34) (mvT hZ tw35) (by decide) (backOf (W := 3) (mx1 l Z a0 hw [] (4 : Int32) (16 : Int32) h104 n0 (Nat.le_trans Z0 (Nat.le_trans E103.1 (Nat.le_of_eq W104.size.symm))) ((by decide) : (4 : Int32) < (16 : Int32))) hZ tw35 tw34 (by decide) (by decide)) (g := (mkF m 46 #[.val (.ref a1), .val (.int (0 : Int32)), .unset, .unset] [(.int (16 : Int32)), (.int (4 : Int32)), (.ref b1), (.int (0 : Int32)), (.ref b103)])) rfl (by rw [hml]; rfl) (argsL := [(.int (4 : Int32)), (.int (16 : Int32))]) (rest := [(.ref b1), (.int (0 : Int32)), (.ref b103)]) (lenOf pd_II_I rfl) rfl (Nat.le_of_eq rfl) (hb hby d_prog_79_method_8_code_46) (fun _ _ => ⟨rfl, e107, (by decide : 1 + 0 ≤ _), (by decide : 1 + 0 ≤ _)⟩)
  dsimp only [Pt.U, Pt.locs, Pt.cells, Pt.slots] at X108 l108 y108 z108 st108 hQ108
  subst l108 y108 z108
  obtain ⟨rfl, Nq108, q108_0⟩ := hQ108
  have N108 := Fr.app N104 Nq108
  refine Goes.step (S' := T108.setTop (mkF m 51 #[.val (.ref a1), .val (.int (0 : Int32)), .unset, .unset] [(.int (1048572 : Int32)), (.int (16 : Int32)), (.ref b1), (.int (0 : Int32)), (.ref b103)])) (fun t k => st108 _ (X108.ldcInt hx hown (mvT hZ tw27) (g := (mkF m 49 #[.val (.ref a1), .val (.int (0 : Int32)), .unset, .unset] [(.int (16 : Int32)), (.ref b1), (.int (0 : Int32)), (.ref b103)])) rfl (hb hby d_prog_79_method_8_code_49) _ k)) ?_
  obtain ⟨_, _, ⟨T109, L109, k109, n109⟩, -, X109, ⟨Lc109, hQ109, l109, y109, z109⟩, st109⟩ := Jvm.LawKit.callS X108 hx (y := mth1) hown (mvT hZ tw36) (mvT hZ tw37) (mvT hZ tw34) (mvT hZ tw38) (by decide) (backOf (W := 3) (mn0 l Z a0 hw [] (16 : Int32) (1048572 : Int32) h104 n0 (Nat.le_trans Z0 (Nat.le_trans E103.1 (Nat.le_of_eq W104.size.symm))) ((by decide) : ¬ ((1048572 : Int32) < (16 : Int32)))) hZ tw38 tw34 (by decide) (by decide)) (g := (mkF m 51 #[.val (.ref a1), .val (.int (0 : Int32)), .unset, .unset] [(.int (1048572 : Int32)), (.int (16 : Int32)), (.ref b1), (.int (0 : Int32)), (.ref b103)])) rfl (by rw [hml]; rfl) (argsL := [(.int (16 : Int32)), (.int (1048572 : Int32))]) (rest := [(.ref b1), (.int (0 : Int32)), (.ref b103)]) (lenOf pd_II_I rfl) rfl (Nat.le_of_eq rfl) (hb hby d_prog_79_method_8_code_51) (fun _ _ => ⟨rfl, q108_0, (by decide : 1 + 0 ≤ _), (by decide : 1 + 0 ≤ _)⟩)
  dsimp only [Pt.U, Pt.locs, Pt.cells, Pt.slots] at X109 l109 y109 z109 st109 hQ109
  subst l109 y109 z109
  obtain ⟨rfl, Nq109, q109_0⟩ := hQ109
  have N109 := Fr.app N108 Nq109
  refine Goes.step (S' := T109.setTop (mkF m 54 #[.val (.ref a1), .val (.int (0 : Int32)), .unset, .unset] [(.int (16 : Int32)), (.ref b1), (.int (0 : Int32)), (.ref b103)])) (fun t k => st109 _ k) ?_
  obtain ⟨_, _, ⟨T110, L110, k110, n110⟩, -, X110, ⟨Lc110, hQ110, l110, y110, z110⟩, st110⟩ := Jvm.LawKit.callS X109 hx (y := mth2) hown (mvT hZ tw39) (mvT hZ tw40) (mvT hZ tw41) (mvT hZ tw42) (by decide) (backOf (W := 2) (cpy2 l Z a0 hw [] b1 k1 e0 e1 h104 n0 (Nat.le_trans Z0 (Nat.le_trans E103.1 (Nat.le_of_eq W104.size.symm))) ((V1.ext E103).other W104 (Ne.symm (Exa.neArv (Exa.ext E103 E1) (V1.ext E103) tw1)))) hZ tw42 tw41 (by decide) (by decide)) (g := (mkF m 54 #[.val (.ref a1), .val (.int (0 : Int32)), .unset, .unset] [(.int (16 : Int32)), (.ref b1), (.int (0 : Int32)), (.ref b103)])) rfl (by rw [hml]; rfl) (argsL := [(.ref b1), (.int (16 : Int32))]) (rest := [(.int (0 : Int32)), (.ref b103)]) (lenOf pd_II__I rfl) rfl (Nat.le_of_eq rfl) (hb hby d_prog_79_method_8_code_54) (fun _ _ => ⟨rfl, q109_0, (by decide : 1 + 1 ≤ _), (by decide : 1 + 16 ≤ _)⟩)
  dsimp only [Pt.U, Pt.locs, Pt.cells, Pt.slots] at X110 l110 y110 z110 st110 hQ110
  subst l110 y110 z110
  obtain ⟨b_110, kb_110, rfl, Nq110, q110_0, q110_1, q110_2, q110_3⟩ := hQ110
  have N110 := Fr.app N109 Nq110
  refine Goes.step (S' := T110.setTop (mkF m 57 #[.val (.ref a1), .val (.int (0 : Int32)), .unset, .unset] [(.ref b_110), (.int (0 : Int32)), (.ref b103)])) (fun t k => st110 _ k) ?_
  obtain ⟨cl111, Ar111, qk111, Sz111, Nn111, Hs111, Gs111⟩ := id ((V103.other W104 (Ne.symm (Nat.ne_of_lt (Nat.lt_of_lt_of_le E1.lt (Nat.le_of_eq g103.symm))))).keep q110_0 nin0)
  obtain ⟨T111, h111, X111, e111, W111, st111⟩ := stR X110 hx hZ rfl Ar111 (j := (0 : Int32)) (inb_of (j := (0 : Int32)) Sz111 ⟨by decide, by decide⟩) rfl (Sto.ofVA Ar111 qk111 O103 (Ins.self q110_2)) (g := (mkF m 57 #[.val (.ref a1), .val (.int (0 : Int32)), .unset, .unset] [(.ref b_110), (.int (0 : Int32)), (.ref b103)])) rfl rfl (hb hby d_prog_79_method_8_code_57)
  have V111 : Arv Z h111 b103 k103 (.array .int) (1 : Int32) [(.ref b_110)] .null := Arv.set Ar111 qk111 Sz111 Nn111 Hs111 Gs111 rfl W111 0 rfl (Nat.le_of_ble_eq_true rfl)
  have N111 := Fr.snoc X111 N110 (Nat.le_trans Z0 (Nat.le_of_eq g103.symm))
  refine Goes.step (S' := T111.setTop (mkF m 117 #[.val (.ref a1), .val (.int (0 : Int32)), .unset, .unset] [.null, (.ref a1)])) (fun t k => st111 _ (XS.goto X111.here hx rfl (pc0 := 58) (pc' := 115) rfl (hb hby d_prog_79_method_8_code_58) (by decide) (by decide) (XS.aloadN X111.here hx rfl (hb hby d_prog_79_method_8_code_115) rfl rfl (XS.aconstNull X111.here hx rfl (hb hby d_prog_79_method_8_code_116) k)))) ?_
  obtain ⟨T112, h112, X112, e112, W112, st112⟩ := putF X111 hx hZ hown (host := "") (Or.inl tw10) Via.refl e111 (Fld.other W111 ((Fld.other W104 (Fld.ext E103 Fw) (Or.inr (slot_ne (Or.inl tw11) (Or.inl tw31) (by decide) (t := (.array .int)) (t' := (.array (.array .int))) (by decide) (by decide)))).keep q110_0 nin0) (Or.inl (Nat.ne_of_lt (Nat.lt_of_lt_of_le E1.lt (Nat.le_of_eq g103.symm))))) (Exa.wr W111 ((Exa.wr W104 (Exa.ext E103 E1)).keep q110_0)) (Or.inl tw11) tw1 (ty := (.array .int)) (by decide) rfl rfl (g := (mkF m 117 #[.val (.ref a1), .val (.int (0 : Int32)), .unset, .unset] [.null, (.ref a1)])) rfl rfl (hb hby d_prog_79_method_8_code_117)
  have Fw112 : Fld Z h112 a1 "com/example/lumping/lumping/numbers/ChunkedInts" "whole" "[I" .null := Fld.same W112 (Fld.other W111 ((Fld.other W104 (Fld.ext E103 Fw) (Or.inr (slot_ne (Or.inl tw11) (Or.inl tw31) (by decide) (t := (.array .int)) (t' := (.array (.array .int))) (by decide) (by decide)))).keep q110_0 nin0) (Or.inl (Nat.ne_of_lt (Nat.lt_of_lt_of_le E1.lt (Nat.le_of_eq g103.symm)))))
  have N112 := Fr.snoc X112 N111 G1
  refine Goes.step (S' := T112.setTop (mkF m 122 #[.val (.ref a1), .val (.int (0 : Int32)), .unset, .unset] [(.ref a1), (.ref a1)])) (fun t k => st112 _ (XS.aloadN X112.here hx rfl (hb hby d_prog_79_method_8_code_120) rfl rfl (XS.aloadN X112.here hx rfl (hb hby d_prog_79_method_8_code_121) rfl rfl k))) ?_
  obtain ⟨T113, X113, e113, st113⟩ := getF X112 hx hZ hown (host := "") (Or.inl tw30) Via.refl e112 (Fld.other W112 (Fld.other W111 (Fw104.keep q110_0 nin0) (Or.inl (Nat.ne_of_lt (Nat.lt_of_lt_of_le E1.lt (Nat.le_of_eq g103.symm))))) (Or.inr (slot_ne (Or.inl tw31) (Or.inl tw11) (by decide) (t := (.array (.array .int))) (t' := (.array .int)) (by decide) (by decide)))) (g := (mkF m 122 #[.val (.ref a1), .val (.int (0 : Int32)), .unset, .unset] [(.ref a1), (.ref a1)])) rfl rfl (hb hby d_prog_79_method_8_code_122)
  refine Goes.step (S' := T113.setTop (mkF m 126 #[.val (.ref a1), .val (.int (0 : Int32)), .unset, .unset] [(.int (0 : Int32)), (.ref b103), (.ref a1)])) (fun t k => st113 _ (XS.iloadN X113.here hx rfl (hb hby d_prog_79_method_8_code_125) rfl k)) ?_
  obtain ⟨cl114, Ar114, qk114, Sz114, Nn114, Hs114, Gs114⟩ := id (V111.other W112 (Ne.symm (Nat.ne_of_lt (Nat.lt_of_lt_of_le E1.lt (Nat.le_of_eq g103.symm)))))
  have hin114 := (inb_of (j := (0 : Int32)) Sz114 ⟨by decide, by decide⟩)
  refine Goes.step (S' := T113.setTop (mkF m 127 #[.val (.ref a1), .val (.int (0 : Int32)), .unset, .unset] [(.ref b_110), (.ref a1)])) (fun t k => X113.aaload hx (j := (0 : Int32)) (v := (.ref b_110)) (by rw [e113]; exact Ar114.1) (State.isArrayOf_alike hZ.alike Ar114.2.1) rfl Ar114.2.2 hin114 (Has.at Hs114 hin114 rfl) (g := (mkF m 126 #[.val (.ref a1), .val (.int (0 : Int32)), .unset, .unset] [(.int (0 : Int32)), (.ref b103), (.ref a1)])) rfl rfl (hb hby d_prog_79_method_8_code_126) _ k) ?_
  obtain ⟨T115, h115, X115, e115, W115, st115⟩ := putF X113 hx hZ hown (host := "") (Or.inl tw12) Via.refl e113 (Fld.other W112 (Fld.other W111 ((Fld.other W104 (Fld.ext E103 Ff) (Or.inr (slot_ne (Or.inl tw13) (Or.inl tw31) (by decide) (t := (.array .int)) (t' := (.array (.array .int))) (by decide) (by decide)))).keep q110_0 nin0) (Or.inl (Nat.ne_of_lt (Nat.lt_of_lt_of_le E1.lt (Nat.le_of_eq g103.symm))))) (Or.inr (slot_ne (Or.inl tw13) (Or.inl tw11) (by decide) (t := (.array .int)) (t' := (.array .int)) (by decide) (by decide)))) (Exa.wr W112 (Exa.wr W111 ((Exa.wr W104 (Exa.ext E103 E1)).keep q110_0))) (Or.inl tw13) tw1 (ty := (.array .int)) (by decide) rfl rfl (g := (mkF m 127 #[.val (.ref a1), .val (.int (0 : Int32)), .unset, .unset] [(.ref b_110), (.ref a1)])) rfl rfl (hb hby d_prog_79_method_8_code_127)
  have Fw115 : Fld Z h115 a1 "com/example/lumping/lumping/numbers/ChunkedInts" "filling" "[I" (.ref b_110) := Fld.same W115 (Fld.other W112 (Fld.other W111 ((Fld.other W104 (Fld.ext E103 Ff) (Or.inr (slot_ne (Or.inl tw13) (Or.inl tw31) (by decide) (t := (.array .int)) (t' := (.array (.array .int))) (by decide) (by decide)))).keep q110_0 nin0) (Or.inl (Nat.ne_of_lt (Nat.lt_of_lt_of_le E1.lt (Nat.le_of_eq g103.symm))))) (Or.inr (slot_ne (Or.inl tw13) (Or.inl tw11) (by decide) (t := (.array .int)) (t' := (.array .int)) (by decide) (by decide))))
  have N115 := Fr.snoc X115 N112 G1
  refine Goes.step (S' := T115.setTop (mkF m 132 #[.val (.ref a1), .val (.int (0 : Int32)), .unset, .unset] [(.ref a1), (.ref a1)])) (fun t k => st115 _ (XS.aloadN X115.here hx rfl (hb hby d_prog_79_method_8_code_130) rfl rfl (XS.aloadN X115.here hx rfl (hb hby d_prog_79_method_8_code_131) rfl rfl k))) ?_
  obtain ⟨T116, X116, e116, st116⟩ := getF X115 hx hZ hown (host := "") (Or.inl tw21) Via.refl e115 (Fld.other W115 (Fld.other W112 (Fld.other W111 ((Fld.other W104 (Fld.ext E103 Fs) (Or.inr (slot_ne (Or.inl tw22) (Or.inl tw31) (by decide) (t := .int) (t' := (.array (.array .int))) (by decide) (by decide)))).keep q110_0 nin0) (Or.inl (Nat.ne_of_lt (Nat.lt_of_lt_of_le E1.lt (Nat.le_of_eq g103.symm))))) (Or.inr (slot_ne (Or.inl tw22) (Or.inl tw11) (by decide) (t := .int) (t' := (.array .int)) (by decide) (by decide)))) (Or.inr (slot_ne (Or.inl tw22) (Or.inl tw13) (by decide) (t := .int) (t' := (.array .int)) (by decide) (by decide)))) (g := (mkF m 132 #[.val (.ref a1), .val (.int (0 : Int32)), .unset, .unset] [(.ref a1), (.ref a1)])) rfl rfl (hb hby d_prog_79_method_8_code_132)
  refine Goes.step (S' := T116.setTop (mkF m 139 #[.val (.ref a1), .val (.int (0 : Int32)), .unset, .unset] [(.int ((0 : Int32) * (1048572 : Int32))), (.int (2 : Int32)), (.ref a1)])) (fun t k => st116 _ (XS.iloadN X116.here hx rfl (hb hby d_prog_79_method_8_code_135) rfl (X116.ldcInt hx hown (mvT hZ tw27) (g := (mkF m 136 #[.val (.ref a1), .val (.int (0 : Int32)), .unset, .unset] [(.int (0 : Int32)), (.int (2 : Int32)), (.ref a1)])) rfl (hb hby d_prog_79_method_8_code_136) _ (XS.imul X116.here hx rfl (hb hby d_prog_79_method_8_code_138) rfl k)))) ?_
  rw [show ((0 : Int32) * (1048572 : Int32)) = (0 : Int32) from by decide]
  refine Goes.step (S' := T116.setTop (mkF m 140 #[.val (.ref a1), .val (.int (0 : Int32)), .unset, .unset] [(.int ((2 : Int32) - (0 : Int32))), (.ref a1)])) (fun t k => XS.isub X116.here hx rfl (hb hby d_prog_79_method_8_code_139) rfl k) ?_
  rw [show ((2 : Int32) - (0 : Int32)) = (2 : Int32) from by decide]
  obtain ⟨T117, h117, X117, e117, W117, st117⟩ := putF X116 hx hZ hown (host := "") (Or.inl tw19) Via.refl e116 (Fld.other W115 (Fld.other W112 (Fld.other W111 ((Fld.other W104 (Fld.ext E103 Fd) (Or.inr (slot_ne (Or.inl tw20) (Or.inl tw31) (by decide) (t := .int) (t' := (.array (.array .int))) (by decide) (by decide)))).keep q110_0 nin0) (Or.inl (Nat.ne_of_lt (Nat.lt_of_lt_of_le E1.lt (Nat.le_of_eq g103.symm))))) (Or.inr (slot_ne (Or.inl tw20) (Or.inl tw11) (by decide) (t := .int) (t' := (.array .int)) (by decide) (by decide)))) (Or.inr (slot_ne (Or.inl tw20) (Or.inl tw13) (by decide) (t := .int) (t' := (.array .int)) (by decide) (by decide)))) (Exa.wr W115 (Exa.wr W112 (Exa.wr W111 ((Exa.wr W104 (Exa.ext E103 E1)).keep q110_0)))) (Or.inl tw20) tw1 (ty := .int) (by decide) rfl rfl (g := (mkF m 140 #[.val (.ref a1), .val (.int (0 : Int32)), .unset, .unset] [(.int (2 : Int32)), (.ref a1)])) rfl rfl (hb hby d_prog_79_method_8_code_140)
  have Fw117 : Fld Z h117 a1 "com/example/lumping/lumping/numbers/ChunkedInts" "filled" "I" (.int (2 : Int32)) := Fld.same W117 (Fld.other W115 (Fld.other W112 (Fld.other W111 ((Fld.other W104 (Fld.ext E103 Fd) (Or.inr (slot_ne (Or.inl tw20) (Or.inl tw31) (by decide) (t := .int) (t' := (.array (.array .int))) (by decide) (by decide)))).keep q110_0 nin0) (Or.inl (Nat.ne_of_lt (Nat.lt_of_lt_of_le E1.lt (Nat.le_of_eq g103.symm))))) (Or.inr (slot_ne (Or.inl tw20) (Or.inl tw11) (by decide) (t := .int) (t' := (.array .int)) (by decide) (by decide)))) (Or.inr (slot_ne (Or.inl tw20) (Or.inl tw13) (by decide) (t := .int) (t' := (.array .int)) (by decide) (by decide))))
  have N117 := Fr.snoc X117 N115 G1
  refine Goes.step (S' := T117.setTop (mkF m 253 #[.val (.ref a1), .val (.int (0 : Int32)), .unset, .unset] [])) (fun t k => st117 _ (XS.goto X117.here hx rfl (pc0 := 143) (pc' := 253) rfl (hb hby d_prog_79_method_8_code_143) (by decide) (by decide) k)) ?_
  refine Goes.leave (g := (mkF m 253 #[.val (.ref a1), .val (.int (0 : Int32)), .unset, .unset] [])) X117 Bd.notSynchronized (v := none) (fun _ => rfl) (fun fs hr => X117.returnOut hx Bd.returns (hb hby d_prog_79_method_8_code_253) hr) e117 ?_ (by decide) (by decide)
  exact ⟨b103, k103, b_110, kb_110, rfl, N117, ((((((((Keep.refl _ [a1]).ext E103).wr W104 (Or.inl (List.mem_of_getElem? (i := 0) rfl))).trans q110_0 all0).wr W111 (Or.inr (Nat.le_of_eq g103.symm))).wr W112 (Or.inl (List.mem_of_getElem? (i := 0) rfl))).wr W115 (Or.inl (List.mem_of_getElem? (i := 0) rfl))).wr W117 (Or.inl (List.mem_of_getElem? (i := 0) rfl))), (Nat.le_of_eq g103.symm), (Nat.le_trans (Nat.le_trans E103.1 (Nat.le_of_eq W104.size.symm)) q110_1), (Exa.wr W117 (Exa.wr W115 (Exa.wr W112 (Exa.wr W111 ((Exa.wr W104 (Exa.ext E103 E1)).keep q110_0))))), (Fld.other W117 (Fld.other W115 Fw112 (Or.inr (slot_ne (Or.inl tw11) (Or.inl tw13) (by decide) (t := (.array .int)) (t' := (.array .int)) (by decide) (by decide)))) (Or.inr (slot_ne (Or.inl tw11) (Or.inl tw20) (by decide) (t := (.array .int)) (t' := .int) (by decide) (by decide)))), (Fld.other W117 (Fld.other W115 (Fld.other W112 (Fld.other W111 (Fw104.keep q110_0 nin0) (Or.inl (Nat.ne_of_lt (Nat.lt_of_lt_of_le E1.lt (Nat.le_of_eq g103.symm))))) (Or.inr (slot_ne (Or.inl tw31) (Or.inl tw11) (by decide) (t := (.array (.array .int))) (t' := (.array .int)) (by decide) (by decide)))) (Or.inr (slot_ne (Or.inl tw31) (Or.inl tw13) (by decide) (t := (.array (.array .int))) (t' := (.array .int)) (by decide) (by decide)))) (Or.inr (slot_ne (Or.inl tw31) (Or.inl tw20) (by decide) (t := (.array (.array .int))) (t' := .int) (by decide) (by decide)))), (Fld.other W117 Fw115 (Or.inr (slot_ne (Or.inl tw13) (Or.inl tw20) (by decide) (t := (.array .int)) (t' := .int) (by decide) (by decide)))), Fw117, (Fld.other W117 (Fld.other W115 (Fld.other W112 (Fld.other W111 ((Fld.other W104 (Fld.ext E103 Fs) (Or.inr (slot_ne (Or.inl tw22) (Or.inl tw31) (by decide) (t := .int) (t' := (.array (.array .int))) (by decide) (by decide)))).keep q110_0 nin0) (Or.inl (Nat.ne_of_lt (Nat.lt_of_lt_of_le E1.lt (Nat.le_of_eq g103.symm))))) (Or.inr (slot_ne (Or.inl tw22) (Or.inl tw11) (by decide) (t := .int) (t' := (.array .int)) (by decide) (by decide)))) (Or.inr (slot_ne (Or.inl tw22) (Or.inl tw13) (by decide) (t := .int) (t' := (.array .int)) (by decide) (by decide)))) (Or.inr (slot_ne (Or.inl tw22) (Or.inl tw20) (by decide) (t := .int) (t' := .int) (by decide) (by decide)))), (((V111.other W112 (Ne.symm (Nat.ne_of_lt (Nat.lt_of_lt_of_le E1.lt (Nat.le_of_eq g103.symm))))).other W115 (Ne.symm (Nat.ne_of_lt (Nat.lt_of_lt_of_le E1.lt (Nat.le_of_eq g103.symm))))).other W117 (Ne.symm (Nat.ne_of_lt (Nat.lt_of_lt_of_le E1.lt (Nat.le_of_eq g103.symm))))), ((((q110_3.other W111 (Ne.symm (Nat.ne_of_lt (Nat.lt_of_lt_of_le V103.lt (Nat.le_trans (Nat.le_of_eq W104.size.symm) q110_1))))).other W112 (Ne.symm (Nat.ne_of_lt (Nat.lt_of_lt_of_le E1.lt (Nat.le_trans (Nat.le_trans E103.1 (Nat.le_of_eq W104.size.symm)) q110_1))))).other W115 (Ne.symm (Nat.ne_of_lt (Nat.lt_of_lt_of_le E1.lt (Nat.le_trans (Nat.le_trans E103.1 (Nat.le_of_eq W104.size.symm)) q110_1))))).other W117 (Ne.symm (Nat.ne_of_lt (Nat.lt_of_lt_of_le E1.lt (Nat.le_trans (Nat.le_trans E103.1 (Nat.le_of_eq W104.size.symm)) q110_1)))))⟩

theorem ef_addg0 (m : MethodId) (x0 : Addr) (x1 : Int32) : entryFrame m #[(.ref x0), (.int x1)] 2 = mkF m 0 #[.val (.ref x0), .val (.int x1)] [] := by first | (simp [entryFrame, mkF, argsToLocals, Value.category]; done) | rfl
def Q_addg0 (Z : State) (a1 : Addr) (p1 : Int32) (b1 : Addr) (k1 : ClassId) (h0 : Heap) (n0 : Nat) (v : Option Value) (h : Heap) (L : List Loc) : Prop := ∃ (c : Addr) (kc : ClassId) (b : Addr) (kb : ClassId), v = none ∧ Fr n0 L ∧ Keep h0 h [a1] ∧ h0.size ≤ c ∧ h0.size ≤ b ∧ Exa Z h a1 "com/example/lumping/lumping/numbers/ChunkedInts" ∧ Fld Z h a1 "com/example/lumping/lumping/numbers/ChunkedInts" "whole" "[I" .null ∧ Fld Z h a1 "com/example/lumping/lumping/numbers/ChunkedInts" "chunks" "[[I" (.ref c) ∧ Fld Z h a1 "com/example/lumping/lumping/numbers/ChunkedInts" "filling" "[I" (.ref b) ∧ Fld Z h a1 "com/example/lumping/lumping/numbers/ChunkedInts" "filled" "I" (.int (1 : Int32)) ∧ Fld Z h a1 "com/example/lumping/lumping/numbers/ChunkedInts" "size" "I" (.int (1 : Int32)) ∧ Arv Z h c kc (.array .int) (1 : Int32) [(.ref b)] .null ∧ Arv Z h b kb .int (16 : Int32) [(.int p1), (.int (0 : Int32)), (.int (0 : Int32)), (.int (0 : Int32)), (.int (0 : Int32)), (.int (0 : Int32)), (.int (0 : Int32)), (.int (0 : Int32)), (.int (0 : Int32)), (.int (0 : Int32)), (.int (0 : Int32)), (.int (0 : Int32)), (.int (0 : Int32)), (.int (0 : Int32)), (.int (0 : Int32)), (.int (0 : Int32))] (.int (0 : Int32))
set_option maxRecDepth 65536 in
set_option maxHeartbeats 40000000 in
theorem addg0 (l : Launch) (Z : State) (a0 : Array Value) (hw : ∀ d ∈ tables_1, d.before a0 Z = true) (ws : List Jvm.Cond) (a1 : Addr) (p1 : Int32) (b1 : Addr) (k1 : ClassId) (h0 : Heap) (n0 : Nat) (Z0 : n0 ≤ h0.size) (E1 : Exa Z h0 a1 "com/example/lumping/lumping/numbers/ChunkedInts") (Fw : Fld Z h0 a1 "com/example/lumping/lumping/numbers/ChunkedInts" "whole" "[I" (.ref b1)) (Fc : Fld Z h0 a1 "com/example/lumping/lumping/numbers/ChunkedInts" "chunks" "[[I" .null) (Ff : Fld Z h0 a1 "com/example/lumping/lumping/numbers/ChunkedInts" "filling" "[I" (.ref b1)) (Fd : Fld Z h0 a1 "com/example/lumping/lumping/numbers/ChunkedInts" "filled" "I" (.int (0 : Int32))) (Fs : Fld Z h0 a1 "com/example/lumping/lumping/numbers/ChunkedInts" "size" "I" (.int (0 : Int32))) (V1 : Arv Z h0 b1 k1 .int (0 : Int32) [] (.int (0 : Int32))) (G1 : n0 ≤ a1) :
    MetFree l mth6 (head1 (Jvm.Cond.code mth6 prog_79_method_6_code 2 none :: ws) rom8) (fun a U => a = #[(.ref a1), (.int p1)] ∧ Z.Warmed39 U.vm ∧ U.heap = h0) (fun _ _ _ _ _ => True) (fun _ U o U' => ∃ v L, o = .returned v ∧ Q_addg0 Z a1 p1 b1 k1 h0 n0 v U'.heap L ∧ FrameEnd U o U' L rom8.cells rom8.slots) := by
  refine MetFree.of_bodySF (plainFor_of_name pnm1) hisR ?_
  intro p e s m args below meth c s₁ Bd hml0 hP hK
  obtain ⟨rfl, hZ, hh⟩ := hP
  have hx := Bd.exec
  have hby := Bd.bytes
  have hml : c.maxLocals = 2 := hml0
  have hown : s.vm.findClass "com/example/lumping/lumping/numbers/ChunkedInts" = some m.cls := findClass_of_methodNamed Bd.named
  have hnm := (name_of_methodNamed Bd.named Bd.method).1
  have X0 : Stand p l e rom8 s m #[(.ref a1), (.int p1)] below meth c s₁ [] 0 0 := Stand.of_body Bd
  have eh0 : s₁.heap = h0 := by rw [← hh, Bd.state]; rfl
  have N0 := Fr.nil n0
  have tw1 := hw _ (List.mem_of_getElem? (i := 1) rfl)
  have tw2 := hw _ (List.mem_of_getElem? (i := 2) rfl)
  have tw11 := hw _ (List.mem_of_getElem? (i := 11) rfl)
  have tw12 := hw _ (List.mem_of_getElem? (i := 12) rfl)
  have tw13 := hw _ (List.mem_of_getElem? (i := 13) rfl)
  have tw19 := hw _ (List.mem_of_getElem? (i := 19) rfl)
  have tw20 := hw _ (List.mem_of_getElem? (i := 20) rfl)
  have tw21 := hw _ (List.mem_of_getElem? (i := 21) rfl)
  have tw22 := hw _ (List.mem_of_getElem? (i := 22) rfl)
  have tw23 := hw _ (List.mem_of_getElem? (i := 23) rfl)
  have tw24 := hw _ (List.mem_of_getElem? (i := 24) rfl)
  have tw25 := hw _ (List.mem_of_getElem? (i := 25) rfl)
  have tw26 := hw _ (List.mem_of_getElem? (i := 26) rfl)
  have tw31 := hw _ (List.mem_of_getElem? (i := 31) rfl)
  show Goes p e below (Pq (Q_addg0 Z a1 p1 b1 k1 h0 n0) s rom8.cells rom8.slots) (s₁.setTop (entryFrame m #[(.ref a1), (.int p1)] 2))
  refine Goes.step (S' := s₁.setTop (mkF m 0 #[.val (.ref a1), .val (.int p1)] [])) (fun t k => castTop (ef_addg0 m a1 p1) k) ?_
  refine Goes.step (S' := s₁.setTop (mkF m 1 #[.val (.ref a1), .val (.int p1)] [(.ref a1)])) (fun t k => XS.aloadN X0.here hx rfl (hb hby d_prog_79_method_6_code_0) rfl rfl k) ?_
  obtain ⟨T101, X101, e101, st101⟩ := getF X0 hx hZ hown (host := "") (Or.inl tw19) Via.refl eh0 Fd (g := (mkF m 1 #[.val (.ref a1), .val (.int p1)] [(.ref a1)])) rfl rfl (hb hby d_prog_79_method_6_code_1)
  refine Goes.step (S' := T101.setTop (mkF m 5 #[.val (.ref a1), .val (.int p1)] [(.ref a1), (.int (0 : Int32))])) (fun t k => st101 _ (XS.aloadN X101.here hx rfl (hb hby d_prog_79_method_6_code_4) rfl rfl k)) ?_
  obtain ⟨T102, X102, e102, st102⟩ := getF X101 hx hZ hown (host := "") (Or.inl tw12) Via.refl e101 Ff (g := (mkF m 5 #[.val (.ref a1), .val (.int p1)] [(.ref a1), (.int (0 : Int32))])) rfl rfl (hb hby d_prog_79_method_6_code_5)
  refine Goes.step (S' := T102.setTop (mkF m 8 #[.val (.ref a1), .val (.int p1)] [(.ref b1), (.int (0 : Int32))])) (fun t k => st102 _ k) ?_
  obtain ⟨cl103, Ar103, qk103, Sz103, Nn103, Hs103, Gs103⟩ := id V1
  refine Goes.step (S' := T102.setTop (mkF m 9 #[.val (.ref a1), .val (.int p1)] [(.int (0 : Int32)), (.int (0 : Int32))])) (fun t k => X102.arraylength hx (by rw [e102]; exact Ar103.1) (State.isArrayOf_alike hZ.alike Ar103.2.1) (g := (mkF m 8 #[.val (.ref a1), .val (.int p1)] [(.ref b1), (.int (0 : Int32))])) rfl rfl (hb hby d_prog_79_method_6_code_8) _ (by rw [len_of Sz103 Nn103]; exact k)) ?_
  refine Goes.step (S' := T102.setTop (mkF m 13 #[.val (.ref a1), .val (.int p1)] [(.ref a1)])) (fun t k => XS.icmpNo X102.here hx rfl (hb hby d_prog_79_method_6_code_9) rfl (teq ((by decide) : (0 : Int32) = (0 : Int32))).2 (XS.aloadN X102.here hx rfl (hb hby d_prog_79_method_6_code_12) rfl rfl k)) ?_
  obtain ⟨cq104, q104, q104'⟩ := E1.cell
  obtain ⟨_, _, ⟨T104, L104, k104, n104⟩, -, X104, ⟨Lc104, hQ104, l104, y104, z104⟩, st104⟩ := X102.privateBack hx (y := mth5) hown (mvT hZ tw23) (mvT hZ tw24) (own_selP (mvT hZ tw24) (mvP hZ tw25) (mvT hZ tw1) (by decide)) (Cond.privateMethod_at (mvP hZ tw25 (args := #[]))) (mvT hZ tw26) (by decide) (backOf (W := 0) (grow0 l Z a0 hw [] a1 b1 k1 h0 n0 Z0 E1 Fw Fc Ff Fd Fs V1 G1) hZ tw26 tw2 (by decide) (by decide)) (g := (mkF m 13 #[.val (.ref a1), .val (.int p1)] [(.ref a1)])) rfl (by rw [hml]; rfl) (Steps.refl _) (a := a1) (by rw [e102]; exact q104) q104' (argsL := []) (rest := []) (lenOf pd_V rfl) rfl (Nat.le_of_eq rfl) (hb hby d_prog_79_method_6_code_13) (fun _ _ => ⟨rfl, e102, (by decide : 0 + 2 ≤ _), (by decide : 0 + 17 ≤ _)⟩)
  dsimp only [Pt.U, Pt.locs, Pt.cells, Pt.slots] at X104 l104 y104 z104 st104 hQ104
  subst l104 y104 z104
  obtain ⟨c_104, kc_104, b_104, kb_104, rfl, Nq104, q104_0, q104_1, q104_2, q104_3, q104_4, q104_5, q104_6, q104_7, q104_8, q104_9, q104_10⟩ := hQ104
  have N104 := Fr.app N0 Nq104
  refine Goes.step (S' := T104.setTop (mkF m 17 #[.val (.ref a1), .val (.int p1)] [(.ref a1)])) (fun t k => st104.trans (XS.aloadN X104.here hx rfl (hb hby d_prog_79_method_6_code_16) rfl rfl k)) ?_
  obtain ⟨T105, X105, e105, st105⟩ := getF X104 hx hZ hown (host := "") (Or.inl tw12) Via.refl rfl q104_6 (g := (mkF m 17 #[.val (.ref a1), .val (.int p1)] [(.ref a1)])) rfl rfl (hb hby d_prog_79_method_6_code_17)
  refine Goes.step (S' := T105.setTop (mkF m 22 #[.val (.ref a1), .val (.int p1)] [(.ref a1), (.ref a1), (.ref b_104)])) (fun t k => st105 _ (XS.aloadN X105.here hx rfl (hb hby d_prog_79_method_6_code_20) rfl rfl (XS.dup X105.here hx rfl (hb hby d_prog_79_method_6_code_21) rfl rfl k))) ?_
  obtain ⟨T106, X106, e106, st106⟩ := getF X105 hx hZ hown (host := "") (Or.inl tw19) Via.refl e105 q104_7 (g := (mkF m 22 #[.val (.ref a1), .val (.int p1)] [(.ref a1), (.ref a1), (.ref b_104)])) rfl rfl (hb hby d_prog_79_method_6_code_22)
  refine Goes.step (S' := T106.setTop (mkF m 28 #[.val (.ref a1), .val (.int p1)] [(.int ((0 : Int32) + (1 : Int32))), (.ref a1), (.int (0 : Int32)), (.ref b_104)])) (fun t k => st106 _ (XS.dupX1 X106.here hx rfl (hb hby d_prog_79_method_6_code_25) rfl rfl rfl (XS.iconst X106.here hx rfl (hb hby d_prog_79_method_6_code_26) (XS.iadd X106.here hx rfl (hb hby d_prog_79_method_6_code_27) rfl k)))) ?_
  rw [show ((0 : Int32) + (1 : Int32)) = (1 : Int32) from by decide]
  obtain ⟨T107, h107, X107, e107, W107, st107⟩ := putF X106 hx hZ hown (host := "") (Or.inl tw19) Via.refl e106 q104_7 q104_3 (Or.inl tw20) tw1 (ty := .int) (by decide) rfl rfl (g := (mkF m 28 #[.val (.ref a1), .val (.int p1)] [(.int (1 : Int32)), (.ref a1), (.int (0 : Int32)), (.ref b_104)])) rfl rfl (hb hby d_prog_79_method_6_code_28)
  have Fw107 : Fld Z h107 a1 "com/example/lumping/lumping/numbers/ChunkedInts" "filled" "I" (.int (1 : Int32)) := Fld.same W107 q104_7
  have N107 := Fr.snoc X107 N104 G1
  refine Goes.step (S' := T107.setTop (mkF m 32 #[.val (.ref a1), .val (.int p1)] [(.int p1), (.int (0 : Int32)), (.ref b_104)])) (fun t k => st107 _ (XS.iloadN X107.here hx rfl (hb hby d_prog_79_method_6_code_31) rfl k)) ?_
  obtain ⟨cl108, Ar108, qk108, Sz108, Nn108, Hs108, Gs108⟩ := id (q104_10.other W107 (Ne.symm (Nat.ne_of_lt (Nat.lt_of_lt_of_le E1.lt q104_2))))
  obtain ⟨T108, h108, X108, e108, W108, st108⟩ := stI X107 hx hZ e107 Ar108 (j := (0 : Int32)) (inb_of (j := (0 : Int32)) Sz108 ⟨by decide, by decide⟩) (g := (mkF m 32 #[.val (.ref a1), .val (.int p1)] [(.int p1), (.int (0 : Int32)), (.ref b_104)])) rfl rfl (hb hby d_prog_79_method_6_code_32)
  have V108 : Arv Z h108 b_104 kb_104 .int (16 : Int32) [(.int p1), (.int (0 : Int32)), (.int (0 : Int32)), (.int (0 : Int32)), (.int (0 : Int32)), (.int (0 : Int32)), (.int (0 : Int32)), (.int (0 : Int32)), (.int (0 : Int32)), (.int (0 : Int32)), (.int (0 : Int32)), (.int (0 : Int32)), (.int (0 : Int32)), (.int (0 : Int32)), (.int (0 : Int32)), (.int (0 : Int32))] (.int (0 : Int32)) := Arv.set Ar108 qk108 Sz108 Nn108 Hs108 Gs108 rfl W108 0 rfl (Nat.le_of_ble_eq_true rfl)
  have N108 := Fr.snoc X108 N107 (Nat.le_trans Z0 q104_2)
  refine Goes.step (S' := T108.setTop (mkF m 35 #[.val (.ref a1), .val (.int p1)] [(.ref a1), (.ref a1)])) (fun t k => st108 _ (XS.aloadN X108.here hx rfl (hb hby d_prog_79_method_6_code_33) rfl rfl (XS.dup X108.here hx rfl (hb hby d_prog_79_method_6_code_34) rfl rfl k))) ?_
  obtain ⟨T109, X109, e109, st109⟩ := getF X108 hx hZ hown (host := "") (Or.inl tw21) Via.refl e108 (Fld.other W108 (Fld.other W107 q104_8 (Or.inr (slot_ne (Or.inl tw22) (Or.inl tw20) (by decide) (t := .int) (t' := .int) (by decide) (by decide)))) (Or.inl (Nat.ne_of_lt (Nat.lt_of_lt_of_le E1.lt q104_2)))) (g := (mkF m 35 #[.val (.ref a1), .val (.int p1)] [(.ref a1), (.ref a1)])) rfl rfl (hb hby d_prog_79_method_6_code_35)
  refine Goes.step (S' := T109.setTop (mkF m 40 #[.val (.ref a1), .val (.int p1)] [(.int ((0 : Int32) + (1 : Int32))), (.ref a1)])) (fun t k => st109 _ (XS.iconst X109.here hx rfl (hb hby d_prog_79_method_6_code_38) (XS.iadd X109.here hx rfl (hb hby d_prog_79_method_6_code_39) rfl k))) ?_
  rw [show ((0 : Int32) + (1 : Int32)) = (1 : Int32) from by decide]
  obtain ⟨T110, h110, X110, e110, W110, st110⟩ := putF X109 hx hZ hown (host := "") (Or.inl tw21) Via.refl e109 (Fld.other W108 (Fld.other W107 q104_8 (Or.inr (slot_ne (Or.inl tw22) (Or.inl tw20) (by decide) (t := .int) (t' := .int) (by decide) (by decide)))) (Or.inl (Nat.ne_of_lt (Nat.lt_of_lt_of_le E1.lt q104_2)))) (Exa.wr W108 (Exa.wr W107 q104_3)) (Or.inl tw22) tw1 (ty := .int) (by decide) rfl rfl (g := (mkF m 40 #[.val (.ref a1), .val (.int p1)] [(.int (1 : Int32)), (.ref a1)])) rfl rfl (hb hby d_prog_79_method_6_code_40)
  have Fw110 : Fld Z h110 a1 "com/example/lumping/lumping/numbers/ChunkedInts" "size" "I" (.int (1 : Int32)) := Fld.same W110 (Fld.other W108 (Fld.other W107 q104_8 (Or.inr (slot_ne (Or.inl tw22) (Or.inl tw20) (by decide) (t := .int) (t' := .int) (by decide) (by decide)))) (Or.inl (Nat.ne_of_lt (Nat.lt_of_lt_of_le E1.lt q104_2))))
  have N110 := Fr.snoc X110 N108 G1
  refine Goes.step (S' := T110.setTop (mkF m 43 #[.val (.ref a1), .val (.int p1)] [])) (fun t k => st110 _ k) ?_
  refine Goes.leave (g := (mkF m 43 #[.val (.ref a1), .val (.int p1)] [])) X110 Bd.notSynchronized (v := none) (fun _ => rfl) (fun fs hr => X110.returnOut hx Bd.returns (hb hby d_prog_79_method_6_code_43) hr) e110 ?_ (by decide) (by decide)
  exact ⟨c_104, kc_104, b_104, kb_104, rfl, N110, (((((Keep.refl _ [a1]).trans q104_0 (allS (Or.inl (List.mem_of_getElem? (i := 0) rfl)) all0)).wr W107 (Or.inl (List.mem_of_getElem? (i := 0) rfl))).wr W108 (Or.inr q104_2)).wr W110 (Or.inl (List.mem_of_getElem? (i := 0) rfl))), q104_1, q104_2, (Exa.wr W110 (Exa.wr W108 (Exa.wr W107 q104_3))), (Fld.other W110 (Fld.other W108 (Fld.other W107 q104_4 (Or.inr (slot_ne (Or.inl tw11) (Or.inl tw20) (by decide) (t := (.array .int)) (t' := .int) (by decide) (by decide)))) (Or.inl (Nat.ne_of_lt (Nat.lt_of_lt_of_le E1.lt q104_2)))) (Or.inr (slot_ne (Or.inl tw11) (Or.inl tw22) (by decide) (t := (.array .int)) (t' := .int) (by decide) (by decide)))), (Fld.other W110 (Fld.other W108 (Fld.other W107 q104_5 (Or.inr (slot_ne (Or.inl tw31) (Or.inl tw20) (by decide) (t := (.array (.array .int))) (t' := .int) (by decide) (by decide)))) (Or.inl (Nat.ne_of_lt (Nat.lt_of_lt_of_le E1.lt q104_2)))) (Or.inr (slot_ne (Or.inl tw31) (Or.inl tw22) (by decide) (t := (.array (.array .int))) (t' := .int) (by decide) (by decide)))), (Fld.other W110 (Fld.other W108 (Fld.other W107 q104_6 (Or.inr (slot_ne (Or.inl tw13) (Or.inl tw20) (by decide) (t := (.array .int)) (t' := .int) (by decide) (by decide)))) (Or.inl (Nat.ne_of_lt (Nat.lt_of_lt_of_le E1.lt q104_2)))) (Or.inr (slot_ne (Or.inl tw13) (Or.inl tw22) (by decide) (t := (.array .int)) (t' := .int) (by decide) (by decide)))), (Fld.other W110 (Fld.other W108 Fw107 (Or.inl (Nat.ne_of_lt (Nat.lt_of_lt_of_le E1.lt q104_2)))) (Or.inr (slot_ne (Or.inl tw20) (Or.inl tw22) (by decide) (t := .int) (t' := .int) (by decide) (by decide)))), Fw110, (((q104_9.other W107 (Ne.symm (Nat.ne_of_lt (Nat.lt_of_lt_of_le E1.lt q104_1)))).other W108 (own_neVV (q104_9.other W107 (Ne.symm (Nat.ne_of_lt (Nat.lt_of_lt_of_le E1.lt q104_1)))) (q104_10.other W107 (Ne.symm (Nat.ne_of_lt (Nat.lt_of_lt_of_le E1.lt q104_2)))) (by decide))).other W110 (Ne.symm (Nat.ne_of_lt (Nat.lt_of_lt_of_le E1.lt q104_1)))), (V108.other W110 (Ne.symm (Nat.ne_of_lt (Nat.lt_of_lt_of_le E1.lt q104_2))))⟩

theorem ef_addg1 (m : MethodId) (x0 : Addr) (x1 : Int32) : entryFrame m #[(.ref x0), (.int x1)] 2 = mkF m 0 #[.val (.ref x0), .val (.int x1)] [] := by first | (simp [entryFrame, mkF, argsToLocals, Value.category]; done) | rfl
def Q_addg1 (Z : State) (a1 : Addr) (p1 : Int32) (b1 : Addr) (k1 : ClassId) (e0 : Int32) (h0 : Heap) (n0 : Nat) (v : Option Value) (h : Heap) (L : List Loc) : Prop := ∃ (c : Addr) (kc : ClassId) (b : Addr) (kb : ClassId), v = none ∧ Fr n0 L ∧ Keep h0 h [a1] ∧ h0.size ≤ c ∧ h0.size ≤ b ∧ Exa Z h a1 "com/example/lumping/lumping/numbers/ChunkedInts" ∧ Fld Z h a1 "com/example/lumping/lumping/numbers/ChunkedInts" "whole" "[I" .null ∧ Fld Z h a1 "com/example/lumping/lumping/numbers/ChunkedInts" "chunks" "[[I" (.ref c) ∧ Fld Z h a1 "com/example/lumping/lumping/numbers/ChunkedInts" "filling" "[I" (.ref b) ∧ Fld Z h a1 "com/example/lumping/lumping/numbers/ChunkedInts" "filled" "I" (.int (2 : Int32)) ∧ Fld Z h a1 "com/example/lumping/lumping/numbers/ChunkedInts" "size" "I" (.int (2 : Int32)) ∧ Arv Z h c kc (.array .int) (1 : Int32) [(.ref b)] .null ∧ Arv Z h b kb .int (16 : Int32) [(.int e0), (.int p1), (.int (0 : Int32)), (.int (0 : Int32)), (.int (0 : Int32)), (.int (0 : Int32)), (.int (0 : Int32)), (.int (0 : Int32)), (.int (0 : Int32)), (.int (0 : Int32)), (.int (0 : Int32)), (.int (0 : Int32)), (.int (0 : Int32)), (.int (0 : Int32)), (.int (0 : Int32)), (.int (0 : Int32))] (.int (0 : Int32))
set_option maxRecDepth 65536 in
set_option maxHeartbeats 40000000 in
theorem addg1 (l : Launch) (Z : State) (a0 : Array Value) (hw : ∀ d ∈ tables_1, d.before a0 Z = true) (ws : List Jvm.Cond) (a1 : Addr) (p1 : Int32) (b1 : Addr) (k1 : ClassId) (e0 : Int32) (h0 : Heap) (n0 : Nat) (Z0 : n0 ≤ h0.size) (E1 : Exa Z h0 a1 "com/example/lumping/lumping/numbers/ChunkedInts") (Fw : Fld Z h0 a1 "com/example/lumping/lumping/numbers/ChunkedInts" "whole" "[I" (.ref b1)) (Fc : Fld Z h0 a1 "com/example/lumping/lumping/numbers/ChunkedInts" "chunks" "[[I" .null) (Ff : Fld Z h0 a1 "com/example/lumping/lumping/numbers/ChunkedInts" "filling" "[I" (.ref b1)) (Fd : Fld Z h0 a1 "com/example/lumping/lumping/numbers/ChunkedInts" "filled" "I" (.int (1 : Int32))) (Fs : Fld Z h0 a1 "com/example/lumping/lumping/numbers/ChunkedInts" "size" "I" (.int (1 : Int32))) (V1 : Arv Z h0 b1 k1 .int (1 : Int32) [(.int e0)] (.int (0 : Int32))) (G1 : n0 ≤ a1) :
    MetFree l mth6 (head1 (Jvm.Cond.code mth6 prog_79_method_6_code 2 none :: ws) rom8) (fun a U => a = #[(.ref a1), (.int p1)] ∧ Z.Warmed39 U.vm ∧ U.heap = h0) (fun _ _ _ _ _ => True) (fun _ U o U' => ∃ v L, o = .returned v ∧ Q_addg1 Z a1 p1 b1 k1 e0 h0 n0 v U'.heap L ∧ FrameEnd U o U' L rom8.cells rom8.slots) := by
  refine MetFree.of_bodySF (plainFor_of_name pnm1) hisR ?_
  intro p e s m args below meth c s₁ Bd hml0 hP hK
  obtain ⟨rfl, hZ, hh⟩ := hP
  have hx := Bd.exec
  have hby := Bd.bytes
  have hml : c.maxLocals = 2 := hml0
  have hown : s.vm.findClass "com/example/lumping/lumping/numbers/ChunkedInts" = some m.cls := findClass_of_methodNamed Bd.named
  have hnm := (name_of_methodNamed Bd.named Bd.method).1
  have X0 : Stand p l e rom8 s m #[(.ref a1), (.int p1)] below meth c s₁ [] 0 0 := Stand.of_body Bd
  have eh0 : s₁.heap = h0 := by rw [← hh, Bd.state]; rfl
  have N0 := Fr.nil n0
  have tw1 := hw _ (List.mem_of_getElem? (i := 1) rfl)
  have tw2 := hw _ (List.mem_of_getElem? (i := 2) rfl)
  have tw11 := hw _ (List.mem_of_getElem? (i := 11) rfl)
  have tw12 := hw _ (List.mem_of_getElem? (i := 12) rfl)
  have tw13 := hw _ (List.mem_of_getElem? (i := 13) rfl)
  have tw19 := hw _ (List.mem_of_getElem? (i := 19) rfl)
  have tw20 := hw _ (List.mem_of_getElem? (i := 20) rfl)
  have tw21 := hw _ (List.mem_of_getElem? (i := 21) rfl)
  have tw22 := hw _ (List.mem_of_getElem? (i := 22) rfl)
  have tw23 := hw _ (List.mem_of_getElem? (i := 23) rfl)
  have tw24 := hw _ (List.mem_of_getElem? (i := 24) rfl)
  have tw25 := hw _ (List.mem_of_getElem? (i := 25) rfl)
  have tw26 := hw _ (List.mem_of_getElem? (i := 26) rfl)
  have tw31 := hw _ (List.mem_of_getElem? (i := 31) rfl)
  show Goes p e below (Pq (Q_addg1 Z a1 p1 b1 k1 e0 h0 n0) s rom8.cells rom8.slots) (s₁.setTop (entryFrame m #[(.ref a1), (.int p1)] 2))
  refine Goes.step (S' := s₁.setTop (mkF m 0 #[.val (.ref a1), .val (.int p1)] [])) (fun t k => castTop (ef_addg1 m a1 p1) k) ?_
  refine Goes.step (S' := s₁.setTop (mkF m 1 #[.val (.ref a1), .val (.int p1)] [(.ref a1)])) (fun t k => XS.aloadN X0.here hx rfl (hb hby d_prog_79_method_6_code_0) rfl rfl k) ?_
  obtain ⟨T101, X101, e101, st101⟩ := getF X0 hx hZ hown (host := "") (Or.inl tw19) Via.refl eh0 Fd (g := (mkF m 1 #[.val (.ref a1), .val (.int p1)] [(.ref a1)])) rfl rfl (hb hby d_prog_79_method_6_code_1)
  refine Goes.step (S' := T101.setTop (mkF m 5 #[.val (.ref a1), .val (.int p1)] [(.ref a1), (.int (1 : Int32))])) (fun t k => st101 _ (XS.aloadN X101.here hx rfl (hb hby d_prog_79_method_6_code_4) rfl rfl k)) ?_
  obtain ⟨T102, X102, e102, st102⟩ := getF X101 hx hZ hown (host := "") (Or.inl tw12) Via.refl e101 Ff (g := (mkF m 5 #[.val (.ref a1), .val (.int p1)] [(.ref a1), (.int (1 : Int32))])) rfl rfl (hb hby d_prog_79_method_6_code_5)
  refine Goes.step (S' := T102.setTop (mkF m 8 #[.val (.ref a1), .val (.int p1)] [(.ref b1), (.int (1 : Int32))])) (fun t k => st102 _ k) ?_
  obtain ⟨cl103, Ar103, qk103, Sz103, Nn103, Hs103, Gs103⟩ := id V1
  refine Goes.step (S' := T102.setTop (mkF m 9 #[.val (.ref a1), .val (.int p1)] [(.int (1 : Int32)), (.int (1 : Int32))])) (fun t k => X102.arraylength hx (by rw [e102]; exact Ar103.1) (State.isArrayOf_alike hZ.alike Ar103.2.1) (g := (mkF m 8 #[.val (.ref a1), .val (.int p1)] [(.ref b1), (.int (1 : Int32))])) rfl rfl (hb hby d_prog_79_method_6_code_8) _ (by rw [len_of Sz103 Nn103]; exact k)) ?_
  refine Goes.step (S' := T102.setTop (mkF m 13 #[.val (.ref a1), .val (.int p1)] [(.ref a1)])) (fun t k => XS.icmpNo X102.here hx rfl (hb hby d_prog_79_method_6_code_9) rfl (teq ((by decide) : (1 : Int32) = (1 : Int32))).2 (XS.aloadN X102.here hx rfl (hb hby d_prog_79_method_6_code_12) rfl rfl k)) ?_
  obtain ⟨cq104, q104, q104'⟩ := E1.cell
  obtain ⟨_, _, ⟨T104, L104, k104, n104⟩, -, X104, ⟨Lc104, hQ104, l104, y104, z104⟩, st104⟩ := X102.privateBack hx (y := mth5) hown (mvT hZ tw23) (mvT hZ tw24) (own_selP (mvT hZ tw24) (mvP hZ tw25) (mvT hZ tw1) (by decide)) (Cond.privateMethod_at (mvP hZ tw25 (args := #[]))) (mvT hZ tw26) (by decide) (backOf (W := 0) (grow1 l Z a0 hw [] a1 b1 k1 e0 h0 n0 Z0 E1 Fw Fc Ff Fd Fs V1 G1) hZ tw26 tw2 (by decide) (by decide)) (g := (mkF m 13 #[.val (.ref a1), .val (.int p1)] [(.ref a1)])) rfl (by rw [hml]; rfl) (Steps.refl _) (a := a1) (by rw [e102]; exact q104) q104' (argsL := []) (rest := []) (lenOf pd_V rfl) rfl (Nat.le_of_eq rfl) (hb hby d_prog_79_method_6_code_13) (fun _ _ => ⟨rfl, e102, (by decide : 0 + 2 ≤ _), (by decide : 0 + 17 ≤ _)⟩)
  dsimp only [Pt.U, Pt.locs, Pt.cells, Pt.slots] at X104 l104 y104 z104 st104 hQ104
  subst l104 y104 z104
  obtain ⟨c_104, kc_104, b_104, kb_104, rfl, Nq104, q104_0, q104_1, q104_2, q104_3, q104_4, q104_5, q104_6, q104_7, q104_8, q104_9, q104_10⟩ := hQ104
  have N104 := Fr.app N0 Nq104
  refine Goes.step (S' := T104.setTop (mkF m 17 #[.val (.ref a1), .val (.int p1)] [(.ref a1)])) (fun t k => st104.trans (XS.aloadN X104.here hx rfl (hb hby d_prog_79_method_6_code_16) rfl rfl k)) ?_
  obtain ⟨T105, X105, e105, st105⟩ := getF X104 hx hZ hown (host := "") (Or.inl tw12) Via.refl rfl q104_6 (g := (mkF m 17 #[.val (.ref a1), .val (.int p1)] [(.ref a1)])) rfl rfl (hb hby d_prog_79_method_6_code_17)
  refine Goes.step (S' := T105.setTop (mkF m 22 #[.val (.ref a1), .val (.int p1)] [(.ref a1), (.ref a1), (.ref b_104)])) (fun t k => st105 _ (XS.aloadN X105.here hx rfl (hb hby d_prog_79_method_6_code_20) rfl rfl (XS.dup X105.here hx rfl (hb hby d_prog_79_method_6_code_21) rfl rfl k))) ?_
  obtain ⟨T106, X106, e106, st106⟩ := getF X105 hx hZ hown (host := "") (Or.inl tw19) Via.refl e105 q104_7 (g := (mkF m 22 #[.val (.ref a1), .val (.int p1)] [(.ref a1), (.ref a1), (.ref b_104)])) rfl rfl (hb hby d_prog_79_method_6_code_22)
  refine Goes.step (S' := T106.setTop (mkF m 28 #[.val (.ref a1), .val (.int p1)] [(.int ((1 : Int32) + (1 : Int32))), (.ref a1), (.int (1 : Int32)), (.ref b_104)])) (fun t k => st106 _ (XS.dupX1 X106.here hx rfl (hb hby d_prog_79_method_6_code_25) rfl rfl rfl (XS.iconst X106.here hx rfl (hb hby d_prog_79_method_6_code_26) (XS.iadd X106.here hx rfl (hb hby d_prog_79_method_6_code_27) rfl k)))) ?_
  rw [show ((1 : Int32) + (1 : Int32)) = (2 : Int32) from by decide]
  obtain ⟨T107, h107, X107, e107, W107, st107⟩ := putF X106 hx hZ hown (host := "") (Or.inl tw19) Via.refl e106 q104_7 q104_3 (Or.inl tw20) tw1 (ty := .int) (by decide) rfl rfl (g := (mkF m 28 #[.val (.ref a1), .val (.int p1)] [(.int (2 : Int32)), (.ref a1), (.int (1 : Int32)), (.ref b_104)])) rfl rfl (hb hby d_prog_79_method_6_code_28)
  have Fw107 : Fld Z h107 a1 "com/example/lumping/lumping/numbers/ChunkedInts" "filled" "I" (.int (2 : Int32)) := Fld.same W107 q104_7
  have N107 := Fr.snoc X107 N104 G1
  refine Goes.step (S' := T107.setTop (mkF m 32 #[.val (.ref a1), .val (.int p1)] [(.int p1), (.int (1 : Int32)), (.ref b_104)])) (fun t k => st107 _ (XS.iloadN X107.here hx rfl (hb hby d_prog_79_method_6_code_31) rfl k)) ?_
  obtain ⟨cl108, Ar108, qk108, Sz108, Nn108, Hs108, Gs108⟩ := id (q104_10.other W107 (Ne.symm (Nat.ne_of_lt (Nat.lt_of_lt_of_le E1.lt q104_2))))
  obtain ⟨T108, h108, X108, e108, W108, st108⟩ := stI X107 hx hZ e107 Ar108 (j := (1 : Int32)) (inb_of (j := (1 : Int32)) Sz108 ⟨by decide, by decide⟩) (g := (mkF m 32 #[.val (.ref a1), .val (.int p1)] [(.int p1), (.int (1 : Int32)), (.ref b_104)])) rfl rfl (hb hby d_prog_79_method_6_code_32)
  have V108 : Arv Z h108 b_104 kb_104 .int (16 : Int32) [(.int e0), (.int p1), (.int (0 : Int32)), (.int (0 : Int32)), (.int (0 : Int32)), (.int (0 : Int32)), (.int (0 : Int32)), (.int (0 : Int32)), (.int (0 : Int32)), (.int (0 : Int32)), (.int (0 : Int32)), (.int (0 : Int32)), (.int (0 : Int32)), (.int (0 : Int32)), (.int (0 : Int32)), (.int (0 : Int32))] (.int (0 : Int32)) := Arv.set Ar108 qk108 Sz108 Nn108 Hs108 Gs108 rfl W108 1 rfl (Nat.le_of_ble_eq_true rfl)
  have N108 := Fr.snoc X108 N107 (Nat.le_trans Z0 q104_2)
  refine Goes.step (S' := T108.setTop (mkF m 35 #[.val (.ref a1), .val (.int p1)] [(.ref a1), (.ref a1)])) (fun t k => st108 _ (XS.aloadN X108.here hx rfl (hb hby d_prog_79_method_6_code_33) rfl rfl (XS.dup X108.here hx rfl (hb hby d_prog_79_method_6_code_34) rfl rfl k))) ?_
  obtain ⟨T109, X109, e109, st109⟩ := getF X108 hx hZ hown (host := "") (Or.inl tw21) Via.refl e108 (Fld.other W108 (Fld.other W107 q104_8 (Or.inr (slot_ne (Or.inl tw22) (Or.inl tw20) (by decide) (t := .int) (t' := .int) (by decide) (by decide)))) (Or.inl (Nat.ne_of_lt (Nat.lt_of_lt_of_le E1.lt q104_2)))) (g := (mkF m 35 #[.val (.ref a1), .val (.int p1)] [(.ref a1), (.ref a1)])) rfl rfl (hb hby d_prog_79_method_6_code_35)
  refine Goes.step (S' := T109.setTop (mkF m 40 #[.val (.ref a1), .val (.int p1)] [(.int ((1 : Int32) + (1 : Int32))), (.ref a1)])) (fun t k => st109 _ (XS.iconst X109.here hx rfl (hb hby d_prog_79_method_6_code_38) (XS.iadd X109.here hx rfl (hb hby d_prog_79_method_6_code_39) rfl k))) ?_
  rw [show ((1 : Int32) + (1 : Int32)) = (2 : Int32) from by decide]
  obtain ⟨T110, h110, X110, e110, W110, st110⟩ := putF X109 hx hZ hown (host := "") (Or.inl tw21) Via.refl e109 (Fld.other W108 (Fld.other W107 q104_8 (Or.inr (slot_ne (Or.inl tw22) (Or.inl tw20) (by decide) (t := .int) (t' := .int) (by decide) (by decide)))) (Or.inl (Nat.ne_of_lt (Nat.lt_of_lt_of_le E1.lt q104_2)))) (Exa.wr W108 (Exa.wr W107 q104_3)) (Or.inl tw22) tw1 (ty := .int) (by decide) rfl rfl (g := (mkF m 40 #[.val (.ref a1), .val (.int p1)] [(.int (2 : Int32)), (.ref a1)])) rfl rfl (hb hby d_prog_79_method_6_code_40)
  have Fw110 : Fld Z h110 a1 "com/example/lumping/lumping/numbers/ChunkedInts" "size" "I" (.int (2 : Int32)) := Fld.same W110 (Fld.other W108 (Fld.other W107 q104_8 (Or.inr (slot_ne (Or.inl tw22) (Or.inl tw20) (by decide) (t := .int) (t' := .int) (by decide) (by decide)))) (Or.inl (Nat.ne_of_lt (Nat.lt_of_lt_of_le E1.lt q104_2))))
  have N110 := Fr.snoc X110 N108 G1
  refine Goes.step (S' := T110.setTop (mkF m 43 #[.val (.ref a1), .val (.int p1)] [])) (fun t k => st110 _ k) ?_
  refine Goes.leave (g := (mkF m 43 #[.val (.ref a1), .val (.int p1)] [])) X110 Bd.notSynchronized (v := none) (fun _ => rfl) (fun fs hr => X110.returnOut hx Bd.returns (hb hby d_prog_79_method_6_code_43) hr) e110 ?_ (by decide) (by decide)
  exact ⟨c_104, kc_104, b_104, kb_104, rfl, N110, (((((Keep.refl _ [a1]).trans q104_0 (allS (Or.inl (List.mem_of_getElem? (i := 0) rfl)) all0)).wr W107 (Or.inl (List.mem_of_getElem? (i := 0) rfl))).wr W108 (Or.inr q104_2)).wr W110 (Or.inl (List.mem_of_getElem? (i := 0) rfl))), q104_1, q104_2, (Exa.wr W110 (Exa.wr W108 (Exa.wr W107 q104_3))), (Fld.other W110 (Fld.other W108 (Fld.other W107 q104_4 (Or.inr (slot_ne (Or.inl tw11) (Or.inl tw20) (by decide) (t := (.array .int)) (t' := .int) (by decide) (by decide)))) (Or.inl (Nat.ne_of_lt (Nat.lt_of_lt_of_le E1.lt q104_2)))) (Or.inr (slot_ne (Or.inl tw11) (Or.inl tw22) (by decide) (t := (.array .int)) (t' := .int) (by decide) (by decide)))), (Fld.other W110 (Fld.other W108 (Fld.other W107 q104_5 (Or.inr (slot_ne (Or.inl tw31) (Or.inl tw20) (by decide) (t := (.array (.array .int))) (t' := .int) (by decide) (by decide)))) (Or.inl (Nat.ne_of_lt (Nat.lt_of_lt_of_le E1.lt q104_2)))) (Or.inr (slot_ne (Or.inl tw31) (Or.inl tw22) (by decide) (t := (.array (.array .int))) (t' := .int) (by decide) (by decide)))), (Fld.other W110 (Fld.other W108 (Fld.other W107 q104_6 (Or.inr (slot_ne (Or.inl tw13) (Or.inl tw20) (by decide) (t := (.array .int)) (t' := .int) (by decide) (by decide)))) (Or.inl (Nat.ne_of_lt (Nat.lt_of_lt_of_le E1.lt q104_2)))) (Or.inr (slot_ne (Or.inl tw13) (Or.inl tw22) (by decide) (t := (.array .int)) (t' := .int) (by decide) (by decide)))), (Fld.other W110 (Fld.other W108 Fw107 (Or.inl (Nat.ne_of_lt (Nat.lt_of_lt_of_le E1.lt q104_2)))) (Or.inr (slot_ne (Or.inl tw20) (Or.inl tw22) (by decide) (t := .int) (t' := .int) (by decide) (by decide)))), Fw110, (((q104_9.other W107 (Ne.symm (Nat.ne_of_lt (Nat.lt_of_lt_of_le E1.lt q104_1)))).other W108 (own_neVV (q104_9.other W107 (Ne.symm (Nat.ne_of_lt (Nat.lt_of_lt_of_le E1.lt q104_1)))) (q104_10.other W107 (Ne.symm (Nat.ne_of_lt (Nat.lt_of_lt_of_le E1.lt q104_2)))) (by decide))).other W110 (Ne.symm (Nat.ne_of_lt (Nat.lt_of_lt_of_le E1.lt q104_1)))), (V108.other W110 (Ne.symm (Nat.ne_of_lt (Nat.lt_of_lt_of_le E1.lt q104_2))))⟩

theorem ef_addg2 (m : MethodId) (x0 : Addr) (x1 : Int32) : entryFrame m #[(.ref x0), (.int x1)] 2 = mkF m 0 #[.val (.ref x0), .val (.int x1)] [] := by first | (simp [entryFrame, mkF, argsToLocals, Value.category]; done) | rfl
def Q_addg2 (Z : State) (a1 : Addr) (p1 : Int32) (b1 : Addr) (k1 : ClassId) (e0 : Int32) (e1 : Int32) (h0 : Heap) (n0 : Nat) (v : Option Value) (h : Heap) (L : List Loc) : Prop := ∃ (c : Addr) (kc : ClassId) (b : Addr) (kb : ClassId), v = none ∧ Fr n0 L ∧ Keep h0 h [a1] ∧ h0.size ≤ c ∧ h0.size ≤ b ∧ Exa Z h a1 "com/example/lumping/lumping/numbers/ChunkedInts" ∧ Fld Z h a1 "com/example/lumping/lumping/numbers/ChunkedInts" "whole" "[I" .null ∧ Fld Z h a1 "com/example/lumping/lumping/numbers/ChunkedInts" "chunks" "[[I" (.ref c) ∧ Fld Z h a1 "com/example/lumping/lumping/numbers/ChunkedInts" "filling" "[I" (.ref b) ∧ Fld Z h a1 "com/example/lumping/lumping/numbers/ChunkedInts" "filled" "I" (.int (3 : Int32)) ∧ Fld Z h a1 "com/example/lumping/lumping/numbers/ChunkedInts" "size" "I" (.int (3 : Int32)) ∧ Arv Z h c kc (.array .int) (1 : Int32) [(.ref b)] .null ∧ Arv Z h b kb .int (16 : Int32) [(.int e0), (.int e1), (.int p1), (.int (0 : Int32)), (.int (0 : Int32)), (.int (0 : Int32)), (.int (0 : Int32)), (.int (0 : Int32)), (.int (0 : Int32)), (.int (0 : Int32)), (.int (0 : Int32)), (.int (0 : Int32)), (.int (0 : Int32)), (.int (0 : Int32)), (.int (0 : Int32)), (.int (0 : Int32))] (.int (0 : Int32))
set_option maxRecDepth 65536 in
set_option maxHeartbeats 40000000 in
theorem addg2 (l : Launch) (Z : State) (a0 : Array Value) (hw : ∀ d ∈ tables_1, d.before a0 Z = true) (ws : List Jvm.Cond) (a1 : Addr) (p1 : Int32) (b1 : Addr) (k1 : ClassId) (e0 : Int32) (e1 : Int32) (h0 : Heap) (n0 : Nat) (Z0 : n0 ≤ h0.size) (E1 : Exa Z h0 a1 "com/example/lumping/lumping/numbers/ChunkedInts") (Fw : Fld Z h0 a1 "com/example/lumping/lumping/numbers/ChunkedInts" "whole" "[I" (.ref b1)) (Fc : Fld Z h0 a1 "com/example/lumping/lumping/numbers/ChunkedInts" "chunks" "[[I" .null) (Ff : Fld Z h0 a1 "com/example/lumping/lumping/numbers/ChunkedInts" "filling" "[I" (.ref b1)) (Fd : Fld Z h0 a1 "com/example/lumping/lumping/numbers/ChunkedInts" "filled" "I" (.int (2 : Int32))) (Fs : Fld Z h0 a1 "com/example/lumping/lumping/numbers/ChunkedInts" "size" "I" (.int (2 : Int32))) (V1 : Arv Z h0 b1 k1 .int (2 : Int32) [(.int e0), (.int e1)] (.int (0 : Int32))) (G1 : n0 ≤ a1) :
    MetFree l mth6 (head1 (Jvm.Cond.code mth6 prog_79_method_6_code 2 none :: ws) rom8) (fun a U => a = #[(.ref a1), (.int p1)] ∧ Z.Warmed39 U.vm ∧ U.heap = h0) (fun _ _ _ _ _ => True) (fun _ U o U' => ∃ v L, o = .returned v ∧ Q_addg2 Z a1 p1 b1 k1 e0 e1 h0 n0 v U'.heap L ∧ FrameEnd U o U' L rom8.cells rom8.slots) := by
  refine MetFree.of_bodySF (plainFor_of_name pnm1) hisR ?_
  intro p e s m args below meth c s₁ Bd hml0 hP hK
  obtain ⟨rfl, hZ, hh⟩ := hP
  have hx := Bd.exec
  have hby := Bd.bytes
  have hml : c.maxLocals = 2 := hml0
  have hown : s.vm.findClass "com/example/lumping/lumping/numbers/ChunkedInts" = some m.cls := findClass_of_methodNamed Bd.named
  have hnm := (name_of_methodNamed Bd.named Bd.method).1
  have X0 : Stand p l e rom8 s m #[(.ref a1), (.int p1)] below meth c s₁ [] 0 0 := Stand.of_body Bd
  have eh0 : s₁.heap = h0 := by rw [← hh, Bd.state]; rfl
  have N0 := Fr.nil n0
  have tw1 := hw _ (List.mem_of_getElem? (i := 1) rfl)
  have tw2 := hw _ (List.mem_of_getElem? (i := 2) rfl)
  have tw11 := hw _ (List.mem_of_getElem? (i := 11) rfl)
  have tw12 := hw _ (List.mem_of_getElem? (i := 12) rfl)
  have tw13 := hw _ (List.mem_of_getElem? (i := 13) rfl)
  have tw19 := hw _ (List.mem_of_getElem? (i := 19) rfl)
  have tw20 := hw _ (List.mem_of_getElem? (i := 20) rfl)
  have tw21 := hw _ (List.mem_of_getElem? (i := 21) rfl)
  have tw22 := hw _ (List.mem_of_getElem? (i := 22) rfl)
  have tw23 := hw _ (List.mem_of_getElem? (i := 23) rfl)
  have tw24 := hw _ (List.mem_of_getElem? (i := 24) rfl)
  have tw25 := hw _ (List.mem_of_getElem? (i := 25) rfl)
  have tw26 := hw _ (List.mem_of_getElem? (i := 26) rfl)
  have tw31 := hw _ (List.mem_of_getElem? (i := 31) rfl)
  show Goes p e below (Pq (Q_addg2 Z a1 p1 b1 k1 e0 e1 h0 n0) s rom8.cells rom8.slots) (s₁.setTop (entryFrame m #[(.ref a1), (.int p1)] 2))
  refine Goes.step (S' := s₁.setTop (mkF m 0 #[.val (.ref a1), .val (.int p1)] [])) (fun t k => castTop (ef_addg2 m a1 p1) k) ?_
  refine Goes.step (S' := s₁.setTop (mkF m 1 #[.val (.ref a1), .val (.int p1)] [(.ref a1)])) (fun t k => XS.aloadN X0.here hx rfl (hb hby d_prog_79_method_6_code_0) rfl rfl k) ?_
  obtain ⟨T101, X101, e101, st101⟩ := getF X0 hx hZ hown (host := "") (Or.inl tw19) Via.refl eh0 Fd (g := (mkF m 1 #[.val (.ref a1), .val (.int p1)] [(.ref a1)])) rfl rfl (hb hby d_prog_79_method_6_code_1)
  refine Goes.step (S' := T101.setTop (mkF m 5 #[.val (.ref a1), .val (.int p1)] [(.ref a1), (.int (2 : Int32))])) (fun t k => st101 _ (XS.aloadN X101.here hx rfl (hb hby d_prog_79_method_6_code_4) rfl rfl k)) ?_
  obtain ⟨T102, X102, e102, st102⟩ := getF X101 hx hZ hown (host := "") (Or.inl tw12) Via.refl e101 Ff (g := (mkF m 5 #[.val (.ref a1), .val (.int p1)] [(.ref a1), (.int (2 : Int32))])) rfl rfl (hb hby d_prog_79_method_6_code_5)
  refine Goes.step (S' := T102.setTop (mkF m 8 #[.val (.ref a1), .val (.int p1)] [(.ref b1), (.int (2 : Int32))])) (fun t k => st102 _ k) ?_
  obtain ⟨cl103, Ar103, qk103, Sz103, Nn103, Hs103, Gs103⟩ := id V1
  refine Goes.step (S' := T102.setTop (mkF m 9 #[.val (.ref a1), .val (.int p1)] [(.int (2 : Int32)), (.int (2 : Int32))])) (fun t k => X102.arraylength hx (by rw [e102]; exact Ar103.1) (State.isArrayOf_alike hZ.alike Ar103.2.1) (g := (mkF m 8 #[.val (.ref a1), .val (.int p1)] [(.ref b1), (.int (2 : Int32))])) rfl rfl (hb hby d_prog_79_method_6_code_8) _ (by rw [len_of Sz103 Nn103]; exact k)) ?_
  refine Goes.step (S' := T102.setTop (mkF m 13 #[.val (.ref a1), .val (.int p1)] [(.ref a1)])) (fun t k => XS.icmpNo X102.here hx rfl (hb hby d_prog_79_method_6_code_9) rfl (teq ((by decide) : (2 : Int32) = (2 : Int32))).2 (XS.aloadN X102.here hx rfl (hb hby d_prog_79_method_6_code_12) rfl rfl k)) ?_
  obtain ⟨cq104, q104, q104'⟩ := E1.cell
  obtain ⟨_, _, ⟨T104, L104, k104, n104⟩, -, X104, ⟨Lc104, hQ104, l104, y104, z104⟩, st104⟩ := X102.privateBack hx (y := mth5) hown (mvT hZ tw23) (mvT hZ tw24) (own_selP (mvT hZ tw24) (mvP hZ tw25) (mvT hZ tw1) (by decide)) (Cond.privateMethod_at (mvP hZ tw25 (args := #[]))) (mvT hZ tw26) (by decide) (backOf (W := 0) (grow2 l Z a0 hw [] a1 b1 k1 e0 e1 h0 n0 Z0 E1 Fw Fc Ff Fd Fs V1 G1) hZ tw26 tw2 (by decide) (by decide)) (g := (mkF m 13 #[.val (.ref a1), .val (.int p1)] [(.ref a1)])) rfl (by rw [hml]; rfl) (Steps.refl _) (a := a1) (by rw [e102]; exact q104) q104' (argsL := []) (rest := []) (lenOf pd_V rfl) rfl (Nat.le_of_eq rfl) (hb hby d_prog_79_method_6_code_13) (fun _ _ => ⟨rfl, e102, (by decide : 0 + 2 ≤ _), (by decide : 0 + 17 ≤ _)⟩)
  dsimp only [Pt.U, Pt.locs, Pt.cells, Pt.slots] at X104 l104 y104 z104 st104 hQ104
  subst l104 y104 z104
  obtain ⟨c_104, kc_104, b_104, kb_104, rfl, Nq104, q104_0, q104_1, q104_2, q104_3, q104_4, q104_5, q104_6, q104_7, q104_8, q104_9, q104_10⟩ := hQ104
  have N104 := Fr.app N0 Nq104
  refine Goes.step (S' := T104.setTop (mkF m 17 #[.val (.ref a1), .val (.int p1)] [(.ref a1)])) (fun t k => st104.trans (XS.aloadN X104.here hx rfl (hb hby d_prog_79_method_6_code_16) rfl rfl k)) ?_
  obtain ⟨T105, X105, e105, st105⟩ := getF X104 hx hZ hown (host := "") (Or.inl tw12) Via.refl rfl q104_6 (g := (mkF m 17 #[.val (.ref a1), .val (.int p1)] [(.ref a1)])) rfl rfl (hb hby d_prog_79_method_6_code_17)
  refine Goes.step (S' := T105.setTop (mkF m 22 #[.val (.ref a1), .val (.int p1)] [(.ref a1), (.ref a1), (.ref b_104)])) (fun t k => st105 _ (XS.aloadN X105.here hx rfl (hb hby d_prog_79_method_6_code_20) rfl rfl (XS.dup X105.here hx rfl (hb hby d_prog_79_method_6_code_21) rfl rfl k))) ?_
  obtain ⟨T106, X106, e106, st106⟩ := getF X105 hx hZ hown (host := "") (Or.inl tw19) Via.refl e105 q104_7 (g := (mkF m 22 #[.val (.ref a1), .val (.int p1)] [(.ref a1), (.ref a1), (.ref b_104)])) rfl rfl (hb hby d_prog_79_method_6_code_22)
  refine Goes.step (S' := T106.setTop (mkF m 28 #[.val (.ref a1), .val (.int p1)] [(.int ((2 : Int32) + (1 : Int32))), (.ref a1), (.int (2 : Int32)), (.ref b_104)])) (fun t k => st106 _ (XS.dupX1 X106.here hx rfl (hb hby d_prog_79_method_6_code_25) rfl rfl rfl (XS.iconst X106.here hx rfl (hb hby d_prog_79_method_6_code_26) (XS.iadd X106.here hx rfl (hb hby d_prog_79_method_6_code_27) rfl k)))) ?_
  rw [show ((2 : Int32) + (1 : Int32)) = (3 : Int32) from by decide]
  obtain ⟨T107, h107, X107, e107, W107, st107⟩ := putF X106 hx hZ hown (host := "") (Or.inl tw19) Via.refl e106 q104_7 q104_3 (Or.inl tw20) tw1 (ty := .int) (by decide) rfl rfl (g := (mkF m 28 #[.val (.ref a1), .val (.int p1)] [(.int (3 : Int32)), (.ref a1), (.int (2 : Int32)), (.ref b_104)])) rfl rfl (hb hby d_prog_79_method_6_code_28)
  have Fw107 : Fld Z h107 a1 "com/example/lumping/lumping/numbers/ChunkedInts" "filled" "I" (.int (3 : Int32)) := Fld.same W107 q104_7
  have N107 := Fr.snoc X107 N104 G1
  refine Goes.step (S' := T107.setTop (mkF m 32 #[.val (.ref a1), .val (.int p1)] [(.int p1), (.int (2 : Int32)), (.ref b_104)])) (fun t k => st107 _ (XS.iloadN X107.here hx rfl (hb hby d_prog_79_method_6_code_31) rfl k)) ?_
  obtain ⟨cl108, Ar108, qk108, Sz108, Nn108, Hs108, Gs108⟩ := id (q104_10.other W107 (Ne.symm (Nat.ne_of_lt (Nat.lt_of_lt_of_le E1.lt q104_2))))
  obtain ⟨T108, h108, X108, e108, W108, st108⟩ := stI X107 hx hZ e107 Ar108 (j := (2 : Int32)) (inb_of (j := (2 : Int32)) Sz108 ⟨by decide, by decide⟩) (g := (mkF m 32 #[.val (.ref a1), .val (.int p1)] [(.int p1), (.int (2 : Int32)), (.ref b_104)])) rfl rfl (hb hby d_prog_79_method_6_code_32)
  have V108 : Arv Z h108 b_104 kb_104 .int (16 : Int32) [(.int e0), (.int e1), (.int p1), (.int (0 : Int32)), (.int (0 : Int32)), (.int (0 : Int32)), (.int (0 : Int32)), (.int (0 : Int32)), (.int (0 : Int32)), (.int (0 : Int32)), (.int (0 : Int32)), (.int (0 : Int32)), (.int (0 : Int32)), (.int (0 : Int32)), (.int (0 : Int32)), (.int (0 : Int32))] (.int (0 : Int32)) := Arv.set Ar108 qk108 Sz108 Nn108 Hs108 Gs108 rfl W108 2 rfl (Nat.le_of_ble_eq_true rfl)
  have N108 := Fr.snoc X108 N107 (Nat.le_trans Z0 q104_2)
  refine Goes.step (S' := T108.setTop (mkF m 35 #[.val (.ref a1), .val (.int p1)] [(.ref a1), (.ref a1)])) (fun t k => st108 _ (XS.aloadN X108.here hx rfl (hb hby d_prog_79_method_6_code_33) rfl rfl (XS.dup X108.here hx rfl (hb hby d_prog_79_method_6_code_34) rfl rfl k))) ?_
  obtain ⟨T109, X109, e109, st109⟩ := getF X108 hx hZ hown (host := "") (Or.inl tw21) Via.refl e108 (Fld.other W108 (Fld.other W107 q104_8 (Or.inr (slot_ne (Or.inl tw22) (Or.inl tw20) (by decide) (t := .int) (t' := .int) (by decide) (by decide)))) (Or.inl (Nat.ne_of_lt (Nat.lt_of_lt_of_le E1.lt q104_2)))) (g := (mkF m 35 #[.val (.ref a1), .val (.int p1)] [(.ref a1), (.ref a1)])) rfl rfl (hb hby d_prog_79_method_6_code_35)
  refine Goes.step (S' := T109.setTop (mkF m 40 #[.val (.ref a1), .val (.int p1)] [(.int ((2 : Int32) + (1 : Int32))), (.ref a1)])) (fun t k => st109 _ (XS.iconst X109.here hx rfl (hb hby d_prog_79_method_6_code_38) (XS.iadd X109.here hx rfl (hb hby d_prog_79_method_6_code_39) rfl k))) ?_
  rw [show ((2 : Int32) + (1 : Int32)) = (3 : Int32) from by decide]
  obtain ⟨T110, h110, X110, e110, W110, st110⟩ := putF X109 hx hZ hown (host := "") (Or.inl tw21) Via.refl e109 (Fld.other W108 (Fld.other W107 q104_8 (Or.inr (slot_ne (Or.inl tw22) (Or.inl tw20) (by decide) (t := .int) (t' := .int) (by decide) (by decide)))) (Or.inl (Nat.ne_of_lt (Nat.lt_of_lt_of_le E1.lt q104_2)))) (Exa.wr W108 (Exa.wr W107 q104_3)) (Or.inl tw22) tw1 (ty := .int) (by decide) rfl rfl (g := (mkF m 40 #[.val (.ref a1), .val (.int p1)] [(.int (3 : Int32)), (.ref a1)])) rfl rfl (hb hby d_prog_79_method_6_code_40)
  have Fw110 : Fld Z h110 a1 "com/example/lumping/lumping/numbers/ChunkedInts" "size" "I" (.int (3 : Int32)) := Fld.same W110 (Fld.other W108 (Fld.other W107 q104_8 (Or.inr (slot_ne (Or.inl tw22) (Or.inl tw20) (by decide) (t := .int) (t' := .int) (by decide) (by decide)))) (Or.inl (Nat.ne_of_lt (Nat.lt_of_lt_of_le E1.lt q104_2))))
  have N110 := Fr.snoc X110 N108 G1
  refine Goes.step (S' := T110.setTop (mkF m 43 #[.val (.ref a1), .val (.int p1)] [])) (fun t k => st110 _ k) ?_
  refine Goes.leave (g := (mkF m 43 #[.val (.ref a1), .val (.int p1)] [])) X110 Bd.notSynchronized (v := none) (fun _ => rfl) (fun fs hr => X110.returnOut hx Bd.returns (hb hby d_prog_79_method_6_code_43) hr) e110 ?_ (by decide) (by decide)
  exact ⟨c_104, kc_104, b_104, kb_104, rfl, N110, (((((Keep.refl _ [a1]).trans q104_0 (allS (Or.inl (List.mem_of_getElem? (i := 0) rfl)) all0)).wr W107 (Or.inl (List.mem_of_getElem? (i := 0) rfl))).wr W108 (Or.inr q104_2)).wr W110 (Or.inl (List.mem_of_getElem? (i := 0) rfl))), q104_1, q104_2, (Exa.wr W110 (Exa.wr W108 (Exa.wr W107 q104_3))), (Fld.other W110 (Fld.other W108 (Fld.other W107 q104_4 (Or.inr (slot_ne (Or.inl tw11) (Or.inl tw20) (by decide) (t := (.array .int)) (t' := .int) (by decide) (by decide)))) (Or.inl (Nat.ne_of_lt (Nat.lt_of_lt_of_le E1.lt q104_2)))) (Or.inr (slot_ne (Or.inl tw11) (Or.inl tw22) (by decide) (t := (.array .int)) (t' := .int) (by decide) (by decide)))), (Fld.other W110 (Fld.other W108 (Fld.other W107 q104_5 (Or.inr (slot_ne (Or.inl tw31) (Or.inl tw20) (by decide) (t := (.array (.array .int))) (t' := .int) (by decide) (by decide)))) (Or.inl (Nat.ne_of_lt (Nat.lt_of_lt_of_le E1.lt q104_2)))) (Or.inr (slot_ne (Or.inl tw31) (Or.inl tw22) (by decide) (t := (.array (.array .int))) (t' := .int) (by decide) (by decide)))), (Fld.other W110 (Fld.other W108 (Fld.other W107 q104_6 (Or.inr (slot_ne (Or.inl tw13) (Or.inl tw20) (by decide) (t := (.array .int)) (t' := .int) (by decide) (by decide)))) (Or.inl (Nat.ne_of_lt (Nat.lt_of_lt_of_le E1.lt q104_2)))) (Or.inr (slot_ne (Or.inl tw13) (Or.inl tw22) (by decide) (t := (.array .int)) (t' := .int) (by decide) (by decide)))), (Fld.other W110 (Fld.other W108 Fw107 (Or.inl (Nat.ne_of_lt (Nat.lt_of_lt_of_le E1.lt q104_2)))) (Or.inr (slot_ne (Or.inl tw20) (Or.inl tw22) (by decide) (t := .int) (t' := .int) (by decide) (by decide)))), Fw110, (((q104_9.other W107 (Ne.symm (Nat.ne_of_lt (Nat.lt_of_lt_of_le E1.lt q104_1)))).other W108 (own_neVV (q104_9.other W107 (Ne.symm (Nat.ne_of_lt (Nat.lt_of_lt_of_le E1.lt q104_1)))) (q104_10.other W107 (Ne.symm (Nat.ne_of_lt (Nat.lt_of_lt_of_le E1.lt q104_2)))) (by decide))).other W110 (Ne.symm (Nat.ne_of_lt (Nat.lt_of_lt_of_le E1.lt q104_1)))), (V108.other W110 (Ne.symm (Nat.ne_of_lt (Nat.lt_of_lt_of_le E1.lt q104_2))))⟩

theorem ef_add_16_0 (m : MethodId) (x0 : Addr) (x1 : Int32) : entryFrame m #[(.ref x0), (.int x1)] 2 = mkF m 0 #[.val (.ref x0), .val (.int x1)] [] := by first | (simp [entryFrame, mkF, argsToLocals, Value.category]; done) | rfl
def Q_add_16_0 (Z : State) (a1 : Addr) (p1 : Int32) (u1 : Value) (u2 : Value) (b1 : Addr) (k1 : ClassId) (h0 : Heap) (n0 : Nat) (v : Option Value) (h : Heap) (L : List Loc) : Prop := v = none ∧ Fr n0 L ∧ Keep h0 h [a1, b1] ∧ Exa Z h a1 "com/example/lumping/lumping/numbers/ChunkedInts" ∧ Fld Z h a1 "com/example/lumping/lumping/numbers/ChunkedInts" "whole" "[I" u1 ∧ Fld Z h a1 "com/example/lumping/lumping/numbers/ChunkedInts" "chunks" "[[I" u2 ∧ Fld Z h a1 "com/example/lumping/lumping/numbers/ChunkedInts" "filling" "[I" (.ref b1) ∧ Fld Z h a1 "com/example/lumping/lumping/numbers/ChunkedInts" "filled" "I" (.int (1 : Int32)) ∧ Fld Z h a1 "com/example/lumping/lumping/numbers/ChunkedInts" "size" "I" (.int (1 : Int32)) ∧ Arv Z h b1 k1 .int (16 : Int32) [(.int p1), (.int (0 : Int32)), (.int (0 : Int32)), (.int (0 : Int32)), (.int (0 : Int32)), (.int (0 : Int32)), (.int (0 : Int32)), (.int (0 : Int32)), (.int (0 : Int32)), (.int (0 : Int32)), (.int (0 : Int32)), (.int (0 : Int32)), (.int (0 : Int32)), (.int (0 : Int32)), (.int (0 : Int32)), (.int (0 : Int32))] (.int (0 : Int32))
set_option maxRecDepth 65536 in
set_option maxHeartbeats 40000000 in
theorem add_16_0 (l : Launch) (Z : State) (a0 : Array Value) (hw : ∀ d ∈ tables_1, d.before a0 Z = true) (ws : List Jvm.Cond) (a1 : Addr) (p1 : Int32) (u1 : Value) (u2 : Value) (b1 : Addr) (k1 : ClassId) (h0 : Heap) (n0 : Nat) (Z0 : n0 ≤ h0.size) (E1 : Exa Z h0 a1 "com/example/lumping/lumping/numbers/ChunkedInts") (Fw : Fld Z h0 a1 "com/example/lumping/lumping/numbers/ChunkedInts" "whole" "[I" u1) (Fc : Fld Z h0 a1 "com/example/lumping/lumping/numbers/ChunkedInts" "chunks" "[[I" u2) (Ff : Fld Z h0 a1 "com/example/lumping/lumping/numbers/ChunkedInts" "filling" "[I" (.ref b1)) (Fd : Fld Z h0 a1 "com/example/lumping/lumping/numbers/ChunkedInts" "filled" "I" (.int (0 : Int32))) (Fs : Fld Z h0 a1 "com/example/lumping/lumping/numbers/ChunkedInts" "size" "I" (.int (0 : Int32))) (V1 : Arv Z h0 b1 k1 .int (16 : Int32) [(.int (0 : Int32)), (.int (0 : Int32)), (.int (0 : Int32)), (.int (0 : Int32)), (.int (0 : Int32)), (.int (0 : Int32)), (.int (0 : Int32)), (.int (0 : Int32)), (.int (0 : Int32)), (.int (0 : Int32)), (.int (0 : Int32)), (.int (0 : Int32)), (.int (0 : Int32)), (.int (0 : Int32)), (.int (0 : Int32)), (.int (0 : Int32))] (.int (0 : Int32))) (G1 : n0 ≤ a1) (G2 : n0 ≤ b1) :
    MetFree l mth6 (head1 (Jvm.Cond.code mth6 prog_79_method_6_code 2 none :: ws) rom0) (fun a U => a = #[(.ref a1), (.int p1)] ∧ Z.Warmed39 U.vm ∧ U.heap = h0) (fun _ _ _ _ _ => True) (fun _ U o U' => ∃ v L, o = .returned v ∧ Q_add_16_0 Z a1 p1 u1 u2 b1 k1 h0 n0 v U'.heap L ∧ FrameEnd U o U' L rom0.cells rom0.slots) := by
  refine MetFree.of_bodySF (plainFor_of_name pnm1) hisR ?_
  intro p e s m args below meth c s₁ Bd hml0 hP hK
  obtain ⟨rfl, hZ, hh⟩ := hP
  have hx := Bd.exec
  have hby := Bd.bytes
  have hml : c.maxLocals = 2 := hml0
  have hown : s.vm.findClass "com/example/lumping/lumping/numbers/ChunkedInts" = some m.cls := findClass_of_methodNamed Bd.named
  have hnm := (name_of_methodNamed Bd.named Bd.method).1
  have X0 : Stand p l e rom0 s m #[(.ref a1), (.int p1)] below meth c s₁ [] 0 0 := Stand.of_body Bd
  have eh0 : s₁.heap = h0 := by rw [← hh, Bd.state]; rfl
  have N0 := Fr.nil n0
  have tw1 := hw _ (List.mem_of_getElem? (i := 1) rfl)
  have tw11 := hw _ (List.mem_of_getElem? (i := 11) rfl)
  have tw12 := hw _ (List.mem_of_getElem? (i := 12) rfl)
  have tw13 := hw _ (List.mem_of_getElem? (i := 13) rfl)
  have tw19 := hw _ (List.mem_of_getElem? (i := 19) rfl)
  have tw20 := hw _ (List.mem_of_getElem? (i := 20) rfl)
  have tw21 := hw _ (List.mem_of_getElem? (i := 21) rfl)
  have tw22 := hw _ (List.mem_of_getElem? (i := 22) rfl)
  have tw31 := hw _ (List.mem_of_getElem? (i := 31) rfl)
  show Goes p e below (Pq (Q_add_16_0 Z a1 p1 u1 u2 b1 k1 h0 n0) s rom0.cells rom0.slots) (s₁.setTop (entryFrame m #[(.ref a1), (.int p1)] 2))
  refine Goes.step (S' := s₁.setTop (mkF m 0 #[.val (.ref a1), .val (.int p1)] [])) (fun t k => castTop (ef_add_16_0 m a1 p1) k) ?_
  refine Goes.step (S' := s₁.setTop (mkF m 1 #[.val (.ref a1), .val (.int p1)] [(.ref a1)])) (fun t k => XS.aloadN X0.here hx rfl (hb hby d_prog_79_method_6_code_0) rfl rfl k) ?_
  obtain ⟨T101, X101, e101, st101⟩ := getF X0 hx hZ hown (host := "") (Or.inl tw19) Via.refl eh0 Fd (g := (mkF m 1 #[.val (.ref a1), .val (.int p1)] [(.ref a1)])) rfl rfl (hb hby d_prog_79_method_6_code_1)
  refine Goes.step (S' := T101.setTop (mkF m 5 #[.val (.ref a1), .val (.int p1)] [(.ref a1), (.int (0 : Int32))])) (fun t k => st101 _ (XS.aloadN X101.here hx rfl (hb hby d_prog_79_method_6_code_4) rfl rfl k)) ?_
  obtain ⟨T102, X102, e102, st102⟩ := getF X101 hx hZ hown (host := "") (Or.inl tw12) Via.refl e101 Ff (g := (mkF m 5 #[.val (.ref a1), .val (.int p1)] [(.ref a1), (.int (0 : Int32))])) rfl rfl (hb hby d_prog_79_method_6_code_5)
  refine Goes.step (S' := T102.setTop (mkF m 8 #[.val (.ref a1), .val (.int p1)] [(.ref b1), (.int (0 : Int32))])) (fun t k => st102 _ k) ?_
  obtain ⟨cl103, Ar103, qk103, Sz103, Nn103, Hs103, Gs103⟩ := id V1
  refine Goes.step (S' := T102.setTop (mkF m 9 #[.val (.ref a1), .val (.int p1)] [(.int (16 : Int32)), (.int (0 : Int32))])) (fun t k => X102.arraylength hx (by rw [e102]; exact Ar103.1) (State.isArrayOf_alike hZ.alike Ar103.2.1) (g := (mkF m 8 #[.val (.ref a1), .val (.int p1)] [(.ref b1), (.int (0 : Int32))])) rfl rfl (hb hby d_prog_79_method_6_code_8) _ (by rw [len_of Sz103 Nn103]; exact k)) ?_
  refine Goes.step (S' := T102.setTop (mkF m 17 #[.val (.ref a1), .val (.int p1)] [(.ref a1)])) (fun t k => XS.icmpYes X102.here hx rfl (pc0 := 9) (pc' := 16) rfl (hb hby d_prog_79_method_6_code_9) rfl (feq ((by decide) : ¬ ((0 : Int32) = (16 : Int32)))).2 (by decide) (by decide) (XS.aloadN X102.here hx rfl (hb hby d_prog_79_method_6_code_16) rfl rfl k)) ?_
  obtain ⟨T104, X104, e104, st104⟩ := getF X102 hx hZ hown (host := "") (Or.inl tw12) Via.refl e102 Ff (g := (mkF m 17 #[.val (.ref a1), .val (.int p1)] [(.ref a1)])) rfl rfl (hb hby d_prog_79_method_6_code_17)
  refine Goes.step (S' := T104.setTop (mkF m 22 #[.val (.ref a1), .val (.int p1)] [(.ref a1), (.ref a1), (.ref b1)])) (fun t k => st104 _ (XS.aloadN X104.here hx rfl (hb hby d_prog_79_method_6_code_20) rfl rfl (XS.dup X104.here hx rfl (hb hby d_prog_79_method_6_code_21) rfl rfl k))) ?_
  obtain ⟨T105, X105, e105, st105⟩ := getF X104 hx hZ hown (host := "") (Or.inl tw19) Via.refl e104 Fd (g := (mkF m 22 #[.val (.ref a1), .val (.int p1)] [(.ref a1), (.ref a1), (.ref b1)])) rfl rfl (hb hby d_prog_79_method_6_code_22)
  refine Goes.step (S' := T105.setTop (mkF m 28 #[.val (.ref a1), .val (.int p1)] [(.int ((0 : Int32) + (1 : Int32))), (.ref a1), (.int (0 : Int32)), (.ref b1)])) (fun t k => st105 _ (XS.dupX1 X105.here hx rfl (hb hby d_prog_79_method_6_code_25) rfl rfl rfl (XS.iconst X105.here hx rfl (hb hby d_prog_79_method_6_code_26) (XS.iadd X105.here hx rfl (hb hby d_prog_79_method_6_code_27) rfl k)))) ?_
  rw [show ((0 : Int32) + (1 : Int32)) = (1 : Int32) from by decide]
  obtain ⟨T106, h106, X106, e106, W106, st106⟩ := putF X105 hx hZ hown (host := "") (Or.inl tw19) Via.refl e105 Fd E1 (Or.inl tw20) tw1 (ty := .int) (by decide) rfl rfl (g := (mkF m 28 #[.val (.ref a1), .val (.int p1)] [(.int (1 : Int32)), (.ref a1), (.int (0 : Int32)), (.ref b1)])) rfl rfl (hb hby d_prog_79_method_6_code_28)
  have Fw106 : Fld Z h106 a1 "com/example/lumping/lumping/numbers/ChunkedInts" "filled" "I" (.int (1 : Int32)) := Fld.same W106 Fd
  have N106 := Fr.snoc X106 N0 G1
  refine Goes.step (S' := T106.setTop (mkF m 32 #[.val (.ref a1), .val (.int p1)] [(.int p1), (.int (0 : Int32)), (.ref b1)])) (fun t k => st106 _ (XS.iloadN X106.here hx rfl (hb hby d_prog_79_method_6_code_31) rfl k)) ?_
  obtain ⟨cl107, Ar107, qk107, Sz107, Nn107, Hs107, Gs107⟩ := id (V1.other W106 (Ne.symm (Exa.neArv E1 V1 tw1)))
  obtain ⟨T107, h107, X107, e107, W107, st107⟩ := stI X106 hx hZ e106 Ar107 (j := (0 : Int32)) (inb_of (j := (0 : Int32)) Sz107 ⟨by decide, by decide⟩) (g := (mkF m 32 #[.val (.ref a1), .val (.int p1)] [(.int p1), (.int (0 : Int32)), (.ref b1)])) rfl rfl (hb hby d_prog_79_method_6_code_32)
  have V107 : Arv Z h107 b1 k1 .int (16 : Int32) [(.int p1), (.int (0 : Int32)), (.int (0 : Int32)), (.int (0 : Int32)), (.int (0 : Int32)), (.int (0 : Int32)), (.int (0 : Int32)), (.int (0 : Int32)), (.int (0 : Int32)), (.int (0 : Int32)), (.int (0 : Int32)), (.int (0 : Int32)), (.int (0 : Int32)), (.int (0 : Int32)), (.int (0 : Int32)), (.int (0 : Int32))] (.int (0 : Int32)) := Arv.set Ar107 qk107 Sz107 Nn107 Hs107 Gs107 rfl W107 0 rfl (Nat.le_of_ble_eq_true rfl)
  have N107 := Fr.snoc X107 N106 G2
  refine Goes.step (S' := T107.setTop (mkF m 35 #[.val (.ref a1), .val (.int p1)] [(.ref a1), (.ref a1)])) (fun t k => st107 _ (XS.aloadN X107.here hx rfl (hb hby d_prog_79_method_6_code_33) rfl rfl (XS.dup X107.here hx rfl (hb hby d_prog_79_method_6_code_34) rfl rfl k))) ?_
  obtain ⟨T108, X108, e108, st108⟩ := getF X107 hx hZ hown (host := "") (Or.inl tw21) Via.refl e107 (Fld.other W107 (Fld.other W106 Fs (Or.inr (slot_ne (Or.inl tw22) (Or.inl tw20) (by decide) (t := .int) (t' := .int) (by decide) (by decide)))) (Or.inl (Exa.neArv (Exa.wr W106 E1) (V1.other W106 (Ne.symm (Exa.neArv E1 V1 tw1))) tw1))) (g := (mkF m 35 #[.val (.ref a1), .val (.int p1)] [(.ref a1), (.ref a1)])) rfl rfl (hb hby d_prog_79_method_6_code_35)
  refine Goes.step (S' := T108.setTop (mkF m 40 #[.val (.ref a1), .val (.int p1)] [(.int ((0 : Int32) + (1 : Int32))), (.ref a1)])) (fun t k => st108 _ (XS.iconst X108.here hx rfl (hb hby d_prog_79_method_6_code_38) (XS.iadd X108.here hx rfl (hb hby d_prog_79_method_6_code_39) rfl k))) ?_
  rw [show ((0 : Int32) + (1 : Int32)) = (1 : Int32) from by decide]
  obtain ⟨T109, h109, X109, e109, W109, st109⟩ := putF X108 hx hZ hown (host := "") (Or.inl tw21) Via.refl e108 (Fld.other W107 (Fld.other W106 Fs (Or.inr (slot_ne (Or.inl tw22) (Or.inl tw20) (by decide) (t := .int) (t' := .int) (by decide) (by decide)))) (Or.inl (Exa.neArv (Exa.wr W106 E1) (V1.other W106 (Ne.symm (Exa.neArv E1 V1 tw1))) tw1))) (Exa.wr W107 (Exa.wr W106 E1)) (Or.inl tw22) tw1 (ty := .int) (by decide) rfl rfl (g := (mkF m 40 #[.val (.ref a1), .val (.int p1)] [(.int (1 : Int32)), (.ref a1)])) rfl rfl (hb hby d_prog_79_method_6_code_40)
  have Fw109 : Fld Z h109 a1 "com/example/lumping/lumping/numbers/ChunkedInts" "size" "I" (.int (1 : Int32)) := Fld.same W109 (Fld.other W107 (Fld.other W106 Fs (Or.inr (slot_ne (Or.inl tw22) (Or.inl tw20) (by decide) (t := .int) (t' := .int) (by decide) (by decide)))) (Or.inl (Exa.neArv (Exa.wr W106 E1) (V1.other W106 (Ne.symm (Exa.neArv E1 V1 tw1))) tw1)))
  have N109 := Fr.snoc X109 N107 G1
  refine Goes.step (S' := T109.setTop (mkF m 43 #[.val (.ref a1), .val (.int p1)] [])) (fun t k => st109 _ k) ?_
  refine Goes.leave (g := (mkF m 43 #[.val (.ref a1), .val (.int p1)] [])) X109 Bd.notSynchronized (v := none) (fun _ => rfl) (fun fs hr => X109.returnOut hx Bd.returns (hb hby d_prog_79_method_6_code_43) hr) e109 ?_ (by decide) (by decide)
  exact ⟨rfl, N109, ((((Keep.refl _ [a1, b1]).wr W106 (Or.inl (List.mem_of_getElem? (i := 0) rfl))).wr W107 (Or.inl (List.mem_of_getElem? (i := 1) rfl))).wr W109 (Or.inl (List.mem_of_getElem? (i := 0) rfl))), (Exa.wr W109 (Exa.wr W107 (Exa.wr W106 E1))), (Fld.other W109 (Fld.other W107 (Fld.other W106 Fw (Or.inr (slot_ne (Or.inl tw11) (Or.inl tw20) (by decide) (t := (.array .int)) (t' := .int) (by decide) (by decide)))) (Or.inl (Exa.neArv (Exa.wr W106 E1) (V1.other W106 (Ne.symm (Exa.neArv E1 V1 tw1))) tw1))) (Or.inr (slot_ne (Or.inl tw11) (Or.inl tw22) (by decide) (t := (.array .int)) (t' := .int) (by decide) (by decide)))), (Fld.other W109 (Fld.other W107 (Fld.other W106 Fc (Or.inr (slot_ne (Or.inl tw31) (Or.inl tw20) (by decide) (t := (.array (.array .int))) (t' := .int) (by decide) (by decide)))) (Or.inl (Exa.neArv (Exa.wr W106 E1) (V1.other W106 (Ne.symm (Exa.neArv E1 V1 tw1))) tw1))) (Or.inr (slot_ne (Or.inl tw31) (Or.inl tw22) (by decide) (t := (.array (.array .int))) (t' := .int) (by decide) (by decide)))), (Fld.other W109 (Fld.other W107 (Fld.other W106 Ff (Or.inr (slot_ne (Or.inl tw13) (Or.inl tw20) (by decide) (t := (.array .int)) (t' := .int) (by decide) (by decide)))) (Or.inl (Exa.neArv (Exa.wr W106 E1) (V1.other W106 (Ne.symm (Exa.neArv E1 V1 tw1))) tw1))) (Or.inr (slot_ne (Or.inl tw13) (Or.inl tw22) (by decide) (t := (.array .int)) (t' := .int) (by decide) (by decide)))), (Fld.other W109 (Fld.other W107 Fw106 (Or.inl (Exa.neArv (Exa.wr W106 E1) (V1.other W106 (Ne.symm (Exa.neArv E1 V1 tw1))) tw1))) (Or.inr (slot_ne (Or.inl tw20) (Or.inl tw22) (by decide) (t := .int) (t' := .int) (by decide) (by decide)))), Fw109, (V107.other W109 (Ne.symm (Exa.neArv (Exa.wr W107 (Exa.wr W106 E1)) V107 tw1)))⟩

theorem ef_add_16_1 (m : MethodId) (x0 : Addr) (x1 : Int32) : entryFrame m #[(.ref x0), (.int x1)] 2 = mkF m 0 #[.val (.ref x0), .val (.int x1)] [] := by first | (simp [entryFrame, mkF, argsToLocals, Value.category]; done) | rfl
def Q_add_16_1 (Z : State) (a1 : Addr) (p1 : Int32) (u1 : Value) (u2 : Value) (b1 : Addr) (k1 : ClassId) (e0 : Int32) (h0 : Heap) (n0 : Nat) (v : Option Value) (h : Heap) (L : List Loc) : Prop := v = none ∧ Fr n0 L ∧ Keep h0 h [a1, b1] ∧ Exa Z h a1 "com/example/lumping/lumping/numbers/ChunkedInts" ∧ Fld Z h a1 "com/example/lumping/lumping/numbers/ChunkedInts" "whole" "[I" u1 ∧ Fld Z h a1 "com/example/lumping/lumping/numbers/ChunkedInts" "chunks" "[[I" u2 ∧ Fld Z h a1 "com/example/lumping/lumping/numbers/ChunkedInts" "filling" "[I" (.ref b1) ∧ Fld Z h a1 "com/example/lumping/lumping/numbers/ChunkedInts" "filled" "I" (.int (2 : Int32)) ∧ Fld Z h a1 "com/example/lumping/lumping/numbers/ChunkedInts" "size" "I" (.int (2 : Int32)) ∧ Arv Z h b1 k1 .int (16 : Int32) [(.int e0), (.int p1), (.int (0 : Int32)), (.int (0 : Int32)), (.int (0 : Int32)), (.int (0 : Int32)), (.int (0 : Int32)), (.int (0 : Int32)), (.int (0 : Int32)), (.int (0 : Int32)), (.int (0 : Int32)), (.int (0 : Int32)), (.int (0 : Int32)), (.int (0 : Int32)), (.int (0 : Int32)), (.int (0 : Int32))] (.int (0 : Int32))
set_option maxRecDepth 65536 in
set_option maxHeartbeats 40000000 in
theorem add_16_1 (l : Launch) (Z : State) (a0 : Array Value) (hw : ∀ d ∈ tables_1, d.before a0 Z = true) (ws : List Jvm.Cond) (a1 : Addr) (p1 : Int32) (u1 : Value) (u2 : Value) (b1 : Addr) (k1 : ClassId) (e0 : Int32) (h0 : Heap) (n0 : Nat) (Z0 : n0 ≤ h0.size) (E1 : Exa Z h0 a1 "com/example/lumping/lumping/numbers/ChunkedInts") (Fw : Fld Z h0 a1 "com/example/lumping/lumping/numbers/ChunkedInts" "whole" "[I" u1) (Fc : Fld Z h0 a1 "com/example/lumping/lumping/numbers/ChunkedInts" "chunks" "[[I" u2) (Ff : Fld Z h0 a1 "com/example/lumping/lumping/numbers/ChunkedInts" "filling" "[I" (.ref b1)) (Fd : Fld Z h0 a1 "com/example/lumping/lumping/numbers/ChunkedInts" "filled" "I" (.int (1 : Int32))) (Fs : Fld Z h0 a1 "com/example/lumping/lumping/numbers/ChunkedInts" "size" "I" (.int (1 : Int32))) (V1 : Arv Z h0 b1 k1 .int (16 : Int32) [(.int e0), (.int (0 : Int32)), (.int (0 : Int32)), (.int (0 : Int32)), (.int (0 : Int32)), (.int (0 : Int32)), (.int (0 : Int32)), (.int (0 : Int32)), (.int (0 : Int32)), (.int (0 : Int32)), (.int (0 : Int32)), (.int (0 : Int32)), (.int (0 : Int32)), (.int (0 : Int32)), (.int (0 : Int32)), (.int (0 : Int32))] (.int (0 : Int32))) (G1 : n0 ≤ a1) (G2 : n0 ≤ b1) :
    MetFree l mth6 (head1 (Jvm.Cond.code mth6 prog_79_method_6_code 2 none :: ws) rom0) (fun a U => a = #[(.ref a1), (.int p1)] ∧ Z.Warmed39 U.vm ∧ U.heap = h0) (fun _ _ _ _ _ => True) (fun _ U o U' => ∃ v L, o = .returned v ∧ Q_add_16_1 Z a1 p1 u1 u2 b1 k1 e0 h0 n0 v U'.heap L ∧ FrameEnd U o U' L rom0.cells rom0.slots) := by
  refine MetFree.of_bodySF (plainFor_of_name pnm1) hisR ?_
  intro p e s m args below meth c s₁ Bd hml0 hP hK
  obtain ⟨rfl, hZ, hh⟩ := hP
  have hx := Bd.exec
  have hby := Bd.bytes
  have hml : c.maxLocals = 2 := hml0
  have hown : s.vm.findClass "com/example/lumping/lumping/numbers/ChunkedInts" = some m.cls := findClass_of_methodNamed Bd.named
  have hnm := (name_of_methodNamed Bd.named Bd.method).1
  have X0 : Stand p l e rom0 s m #[(.ref a1), (.int p1)] below meth c s₁ [] 0 0 := Stand.of_body Bd
  have eh0 : s₁.heap = h0 := by rw [← hh, Bd.state]; rfl
  have N0 := Fr.nil n0
  have tw1 := hw _ (List.mem_of_getElem? (i := 1) rfl)
  have tw11 := hw _ (List.mem_of_getElem? (i := 11) rfl)
  have tw12 := hw _ (List.mem_of_getElem? (i := 12) rfl)
  have tw13 := hw _ (List.mem_of_getElem? (i := 13) rfl)
  have tw19 := hw _ (List.mem_of_getElem? (i := 19) rfl)
  have tw20 := hw _ (List.mem_of_getElem? (i := 20) rfl)
  have tw21 := hw _ (List.mem_of_getElem? (i := 21) rfl)
  have tw22 := hw _ (List.mem_of_getElem? (i := 22) rfl)
  have tw31 := hw _ (List.mem_of_getElem? (i := 31) rfl)
  show Goes p e below (Pq (Q_add_16_1 Z a1 p1 u1 u2 b1 k1 e0 h0 n0) s rom0.cells rom0.slots) (s₁.setTop (entryFrame m #[(.ref a1), (.int p1)] 2))
  refine Goes.step (S' := s₁.setTop (mkF m 0 #[.val (.ref a1), .val (.int p1)] [])) (fun t k => castTop (ef_add_16_1 m a1 p1) k) ?_
  refine Goes.step (S' := s₁.setTop (mkF m 1 #[.val (.ref a1), .val (.int p1)] [(.ref a1)])) (fun t k => XS.aloadN X0.here hx rfl (hb hby d_prog_79_method_6_code_0) rfl rfl k) ?_
  obtain ⟨T101, X101, e101, st101⟩ := getF X0 hx hZ hown (host := "") (Or.inl tw19) Via.refl eh0 Fd (g := (mkF m 1 #[.val (.ref a1), .val (.int p1)] [(.ref a1)])) rfl rfl (hb hby d_prog_79_method_6_code_1)
  refine Goes.step (S' := T101.setTop (mkF m 5 #[.val (.ref a1), .val (.int p1)] [(.ref a1), (.int (1 : Int32))])) (fun t k => st101 _ (XS.aloadN X101.here hx rfl (hb hby d_prog_79_method_6_code_4) rfl rfl k)) ?_
  obtain ⟨T102, X102, e102, st102⟩ := getF X101 hx hZ hown (host := "") (Or.inl tw12) Via.refl e101 Ff (g := (mkF m 5 #[.val (.ref a1), .val (.int p1)] [(.ref a1), (.int (1 : Int32))])) rfl rfl (hb hby d_prog_79_method_6_code_5)
  refine Goes.step (S' := T102.setTop (mkF m 8 #[.val (.ref a1), .val (.int p1)] [(.ref b1), (.int (1 : Int32))])) (fun t k => st102 _ k) ?_
  obtain ⟨cl103, Ar103, qk103, Sz103, Nn103, Hs103, Gs103⟩ := id V1
  refine Goes.step (S' := T102.setTop (mkF m 9 #[.val (.ref a1), .val (.int p1)] [(.int (16 : Int32)), (.int (1 : Int32))])) (fun t k => X102.arraylength hx (by rw [e102]; exact Ar103.1) (State.isArrayOf_alike hZ.alike Ar103.2.1) (g := (mkF m 8 #[.val (.ref a1), .val (.int p1)] [(.ref b1), (.int (1 : Int32))])) rfl rfl (hb hby d_prog_79_method_6_code_8) _ (by rw [len_of Sz103 Nn103]; exact k)) ?_
  refine Goes.step (S' := T102.setTop (mkF m 17 #[.val (.ref a1), .val (.int p1)] [(.ref a1)])) (fun t k => XS.icmpYes X102.here hx rfl (pc0 := 9) (pc' := 16) rfl (hb hby d_prog_79_method_6_code_9) rfl (feq ((by decide) : ¬ ((1 : Int32) = (16 : Int32)))).2 (by decide) (by decide) (XS.aloadN X102.here hx rfl (hb hby d_prog_79_method_6_code_16) rfl rfl k)) ?_
  obtain ⟨T104, X104, e104, st104⟩ := getF X102 hx hZ hown (host := "") (Or.inl tw12) Via.refl e102 Ff (g := (mkF m 17 #[.val (.ref a1), .val (.int p1)] [(.ref a1)])) rfl rfl (hb hby d_prog_79_method_6_code_17)
  refine Goes.step (S' := T104.setTop (mkF m 22 #[.val (.ref a1), .val (.int p1)] [(.ref a1), (.ref a1), (.ref b1)])) (fun t k => st104 _ (XS.aloadN X104.here hx rfl (hb hby d_prog_79_method_6_code_20) rfl rfl (XS.dup X104.here hx rfl (hb hby d_prog_79_method_6_code_21) rfl rfl k))) ?_
  obtain ⟨T105, X105, e105, st105⟩ := getF X104 hx hZ hown (host := "") (Or.inl tw19) Via.refl e104 Fd (g := (mkF m 22 #[.val (.ref a1), .val (.int p1)] [(.ref a1), (.ref a1), (.ref b1)])) rfl rfl (hb hby d_prog_79_method_6_code_22)
  refine Goes.step (S' := T105.setTop (mkF m 28 #[.val (.ref a1), .val (.int p1)] [(.int ((1 : Int32) + (1 : Int32))), (.ref a1), (.int (1 : Int32)), (.ref b1)])) (fun t k => st105 _ (XS.dupX1 X105.here hx rfl (hb hby d_prog_79_method_6_code_25) rfl rfl rfl (XS.iconst X105.here hx rfl (hb hby d_prog_79_method_6_code_26) (XS.iadd X105.here hx rfl (hb hby d_prog_79_method_6_code_27) rfl k)))) ?_
  rw [show ((1 : Int32) + (1 : Int32)) = (2 : Int32) from by decide]
  obtain ⟨T106, h106, X106, e106, W106, st106⟩ := putF X105 hx hZ hown (host := "") (Or.inl tw19) Via.refl e105 Fd E1 (Or.inl tw20) tw1 (ty := .int) (by decide) rfl rfl (g := (mkF m 28 #[.val (.ref a1), .val (.int p1)] [(.int (2 : Int32)), (.ref a1), (.int (1 : Int32)), (.ref b1)])) rfl rfl (hb hby d_prog_79_method_6_code_28)
  have Fw106 : Fld Z h106 a1 "com/example/lumping/lumping/numbers/ChunkedInts" "filled" "I" (.int (2 : Int32)) := Fld.same W106 Fd
  have N106 := Fr.snoc X106 N0 G1
  refine Goes.step (S' := T106.setTop (mkF m 32 #[.val (.ref a1), .val (.int p1)] [(.int p1), (.int (1 : Int32)), (.ref b1)])) (fun t k => st106 _ (XS.iloadN X106.here hx rfl (hb hby d_prog_79_method_6_code_31) rfl k)) ?_
  obtain ⟨cl107, Ar107, qk107, Sz107, Nn107, Hs107, Gs107⟩ := id (V1.other W106 (Ne.symm (Exa.neArv E1 V1 tw1)))
  obtain ⟨T107, h107, X107, e107, W107, st107⟩ := stI X106 hx hZ e106 Ar107 (j := (1 : Int32)) (inb_of (j := (1 : Int32)) Sz107 ⟨by decide, by decide⟩) (g := (mkF m 32 #[.val (.ref a1), .val (.int p1)] [(.int p1), (.int (1 : Int32)), (.ref b1)])) rfl rfl (hb hby d_prog_79_method_6_code_32)
  have V107 : Arv Z h107 b1 k1 .int (16 : Int32) [(.int e0), (.int p1), (.int (0 : Int32)), (.int (0 : Int32)), (.int (0 : Int32)), (.int (0 : Int32)), (.int (0 : Int32)), (.int (0 : Int32)), (.int (0 : Int32)), (.int (0 : Int32)), (.int (0 : Int32)), (.int (0 : Int32)), (.int (0 : Int32)), (.int (0 : Int32)), (.int (0 : Int32)), (.int (0 : Int32))] (.int (0 : Int32)) := Arv.set Ar107 qk107 Sz107 Nn107 Hs107 Gs107 rfl W107 1 rfl (Nat.le_of_ble_eq_true rfl)
  have N107 := Fr.snoc X107 N106 G2
  refine Goes.step (S' := T107.setTop (mkF m 35 #[.val (.ref a1), .val (.int p1)] [(.ref a1), (.ref a1)])) (fun t k => st107 _ (XS.aloadN X107.here hx rfl (hb hby d_prog_79_method_6_code_33) rfl rfl (XS.dup X107.here hx rfl (hb hby d_prog_79_method_6_code_34) rfl rfl k))) ?_
  obtain ⟨T108, X108, e108, st108⟩ := getF X107 hx hZ hown (host := "") (Or.inl tw21) Via.refl e107 (Fld.other W107 (Fld.other W106 Fs (Or.inr (slot_ne (Or.inl tw22) (Or.inl tw20) (by decide) (t := .int) (t' := .int) (by decide) (by decide)))) (Or.inl (Exa.neArv (Exa.wr W106 E1) (V1.other W106 (Ne.symm (Exa.neArv E1 V1 tw1))) tw1))) (g := (mkF m 35 #[.val (.ref a1), .val (.int p1)] [(.ref a1), (.ref a1)])) rfl rfl (hb hby d_prog_79_method_6_code_35)
  refine Goes.step (S' := T108.setTop (mkF m 40 #[.val (.ref a1), .val (.int p1)] [(.int ((1 : Int32) + (1 : Int32))), (.ref a1)])) (fun t k => st108 _ (XS.iconst X108.here hx rfl (hb hby d_prog_79_method_6_code_38) (XS.iadd X108.here hx rfl (hb hby d_prog_79_method_6_code_39) rfl k))) ?_
  rw [show ((1 : Int32) + (1 : Int32)) = (2 : Int32) from by decide]
  obtain ⟨T109, h109, X109, e109, W109, st109⟩ := putF X108 hx hZ hown (host := "") (Or.inl tw21) Via.refl e108 (Fld.other W107 (Fld.other W106 Fs (Or.inr (slot_ne (Or.inl tw22) (Or.inl tw20) (by decide) (t := .int) (t' := .int) (by decide) (by decide)))) (Or.inl (Exa.neArv (Exa.wr W106 E1) (V1.other W106 (Ne.symm (Exa.neArv E1 V1 tw1))) tw1))) (Exa.wr W107 (Exa.wr W106 E1)) (Or.inl tw22) tw1 (ty := .int) (by decide) rfl rfl (g := (mkF m 40 #[.val (.ref a1), .val (.int p1)] [(.int (2 : Int32)), (.ref a1)])) rfl rfl (hb hby d_prog_79_method_6_code_40)
  have Fw109 : Fld Z h109 a1 "com/example/lumping/lumping/numbers/ChunkedInts" "size" "I" (.int (2 : Int32)) := Fld.same W109 (Fld.other W107 (Fld.other W106 Fs (Or.inr (slot_ne (Or.inl tw22) (Or.inl tw20) (by decide) (t := .int) (t' := .int) (by decide) (by decide)))) (Or.inl (Exa.neArv (Exa.wr W106 E1) (V1.other W106 (Ne.symm (Exa.neArv E1 V1 tw1))) tw1)))
  have N109 := Fr.snoc X109 N107 G1
  refine Goes.step (S' := T109.setTop (mkF m 43 #[.val (.ref a1), .val (.int p1)] [])) (fun t k => st109 _ k) ?_
  refine Goes.leave (g := (mkF m 43 #[.val (.ref a1), .val (.int p1)] [])) X109 Bd.notSynchronized (v := none) (fun _ => rfl) (fun fs hr => X109.returnOut hx Bd.returns (hb hby d_prog_79_method_6_code_43) hr) e109 ?_ (by decide) (by decide)
  exact ⟨rfl, N109, ((((Keep.refl _ [a1, b1]).wr W106 (Or.inl (List.mem_of_getElem? (i := 0) rfl))).wr W107 (Or.inl (List.mem_of_getElem? (i := 1) rfl))).wr W109 (Or.inl (List.mem_of_getElem? (i := 0) rfl))), (Exa.wr W109 (Exa.wr W107 (Exa.wr W106 E1))), (Fld.other W109 (Fld.other W107 (Fld.other W106 Fw (Or.inr (slot_ne (Or.inl tw11) (Or.inl tw20) (by decide) (t := (.array .int)) (t' := .int) (by decide) (by decide)))) (Or.inl (Exa.neArv (Exa.wr W106 E1) (V1.other W106 (Ne.symm (Exa.neArv E1 V1 tw1))) tw1))) (Or.inr (slot_ne (Or.inl tw11) (Or.inl tw22) (by decide) (t := (.array .int)) (t' := .int) (by decide) (by decide)))), (Fld.other W109 (Fld.other W107 (Fld.other W106 Fc (Or.inr (slot_ne (Or.inl tw31) (Or.inl tw20) (by decide) (t := (.array (.array .int))) (t' := .int) (by decide) (by decide)))) (Or.inl (Exa.neArv (Exa.wr W106 E1) (V1.other W106 (Ne.symm (Exa.neArv E1 V1 tw1))) tw1))) (Or.inr (slot_ne (Or.inl tw31) (Or.inl tw22) (by decide) (t := (.array (.array .int))) (t' := .int) (by decide) (by decide)))), (Fld.other W109 (Fld.other W107 (Fld.other W106 Ff (Or.inr (slot_ne (Or.inl tw13) (Or.inl tw20) (by decide) (t := (.array .int)) (t' := .int) (by decide) (by decide)))) (Or.inl (Exa.neArv (Exa.wr W106 E1) (V1.other W106 (Ne.symm (Exa.neArv E1 V1 tw1))) tw1))) (Or.inr (slot_ne (Or.inl tw13) (Or.inl tw22) (by decide) (t := (.array .int)) (t' := .int) (by decide) (by decide)))), (Fld.other W109 (Fld.other W107 Fw106 (Or.inl (Exa.neArv (Exa.wr W106 E1) (V1.other W106 (Ne.symm (Exa.neArv E1 V1 tw1))) tw1))) (Or.inr (slot_ne (Or.inl tw20) (Or.inl tw22) (by decide) (t := .int) (t' := .int) (by decide) (by decide)))), Fw109, (V107.other W109 (Ne.symm (Exa.neArv (Exa.wr W107 (Exa.wr W106 E1)) V107 tw1)))⟩

theorem ef_add_16_2 (m : MethodId) (x0 : Addr) (x1 : Int32) : entryFrame m #[(.ref x0), (.int x1)] 2 = mkF m 0 #[.val (.ref x0), .val (.int x1)] [] := by first | (simp [entryFrame, mkF, argsToLocals, Value.category]; done) | rfl
def Q_add_16_2 (Z : State) (a1 : Addr) (p1 : Int32) (u1 : Value) (u2 : Value) (b1 : Addr) (k1 : ClassId) (e0 : Int32) (e1 : Int32) (h0 : Heap) (n0 : Nat) (v : Option Value) (h : Heap) (L : List Loc) : Prop := v = none ∧ Fr n0 L ∧ Keep h0 h [a1, b1] ∧ Exa Z h a1 "com/example/lumping/lumping/numbers/ChunkedInts" ∧ Fld Z h a1 "com/example/lumping/lumping/numbers/ChunkedInts" "whole" "[I" u1 ∧ Fld Z h a1 "com/example/lumping/lumping/numbers/ChunkedInts" "chunks" "[[I" u2 ∧ Fld Z h a1 "com/example/lumping/lumping/numbers/ChunkedInts" "filling" "[I" (.ref b1) ∧ Fld Z h a1 "com/example/lumping/lumping/numbers/ChunkedInts" "filled" "I" (.int (3 : Int32)) ∧ Fld Z h a1 "com/example/lumping/lumping/numbers/ChunkedInts" "size" "I" (.int (3 : Int32)) ∧ Arv Z h b1 k1 .int (16 : Int32) [(.int e0), (.int e1), (.int p1), (.int (0 : Int32)), (.int (0 : Int32)), (.int (0 : Int32)), (.int (0 : Int32)), (.int (0 : Int32)), (.int (0 : Int32)), (.int (0 : Int32)), (.int (0 : Int32)), (.int (0 : Int32)), (.int (0 : Int32)), (.int (0 : Int32)), (.int (0 : Int32)), (.int (0 : Int32))] (.int (0 : Int32))
set_option maxRecDepth 65536 in
set_option maxHeartbeats 40000000 in
theorem add_16_2 (l : Launch) (Z : State) (a0 : Array Value) (hw : ∀ d ∈ tables_1, d.before a0 Z = true) (ws : List Jvm.Cond) (a1 : Addr) (p1 : Int32) (u1 : Value) (u2 : Value) (b1 : Addr) (k1 : ClassId) (e0 : Int32) (e1 : Int32) (h0 : Heap) (n0 : Nat) (Z0 : n0 ≤ h0.size) (E1 : Exa Z h0 a1 "com/example/lumping/lumping/numbers/ChunkedInts") (Fw : Fld Z h0 a1 "com/example/lumping/lumping/numbers/ChunkedInts" "whole" "[I" u1) (Fc : Fld Z h0 a1 "com/example/lumping/lumping/numbers/ChunkedInts" "chunks" "[[I" u2) (Ff : Fld Z h0 a1 "com/example/lumping/lumping/numbers/ChunkedInts" "filling" "[I" (.ref b1)) (Fd : Fld Z h0 a1 "com/example/lumping/lumping/numbers/ChunkedInts" "filled" "I" (.int (2 : Int32))) (Fs : Fld Z h0 a1 "com/example/lumping/lumping/numbers/ChunkedInts" "size" "I" (.int (2 : Int32))) (V1 : Arv Z h0 b1 k1 .int (16 : Int32) [(.int e0), (.int e1), (.int (0 : Int32)), (.int (0 : Int32)), (.int (0 : Int32)), (.int (0 : Int32)), (.int (0 : Int32)), (.int (0 : Int32)), (.int (0 : Int32)), (.int (0 : Int32)), (.int (0 : Int32)), (.int (0 : Int32)), (.int (0 : Int32)), (.int (0 : Int32)), (.int (0 : Int32)), (.int (0 : Int32))] (.int (0 : Int32))) (G1 : n0 ≤ a1) (G2 : n0 ≤ b1) :
    MetFree l mth6 (head1 (Jvm.Cond.code mth6 prog_79_method_6_code 2 none :: ws) rom0) (fun a U => a = #[(.ref a1), (.int p1)] ∧ Z.Warmed39 U.vm ∧ U.heap = h0) (fun _ _ _ _ _ => True) (fun _ U o U' => ∃ v L, o = .returned v ∧ Q_add_16_2 Z a1 p1 u1 u2 b1 k1 e0 e1 h0 n0 v U'.heap L ∧ FrameEnd U o U' L rom0.cells rom0.slots) := by
  refine MetFree.of_bodySF (plainFor_of_name pnm1) hisR ?_
  intro p e s m args below meth c s₁ Bd hml0 hP hK
  obtain ⟨rfl, hZ, hh⟩ := hP
  have hx := Bd.exec
  have hby := Bd.bytes
  have hml : c.maxLocals = 2 := hml0
  have hown : s.vm.findClass "com/example/lumping/lumping/numbers/ChunkedInts" = some m.cls := findClass_of_methodNamed Bd.named
  have hnm := (name_of_methodNamed Bd.named Bd.method).1
  have X0 : Stand p l e rom0 s m #[(.ref a1), (.int p1)] below meth c s₁ [] 0 0 := Stand.of_body Bd
  have eh0 : s₁.heap = h0 := by rw [← hh, Bd.state]; rfl
  have N0 := Fr.nil n0
  have tw1 := hw _ (List.mem_of_getElem? (i := 1) rfl)
  have tw11 := hw _ (List.mem_of_getElem? (i := 11) rfl)
  have tw12 := hw _ (List.mem_of_getElem? (i := 12) rfl)
  have tw13 := hw _ (List.mem_of_getElem? (i := 13) rfl)
  have tw19 := hw _ (List.mem_of_getElem? (i := 19) rfl)
  have tw20 := hw _ (List.mem_of_getElem? (i := 20) rfl)
  have tw21 := hw _ (List.mem_of_getElem? (i := 21) rfl)
  have tw22 := hw _ (List.mem_of_getElem? (i := 22) rfl)
  have tw31 := hw _ (List.mem_of_getElem? (i := 31) rfl)
  show Goes p e below (Pq (Q_add_16_2 Z a1 p1 u1 u2 b1 k1 e0 e1 h0 n0) s rom0.cells rom0.slots) (s₁.setTop (entryFrame m #[(.ref a1), (.int p1)] 2))
  refine Goes.step (S' := s₁.setTop (mkF m 0 #[.val (.ref a1), .val (.int p1)] [])) (fun t k => castTop (ef_add_16_2 m a1 p1) k) ?_
  refine Goes.step (S' := s₁.setTop (mkF m 1 #[.val (.ref a1), .val (.int p1)] [(.ref a1)])) (fun t k => XS.aloadN X0.here hx rfl (hb hby d_prog_79_method_6_code_0) rfl rfl k) ?_
  obtain ⟨T101, X101, e101, st101⟩ := getF X0 hx hZ hown (host := "") (Or.inl tw19) Via.refl eh0 Fd (g := (mkF m 1 #[.val (.ref a1), .val (.int p1)] [(.ref a1)])) rfl rfl (hb hby d_prog_79_method_6_code_1)
  refine Goes.step (S' := T101.setTop (mkF m 5 #[.val (.ref a1), .val (.int p1)] [(.ref a1), (.int (2 : Int32))])) (fun t k => st101 _ (XS.aloadN X101.here hx rfl (hb hby d_prog_79_method_6_code_4) rfl rfl k)) ?_
  obtain ⟨T102, X102, e102, st102⟩ := getF X101 hx hZ hown (host := "") (Or.inl tw12) Via.refl e101 Ff (g := (mkF m 5 #[.val (.ref a1), .val (.int p1)] [(.ref a1), (.int (2 : Int32))])) rfl rfl (hb hby d_prog_79_method_6_code_5)
  refine Goes.step (S' := T102.setTop (mkF m 8 #[.val (.ref a1), .val (.int p1)] [(.ref b1), (.int (2 : Int32))])) (fun t k => st102 _ k) ?_
  obtain ⟨cl103, Ar103, qk103, Sz103, Nn103, Hs103, Gs103⟩ := id V1
  refine Goes.step (S' := T102.setTop (mkF m 9 #[.val (.ref a1), .val (.int p1)] [(.int (16 : Int32)), (.int (2 : Int32))])) (fun t k => X102.arraylength hx (by rw [e102]; exact Ar103.1) (State.isArrayOf_alike hZ.alike Ar103.2.1) (g := (mkF m 8 #[.val (.ref a1), .val (.int p1)] [(.ref b1), (.int (2 : Int32))])) rfl rfl (hb hby d_prog_79_method_6_code_8) _ (by rw [len_of Sz103 Nn103]; exact k)) ?_
  refine Goes.step (S' := T102.setTop (mkF m 17 #[.val (.ref a1), .val (.int p1)] [(.ref a1)])) (fun t k => XS.icmpYes X102.here hx rfl (pc0 := 9) (pc' := 16) rfl (hb hby d_prog_79_method_6_code_9) rfl (feq ((by decide) : ¬ ((2 : Int32) = (16 : Int32)))).2 (by decide) (by decide) (XS.aloadN X102.here hx rfl (hb hby d_prog_79_method_6_code_16) rfl rfl k)) ?_
  obtain ⟨T104, X104, e104, st104⟩ := getF X102 hx hZ hown (host := "") (Or.inl tw12) Via.refl e102 Ff (g := (mkF m 17 #[.val (.ref a1), .val (.int p1)] [(.ref a1)])) rfl rfl (hb hby d_prog_79_method_6_code_17)
  refine Goes.step (S' := T104.setTop (mkF m 22 #[.val (.ref a1), .val (.int p1)] [(.ref a1), (.ref a1), (.ref b1)])) (fun t k => st104 _ (XS.aloadN X104.here hx rfl (hb hby d_prog_79_method_6_code_20) rfl rfl (XS.dup X104.here hx rfl (hb hby d_prog_79_method_6_code_21) rfl rfl k))) ?_
  obtain ⟨T105, X105, e105, st105⟩ := getF X104 hx hZ hown (host := "") (Or.inl tw19) Via.refl e104 Fd (g := (mkF m 22 #[.val (.ref a1), .val (.int p1)] [(.ref a1), (.ref a1), (.ref b1)])) rfl rfl (hb hby d_prog_79_method_6_code_22)
  refine Goes.step (S' := T105.setTop (mkF m 28 #[.val (.ref a1), .val (.int p1)] [(.int ((2 : Int32) + (1 : Int32))), (.ref a1), (.int (2 : Int32)), (.ref b1)])) (fun t k => st105 _ (XS.dupX1 X105.here hx rfl (hb hby d_prog_79_method_6_code_25) rfl rfl rfl (XS.iconst X105.here hx rfl (hb hby d_prog_79_method_6_code_26) (XS.iadd X105.here hx rfl (hb hby d_prog_79_method_6_code_27) rfl k)))) ?_
  rw [show ((2 : Int32) + (1 : Int32)) = (3 : Int32) from by decide]
  obtain ⟨T106, h106, X106, e106, W106, st106⟩ := putF X105 hx hZ hown (host := "") (Or.inl tw19) Via.refl e105 Fd E1 (Or.inl tw20) tw1 (ty := .int) (by decide) rfl rfl (g := (mkF m 28 #[.val (.ref a1), .val (.int p1)] [(.int (3 : Int32)), (.ref a1), (.int (2 : Int32)), (.ref b1)])) rfl rfl (hb hby d_prog_79_method_6_code_28)
  have Fw106 : Fld Z h106 a1 "com/example/lumping/lumping/numbers/ChunkedInts" "filled" "I" (.int (3 : Int32)) := Fld.same W106 Fd
  have N106 := Fr.snoc X106 N0 G1
  refine Goes.step (S' := T106.setTop (mkF m 32 #[.val (.ref a1), .val (.int p1)] [(.int p1), (.int (2 : Int32)), (.ref b1)])) (fun t k => st106 _ (XS.iloadN X106.here hx rfl (hb hby d_prog_79_method_6_code_31) rfl k)) ?_
  obtain ⟨cl107, Ar107, qk107, Sz107, Nn107, Hs107, Gs107⟩ := id (V1.other W106 (Ne.symm (Exa.neArv E1 V1 tw1)))
  obtain ⟨T107, h107, X107, e107, W107, st107⟩ := stI X106 hx hZ e106 Ar107 (j := (2 : Int32)) (inb_of (j := (2 : Int32)) Sz107 ⟨by decide, by decide⟩) (g := (mkF m 32 #[.val (.ref a1), .val (.int p1)] [(.int p1), (.int (2 : Int32)), (.ref b1)])) rfl rfl (hb hby d_prog_79_method_6_code_32)
  have V107 : Arv Z h107 b1 k1 .int (16 : Int32) [(.int e0), (.int e1), (.int p1), (.int (0 : Int32)), (.int (0 : Int32)), (.int (0 : Int32)), (.int (0 : Int32)), (.int (0 : Int32)), (.int (0 : Int32)), (.int (0 : Int32)), (.int (0 : Int32)), (.int (0 : Int32)), (.int (0 : Int32)), (.int (0 : Int32)), (.int (0 : Int32)), (.int (0 : Int32))] (.int (0 : Int32)) := Arv.set Ar107 qk107 Sz107 Nn107 Hs107 Gs107 rfl W107 2 rfl (Nat.le_of_ble_eq_true rfl)
  have N107 := Fr.snoc X107 N106 G2
  refine Goes.step (S' := T107.setTop (mkF m 35 #[.val (.ref a1), .val (.int p1)] [(.ref a1), (.ref a1)])) (fun t k => st107 _ (XS.aloadN X107.here hx rfl (hb hby d_prog_79_method_6_code_33) rfl rfl (XS.dup X107.here hx rfl (hb hby d_prog_79_method_6_code_34) rfl rfl k))) ?_
  obtain ⟨T108, X108, e108, st108⟩ := getF X107 hx hZ hown (host := "") (Or.inl tw21) Via.refl e107 (Fld.other W107 (Fld.other W106 Fs (Or.inr (slot_ne (Or.inl tw22) (Or.inl tw20) (by decide) (t := .int) (t' := .int) (by decide) (by decide)))) (Or.inl (Exa.neArv (Exa.wr W106 E1) (V1.other W106 (Ne.symm (Exa.neArv E1 V1 tw1))) tw1))) (g := (mkF m 35 #[.val (.ref a1), .val (.int p1)] [(.ref a1), (.ref a1)])) rfl rfl (hb hby d_prog_79_method_6_code_35)
  refine Goes.step (S' := T108.setTop (mkF m 40 #[.val (.ref a1), .val (.int p1)] [(.int ((2 : Int32) + (1 : Int32))), (.ref a1)])) (fun t k => st108 _ (XS.iconst X108.here hx rfl (hb hby d_prog_79_method_6_code_38) (XS.iadd X108.here hx rfl (hb hby d_prog_79_method_6_code_39) rfl k))) ?_
  rw [show ((2 : Int32) + (1 : Int32)) = (3 : Int32) from by decide]
  obtain ⟨T109, h109, X109, e109, W109, st109⟩ := putF X108 hx hZ hown (host := "") (Or.inl tw21) Via.refl e108 (Fld.other W107 (Fld.other W106 Fs (Or.inr (slot_ne (Or.inl tw22) (Or.inl tw20) (by decide) (t := .int) (t' := .int) (by decide) (by decide)))) (Or.inl (Exa.neArv (Exa.wr W106 E1) (V1.other W106 (Ne.symm (Exa.neArv E1 V1 tw1))) tw1))) (Exa.wr W107 (Exa.wr W106 E1)) (Or.inl tw22) tw1 (ty := .int) (by decide) rfl rfl (g := (mkF m 40 #[.val (.ref a1), .val (.int p1)] [(.int (3 : Int32)), (.ref a1)])) rfl rfl (hb hby d_prog_79_method_6_code_40)
  have Fw109 : Fld Z h109 a1 "com/example/lumping/lumping/numbers/ChunkedInts" "size" "I" (.int (3 : Int32)) := Fld.same W109 (Fld.other W107 (Fld.other W106 Fs (Or.inr (slot_ne (Or.inl tw22) (Or.inl tw20) (by decide) (t := .int) (t' := .int) (by decide) (by decide)))) (Or.inl (Exa.neArv (Exa.wr W106 E1) (V1.other W106 (Ne.symm (Exa.neArv E1 V1 tw1))) tw1)))
  have N109 := Fr.snoc X109 N107 G1
  refine Goes.step (S' := T109.setTop (mkF m 43 #[.val (.ref a1), .val (.int p1)] [])) (fun t k => st109 _ k) ?_
  refine Goes.leave (g := (mkF m 43 #[.val (.ref a1), .val (.int p1)] [])) X109 Bd.notSynchronized (v := none) (fun _ => rfl) (fun fs hr => X109.returnOut hx Bd.returns (hb hby d_prog_79_method_6_code_43) hr) e109 ?_ (by decide) (by decide)
  exact ⟨rfl, N109, ((((Keep.refl _ [a1, b1]).wr W106 (Or.inl (List.mem_of_getElem? (i := 0) rfl))).wr W107 (Or.inl (List.mem_of_getElem? (i := 1) rfl))).wr W109 (Or.inl (List.mem_of_getElem? (i := 0) rfl))), (Exa.wr W109 (Exa.wr W107 (Exa.wr W106 E1))), (Fld.other W109 (Fld.other W107 (Fld.other W106 Fw (Or.inr (slot_ne (Or.inl tw11) (Or.inl tw20) (by decide) (t := (.array .int)) (t' := .int) (by decide) (by decide)))) (Or.inl (Exa.neArv (Exa.wr W106 E1) (V1.other W106 (Ne.symm (Exa.neArv E1 V1 tw1))) tw1))) (Or.inr (slot_ne (Or.inl tw11) (Or.inl tw22) (by decide) (t := (.array .int)) (t' := .int) (by decide) (by decide)))), (Fld.other W109 (Fld.other W107 (Fld.other W106 Fc (Or.inr (slot_ne (Or.inl tw31) (Or.inl tw20) (by decide) (t := (.array (.array .int))) (t' := .int) (by decide) (by decide)))) (Or.inl (Exa.neArv (Exa.wr W106 E1) (V1.other W106 (Ne.symm (Exa.neArv E1 V1 tw1))) tw1))) (Or.inr (slot_ne (Or.inl tw31) (Or.inl tw22) (by decide) (t := (.array (.array .int))) (t' := .int) (by decide) (by decide)))), (Fld.other W109 (Fld.other W107 (Fld.other W106 Ff (Or.inr (slot_ne (Or.inl tw13) (Or.inl tw20) (by decide) (t := (.array .int)) (t' := .int) (by decide) (by decide)))) (Or.inl (Exa.neArv (Exa.wr W106 E1) (V1.other W106 (Ne.symm (Exa.neArv E1 V1 tw1))) tw1))) (Or.inr (slot_ne (Or.inl tw13) (Or.inl tw22) (by decide) (t := (.array .int)) (t' := .int) (by decide) (by decide)))), (Fld.other W109 (Fld.other W107 Fw106 (Or.inl (Exa.neArv (Exa.wr W106 E1) (V1.other W106 (Ne.symm (Exa.neArv E1 V1 tw1))) tw1))) (Or.inr (slot_ne (Or.inl tw20) (Or.inl tw22) (by decide) (t := .int) (t' := .int) (by decide) (by decide)))), Fw109, (V107.other W109 (Ne.symm (Exa.neArv (Exa.wr W107 (Exa.wr W106 E1)) V107 tw1)))⟩

theorem ef_add_3_0 (m : MethodId) (x0 : Addr) (x1 : Int32) : entryFrame m #[(.ref x0), (.int x1)] 2 = mkF m 0 #[.val (.ref x0), .val (.int x1)] [] := by first | (simp [entryFrame, mkF, argsToLocals, Value.category]; done) | rfl
def Q_add_3_0 (Z : State) (a1 : Addr) (p1 : Int32) (u1 : Value) (u2 : Value) (b1 : Addr) (k1 : ClassId) (h0 : Heap) (n0 : Nat) (v : Option Value) (h : Heap) (L : List Loc) : Prop := v = none ∧ Fr n0 L ∧ Keep h0 h [a1, b1] ∧ Exa Z h a1 "com/example/lumping/lumping/numbers/ChunkedInts" ∧ Fld Z h a1 "com/example/lumping/lumping/numbers/ChunkedInts" "whole" "[I" u1 ∧ Fld Z h a1 "com/example/lumping/lumping/numbers/ChunkedInts" "chunks" "[[I" u2 ∧ Fld Z h a1 "com/example/lumping/lumping/numbers/ChunkedInts" "filling" "[I" (.ref b1) ∧ Fld Z h a1 "com/example/lumping/lumping/numbers/ChunkedInts" "filled" "I" (.int (1 : Int32)) ∧ Fld Z h a1 "com/example/lumping/lumping/numbers/ChunkedInts" "size" "I" (.int (1 : Int32)) ∧ Arv Z h b1 k1 .int (3 : Int32) [(.int p1), (.int (0 : Int32)), (.int (0 : Int32))] (.int (0 : Int32))
set_option maxRecDepth 65536 in
set_option maxHeartbeats 40000000 in
theorem add_3_0 (l : Launch) (Z : State) (a0 : Array Value) (hw : ∀ d ∈ tables_1, d.before a0 Z = true) (ws : List Jvm.Cond) (a1 : Addr) (p1 : Int32) (u1 : Value) (u2 : Value) (b1 : Addr) (k1 : ClassId) (h0 : Heap) (n0 : Nat) (Z0 : n0 ≤ h0.size) (E1 : Exa Z h0 a1 "com/example/lumping/lumping/numbers/ChunkedInts") (Fw : Fld Z h0 a1 "com/example/lumping/lumping/numbers/ChunkedInts" "whole" "[I" u1) (Fc : Fld Z h0 a1 "com/example/lumping/lumping/numbers/ChunkedInts" "chunks" "[[I" u2) (Ff : Fld Z h0 a1 "com/example/lumping/lumping/numbers/ChunkedInts" "filling" "[I" (.ref b1)) (Fd : Fld Z h0 a1 "com/example/lumping/lumping/numbers/ChunkedInts" "filled" "I" (.int (0 : Int32))) (Fs : Fld Z h0 a1 "com/example/lumping/lumping/numbers/ChunkedInts" "size" "I" (.int (0 : Int32))) (V1 : Arv Z h0 b1 k1 .int (3 : Int32) [(.int (0 : Int32)), (.int (0 : Int32)), (.int (0 : Int32))] (.int (0 : Int32))) (G1 : n0 ≤ a1) (G2 : n0 ≤ b1) :
    MetFree l mth6 (head1 (Jvm.Cond.code mth6 prog_79_method_6_code 2 none :: ws) rom0) (fun a U => a = #[(.ref a1), (.int p1)] ∧ Z.Warmed39 U.vm ∧ U.heap = h0) (fun _ _ _ _ _ => True) (fun _ U o U' => ∃ v L, o = .returned v ∧ Q_add_3_0 Z a1 p1 u1 u2 b1 k1 h0 n0 v U'.heap L ∧ FrameEnd U o U' L rom0.cells rom0.slots) := by
  refine MetFree.of_bodySF (plainFor_of_name pnm1) hisR ?_
  intro p e s m args below meth c s₁ Bd hml0 hP hK
  obtain ⟨rfl, hZ, hh⟩ := hP
  have hx := Bd.exec
  have hby := Bd.bytes
  have hml : c.maxLocals = 2 := hml0
  have hown : s.vm.findClass "com/example/lumping/lumping/numbers/ChunkedInts" = some m.cls := findClass_of_methodNamed Bd.named
  have hnm := (name_of_methodNamed Bd.named Bd.method).1
  have X0 : Stand p l e rom0 s m #[(.ref a1), (.int p1)] below meth c s₁ [] 0 0 := Stand.of_body Bd
  have eh0 : s₁.heap = h0 := by rw [← hh, Bd.state]; rfl
  have N0 := Fr.nil n0
  have tw1 := hw _ (List.mem_of_getElem? (i := 1) rfl)
  have tw11 := hw _ (List.mem_of_getElem? (i := 11) rfl)
  have tw12 := hw _ (List.mem_of_getElem? (i := 12) rfl)
  have tw13 := hw _ (List.mem_of_getElem? (i := 13) rfl)
  have tw19 := hw _ (List.mem_of_getElem? (i := 19) rfl)
  have tw20 := hw _ (List.mem_of_getElem? (i := 20) rfl)
  have tw21 := hw _ (List.mem_of_getElem? (i := 21) rfl)
  have tw22 := hw _ (List.mem_of_getElem? (i := 22) rfl)
  have tw31 := hw _ (List.mem_of_getElem? (i := 31) rfl)
  show Goes p e below (Pq (Q_add_3_0 Z a1 p1 u1 u2 b1 k1 h0 n0) s rom0.cells rom0.slots) (s₁.setTop (entryFrame m #[(.ref a1), (.int p1)] 2))
  refine Goes.step (S' := s₁.setTop (mkF m 0 #[.val (.ref a1), .val (.int p1)] [])) (fun t k => castTop (ef_add_3_0 m a1 p1) k) ?_
  refine Goes.step (S' := s₁.setTop (mkF m 1 #[.val (.ref a1), .val (.int p1)] [(.ref a1)])) (fun t k => XS.aloadN X0.here hx rfl (hb hby d_prog_79_method_6_code_0) rfl rfl k) ?_
  obtain ⟨T101, X101, e101, st101⟩ := getF X0 hx hZ hown (host := "") (Or.inl tw19) Via.refl eh0 Fd (g := (mkF m 1 #[.val (.ref a1), .val (.int p1)] [(.ref a1)])) rfl rfl (hb hby d_prog_79_method_6_code_1)
  refine Goes.step (S' := T101.setTop (mkF m 5 #[.val (.ref a1), .val (.int p1)] [(.ref a1), (.int (0 : Int32))])) (fun t k => st101 _ (XS.aloadN X101.here hx rfl (hb hby d_prog_79_method_6_code_4) rfl rfl k)) ?_
  obtain ⟨T102, X102, e102, st102⟩ := getF X101 hx hZ hown (host := "") (Or.inl tw12) Via.refl e101 Ff (g := (mkF m 5 #[.val (.ref a1), .val (.int p1)] [(.ref a1), (.int (0 : Int32))])) rfl rfl (hb hby d_prog_79_method_6_code_5)
  refine Goes.step (S' := T102.setTop (mkF m 8 #[.val (.ref a1), .val (.int p1)] [(.ref b1), (.int (0 : Int32))])) (fun t k => st102 _ k) ?_
  obtain ⟨cl103, Ar103, qk103, Sz103, Nn103, Hs103, Gs103⟩ := id V1
  refine Goes.step (S' := T102.setTop (mkF m 9 #[.val (.ref a1), .val (.int p1)] [(.int (3 : Int32)), (.int (0 : Int32))])) (fun t k => X102.arraylength hx (by rw [e102]; exact Ar103.1) (State.isArrayOf_alike hZ.alike Ar103.2.1) (g := (mkF m 8 #[.val (.ref a1), .val (.int p1)] [(.ref b1), (.int (0 : Int32))])) rfl rfl (hb hby d_prog_79_method_6_code_8) _ (by rw [len_of Sz103 Nn103]; exact k)) ?_
  refine Goes.step (S' := T102.setTop (mkF m 17 #[.val (.ref a1), .val (.int p1)] [(.ref a1)])) (fun t k => XS.icmpYes X102.here hx rfl (pc0 := 9) (pc' := 16) rfl (hb hby d_prog_79_method_6_code_9) rfl (feq ((by decide) : ¬ ((0 : Int32) = (3 : Int32)))).2 (by decide) (by decide) (XS.aloadN X102.here hx rfl (hb hby d_prog_79_method_6_code_16) rfl rfl k)) ?_
  obtain ⟨T104, X104, e104, st104⟩ := getF X102 hx hZ hown (host := "") (Or.inl tw12) Via.refl e102 Ff (g := (mkF m 17 #[.val (.ref a1), .val (.int p1)] [(.ref a1)])) rfl rfl (hb hby d_prog_79_method_6_code_17)
  refine Goes.step (S' := T104.setTop (mkF m 22 #[.val (.ref a1), .val (.int p1)] [(.ref a1), (.ref a1), (.ref b1)])) (fun t k => st104 _ (XS.aloadN X104.here hx rfl (hb hby d_prog_79_method_6_code_20) rfl rfl (XS.dup X104.here hx rfl (hb hby d_prog_79_method_6_code_21) rfl rfl k))) ?_
  obtain ⟨T105, X105, e105, st105⟩ := getF X104 hx hZ hown (host := "") (Or.inl tw19) Via.refl e104 Fd (g := (mkF m 22 #[.val (.ref a1), .val (.int p1)] [(.ref a1), (.ref a1), (.ref b1)])) rfl rfl (hb hby d_prog_79_method_6_code_22)
  refine Goes.step (S' := T105.setTop (mkF m 28 #[.val (.ref a1), .val (.int p1)] [(.int ((0 : Int32) + (1 : Int32))), (.ref a1), (.int (0 : Int32)), (.ref b1)])) (fun t k => st105 _ (XS.dupX1 X105.here hx rfl (hb hby d_prog_79_method_6_code_25) rfl rfl rfl (XS.iconst X105.here hx rfl (hb hby d_prog_79_method_6_code_26) (XS.iadd X105.here hx rfl (hb hby d_prog_79_method_6_code_27) rfl k)))) ?_
  rw [show ((0 : Int32) + (1 : Int32)) = (1 : Int32) from by decide]
  obtain ⟨T106, h106, X106, e106, W106, st106⟩ := putF X105 hx hZ hown (host := "") (Or.inl tw19) Via.refl e105 Fd E1 (Or.inl tw20) tw1 (ty := .int) (by decide) rfl rfl (g := (mkF m 28 #[.val (.ref a1), .val (.int p1)] [(.int (1 : Int32)), (.ref a1), (.int (0 : Int32)), (.ref b1)])) rfl rfl (hb hby d_prog_79_method_6_code_28)
  have Fw106 : Fld Z h106 a1 "com/example/lumping/lumping/numbers/ChunkedInts" "filled" "I" (.int (1 : Int32)) := Fld.same W106 Fd
  have N106 := Fr.snoc X106 N0 G1
  refine Goes.step (S' := T106.setTop (mkF m 32 #[.val (.ref a1), .val (.int p1)] [(.int p1), (.int (0 : Int32)), (.ref b1)])) (fun t k => st106 _ (XS.iloadN X106.here hx rfl (hb hby d_prog_79_method_6_code_31) rfl k)) ?_
  obtain ⟨cl107, Ar107, qk107, Sz107, Nn107, Hs107, Gs107⟩ := id (V1.other W106 (Ne.symm (Exa.neArv E1 V1 tw1)))
  obtain ⟨T107, h107, X107, e107, W107, st107⟩ := stI X106 hx hZ e106 Ar107 (j := (0 : Int32)) (inb_of (j := (0 : Int32)) Sz107 ⟨by decide, by decide⟩) (g := (mkF m 32 #[.val (.ref a1), .val (.int p1)] [(.int p1), (.int (0 : Int32)), (.ref b1)])) rfl rfl (hb hby d_prog_79_method_6_code_32)
  have V107 : Arv Z h107 b1 k1 .int (3 : Int32) [(.int p1), (.int (0 : Int32)), (.int (0 : Int32))] (.int (0 : Int32)) := Arv.set Ar107 qk107 Sz107 Nn107 Hs107 Gs107 rfl W107 0 rfl (Nat.le_of_ble_eq_true rfl)
  have N107 := Fr.snoc X107 N106 G2
  refine Goes.step (S' := T107.setTop (mkF m 35 #[.val (.ref a1), .val (.int p1)] [(.ref a1), (.ref a1)])) (fun t k => st107 _ (XS.aloadN X107.here hx rfl (hb hby d_prog_79_method_6_code_33) rfl rfl (XS.dup X107.here hx rfl (hb hby d_prog_79_method_6_code_34) rfl rfl k))) ?_
  obtain ⟨T108, X108, e108, st108⟩ := getF X107 hx hZ hown (host := "") (Or.inl tw21) Via.refl e107 (Fld.other W107 (Fld.other W106 Fs (Or.inr (slot_ne (Or.inl tw22) (Or.inl tw20) (by decide) (t := .int) (t' := .int) (by decide) (by decide)))) (Or.inl (Exa.neArv (Exa.wr W106 E1) (V1.other W106 (Ne.symm (Exa.neArv E1 V1 tw1))) tw1))) (g := (mkF m 35 #[.val (.ref a1), .val (.int p1)] [(.ref a1), (.ref a1)])) rfl rfl (hb hby d_prog_79_method_6_code_35)
  refine Goes.step (S' := T108.setTop (mkF m 40 #[.val (.ref a1), .val (.int p1)] [(.int ((0 : Int32) + (1 : Int32))), (.ref a1)])) (fun t k => st108 _ (XS.iconst X108.here hx rfl (hb hby d_prog_79_method_6_code_38) (XS.iadd X108.here hx rfl (hb hby d_prog_79_method_6_code_39) rfl k))) ?_
  rw [show ((0 : Int32) + (1 : Int32)) = (1 : Int32) from by decide]
  obtain ⟨T109, h109, X109, e109, W109, st109⟩ := putF X108 hx hZ hown (host := "") (Or.inl tw21) Via.refl e108 (Fld.other W107 (Fld.other W106 Fs (Or.inr (slot_ne (Or.inl tw22) (Or.inl tw20) (by decide) (t := .int) (t' := .int) (by decide) (by decide)))) (Or.inl (Exa.neArv (Exa.wr W106 E1) (V1.other W106 (Ne.symm (Exa.neArv E1 V1 tw1))) tw1))) (Exa.wr W107 (Exa.wr W106 E1)) (Or.inl tw22) tw1 (ty := .int) (by decide) rfl rfl (g := (mkF m 40 #[.val (.ref a1), .val (.int p1)] [(.int (1 : Int32)), (.ref a1)])) rfl rfl (hb hby d_prog_79_method_6_code_40)
  have Fw109 : Fld Z h109 a1 "com/example/lumping/lumping/numbers/ChunkedInts" "size" "I" (.int (1 : Int32)) := Fld.same W109 (Fld.other W107 (Fld.other W106 Fs (Or.inr (slot_ne (Or.inl tw22) (Or.inl tw20) (by decide) (t := .int) (t' := .int) (by decide) (by decide)))) (Or.inl (Exa.neArv (Exa.wr W106 E1) (V1.other W106 (Ne.symm (Exa.neArv E1 V1 tw1))) tw1)))
  have N109 := Fr.snoc X109 N107 G1
  refine Goes.step (S' := T109.setTop (mkF m 43 #[.val (.ref a1), .val (.int p1)] [])) (fun t k => st109 _ k) ?_
  refine Goes.leave (g := (mkF m 43 #[.val (.ref a1), .val (.int p1)] [])) X109 Bd.notSynchronized (v := none) (fun _ => rfl) (fun fs hr => X109.returnOut hx Bd.returns (hb hby d_prog_79_method_6_code_43) hr) e109 ?_ (by decide) (by decide)
  exact ⟨rfl, N109, ((((Keep.refl _ [a1, b1]).wr W106 (Or.inl (List.mem_of_getElem? (i := 0) rfl))).wr W107 (Or.inl (List.mem_of_getElem? (i := 1) rfl))).wr W109 (Or.inl (List.mem_of_getElem? (i := 0) rfl))), (Exa.wr W109 (Exa.wr W107 (Exa.wr W106 E1))), (Fld.other W109 (Fld.other W107 (Fld.other W106 Fw (Or.inr (slot_ne (Or.inl tw11) (Or.inl tw20) (by decide) (t := (.array .int)) (t' := .int) (by decide) (by decide)))) (Or.inl (Exa.neArv (Exa.wr W106 E1) (V1.other W106 (Ne.symm (Exa.neArv E1 V1 tw1))) tw1))) (Or.inr (slot_ne (Or.inl tw11) (Or.inl tw22) (by decide) (t := (.array .int)) (t' := .int) (by decide) (by decide)))), (Fld.other W109 (Fld.other W107 (Fld.other W106 Fc (Or.inr (slot_ne (Or.inl tw31) (Or.inl tw20) (by decide) (t := (.array (.array .int))) (t' := .int) (by decide) (by decide)))) (Or.inl (Exa.neArv (Exa.wr W106 E1) (V1.other W106 (Ne.symm (Exa.neArv E1 V1 tw1))) tw1))) (Or.inr (slot_ne (Or.inl tw31) (Or.inl tw22) (by decide) (t := (.array (.array .int))) (t' := .int) (by decide) (by decide)))), (Fld.other W109 (Fld.other W107 (Fld.other W106 Ff (Or.inr (slot_ne (Or.inl tw13) (Or.inl tw20) (by decide) (t := (.array .int)) (t' := .int) (by decide) (by decide)))) (Or.inl (Exa.neArv (Exa.wr W106 E1) (V1.other W106 (Ne.symm (Exa.neArv E1 V1 tw1))) tw1))) (Or.inr (slot_ne (Or.inl tw13) (Or.inl tw22) (by decide) (t := (.array .int)) (t' := .int) (by decide) (by decide)))), (Fld.other W109 (Fld.other W107 Fw106 (Or.inl (Exa.neArv (Exa.wr W106 E1) (V1.other W106 (Ne.symm (Exa.neArv E1 V1 tw1))) tw1))) (Or.inr (slot_ne (Or.inl tw20) (Or.inl tw22) (by decide) (t := .int) (t' := .int) (by decide) (by decide)))), Fw109, (V107.other W109 (Ne.symm (Exa.neArv (Exa.wr W107 (Exa.wr W106 E1)) V107 tw1)))⟩

theorem ef_add_3_1 (m : MethodId) (x0 : Addr) (x1 : Int32) : entryFrame m #[(.ref x0), (.int x1)] 2 = mkF m 0 #[.val (.ref x0), .val (.int x1)] [] := by first | (simp [entryFrame, mkF, argsToLocals, Value.category]; done) | rfl
def Q_add_3_1 (Z : State) (a1 : Addr) (p1 : Int32) (u1 : Value) (u2 : Value) (b1 : Addr) (k1 : ClassId) (e0 : Int32) (h0 : Heap) (n0 : Nat) (v : Option Value) (h : Heap) (L : List Loc) : Prop := v = none ∧ Fr n0 L ∧ Keep h0 h [a1, b1] ∧ Exa Z h a1 "com/example/lumping/lumping/numbers/ChunkedInts" ∧ Fld Z h a1 "com/example/lumping/lumping/numbers/ChunkedInts" "whole" "[I" u1 ∧ Fld Z h a1 "com/example/lumping/lumping/numbers/ChunkedInts" "chunks" "[[I" u2 ∧ Fld Z h a1 "com/example/lumping/lumping/numbers/ChunkedInts" "filling" "[I" (.ref b1) ∧ Fld Z h a1 "com/example/lumping/lumping/numbers/ChunkedInts" "filled" "I" (.int (2 : Int32)) ∧ Fld Z h a1 "com/example/lumping/lumping/numbers/ChunkedInts" "size" "I" (.int (2 : Int32)) ∧ Arv Z h b1 k1 .int (3 : Int32) [(.int e0), (.int p1), (.int (0 : Int32))] (.int (0 : Int32))
set_option maxRecDepth 65536 in
set_option maxHeartbeats 40000000 in
theorem add_3_1 (l : Launch) (Z : State) (a0 : Array Value) (hw : ∀ d ∈ tables_1, d.before a0 Z = true) (ws : List Jvm.Cond) (a1 : Addr) (p1 : Int32) (u1 : Value) (u2 : Value) (b1 : Addr) (k1 : ClassId) (e0 : Int32) (h0 : Heap) (n0 : Nat) (Z0 : n0 ≤ h0.size) (E1 : Exa Z h0 a1 "com/example/lumping/lumping/numbers/ChunkedInts") (Fw : Fld Z h0 a1 "com/example/lumping/lumping/numbers/ChunkedInts" "whole" "[I" u1) (Fc : Fld Z h0 a1 "com/example/lumping/lumping/numbers/ChunkedInts" "chunks" "[[I" u2) (Ff : Fld Z h0 a1 "com/example/lumping/lumping/numbers/ChunkedInts" "filling" "[I" (.ref b1)) (Fd : Fld Z h0 a1 "com/example/lumping/lumping/numbers/ChunkedInts" "filled" "I" (.int (1 : Int32))) (Fs : Fld Z h0 a1 "com/example/lumping/lumping/numbers/ChunkedInts" "size" "I" (.int (1 : Int32))) (V1 : Arv Z h0 b1 k1 .int (3 : Int32) [(.int e0), (.int (0 : Int32)), (.int (0 : Int32))] (.int (0 : Int32))) (G1 : n0 ≤ a1) (G2 : n0 ≤ b1) :
    MetFree l mth6 (head1 (Jvm.Cond.code mth6 prog_79_method_6_code 2 none :: ws) rom0) (fun a U => a = #[(.ref a1), (.int p1)] ∧ Z.Warmed39 U.vm ∧ U.heap = h0) (fun _ _ _ _ _ => True) (fun _ U o U' => ∃ v L, o = .returned v ∧ Q_add_3_1 Z a1 p1 u1 u2 b1 k1 e0 h0 n0 v U'.heap L ∧ FrameEnd U o U' L rom0.cells rom0.slots) := by
  refine MetFree.of_bodySF (plainFor_of_name pnm1) hisR ?_
  intro p e s m args below meth c s₁ Bd hml0 hP hK
  obtain ⟨rfl, hZ, hh⟩ := hP
  have hx := Bd.exec
  have hby := Bd.bytes
  have hml : c.maxLocals = 2 := hml0
  have hown : s.vm.findClass "com/example/lumping/lumping/numbers/ChunkedInts" = some m.cls := findClass_of_methodNamed Bd.named
  have hnm := (name_of_methodNamed Bd.named Bd.method).1
  have X0 : Stand p l e rom0 s m #[(.ref a1), (.int p1)] below meth c s₁ [] 0 0 := Stand.of_body Bd
  have eh0 : s₁.heap = h0 := by rw [← hh, Bd.state]; rfl
  have N0 := Fr.nil n0
  have tw1 := hw _ (List.mem_of_getElem? (i := 1) rfl)
  have tw11 := hw _ (List.mem_of_getElem? (i := 11) rfl)
  have tw12 := hw _ (List.mem_of_getElem? (i := 12) rfl)
  have tw13 := hw _ (List.mem_of_getElem? (i := 13) rfl)
  have tw19 := hw _ (List.mem_of_getElem? (i := 19) rfl)
  have tw20 := hw _ (List.mem_of_getElem? (i := 20) rfl)
  have tw21 := hw _ (List.mem_of_getElem? (i := 21) rfl)
  have tw22 := hw _ (List.mem_of_getElem? (i := 22) rfl)
  have tw31 := hw _ (List.mem_of_getElem? (i := 31) rfl)
  show Goes p e below (Pq (Q_add_3_1 Z a1 p1 u1 u2 b1 k1 e0 h0 n0) s rom0.cells rom0.slots) (s₁.setTop (entryFrame m #[(.ref a1), (.int p1)] 2))
  refine Goes.step (S' := s₁.setTop (mkF m 0 #[.val (.ref a1), .val (.int p1)] [])) (fun t k => castTop (ef_add_3_1 m a1 p1) k) ?_
  refine Goes.step (S' := s₁.setTop (mkF m 1 #[.val (.ref a1), .val (.int p1)] [(.ref a1)])) (fun t k => XS.aloadN X0.here hx rfl (hb hby d_prog_79_method_6_code_0) rfl rfl k) ?_
  obtain ⟨T101, X101, e101, st101⟩ := getF X0 hx hZ hown (host := "") (Or.inl tw19) Via.refl eh0 Fd (g := (mkF m 1 #[.val (.ref a1), .val (.int p1)] [(.ref a1)])) rfl rfl (hb hby d_prog_79_method_6_code_1)
  refine Goes.step (S' := T101.setTop (mkF m 5 #[.val (.ref a1), .val (.int p1)] [(.ref a1), (.int (1 : Int32))])) (fun t k => st101 _ (XS.aloadN X101.here hx rfl (hb hby d_prog_79_method_6_code_4) rfl rfl k)) ?_
  obtain ⟨T102, X102, e102, st102⟩ := getF X101 hx hZ hown (host := "") (Or.inl tw12) Via.refl e101 Ff (g := (mkF m 5 #[.val (.ref a1), .val (.int p1)] [(.ref a1), (.int (1 : Int32))])) rfl rfl (hb hby d_prog_79_method_6_code_5)
  refine Goes.step (S' := T102.setTop (mkF m 8 #[.val (.ref a1), .val (.int p1)] [(.ref b1), (.int (1 : Int32))])) (fun t k => st102 _ k) ?_
  obtain ⟨cl103, Ar103, qk103, Sz103, Nn103, Hs103, Gs103⟩ := id V1
  refine Goes.step (S' := T102.setTop (mkF m 9 #[.val (.ref a1), .val (.int p1)] [(.int (3 : Int32)), (.int (1 : Int32))])) (fun t k => X102.arraylength hx (by rw [e102]; exact Ar103.1) (State.isArrayOf_alike hZ.alike Ar103.2.1) (g := (mkF m 8 #[.val (.ref a1), .val (.int p1)] [(.ref b1), (.int (1 : Int32))])) rfl rfl (hb hby d_prog_79_method_6_code_8) _ (by rw [len_of Sz103 Nn103]; exact k)) ?_
  refine Goes.step (S' := T102.setTop (mkF m 17 #[.val (.ref a1), .val (.int p1)] [(.ref a1)])) (fun t k => XS.icmpYes X102.here hx rfl (pc0 := 9) (pc' := 16) rfl (hb hby d_prog_79_method_6_code_9) rfl (feq ((by decide) : ¬ ((1 : Int32) = (3 : Int32)))).2 (by decide) (by decide) (XS.aloadN X102.here hx rfl (hb hby d_prog_79_method_6_code_16) rfl rfl k)) ?_
  obtain ⟨T104, X104, e104, st104⟩ := getF X102 hx hZ hown (host := "") (Or.inl tw12) Via.refl e102 Ff (g := (mkF m 17 #[.val (.ref a1), .val (.int p1)] [(.ref a1)])) rfl rfl (hb hby d_prog_79_method_6_code_17)
  refine Goes.step (S' := T104.setTop (mkF m 22 #[.val (.ref a1), .val (.int p1)] [(.ref a1), (.ref a1), (.ref b1)])) (fun t k => st104 _ (XS.aloadN X104.here hx rfl (hb hby d_prog_79_method_6_code_20) rfl rfl (XS.dup X104.here hx rfl (hb hby d_prog_79_method_6_code_21) rfl rfl k))) ?_
  obtain ⟨T105, X105, e105, st105⟩ := getF X104 hx hZ hown (host := "") (Or.inl tw19) Via.refl e104 Fd (g := (mkF m 22 #[.val (.ref a1), .val (.int p1)] [(.ref a1), (.ref a1), (.ref b1)])) rfl rfl (hb hby d_prog_79_method_6_code_22)
  refine Goes.step (S' := T105.setTop (mkF m 28 #[.val (.ref a1), .val (.int p1)] [(.int ((1 : Int32) + (1 : Int32))), (.ref a1), (.int (1 : Int32)), (.ref b1)])) (fun t k => st105 _ (XS.dupX1 X105.here hx rfl (hb hby d_prog_79_method_6_code_25) rfl rfl rfl (XS.iconst X105.here hx rfl (hb hby d_prog_79_method_6_code_26) (XS.iadd X105.here hx rfl (hb hby d_prog_79_method_6_code_27) rfl k)))) ?_
  rw [show ((1 : Int32) + (1 : Int32)) = (2 : Int32) from by decide]
  obtain ⟨T106, h106, X106, e106, W106, st106⟩ := putF X105 hx hZ hown (host := "") (Or.inl tw19) Via.refl e105 Fd E1 (Or.inl tw20) tw1 (ty := .int) (by decide) rfl rfl (g := (mkF m 28 #[.val (.ref a1), .val (.int p1)] [(.int (2 : Int32)), (.ref a1), (.int (1 : Int32)), (.ref b1)])) rfl rfl (hb hby d_prog_79_method_6_code_28)
  have Fw106 : Fld Z h106 a1 "com/example/lumping/lumping/numbers/ChunkedInts" "filled" "I" (.int (2 : Int32)) := Fld.same W106 Fd
  have N106 := Fr.snoc X106 N0 G1
  refine Goes.step (S' := T106.setTop (mkF m 32 #[.val (.ref a1), .val (.int p1)] [(.int p1), (.int (1 : Int32)), (.ref b1)])) (fun t k => st106 _ (XS.iloadN X106.here hx rfl (hb hby d_prog_79_method_6_code_31) rfl k)) ?_
  obtain ⟨cl107, Ar107, qk107, Sz107, Nn107, Hs107, Gs107⟩ := id (V1.other W106 (Ne.symm (Exa.neArv E1 V1 tw1)))
  obtain ⟨T107, h107, X107, e107, W107, st107⟩ := stI X106 hx hZ e106 Ar107 (j := (1 : Int32)) (inb_of (j := (1 : Int32)) Sz107 ⟨by decide, by decide⟩) (g := (mkF m 32 #[.val (.ref a1), .val (.int p1)] [(.int p1), (.int (1 : Int32)), (.ref b1)])) rfl rfl (hb hby d_prog_79_method_6_code_32)
  have V107 : Arv Z h107 b1 k1 .int (3 : Int32) [(.int e0), (.int p1), (.int (0 : Int32))] (.int (0 : Int32)) := Arv.set Ar107 qk107 Sz107 Nn107 Hs107 Gs107 rfl W107 1 rfl (Nat.le_of_ble_eq_true rfl)
  have N107 := Fr.snoc X107 N106 G2
  refine Goes.step (S' := T107.setTop (mkF m 35 #[.val (.ref a1), .val (.int p1)] [(.ref a1), (.ref a1)])) (fun t k => st107 _ (XS.aloadN X107.here hx rfl (hb hby d_prog_79_method_6_code_33) rfl rfl (XS.dup X107.here hx rfl (hb hby d_prog_79_method_6_code_34) rfl rfl k))) ?_
  obtain ⟨T108, X108, e108, st108⟩ := getF X107 hx hZ hown (host := "") (Or.inl tw21) Via.refl e107 (Fld.other W107 (Fld.other W106 Fs (Or.inr (slot_ne (Or.inl tw22) (Or.inl tw20) (by decide) (t := .int) (t' := .int) (by decide) (by decide)))) (Or.inl (Exa.neArv (Exa.wr W106 E1) (V1.other W106 (Ne.symm (Exa.neArv E1 V1 tw1))) tw1))) (g := (mkF m 35 #[.val (.ref a1), .val (.int p1)] [(.ref a1), (.ref a1)])) rfl rfl (hb hby d_prog_79_method_6_code_35)
  refine Goes.step (S' := T108.setTop (mkF m 40 #[.val (.ref a1), .val (.int p1)] [(.int ((1 : Int32) + (1 : Int32))), (.ref a1)])) (fun t k => st108 _ (XS.iconst X108.here hx rfl (hb hby d_prog_79_method_6_code_38) (XS.iadd X108.here hx rfl (hb hby d_prog_79_method_6_code_39) rfl k))) ?_
  rw [show ((1 : Int32) + (1 : Int32)) = (2 : Int32) from by decide]
  obtain ⟨T109, h109, X109, e109, W109, st109⟩ := putF X108 hx hZ hown (host := "") (Or.inl tw21) Via.refl e108 (Fld.other W107 (Fld.other W106 Fs (Or.inr (slot_ne (Or.inl tw22) (Or.inl tw20) (by decide) (t := .int) (t' := .int) (by decide) (by decide)))) (Or.inl (Exa.neArv (Exa.wr W106 E1) (V1.other W106 (Ne.symm (Exa.neArv E1 V1 tw1))) tw1))) (Exa.wr W107 (Exa.wr W106 E1)) (Or.inl tw22) tw1 (ty := .int) (by decide) rfl rfl (g := (mkF m 40 #[.val (.ref a1), .val (.int p1)] [(.int (2 : Int32)), (.ref a1)])) rfl rfl (hb hby d_prog_79_method_6_code_40)
  have Fw109 : Fld Z h109 a1 "com/example/lumping/lumping/numbers/ChunkedInts" "size" "I" (.int (2 : Int32)) := Fld.same W109 (Fld.other W107 (Fld.other W106 Fs (Or.inr (slot_ne (Or.inl tw22) (Or.inl tw20) (by decide) (t := .int) (t' := .int) (by decide) (by decide)))) (Or.inl (Exa.neArv (Exa.wr W106 E1) (V1.other W106 (Ne.symm (Exa.neArv E1 V1 tw1))) tw1)))
  have N109 := Fr.snoc X109 N107 G1
  refine Goes.step (S' := T109.setTop (mkF m 43 #[.val (.ref a1), .val (.int p1)] [])) (fun t k => st109 _ k) ?_
  refine Goes.leave (g := (mkF m 43 #[.val (.ref a1), .val (.int p1)] [])) X109 Bd.notSynchronized (v := none) (fun _ => rfl) (fun fs hr => X109.returnOut hx Bd.returns (hb hby d_prog_79_method_6_code_43) hr) e109 ?_ (by decide) (by decide)
  exact ⟨rfl, N109, ((((Keep.refl _ [a1, b1]).wr W106 (Or.inl (List.mem_of_getElem? (i := 0) rfl))).wr W107 (Or.inl (List.mem_of_getElem? (i := 1) rfl))).wr W109 (Or.inl (List.mem_of_getElem? (i := 0) rfl))), (Exa.wr W109 (Exa.wr W107 (Exa.wr W106 E1))), (Fld.other W109 (Fld.other W107 (Fld.other W106 Fw (Or.inr (slot_ne (Or.inl tw11) (Or.inl tw20) (by decide) (t := (.array .int)) (t' := .int) (by decide) (by decide)))) (Or.inl (Exa.neArv (Exa.wr W106 E1) (V1.other W106 (Ne.symm (Exa.neArv E1 V1 tw1))) tw1))) (Or.inr (slot_ne (Or.inl tw11) (Or.inl tw22) (by decide) (t := (.array .int)) (t' := .int) (by decide) (by decide)))), (Fld.other W109 (Fld.other W107 (Fld.other W106 Fc (Or.inr (slot_ne (Or.inl tw31) (Or.inl tw20) (by decide) (t := (.array (.array .int))) (t' := .int) (by decide) (by decide)))) (Or.inl (Exa.neArv (Exa.wr W106 E1) (V1.other W106 (Ne.symm (Exa.neArv E1 V1 tw1))) tw1))) (Or.inr (slot_ne (Or.inl tw31) (Or.inl tw22) (by decide) (t := (.array (.array .int))) (t' := .int) (by decide) (by decide)))), (Fld.other W109 (Fld.other W107 (Fld.other W106 Ff (Or.inr (slot_ne (Or.inl tw13) (Or.inl tw20) (by decide) (t := (.array .int)) (t' := .int) (by decide) (by decide)))) (Or.inl (Exa.neArv (Exa.wr W106 E1) (V1.other W106 (Ne.symm (Exa.neArv E1 V1 tw1))) tw1))) (Or.inr (slot_ne (Or.inl tw13) (Or.inl tw22) (by decide) (t := (.array .int)) (t' := .int) (by decide) (by decide)))), (Fld.other W109 (Fld.other W107 Fw106 (Or.inl (Exa.neArv (Exa.wr W106 E1) (V1.other W106 (Ne.symm (Exa.neArv E1 V1 tw1))) tw1))) (Or.inr (slot_ne (Or.inl tw20) (Or.inl tw22) (by decide) (t := .int) (t' := .int) (by decide) (by decide)))), Fw109, (V107.other W109 (Ne.symm (Exa.neArv (Exa.wr W107 (Exa.wr W106 E1)) V107 tw1)))⟩

theorem ef_add_3_2 (m : MethodId) (x0 : Addr) (x1 : Int32) : entryFrame m #[(.ref x0), (.int x1)] 2 = mkF m 0 #[.val (.ref x0), .val (.int x1)] [] := by first | (simp [entryFrame, mkF, argsToLocals, Value.category]; done) | rfl
def Q_add_3_2 (Z : State) (a1 : Addr) (p1 : Int32) (u1 : Value) (u2 : Value) (b1 : Addr) (k1 : ClassId) (e0 : Int32) (e1 : Int32) (h0 : Heap) (n0 : Nat) (v : Option Value) (h : Heap) (L : List Loc) : Prop := v = none ∧ Fr n0 L ∧ Keep h0 h [a1, b1] ∧ Exa Z h a1 "com/example/lumping/lumping/numbers/ChunkedInts" ∧ Fld Z h a1 "com/example/lumping/lumping/numbers/ChunkedInts" "whole" "[I" u1 ∧ Fld Z h a1 "com/example/lumping/lumping/numbers/ChunkedInts" "chunks" "[[I" u2 ∧ Fld Z h a1 "com/example/lumping/lumping/numbers/ChunkedInts" "filling" "[I" (.ref b1) ∧ Fld Z h a1 "com/example/lumping/lumping/numbers/ChunkedInts" "filled" "I" (.int (3 : Int32)) ∧ Fld Z h a1 "com/example/lumping/lumping/numbers/ChunkedInts" "size" "I" (.int (3 : Int32)) ∧ Arv Z h b1 k1 .int (3 : Int32) [(.int e0), (.int e1), (.int p1)] (.int (0 : Int32))
set_option maxRecDepth 65536 in
set_option maxHeartbeats 40000000 in
theorem add_3_2 (l : Launch) (Z : State) (a0 : Array Value) (hw : ∀ d ∈ tables_1, d.before a0 Z = true) (ws : List Jvm.Cond) (a1 : Addr) (p1 : Int32) (u1 : Value) (u2 : Value) (b1 : Addr) (k1 : ClassId) (e0 : Int32) (e1 : Int32) (h0 : Heap) (n0 : Nat) (Z0 : n0 ≤ h0.size) (E1 : Exa Z h0 a1 "com/example/lumping/lumping/numbers/ChunkedInts") (Fw : Fld Z h0 a1 "com/example/lumping/lumping/numbers/ChunkedInts" "whole" "[I" u1) (Fc : Fld Z h0 a1 "com/example/lumping/lumping/numbers/ChunkedInts" "chunks" "[[I" u2) (Ff : Fld Z h0 a1 "com/example/lumping/lumping/numbers/ChunkedInts" "filling" "[I" (.ref b1)) (Fd : Fld Z h0 a1 "com/example/lumping/lumping/numbers/ChunkedInts" "filled" "I" (.int (2 : Int32))) (Fs : Fld Z h0 a1 "com/example/lumping/lumping/numbers/ChunkedInts" "size" "I" (.int (2 : Int32))) (V1 : Arv Z h0 b1 k1 .int (3 : Int32) [(.int e0), (.int e1), (.int (0 : Int32))] (.int (0 : Int32))) (G1 : n0 ≤ a1) (G2 : n0 ≤ b1) :
    MetFree l mth6 (head1 (Jvm.Cond.code mth6 prog_79_method_6_code 2 none :: ws) rom0) (fun a U => a = #[(.ref a1), (.int p1)] ∧ Z.Warmed39 U.vm ∧ U.heap = h0) (fun _ _ _ _ _ => True) (fun _ U o U' => ∃ v L, o = .returned v ∧ Q_add_3_2 Z a1 p1 u1 u2 b1 k1 e0 e1 h0 n0 v U'.heap L ∧ FrameEnd U o U' L rom0.cells rom0.slots) := by
  refine MetFree.of_bodySF (plainFor_of_name pnm1) hisR ?_
  intro p e s m args below meth c s₁ Bd hml0 hP hK
  obtain ⟨rfl, hZ, hh⟩ := hP
  have hx := Bd.exec
  have hby := Bd.bytes
  have hml : c.maxLocals = 2 := hml0
  have hown : s.vm.findClass "com/example/lumping/lumping/numbers/ChunkedInts" = some m.cls := findClass_of_methodNamed Bd.named
  have hnm := (name_of_methodNamed Bd.named Bd.method).1
  have X0 : Stand p l e rom0 s m #[(.ref a1), (.int p1)] below meth c s₁ [] 0 0 := Stand.of_body Bd
  have eh0 : s₁.heap = h0 := by rw [← hh, Bd.state]; rfl
  have N0 := Fr.nil n0
  have tw1 := hw _ (List.mem_of_getElem? (i := 1) rfl)
  have tw11 := hw _ (List.mem_of_getElem? (i := 11) rfl)
  have tw12 := hw _ (List.mem_of_getElem? (i := 12) rfl)
  have tw13 := hw _ (List.mem_of_getElem? (i := 13) rfl)
  have tw19 := hw _ (List.mem_of_getElem? (i := 19) rfl)
  have tw20 := hw _ (List.mem_of_getElem? (i := 20) rfl)
  have tw21 := hw _ (List.mem_of_getElem? (i := 21) rfl)
  have tw22 := hw _ (List.mem_of_getElem? (i := 22) rfl)
  have tw31 := hw _ (List.mem_of_getElem? (i := 31) rfl)
  show Goes p e below (Pq (Q_add_3_2 Z a1 p1 u1 u2 b1 k1 e0 e1 h0 n0) s rom0.cells rom0.slots) (s₁.setTop (entryFrame m #[(.ref a1), (.int p1)] 2))
  refine Goes.step (S' := s₁.setTop (mkF m 0 #[.val (.ref a1), .val (.int p1)] [])) (fun t k => castTop (ef_add_3_2 m a1 p1) k) ?_
  refine Goes.step (S' := s₁.setTop (mkF m 1 #[.val (.ref a1), .val (.int p1)] [(.ref a1)])) (fun t k => XS.aloadN X0.here hx rfl (hb hby d_prog_79_method_6_code_0) rfl rfl k) ?_
  obtain ⟨T101, X101, e101, st101⟩ := getF X0 hx hZ hown (host := "") (Or.inl tw19) Via.refl eh0 Fd (g := (mkF m 1 #[.val (.ref a1), .val (.int p1)] [(.ref a1)])) rfl rfl (hb hby d_prog_79_method_6_code_1)
  refine Goes.step (S' := T101.setTop (mkF m 5 #[.val (.ref a1), .val (.int p1)] [(.ref a1), (.int (2 : Int32))])) (fun t k => st101 _ (XS.aloadN X101.here hx rfl (hb hby d_prog_79_method_6_code_4) rfl rfl k)) ?_
  obtain ⟨T102, X102, e102, st102⟩ := getF X101 hx hZ hown (host := "") (Or.inl tw12) Via.refl e101 Ff (g := (mkF m 5 #[.val (.ref a1), .val (.int p1)] [(.ref a1), (.int (2 : Int32))])) rfl rfl (hb hby d_prog_79_method_6_code_5)
  refine Goes.step (S' := T102.setTop (mkF m 8 #[.val (.ref a1), .val (.int p1)] [(.ref b1), (.int (2 : Int32))])) (fun t k => st102 _ k) ?_
  obtain ⟨cl103, Ar103, qk103, Sz103, Nn103, Hs103, Gs103⟩ := id V1
  refine Goes.step (S' := T102.setTop (mkF m 9 #[.val (.ref a1), .val (.int p1)] [(.int (3 : Int32)), (.int (2 : Int32))])) (fun t k => X102.arraylength hx (by rw [e102]; exact Ar103.1) (State.isArrayOf_alike hZ.alike Ar103.2.1) (g := (mkF m 8 #[.val (.ref a1), .val (.int p1)] [(.ref b1), (.int (2 : Int32))])) rfl rfl (hb hby d_prog_79_method_6_code_8) _ (by rw [len_of Sz103 Nn103]; exact k)) ?_
  refine Goes.step (S' := T102.setTop (mkF m 17 #[.val (.ref a1), .val (.int p1)] [(.ref a1)])) (fun t k => XS.icmpYes X102.here hx rfl (pc0 := 9) (pc' := 16) rfl (hb hby d_prog_79_method_6_code_9) rfl (feq ((by decide) : ¬ ((2 : Int32) = (3 : Int32)))).2 (by decide) (by decide) (XS.aloadN X102.here hx rfl (hb hby d_prog_79_method_6_code_16) rfl rfl k)) ?_
  obtain ⟨T104, X104, e104, st104⟩ := getF X102 hx hZ hown (host := "") (Or.inl tw12) Via.refl e102 Ff (g := (mkF m 17 #[.val (.ref a1), .val (.int p1)] [(.ref a1)])) rfl rfl (hb hby d_prog_79_method_6_code_17)
  refine Goes.step (S' := T104.setTop (mkF m 22 #[.val (.ref a1), .val (.int p1)] [(.ref a1), (.ref a1), (.ref b1)])) (fun t k => st104 _ (XS.aloadN X104.here hx rfl (hb hby d_prog_79_method_6_code_20) rfl rfl (XS.dup X104.here hx rfl (hb hby d_prog_79_method_6_code_21) rfl rfl k))) ?_
  obtain ⟨T105, X105, e105, st105⟩ := getF X104 hx hZ hown (host := "") (Or.inl tw19) Via.refl e104 Fd (g := (mkF m 22 #[.val (.ref a1), .val (.int p1)] [(.ref a1), (.ref a1), (.ref b1)])) rfl rfl (hb hby d_prog_79_method_6_code_22)
  refine Goes.step (S' := T105.setTop (mkF m 28 #[.val (.ref a1), .val (.int p1)] [(.int ((2 : Int32) + (1 : Int32))), (.ref a1), (.int (2 : Int32)), (.ref b1)])) (fun t k => st105 _ (XS.dupX1 X105.here hx rfl (hb hby d_prog_79_method_6_code_25) rfl rfl rfl (XS.iconst X105.here hx rfl (hb hby d_prog_79_method_6_code_26) (XS.iadd X105.here hx rfl (hb hby d_prog_79_method_6_code_27) rfl k)))) ?_
  rw [show ((2 : Int32) + (1 : Int32)) = (3 : Int32) from by decide]
  obtain ⟨T106, h106, X106, e106, W106, st106⟩ := putF X105 hx hZ hown (host := "") (Or.inl tw19) Via.refl e105 Fd E1 (Or.inl tw20) tw1 (ty := .int) (by decide) rfl rfl (g := (mkF m 28 #[.val (.ref a1), .val (.int p1)] [(.int (3 : Int32)), (.ref a1), (.int (2 : Int32)), (.ref b1)])) rfl rfl (hb hby d_prog_79_method_6_code_28)
  have Fw106 : Fld Z h106 a1 "com/example/lumping/lumping/numbers/ChunkedInts" "filled" "I" (.int (3 : Int32)) := Fld.same W106 Fd
  have N106 := Fr.snoc X106 N0 G1
  refine Goes.step (S' := T106.setTop (mkF m 32 #[.val (.ref a1), .val (.int p1)] [(.int p1), (.int (2 : Int32)), (.ref b1)])) (fun t k => st106 _ (XS.iloadN X106.here hx rfl (hb hby d_prog_79_method_6_code_31) rfl k)) ?_
  obtain ⟨cl107, Ar107, qk107, Sz107, Nn107, Hs107, Gs107⟩ := id (V1.other W106 (Ne.symm (Exa.neArv E1 V1 tw1)))
  obtain ⟨T107, h107, X107, e107, W107, st107⟩ := stI X106 hx hZ e106 Ar107 (j := (2 : Int32)) (inb_of (j := (2 : Int32)) Sz107 ⟨by decide, by decide⟩) (g := (mkF m 32 #[.val (.ref a1), .val (.int p1)] [(.int p1), (.int (2 : Int32)), (.ref b1)])) rfl rfl (hb hby d_prog_79_method_6_code_32)
  have V107 : Arv Z h107 b1 k1 .int (3 : Int32) [(.int e0), (.int e1), (.int p1)] (.int (0 : Int32)) := Arv.set Ar107 qk107 Sz107 Nn107 Hs107 Gs107 rfl W107 2 rfl (Nat.le_of_ble_eq_true rfl)
  have N107 := Fr.snoc X107 N106 G2
  refine Goes.step (S' := T107.setTop (mkF m 35 #[.val (.ref a1), .val (.int p1)] [(.ref a1), (.ref a1)])) (fun t k => st107 _ (XS.aloadN X107.here hx rfl (hb hby d_prog_79_method_6_code_33) rfl rfl (XS.dup X107.here hx rfl (hb hby d_prog_79_method_6_code_34) rfl rfl k))) ?_
  obtain ⟨T108, X108, e108, st108⟩ := getF X107 hx hZ hown (host := "") (Or.inl tw21) Via.refl e107 (Fld.other W107 (Fld.other W106 Fs (Or.inr (slot_ne (Or.inl tw22) (Or.inl tw20) (by decide) (t := .int) (t' := .int) (by decide) (by decide)))) (Or.inl (Exa.neArv (Exa.wr W106 E1) (V1.other W106 (Ne.symm (Exa.neArv E1 V1 tw1))) tw1))) (g := (mkF m 35 #[.val (.ref a1), .val (.int p1)] [(.ref a1), (.ref a1)])) rfl rfl (hb hby d_prog_79_method_6_code_35)
  refine Goes.step (S' := T108.setTop (mkF m 40 #[.val (.ref a1), .val (.int p1)] [(.int ((2 : Int32) + (1 : Int32))), (.ref a1)])) (fun t k => st108 _ (XS.iconst X108.here hx rfl (hb hby d_prog_79_method_6_code_38) (XS.iadd X108.here hx rfl (hb hby d_prog_79_method_6_code_39) rfl k))) ?_
  rw [show ((2 : Int32) + (1 : Int32)) = (3 : Int32) from by decide]
  obtain ⟨T109, h109, X109, e109, W109, st109⟩ := putF X108 hx hZ hown (host := "") (Or.inl tw21) Via.refl e108 (Fld.other W107 (Fld.other W106 Fs (Or.inr (slot_ne (Or.inl tw22) (Or.inl tw20) (by decide) (t := .int) (t' := .int) (by decide) (by decide)))) (Or.inl (Exa.neArv (Exa.wr W106 E1) (V1.other W106 (Ne.symm (Exa.neArv E1 V1 tw1))) tw1))) (Exa.wr W107 (Exa.wr W106 E1)) (Or.inl tw22) tw1 (ty := .int) (by decide) rfl rfl (g := (mkF m 40 #[.val (.ref a1), .val (.int p1)] [(.int (3 : Int32)), (.ref a1)])) rfl rfl (hb hby d_prog_79_method_6_code_40)
  have Fw109 : Fld Z h109 a1 "com/example/lumping/lumping/numbers/ChunkedInts" "size" "I" (.int (3 : Int32)) := Fld.same W109 (Fld.other W107 (Fld.other W106 Fs (Or.inr (slot_ne (Or.inl tw22) (Or.inl tw20) (by decide) (t := .int) (t' := .int) (by decide) (by decide)))) (Or.inl (Exa.neArv (Exa.wr W106 E1) (V1.other W106 (Ne.symm (Exa.neArv E1 V1 tw1))) tw1)))
  have N109 := Fr.snoc X109 N107 G1
  refine Goes.step (S' := T109.setTop (mkF m 43 #[.val (.ref a1), .val (.int p1)] [])) (fun t k => st109 _ k) ?_
  refine Goes.leave (g := (mkF m 43 #[.val (.ref a1), .val (.int p1)] [])) X109 Bd.notSynchronized (v := none) (fun _ => rfl) (fun fs hr => X109.returnOut hx Bd.returns (hb hby d_prog_79_method_6_code_43) hr) e109 ?_ (by decide) (by decide)
  exact ⟨rfl, N109, ((((Keep.refl _ [a1, b1]).wr W106 (Or.inl (List.mem_of_getElem? (i := 0) rfl))).wr W107 (Or.inl (List.mem_of_getElem? (i := 1) rfl))).wr W109 (Or.inl (List.mem_of_getElem? (i := 0) rfl))), (Exa.wr W109 (Exa.wr W107 (Exa.wr W106 E1))), (Fld.other W109 (Fld.other W107 (Fld.other W106 Fw (Or.inr (slot_ne (Or.inl tw11) (Or.inl tw20) (by decide) (t := (.array .int)) (t' := .int) (by decide) (by decide)))) (Or.inl (Exa.neArv (Exa.wr W106 E1) (V1.other W106 (Ne.symm (Exa.neArv E1 V1 tw1))) tw1))) (Or.inr (slot_ne (Or.inl tw11) (Or.inl tw22) (by decide) (t := (.array .int)) (t' := .int) (by decide) (by decide)))), (Fld.other W109 (Fld.other W107 (Fld.other W106 Fc (Or.inr (slot_ne (Or.inl tw31) (Or.inl tw20) (by decide) (t := (.array (.array .int))) (t' := .int) (by decide) (by decide)))) (Or.inl (Exa.neArv (Exa.wr W106 E1) (V1.other W106 (Ne.symm (Exa.neArv E1 V1 tw1))) tw1))) (Or.inr (slot_ne (Or.inl tw31) (Or.inl tw22) (by decide) (t := (.array (.array .int))) (t' := .int) (by decide) (by decide)))), (Fld.other W109 (Fld.other W107 (Fld.other W106 Ff (Or.inr (slot_ne (Or.inl tw13) (Or.inl tw20) (by decide) (t := (.array .int)) (t' := .int) (by decide) (by decide)))) (Or.inl (Exa.neArv (Exa.wr W106 E1) (V1.other W106 (Ne.symm (Exa.neArv E1 V1 tw1))) tw1))) (Or.inr (slot_ne (Or.inl tw13) (Or.inl tw22) (by decide) (t := (.array .int)) (t' := .int) (by decide) (by decide)))), (Fld.other W109 (Fld.other W107 Fw106 (Or.inl (Exa.neArv (Exa.wr W106 E1) (V1.other W106 (Ne.symm (Exa.neArv E1 V1 tw1))) tw1))) (Or.inr (slot_ne (Or.inl tw20) (Or.inl tw22) (by decide) (t := .int) (t' := .int) (by decide) (by decide)))), Fw109, (V107.other W109 (Ne.symm (Exa.neArv (Exa.wr W107 (Exa.wr W106 E1)) V107 tw1)))⟩

theorem ef_add_2_0 (m : MethodId) (x0 : Addr) (x1 : Int32) : entryFrame m #[(.ref x0), (.int x1)] 2 = mkF m 0 #[.val (.ref x0), .val (.int x1)] [] := by first | (simp [entryFrame, mkF, argsToLocals, Value.category]; done) | rfl
def Q_add_2_0 (Z : State) (a1 : Addr) (p1 : Int32) (u1 : Value) (u2 : Value) (b1 : Addr) (k1 : ClassId) (h0 : Heap) (n0 : Nat) (v : Option Value) (h : Heap) (L : List Loc) : Prop := v = none ∧ Fr n0 L ∧ Keep h0 h [a1, b1] ∧ Exa Z h a1 "com/example/lumping/lumping/numbers/ChunkedInts" ∧ Fld Z h a1 "com/example/lumping/lumping/numbers/ChunkedInts" "whole" "[I" u1 ∧ Fld Z h a1 "com/example/lumping/lumping/numbers/ChunkedInts" "chunks" "[[I" u2 ∧ Fld Z h a1 "com/example/lumping/lumping/numbers/ChunkedInts" "filling" "[I" (.ref b1) ∧ Fld Z h a1 "com/example/lumping/lumping/numbers/ChunkedInts" "filled" "I" (.int (1 : Int32)) ∧ Fld Z h a1 "com/example/lumping/lumping/numbers/ChunkedInts" "size" "I" (.int (1 : Int32)) ∧ Arv Z h b1 k1 .int (2 : Int32) [(.int p1), (.int (0 : Int32))] (.int (0 : Int32))
set_option maxRecDepth 65536 in
set_option maxHeartbeats 40000000 in
theorem add_2_0 (l : Launch) (Z : State) (a0 : Array Value) (hw : ∀ d ∈ tables_1, d.before a0 Z = true) (ws : List Jvm.Cond) (a1 : Addr) (p1 : Int32) (u1 : Value) (u2 : Value) (b1 : Addr) (k1 : ClassId) (h0 : Heap) (n0 : Nat) (Z0 : n0 ≤ h0.size) (E1 : Exa Z h0 a1 "com/example/lumping/lumping/numbers/ChunkedInts") (Fw : Fld Z h0 a1 "com/example/lumping/lumping/numbers/ChunkedInts" "whole" "[I" u1) (Fc : Fld Z h0 a1 "com/example/lumping/lumping/numbers/ChunkedInts" "chunks" "[[I" u2) (Ff : Fld Z h0 a1 "com/example/lumping/lumping/numbers/ChunkedInts" "filling" "[I" (.ref b1)) (Fd : Fld Z h0 a1 "com/example/lumping/lumping/numbers/ChunkedInts" "filled" "I" (.int (0 : Int32))) (Fs : Fld Z h0 a1 "com/example/lumping/lumping/numbers/ChunkedInts" "size" "I" (.int (0 : Int32))) (V1 : Arv Z h0 b1 k1 .int (2 : Int32) [(.int (0 : Int32)), (.int (0 : Int32))] (.int (0 : Int32))) (G1 : n0 ≤ a1) (G2 : n0 ≤ b1) :
    MetFree l mth6 (head1 (Jvm.Cond.code mth6 prog_79_method_6_code 2 none :: ws) rom0) (fun a U => a = #[(.ref a1), (.int p1)] ∧ Z.Warmed39 U.vm ∧ U.heap = h0) (fun _ _ _ _ _ => True) (fun _ U o U' => ∃ v L, o = .returned v ∧ Q_add_2_0 Z a1 p1 u1 u2 b1 k1 h0 n0 v U'.heap L ∧ FrameEnd U o U' L rom0.cells rom0.slots) := by
  refine MetFree.of_bodySF (plainFor_of_name pnm1) hisR ?_
  intro p e s m args below meth c s₁ Bd hml0 hP hK
  obtain ⟨rfl, hZ, hh⟩ := hP
  have hx := Bd.exec
  have hby := Bd.bytes
  have hml : c.maxLocals = 2 := hml0
  have hown : s.vm.findClass "com/example/lumping/lumping/numbers/ChunkedInts" = some m.cls := findClass_of_methodNamed Bd.named
  have hnm := (name_of_methodNamed Bd.named Bd.method).1
  have X0 : Stand p l e rom0 s m #[(.ref a1), (.int p1)] below meth c s₁ [] 0 0 := Stand.of_body Bd
  have eh0 : s₁.heap = h0 := by rw [← hh, Bd.state]; rfl
  have N0 := Fr.nil n0
  have tw1 := hw _ (List.mem_of_getElem? (i := 1) rfl)
  have tw11 := hw _ (List.mem_of_getElem? (i := 11) rfl)
  have tw12 := hw _ (List.mem_of_getElem? (i := 12) rfl)
  have tw13 := hw _ (List.mem_of_getElem? (i := 13) rfl)
  have tw19 := hw _ (List.mem_of_getElem? (i := 19) rfl)
  have tw20 := hw _ (List.mem_of_getElem? (i := 20) rfl)
  have tw21 := hw _ (List.mem_of_getElem? (i := 21) rfl)
  have tw22 := hw _ (List.mem_of_getElem? (i := 22) rfl)
  have tw31 := hw _ (List.mem_of_getElem? (i := 31) rfl)
  show Goes p e below (Pq (Q_add_2_0 Z a1 p1 u1 u2 b1 k1 h0 n0) s rom0.cells rom0.slots) (s₁.setTop (entryFrame m #[(.ref a1), (.int p1)] 2))
  refine Goes.step (S' := s₁.setTop (mkF m 0 #[.val (.ref a1), .val (.int p1)] [])) (fun t k => castTop (ef_add_2_0 m a1 p1) k) ?_
  refine Goes.step (S' := s₁.setTop (mkF m 1 #[.val (.ref a1), .val (.int p1)] [(.ref a1)])) (fun t k => XS.aloadN X0.here hx rfl (hb hby d_prog_79_method_6_code_0) rfl rfl k) ?_
  obtain ⟨T101, X101, e101, st101⟩ := getF X0 hx hZ hown (host := "") (Or.inl tw19) Via.refl eh0 Fd (g := (mkF m 1 #[.val (.ref a1), .val (.int p1)] [(.ref a1)])) rfl rfl (hb hby d_prog_79_method_6_code_1)
  refine Goes.step (S' := T101.setTop (mkF m 5 #[.val (.ref a1), .val (.int p1)] [(.ref a1), (.int (0 : Int32))])) (fun t k => st101 _ (XS.aloadN X101.here hx rfl (hb hby d_prog_79_method_6_code_4) rfl rfl k)) ?_
  obtain ⟨T102, X102, e102, st102⟩ := getF X101 hx hZ hown (host := "") (Or.inl tw12) Via.refl e101 Ff (g := (mkF m 5 #[.val (.ref a1), .val (.int p1)] [(.ref a1), (.int (0 : Int32))])) rfl rfl (hb hby d_prog_79_method_6_code_5)
  refine Goes.step (S' := T102.setTop (mkF m 8 #[.val (.ref a1), .val (.int p1)] [(.ref b1), (.int (0 : Int32))])) (fun t k => st102 _ k) ?_
  obtain ⟨cl103, Ar103, qk103, Sz103, Nn103, Hs103, Gs103⟩ := id V1
  refine Goes.step (S' := T102.setTop (mkF m 9 #[.val (.ref a1), .val (.int p1)] [(.int (2 : Int32)), (.int (0 : Int32))])) (fun t k => X102.arraylength hx (by rw [e102]; exact Ar103.1) (State.isArrayOf_alike hZ.alike Ar103.2.1) (g := (mkF m 8 #[.val (.ref a1), .val (.int p1)] [(.ref b1), (.int (0 : Int32))])) rfl rfl (hb hby d_prog_79_method_6_code_8) _ (by rw [len_of Sz103 Nn103]; exact k)) ?_
  refine Goes.step (S' := T102.setTop (mkF m 17 #[.val (.ref a1), .val (.int p1)] [(.ref a1)])) (fun t k => XS.icmpYes X102.here hx rfl (pc0 := 9) (pc' := 16) rfl (hb hby d_prog_79_method_6_code_9) rfl (feq ((by decide) : ¬ ((0 : Int32) = (2 : Int32)))).2 (by decide) (by decide) (XS.aloadN X102.here hx rfl (hb hby d_prog_79_method_6_code_16) rfl rfl k)) ?_
  obtain ⟨T104, X104, e104, st104⟩ := getF X102 hx hZ hown (host := "") (Or.inl tw12) Via.refl e102 Ff (g := (mkF m 17 #[.val (.ref a1), .val (.int p1)] [(.ref a1)])) rfl rfl (hb hby d_prog_79_method_6_code_17)
  refine Goes.step (S' := T104.setTop (mkF m 22 #[.val (.ref a1), .val (.int p1)] [(.ref a1), (.ref a1), (.ref b1)])) (fun t k => st104 _ (XS.aloadN X104.here hx rfl (hb hby d_prog_79_method_6_code_20) rfl rfl (XS.dup X104.here hx rfl (hb hby d_prog_79_method_6_code_21) rfl rfl k))) ?_
  obtain ⟨T105, X105, e105, st105⟩ := getF X104 hx hZ hown (host := "") (Or.inl tw19) Via.refl e104 Fd (g := (mkF m 22 #[.val (.ref a1), .val (.int p1)] [(.ref a1), (.ref a1), (.ref b1)])) rfl rfl (hb hby d_prog_79_method_6_code_22)
  refine Goes.step (S' := T105.setTop (mkF m 28 #[.val (.ref a1), .val (.int p1)] [(.int ((0 : Int32) + (1 : Int32))), (.ref a1), (.int (0 : Int32)), (.ref b1)])) (fun t k => st105 _ (XS.dupX1 X105.here hx rfl (hb hby d_prog_79_method_6_code_25) rfl rfl rfl (XS.iconst X105.here hx rfl (hb hby d_prog_79_method_6_code_26) (XS.iadd X105.here hx rfl (hb hby d_prog_79_method_6_code_27) rfl k)))) ?_
  rw [show ((0 : Int32) + (1 : Int32)) = (1 : Int32) from by decide]
  obtain ⟨T106, h106, X106, e106, W106, st106⟩ := putF X105 hx hZ hown (host := "") (Or.inl tw19) Via.refl e105 Fd E1 (Or.inl tw20) tw1 (ty := .int) (by decide) rfl rfl (g := (mkF m 28 #[.val (.ref a1), .val (.int p1)] [(.int (1 : Int32)), (.ref a1), (.int (0 : Int32)), (.ref b1)])) rfl rfl (hb hby d_prog_79_method_6_code_28)
  have Fw106 : Fld Z h106 a1 "com/example/lumping/lumping/numbers/ChunkedInts" "filled" "I" (.int (1 : Int32)) := Fld.same W106 Fd
  have N106 := Fr.snoc X106 N0 G1
  refine Goes.step (S' := T106.setTop (mkF m 32 #[.val (.ref a1), .val (.int p1)] [(.int p1), (.int (0 : Int32)), (.ref b1)])) (fun t k => st106 _ (XS.iloadN X106.here hx rfl (hb hby d_prog_79_method_6_code_31) rfl k)) ?_
  obtain ⟨cl107, Ar107, qk107, Sz107, Nn107, Hs107, Gs107⟩ := id (V1.other W106 (Ne.symm (Exa.neArv E1 V1 tw1)))
  obtain ⟨T107, h107, X107, e107, W107, st107⟩ := stI X106 hx hZ e106 Ar107 (j := (0 : Int32)) (inb_of (j := (0 : Int32)) Sz107 ⟨by decide, by decide⟩) (g := (mkF m 32 #[.val (.ref a1), .val (.int p1)] [(.int p1), (.int (0 : Int32)), (.ref b1)])) rfl rfl (hb hby d_prog_79_method_6_code_32)
  have V107 : Arv Z h107 b1 k1 .int (2 : Int32) [(.int p1), (.int (0 : Int32))] (.int (0 : Int32)) := Arv.set Ar107 qk107 Sz107 Nn107 Hs107 Gs107 rfl W107 0 rfl (Nat.le_of_ble_eq_true rfl)
  have N107 := Fr.snoc X107 N106 G2
  refine Goes.step (S' := T107.setTop (mkF m 35 #[.val (.ref a1), .val (.int p1)] [(.ref a1), (.ref a1)])) (fun t k => st107 _ (XS.aloadN X107.here hx rfl (hb hby d_prog_79_method_6_code_33) rfl rfl (XS.dup X107.here hx rfl (hb hby d_prog_79_method_6_code_34) rfl rfl k))) ?_
  obtain ⟨T108, X108, e108, st108⟩ := getF X107 hx hZ hown (host := "") (Or.inl tw21) Via.refl e107 (Fld.other W107 (Fld.other W106 Fs (Or.inr (slot_ne (Or.inl tw22) (Or.inl tw20) (by decide) (t := .int) (t' := .int) (by decide) (by decide)))) (Or.inl (Exa.neArv (Exa.wr W106 E1) (V1.other W106 (Ne.symm (Exa.neArv E1 V1 tw1))) tw1))) (g := (mkF m 35 #[.val (.ref a1), .val (.int p1)] [(.ref a1), (.ref a1)])) rfl rfl (hb hby d_prog_79_method_6_code_35)
  refine Goes.step (S' := T108.setTop (mkF m 40 #[.val (.ref a1), .val (.int p1)] [(.int ((0 : Int32) + (1 : Int32))), (.ref a1)])) (fun t k => st108 _ (XS.iconst X108.here hx rfl (hb hby d_prog_79_method_6_code_38) (XS.iadd X108.here hx rfl (hb hby d_prog_79_method_6_code_39) rfl k))) ?_
  rw [show ((0 : Int32) + (1 : Int32)) = (1 : Int32) from by decide]
  obtain ⟨T109, h109, X109, e109, W109, st109⟩ := putF X108 hx hZ hown (host := "") (Or.inl tw21) Via.refl e108 (Fld.other W107 (Fld.other W106 Fs (Or.inr (slot_ne (Or.inl tw22) (Or.inl tw20) (by decide) (t := .int) (t' := .int) (by decide) (by decide)))) (Or.inl (Exa.neArv (Exa.wr W106 E1) (V1.other W106 (Ne.symm (Exa.neArv E1 V1 tw1))) tw1))) (Exa.wr W107 (Exa.wr W106 E1)) (Or.inl tw22) tw1 (ty := .int) (by decide) rfl rfl (g := (mkF m 40 #[.val (.ref a1), .val (.int p1)] [(.int (1 : Int32)), (.ref a1)])) rfl rfl (hb hby d_prog_79_method_6_code_40)
  have Fw109 : Fld Z h109 a1 "com/example/lumping/lumping/numbers/ChunkedInts" "size" "I" (.int (1 : Int32)) := Fld.same W109 (Fld.other W107 (Fld.other W106 Fs (Or.inr (slot_ne (Or.inl tw22) (Or.inl tw20) (by decide) (t := .int) (t' := .int) (by decide) (by decide)))) (Or.inl (Exa.neArv (Exa.wr W106 E1) (V1.other W106 (Ne.symm (Exa.neArv E1 V1 tw1))) tw1)))
  have N109 := Fr.snoc X109 N107 G1
  refine Goes.step (S' := T109.setTop (mkF m 43 #[.val (.ref a1), .val (.int p1)] [])) (fun t k => st109 _ k) ?_
  refine Goes.leave (g := (mkF m 43 #[.val (.ref a1), .val (.int p1)] [])) X109 Bd.notSynchronized (v := none) (fun _ => rfl) (fun fs hr => X109.returnOut hx Bd.returns (hb hby d_prog_79_method_6_code_43) hr) e109 ?_ (by decide) (by decide)
  exact ⟨rfl, N109, ((((Keep.refl _ [a1, b1]).wr W106 (Or.inl (List.mem_of_getElem? (i := 0) rfl))).wr W107 (Or.inl (List.mem_of_getElem? (i := 1) rfl))).wr W109 (Or.inl (List.mem_of_getElem? (i := 0) rfl))), (Exa.wr W109 (Exa.wr W107 (Exa.wr W106 E1))), (Fld.other W109 (Fld.other W107 (Fld.other W106 Fw (Or.inr (slot_ne (Or.inl tw11) (Or.inl tw20) (by decide) (t := (.array .int)) (t' := .int) (by decide) (by decide)))) (Or.inl (Exa.neArv (Exa.wr W106 E1) (V1.other W106 (Ne.symm (Exa.neArv E1 V1 tw1))) tw1))) (Or.inr (slot_ne (Or.inl tw11) (Or.inl tw22) (by decide) (t := (.array .int)) (t' := .int) (by decide) (by decide)))), (Fld.other W109 (Fld.other W107 (Fld.other W106 Fc (Or.inr (slot_ne (Or.inl tw31) (Or.inl tw20) (by decide) (t := (.array (.array .int))) (t' := .int) (by decide) (by decide)))) (Or.inl (Exa.neArv (Exa.wr W106 E1) (V1.other W106 (Ne.symm (Exa.neArv E1 V1 tw1))) tw1))) (Or.inr (slot_ne (Or.inl tw31) (Or.inl tw22) (by decide) (t := (.array (.array .int))) (t' := .int) (by decide) (by decide)))), (Fld.other W109 (Fld.other W107 (Fld.other W106 Ff (Or.inr (slot_ne (Or.inl tw13) (Or.inl tw20) (by decide) (t := (.array .int)) (t' := .int) (by decide) (by decide)))) (Or.inl (Exa.neArv (Exa.wr W106 E1) (V1.other W106 (Ne.symm (Exa.neArv E1 V1 tw1))) tw1))) (Or.inr (slot_ne (Or.inl tw13) (Or.inl tw22) (by decide) (t := (.array .int)) (t' := .int) (by decide) (by decide)))), (Fld.other W109 (Fld.other W107 Fw106 (Or.inl (Exa.neArv (Exa.wr W106 E1) (V1.other W106 (Ne.symm (Exa.neArv E1 V1 tw1))) tw1))) (Or.inr (slot_ne (Or.inl tw20) (Or.inl tw22) (by decide) (t := .int) (t' := .int) (by decide) (by decide)))), Fw109, (V107.other W109 (Ne.symm (Exa.neArv (Exa.wr W107 (Exa.wr W106 E1)) V107 tw1)))⟩

theorem ef_add_2_1 (m : MethodId) (x0 : Addr) (x1 : Int32) : entryFrame m #[(.ref x0), (.int x1)] 2 = mkF m 0 #[.val (.ref x0), .val (.int x1)] [] := by first | (simp [entryFrame, mkF, argsToLocals, Value.category]; done) | rfl
def Q_add_2_1 (Z : State) (a1 : Addr) (p1 : Int32) (u1 : Value) (u2 : Value) (b1 : Addr) (k1 : ClassId) (e0 : Int32) (h0 : Heap) (n0 : Nat) (v : Option Value) (h : Heap) (L : List Loc) : Prop := v = none ∧ Fr n0 L ∧ Keep h0 h [a1, b1] ∧ Exa Z h a1 "com/example/lumping/lumping/numbers/ChunkedInts" ∧ Fld Z h a1 "com/example/lumping/lumping/numbers/ChunkedInts" "whole" "[I" u1 ∧ Fld Z h a1 "com/example/lumping/lumping/numbers/ChunkedInts" "chunks" "[[I" u2 ∧ Fld Z h a1 "com/example/lumping/lumping/numbers/ChunkedInts" "filling" "[I" (.ref b1) ∧ Fld Z h a1 "com/example/lumping/lumping/numbers/ChunkedInts" "filled" "I" (.int (2 : Int32)) ∧ Fld Z h a1 "com/example/lumping/lumping/numbers/ChunkedInts" "size" "I" (.int (2 : Int32)) ∧ Arv Z h b1 k1 .int (2 : Int32) [(.int e0), (.int p1)] (.int (0 : Int32))
set_option maxRecDepth 65536 in
set_option maxHeartbeats 40000000 in
theorem add_2_1 (l : Launch) (Z : State) (a0 : Array Value) (hw : ∀ d ∈ tables_1, d.before a0 Z = true) (ws : List Jvm.Cond) (a1 : Addr) (p1 : Int32) (u1 : Value) (u2 : Value) (b1 : Addr) (k1 : ClassId) (e0 : Int32) (h0 : Heap) (n0 : Nat) (Z0 : n0 ≤ h0.size) (E1 : Exa Z h0 a1 "com/example/lumping/lumping/numbers/ChunkedInts") (Fw : Fld Z h0 a1 "com/example/lumping/lumping/numbers/ChunkedInts" "whole" "[I" u1) (Fc : Fld Z h0 a1 "com/example/lumping/lumping/numbers/ChunkedInts" "chunks" "[[I" u2) (Ff : Fld Z h0 a1 "com/example/lumping/lumping/numbers/ChunkedInts" "filling" "[I" (.ref b1)) (Fd : Fld Z h0 a1 "com/example/lumping/lumping/numbers/ChunkedInts" "filled" "I" (.int (1 : Int32))) (Fs : Fld Z h0 a1 "com/example/lumping/lumping/numbers/ChunkedInts" "size" "I" (.int (1 : Int32))) (V1 : Arv Z h0 b1 k1 .int (2 : Int32) [(.int e0), (.int (0 : Int32))] (.int (0 : Int32))) (G1 : n0 ≤ a1) (G2 : n0 ≤ b1) :
    MetFree l mth6 (head1 (Jvm.Cond.code mth6 prog_79_method_6_code 2 none :: ws) rom0) (fun a U => a = #[(.ref a1), (.int p1)] ∧ Z.Warmed39 U.vm ∧ U.heap = h0) (fun _ _ _ _ _ => True) (fun _ U o U' => ∃ v L, o = .returned v ∧ Q_add_2_1 Z a1 p1 u1 u2 b1 k1 e0 h0 n0 v U'.heap L ∧ FrameEnd U o U' L rom0.cells rom0.slots) := by
  refine MetFree.of_bodySF (plainFor_of_name pnm1) hisR ?_
  intro p e s m args below meth c s₁ Bd hml0 hP hK
  obtain ⟨rfl, hZ, hh⟩ := hP
  have hx := Bd.exec
  have hby := Bd.bytes
  have hml : c.maxLocals = 2 := hml0
  have hown : s.vm.findClass "com/example/lumping/lumping/numbers/ChunkedInts" = some m.cls := findClass_of_methodNamed Bd.named
  have hnm := (name_of_methodNamed Bd.named Bd.method).1
  have X0 : Stand p l e rom0 s m #[(.ref a1), (.int p1)] below meth c s₁ [] 0 0 := Stand.of_body Bd
  have eh0 : s₁.heap = h0 := by rw [← hh, Bd.state]; rfl
  have N0 := Fr.nil n0
  have tw1 := hw _ (List.mem_of_getElem? (i := 1) rfl)
  have tw11 := hw _ (List.mem_of_getElem? (i := 11) rfl)
  have tw12 := hw _ (List.mem_of_getElem? (i := 12) rfl)
  have tw13 := hw _ (List.mem_of_getElem? (i := 13) rfl)
  have tw19 := hw _ (List.mem_of_getElem? (i := 19) rfl)
  have tw20 := hw _ (List.mem_of_getElem? (i := 20) rfl)
  have tw21 := hw _ (List.mem_of_getElem? (i := 21) rfl)
  have tw22 := hw _ (List.mem_of_getElem? (i := 22) rfl)
  have tw31 := hw _ (List.mem_of_getElem? (i := 31) rfl)
  show Goes p e below (Pq (Q_add_2_1 Z a1 p1 u1 u2 b1 k1 e0 h0 n0) s rom0.cells rom0.slots) (s₁.setTop (entryFrame m #[(.ref a1), (.int p1)] 2))
  refine Goes.step (S' := s₁.setTop (mkF m 0 #[.val (.ref a1), .val (.int p1)] [])) (fun t k => castTop (ef_add_2_1 m a1 p1) k) ?_
  refine Goes.step (S' := s₁.setTop (mkF m 1 #[.val (.ref a1), .val (.int p1)] [(.ref a1)])) (fun t k => XS.aloadN X0.here hx rfl (hb hby d_prog_79_method_6_code_0) rfl rfl k) ?_
  obtain ⟨T101, X101, e101, st101⟩ := getF X0 hx hZ hown (host := "") (Or.inl tw19) Via.refl eh0 Fd (g := (mkF m 1 #[.val (.ref a1), .val (.int p1)] [(.ref a1)])) rfl rfl (hb hby d_prog_79_method_6_code_1)
  refine Goes.step (S' := T101.setTop (mkF m 5 #[.val (.ref a1), .val (.int p1)] [(.ref a1), (.int (1 : Int32))])) (fun t k => st101 _ (XS.aloadN X101.here hx rfl (hb hby d_prog_79_method_6_code_4) rfl rfl k)) ?_
  obtain ⟨T102, X102, e102, st102⟩ := getF X101 hx hZ hown (host := "") (Or.inl tw12) Via.refl e101 Ff (g := (mkF m 5 #[.val (.ref a1), .val (.int p1)] [(.ref a1), (.int (1 : Int32))])) rfl rfl (hb hby d_prog_79_method_6_code_5)
  refine Goes.step (S' := T102.setTop (mkF m 8 #[.val (.ref a1), .val (.int p1)] [(.ref b1), (.int (1 : Int32))])) (fun t k => st102 _ k) ?_
  obtain ⟨cl103, Ar103, qk103, Sz103, Nn103, Hs103, Gs103⟩ := id V1
  refine Goes.step (S' := T102.setTop (mkF m 9 #[.val (.ref a1), .val (.int p1)] [(.int (2 : Int32)), (.int (1 : Int32))])) (fun t k => X102.arraylength hx (by rw [e102]; exact Ar103.1) (State.isArrayOf_alike hZ.alike Ar103.2.1) (g := (mkF m 8 #[.val (.ref a1), .val (.int p1)] [(.ref b1), (.int (1 : Int32))])) rfl rfl (hb hby d_prog_79_method_6_code_8) _ (by rw [len_of Sz103 Nn103]; exact k)) ?_
  refine Goes.step (S' := T102.setTop (mkF m 17 #[.val (.ref a1), .val (.int p1)] [(.ref a1)])) (fun t k => XS.icmpYes X102.here hx rfl (pc0 := 9) (pc' := 16) rfl (hb hby d_prog_79_method_6_code_9) rfl (feq ((by decide) : ¬ ((1 : Int32) = (2 : Int32)))).2 (by decide) (by decide) (XS.aloadN X102.here hx rfl (hb hby d_prog_79_method_6_code_16) rfl rfl k)) ?_
  obtain ⟨T104, X104, e104, st104⟩ := getF X102 hx hZ hown (host := "") (Or.inl tw12) Via.refl e102 Ff (g := (mkF m 17 #[.val (.ref a1), .val (.int p1)] [(.ref a1)])) rfl rfl (hb hby d_prog_79_method_6_code_17)
  refine Goes.step (S' := T104.setTop (mkF m 22 #[.val (.ref a1), .val (.int p1)] [(.ref a1), (.ref a1), (.ref b1)])) (fun t k => st104 _ (XS.aloadN X104.here hx rfl (hb hby d_prog_79_method_6_code_20) rfl rfl (XS.dup X104.here hx rfl (hb hby d_prog_79_method_6_code_21) rfl rfl k))) ?_
  obtain ⟨T105, X105, e105, st105⟩ := getF X104 hx hZ hown (host := "") (Or.inl tw19) Via.refl e104 Fd (g := (mkF m 22 #[.val (.ref a1), .val (.int p1)] [(.ref a1), (.ref a1), (.ref b1)])) rfl rfl (hb hby d_prog_79_method_6_code_22)
  refine Goes.step (S' := T105.setTop (mkF m 28 #[.val (.ref a1), .val (.int p1)] [(.int ((1 : Int32) + (1 : Int32))), (.ref a1), (.int (1 : Int32)), (.ref b1)])) (fun t k => st105 _ (XS.dupX1 X105.here hx rfl (hb hby d_prog_79_method_6_code_25) rfl rfl rfl (XS.iconst X105.here hx rfl (hb hby d_prog_79_method_6_code_26) (XS.iadd X105.here hx rfl (hb hby d_prog_79_method_6_code_27) rfl k)))) ?_
  rw [show ((1 : Int32) + (1 : Int32)) = (2 : Int32) from by decide]
  obtain ⟨T106, h106, X106, e106, W106, st106⟩ := putF X105 hx hZ hown (host := "") (Or.inl tw19) Via.refl e105 Fd E1 (Or.inl tw20) tw1 (ty := .int) (by decide) rfl rfl (g := (mkF m 28 #[.val (.ref a1), .val (.int p1)] [(.int (2 : Int32)), (.ref a1), (.int (1 : Int32)), (.ref b1)])) rfl rfl (hb hby d_prog_79_method_6_code_28)
  have Fw106 : Fld Z h106 a1 "com/example/lumping/lumping/numbers/ChunkedInts" "filled" "I" (.int (2 : Int32)) := Fld.same W106 Fd
  have N106 := Fr.snoc X106 N0 G1
  refine Goes.step (S' := T106.setTop (mkF m 32 #[.val (.ref a1), .val (.int p1)] [(.int p1), (.int (1 : Int32)), (.ref b1)])) (fun t k => st106 _ (XS.iloadN X106.here hx rfl (hb hby d_prog_79_method_6_code_31) rfl k)) ?_
  obtain ⟨cl107, Ar107, qk107, Sz107, Nn107, Hs107, Gs107⟩ := id (V1.other W106 (Ne.symm (Exa.neArv E1 V1 tw1)))
  obtain ⟨T107, h107, X107, e107, W107, st107⟩ := stI X106 hx hZ e106 Ar107 (j := (1 : Int32)) (inb_of (j := (1 : Int32)) Sz107 ⟨by decide, by decide⟩) (g := (mkF m 32 #[.val (.ref a1), .val (.int p1)] [(.int p1), (.int (1 : Int32)), (.ref b1)])) rfl rfl (hb hby d_prog_79_method_6_code_32)
  have V107 : Arv Z h107 b1 k1 .int (2 : Int32) [(.int e0), (.int p1)] (.int (0 : Int32)) := Arv.set Ar107 qk107 Sz107 Nn107 Hs107 Gs107 rfl W107 1 rfl (Nat.le_of_ble_eq_true rfl)
  have N107 := Fr.snoc X107 N106 G2
  refine Goes.step (S' := T107.setTop (mkF m 35 #[.val (.ref a1), .val (.int p1)] [(.ref a1), (.ref a1)])) (fun t k => st107 _ (XS.aloadN X107.here hx rfl (hb hby d_prog_79_method_6_code_33) rfl rfl (XS.dup X107.here hx rfl (hb hby d_prog_79_method_6_code_34) rfl rfl k))) ?_
  obtain ⟨T108, X108, e108, st108⟩ := getF X107 hx hZ hown (host := "") (Or.inl tw21) Via.refl e107 (Fld.other W107 (Fld.other W106 Fs (Or.inr (slot_ne (Or.inl tw22) (Or.inl tw20) (by decide) (t := .int) (t' := .int) (by decide) (by decide)))) (Or.inl (Exa.neArv (Exa.wr W106 E1) (V1.other W106 (Ne.symm (Exa.neArv E1 V1 tw1))) tw1))) (g := (mkF m 35 #[.val (.ref a1), .val (.int p1)] [(.ref a1), (.ref a1)])) rfl rfl (hb hby d_prog_79_method_6_code_35)
  refine Goes.step (S' := T108.setTop (mkF m 40 #[.val (.ref a1), .val (.int p1)] [(.int ((1 : Int32) + (1 : Int32))), (.ref a1)])) (fun t k => st108 _ (XS.iconst X108.here hx rfl (hb hby d_prog_79_method_6_code_38) (XS.iadd X108.here hx rfl (hb hby d_prog_79_method_6_code_39) rfl k))) ?_
  rw [show ((1 : Int32) + (1 : Int32)) = (2 : Int32) from by decide]
  obtain ⟨T109, h109, X109, e109, W109, st109⟩ := putF X108 hx hZ hown (host := "") (Or.inl tw21) Via.refl e108 (Fld.other W107 (Fld.other W106 Fs (Or.inr (slot_ne (Or.inl tw22) (Or.inl tw20) (by decide) (t := .int) (t' := .int) (by decide) (by decide)))) (Or.inl (Exa.neArv (Exa.wr W106 E1) (V1.other W106 (Ne.symm (Exa.neArv E1 V1 tw1))) tw1))) (Exa.wr W107 (Exa.wr W106 E1)) (Or.inl tw22) tw1 (ty := .int) (by decide) rfl rfl (g := (mkF m 40 #[.val (.ref a1), .val (.int p1)] [(.int (2 : Int32)), (.ref a1)])) rfl rfl (hb hby d_prog_79_method_6_code_40)
  have Fw109 : Fld Z h109 a1 "com/example/lumping/lumping/numbers/ChunkedInts" "size" "I" (.int (2 : Int32)) := Fld.same W109 (Fld.other W107 (Fld.other W106 Fs (Or.inr (slot_ne (Or.inl tw22) (Or.inl tw20) (by decide) (t := .int) (t' := .int) (by decide) (by decide)))) (Or.inl (Exa.neArv (Exa.wr W106 E1) (V1.other W106 (Ne.symm (Exa.neArv E1 V1 tw1))) tw1)))
  have N109 := Fr.snoc X109 N107 G1
  refine Goes.step (S' := T109.setTop (mkF m 43 #[.val (.ref a1), .val (.int p1)] [])) (fun t k => st109 _ k) ?_
  refine Goes.leave (g := (mkF m 43 #[.val (.ref a1), .val (.int p1)] [])) X109 Bd.notSynchronized (v := none) (fun _ => rfl) (fun fs hr => X109.returnOut hx Bd.returns (hb hby d_prog_79_method_6_code_43) hr) e109 ?_ (by decide) (by decide)
  exact ⟨rfl, N109, ((((Keep.refl _ [a1, b1]).wr W106 (Or.inl (List.mem_of_getElem? (i := 0) rfl))).wr W107 (Or.inl (List.mem_of_getElem? (i := 1) rfl))).wr W109 (Or.inl (List.mem_of_getElem? (i := 0) rfl))), (Exa.wr W109 (Exa.wr W107 (Exa.wr W106 E1))), (Fld.other W109 (Fld.other W107 (Fld.other W106 Fw (Or.inr (slot_ne (Or.inl tw11) (Or.inl tw20) (by decide) (t := (.array .int)) (t' := .int) (by decide) (by decide)))) (Or.inl (Exa.neArv (Exa.wr W106 E1) (V1.other W106 (Ne.symm (Exa.neArv E1 V1 tw1))) tw1))) (Or.inr (slot_ne (Or.inl tw11) (Or.inl tw22) (by decide) (t := (.array .int)) (t' := .int) (by decide) (by decide)))), (Fld.other W109 (Fld.other W107 (Fld.other W106 Fc (Or.inr (slot_ne (Or.inl tw31) (Or.inl tw20) (by decide) (t := (.array (.array .int))) (t' := .int) (by decide) (by decide)))) (Or.inl (Exa.neArv (Exa.wr W106 E1) (V1.other W106 (Ne.symm (Exa.neArv E1 V1 tw1))) tw1))) (Or.inr (slot_ne (Or.inl tw31) (Or.inl tw22) (by decide) (t := (.array (.array .int))) (t' := .int) (by decide) (by decide)))), (Fld.other W109 (Fld.other W107 (Fld.other W106 Ff (Or.inr (slot_ne (Or.inl tw13) (Or.inl tw20) (by decide) (t := (.array .int)) (t' := .int) (by decide) (by decide)))) (Or.inl (Exa.neArv (Exa.wr W106 E1) (V1.other W106 (Ne.symm (Exa.neArv E1 V1 tw1))) tw1))) (Or.inr (slot_ne (Or.inl tw13) (Or.inl tw22) (by decide) (t := (.array .int)) (t' := .int) (by decide) (by decide)))), (Fld.other W109 (Fld.other W107 Fw106 (Or.inl (Exa.neArv (Exa.wr W106 E1) (V1.other W106 (Ne.symm (Exa.neArv E1 V1 tw1))) tw1))) (Or.inr (slot_ne (Or.inl tw20) (Or.inl tw22) (by decide) (t := .int) (t' := .int) (by decide) (by decide)))), Fw109, (V107.other W109 (Ne.symm (Exa.neArv (Exa.wr W107 (Exa.wr W106 E1)) V107 tw1)))⟩

theorem ef_add_1_0 (m : MethodId) (x0 : Addr) (x1 : Int32) : entryFrame m #[(.ref x0), (.int x1)] 2 = mkF m 0 #[.val (.ref x0), .val (.int x1)] [] := by first | (simp [entryFrame, mkF, argsToLocals, Value.category]; done) | rfl
def Q_add_1_0 (Z : State) (a1 : Addr) (p1 : Int32) (u1 : Value) (u2 : Value) (b1 : Addr) (k1 : ClassId) (h0 : Heap) (n0 : Nat) (v : Option Value) (h : Heap) (L : List Loc) : Prop := v = none ∧ Fr n0 L ∧ Keep h0 h [a1, b1] ∧ Exa Z h a1 "com/example/lumping/lumping/numbers/ChunkedInts" ∧ Fld Z h a1 "com/example/lumping/lumping/numbers/ChunkedInts" "whole" "[I" u1 ∧ Fld Z h a1 "com/example/lumping/lumping/numbers/ChunkedInts" "chunks" "[[I" u2 ∧ Fld Z h a1 "com/example/lumping/lumping/numbers/ChunkedInts" "filling" "[I" (.ref b1) ∧ Fld Z h a1 "com/example/lumping/lumping/numbers/ChunkedInts" "filled" "I" (.int (1 : Int32)) ∧ Fld Z h a1 "com/example/lumping/lumping/numbers/ChunkedInts" "size" "I" (.int (1 : Int32)) ∧ Arv Z h b1 k1 .int (1 : Int32) [(.int p1)] (.int (0 : Int32))
set_option maxRecDepth 65536 in
set_option maxHeartbeats 40000000 in
theorem add_1_0 (l : Launch) (Z : State) (a0 : Array Value) (hw : ∀ d ∈ tables_1, d.before a0 Z = true) (ws : List Jvm.Cond) (a1 : Addr) (p1 : Int32) (u1 : Value) (u2 : Value) (b1 : Addr) (k1 : ClassId) (h0 : Heap) (n0 : Nat) (Z0 : n0 ≤ h0.size) (E1 : Exa Z h0 a1 "com/example/lumping/lumping/numbers/ChunkedInts") (Fw : Fld Z h0 a1 "com/example/lumping/lumping/numbers/ChunkedInts" "whole" "[I" u1) (Fc : Fld Z h0 a1 "com/example/lumping/lumping/numbers/ChunkedInts" "chunks" "[[I" u2) (Ff : Fld Z h0 a1 "com/example/lumping/lumping/numbers/ChunkedInts" "filling" "[I" (.ref b1)) (Fd : Fld Z h0 a1 "com/example/lumping/lumping/numbers/ChunkedInts" "filled" "I" (.int (0 : Int32))) (Fs : Fld Z h0 a1 "com/example/lumping/lumping/numbers/ChunkedInts" "size" "I" (.int (0 : Int32))) (V1 : Arv Z h0 b1 k1 .int (1 : Int32) [(.int (0 : Int32))] (.int (0 : Int32))) (G1 : n0 ≤ a1) (G2 : n0 ≤ b1) :
    MetFree l mth6 (head1 (Jvm.Cond.code mth6 prog_79_method_6_code 2 none :: ws) rom0) (fun a U => a = #[(.ref a1), (.int p1)] ∧ Z.Warmed39 U.vm ∧ U.heap = h0) (fun _ _ _ _ _ => True) (fun _ U o U' => ∃ v L, o = .returned v ∧ Q_add_1_0 Z a1 p1 u1 u2 b1 k1 h0 n0 v U'.heap L ∧ FrameEnd U o U' L rom0.cells rom0.slots) := by
  refine MetFree.of_bodySF (plainFor_of_name pnm1) hisR ?_
  intro p e s m args below meth c s₁ Bd hml0 hP hK
  obtain ⟨rfl, hZ, hh⟩ := hP
  have hx := Bd.exec
  have hby := Bd.bytes
  have hml : c.maxLocals = 2 := hml0
  have hown : s.vm.findClass "com/example/lumping/lumping/numbers/ChunkedInts" = some m.cls := findClass_of_methodNamed Bd.named
  have hnm := (name_of_methodNamed Bd.named Bd.method).1
  have X0 : Stand p l e rom0 s m #[(.ref a1), (.int p1)] below meth c s₁ [] 0 0 := Stand.of_body Bd
  have eh0 : s₁.heap = h0 := by rw [← hh, Bd.state]; rfl
  have N0 := Fr.nil n0
  have tw1 := hw _ (List.mem_of_getElem? (i := 1) rfl)
  have tw11 := hw _ (List.mem_of_getElem? (i := 11) rfl)
  have tw12 := hw _ (List.mem_of_getElem? (i := 12) rfl)
  have tw13 := hw _ (List.mem_of_getElem? (i := 13) rfl)
  have tw19 := hw _ (List.mem_of_getElem? (i := 19) rfl)
  have tw20 := hw _ (List.mem_of_getElem? (i := 20) rfl)
  have tw21 := hw _ (List.mem_of_getElem? (i := 21) rfl)
  have tw22 := hw _ (List.mem_of_getElem? (i := 22) rfl)
  have tw31 := hw _ (List.mem_of_getElem? (i := 31) rfl)
  show Goes p e below (Pq (Q_add_1_0 Z a1 p1 u1 u2 b1 k1 h0 n0) s rom0.cells rom0.slots) (s₁.setTop (entryFrame m #[(.ref a1), (.int p1)] 2))
  refine Goes.step (S' := s₁.setTop (mkF m 0 #[.val (.ref a1), .val (.int p1)] [])) (fun t k => castTop (ef_add_1_0 m a1 p1) k) ?_
  refine Goes.step (S' := s₁.setTop (mkF m 1 #[.val (.ref a1), .val (.int p1)] [(.ref a1)])) (fun t k => XS.aloadN X0.here hx rfl (hb hby d_prog_79_method_6_code_0) rfl rfl k) ?_
  obtain ⟨T101, X101, e101, st101⟩ := getF X0 hx hZ hown (host := "") (Or.inl tw19) Via.refl eh0 Fd (g := (mkF m 1 #[.val (.ref a1), .val (.int p1)] [(.ref a1)])) rfl rfl (hb hby d_prog_79_method_6_code_1)
  refine Goes.step (S' := T101.setTop (mkF m 5 #[.val (.ref a1), .val (.int p1)] [(.ref a1), (.int (0 : Int32))])) (fun t k => st101 _ (XS.aloadN X101.here hx rfl (hb hby d_prog_79_method_6_code_4) rfl rfl k)) ?_
  obtain ⟨T102, X102, e102, st102⟩ := getF X101 hx hZ hown (host := "") (Or.inl tw12) Via.refl e101 Ff (g := (mkF m 5 #[.val (.ref a1), .val (.int p1)] [(.ref a1), (.int (0 : Int32))])) rfl rfl (hb hby d_prog_79_method_6_code_5)
  refine Goes.step (S' := T102.setTop (mkF m 8 #[.val (.ref a1), .val (.int p1)] [(.ref b1), (.int (0 : Int32))])) (fun t k => st102 _ k) ?_
  obtain ⟨cl103, Ar103, qk103, Sz103, Nn103, Hs103, Gs103⟩ := id V1
  refine Goes.step (S' := T102.setTop (mkF m 9 #[.val (.ref a1), .val (.int p1)] [(.int (1 : Int32)), (.int (0 : Int32))])) (fun t k => X102.arraylength hx (by rw [e102]; exact Ar103.1) (State.isArrayOf_alike hZ.alike Ar103.2.1) (g := (mkF m 8 #[.val (.ref a1), .val (.int p1)] [(.ref b1), (.int (0 : Int32))])) rfl rfl (hb hby d_prog_79_method_6_code_8) _ (by rw [len_of Sz103 Nn103]; exact k)) ?_
  refine Goes.step (S' := T102.setTop (mkF m 17 #[.val (.ref a1), .val (.int p1)] [(.ref a1)])) (fun t k => XS.icmpYes X102.here hx rfl (pc0 := 9) (pc' := 16) rfl (hb hby d_prog_79_method_6_code_9) rfl (feq ((by decide) : ¬ ((0 : Int32) = (1 : Int32)))).2 (by decide) (by decide) (XS.aloadN X102.here hx rfl (hb hby d_prog_79_method_6_code_16) rfl rfl k)) ?_
  obtain ⟨T104, X104, e104, st104⟩ := getF X102 hx hZ hown (host := "") (Or.inl tw12) Via.refl e102 Ff (g := (mkF m 17 #[.val (.ref a1), .val (.int p1)] [(.ref a1)])) rfl rfl (hb hby d_prog_79_method_6_code_17)
  refine Goes.step (S' := T104.setTop (mkF m 22 #[.val (.ref a1), .val (.int p1)] [(.ref a1), (.ref a1), (.ref b1)])) (fun t k => st104 _ (XS.aloadN X104.here hx rfl (hb hby d_prog_79_method_6_code_20) rfl rfl (XS.dup X104.here hx rfl (hb hby d_prog_79_method_6_code_21) rfl rfl k))) ?_
  obtain ⟨T105, X105, e105, st105⟩ := getF X104 hx hZ hown (host := "") (Or.inl tw19) Via.refl e104 Fd (g := (mkF m 22 #[.val (.ref a1), .val (.int p1)] [(.ref a1), (.ref a1), (.ref b1)])) rfl rfl (hb hby d_prog_79_method_6_code_22)
  refine Goes.step (S' := T105.setTop (mkF m 28 #[.val (.ref a1), .val (.int p1)] [(.int ((0 : Int32) + (1 : Int32))), (.ref a1), (.int (0 : Int32)), (.ref b1)])) (fun t k => st105 _ (XS.dupX1 X105.here hx rfl (hb hby d_prog_79_method_6_code_25) rfl rfl rfl (XS.iconst X105.here hx rfl (hb hby d_prog_79_method_6_code_26) (XS.iadd X105.here hx rfl (hb hby d_prog_79_method_6_code_27) rfl k)))) ?_
  rw [show ((0 : Int32) + (1 : Int32)) = (1 : Int32) from by decide]
  obtain ⟨T106, h106, X106, e106, W106, st106⟩ := putF X105 hx hZ hown (host := "") (Or.inl tw19) Via.refl e105 Fd E1 (Or.inl tw20) tw1 (ty := .int) (by decide) rfl rfl (g := (mkF m 28 #[.val (.ref a1), .val (.int p1)] [(.int (1 : Int32)), (.ref a1), (.int (0 : Int32)), (.ref b1)])) rfl rfl (hb hby d_prog_79_method_6_code_28)
  have Fw106 : Fld Z h106 a1 "com/example/lumping/lumping/numbers/ChunkedInts" "filled" "I" (.int (1 : Int32)) := Fld.same W106 Fd
  have N106 := Fr.snoc X106 N0 G1
  refine Goes.step (S' := T106.setTop (mkF m 32 #[.val (.ref a1), .val (.int p1)] [(.int p1), (.int (0 : Int32)), (.ref b1)])) (fun t k => st106 _ (XS.iloadN X106.here hx rfl (hb hby d_prog_79_method_6_code_31) rfl k)) ?_
  obtain ⟨cl107, Ar107, qk107, Sz107, Nn107, Hs107, Gs107⟩ := id (V1.other W106 (Ne.symm (Exa.neArv E1 V1 tw1)))
  obtain ⟨T107, h107, X107, e107, W107, st107⟩ := stI X106 hx hZ e106 Ar107 (j := (0 : Int32)) (inb_of (j := (0 : Int32)) Sz107 ⟨by decide, by decide⟩) (g := (mkF m 32 #[.val (.ref a1), .val (.int p1)] [(.int p1), (.int (0 : Int32)), (.ref b1)])) rfl rfl (hb hby d_prog_79_method_6_code_32)
  have V107 : Arv Z h107 b1 k1 .int (1 : Int32) [(.int p1)] (.int (0 : Int32)) := Arv.set Ar107 qk107 Sz107 Nn107 Hs107 Gs107 rfl W107 0 rfl (Nat.le_of_ble_eq_true rfl)
  have N107 := Fr.snoc X107 N106 G2
  refine Goes.step (S' := T107.setTop (mkF m 35 #[.val (.ref a1), .val (.int p1)] [(.ref a1), (.ref a1)])) (fun t k => st107 _ (XS.aloadN X107.here hx rfl (hb hby d_prog_79_method_6_code_33) rfl rfl (XS.dup X107.here hx rfl (hb hby d_prog_79_method_6_code_34) rfl rfl k))) ?_
  obtain ⟨T108, X108, e108, st108⟩ := getF X107 hx hZ hown (host := "") (Or.inl tw21) Via.refl e107 (Fld.other W107 (Fld.other W106 Fs (Or.inr (slot_ne (Or.inl tw22) (Or.inl tw20) (by decide) (t := .int) (t' := .int) (by decide) (by decide)))) (Or.inl (Exa.neArv (Exa.wr W106 E1) (V1.other W106 (Ne.symm (Exa.neArv E1 V1 tw1))) tw1))) (g := (mkF m 35 #[.val (.ref a1), .val (.int p1)] [(.ref a1), (.ref a1)])) rfl rfl (hb hby d_prog_79_method_6_code_35)
  refine Goes.step (S' := T108.setTop (mkF m 40 #[.val (.ref a1), .val (.int p1)] [(.int ((0 : Int32) + (1 : Int32))), (.ref a1)])) (fun t k => st108 _ (XS.iconst X108.here hx rfl (hb hby d_prog_79_method_6_code_38) (XS.iadd X108.here hx rfl (hb hby d_prog_79_method_6_code_39) rfl k))) ?_
  rw [show ((0 : Int32) + (1 : Int32)) = (1 : Int32) from by decide]
  obtain ⟨T109, h109, X109, e109, W109, st109⟩ := putF X108 hx hZ hown (host := "") (Or.inl tw21) Via.refl e108 (Fld.other W107 (Fld.other W106 Fs (Or.inr (slot_ne (Or.inl tw22) (Or.inl tw20) (by decide) (t := .int) (t' := .int) (by decide) (by decide)))) (Or.inl (Exa.neArv (Exa.wr W106 E1) (V1.other W106 (Ne.symm (Exa.neArv E1 V1 tw1))) tw1))) (Exa.wr W107 (Exa.wr W106 E1)) (Or.inl tw22) tw1 (ty := .int) (by decide) rfl rfl (g := (mkF m 40 #[.val (.ref a1), .val (.int p1)] [(.int (1 : Int32)), (.ref a1)])) rfl rfl (hb hby d_prog_79_method_6_code_40)
  have Fw109 : Fld Z h109 a1 "com/example/lumping/lumping/numbers/ChunkedInts" "size" "I" (.int (1 : Int32)) := Fld.same W109 (Fld.other W107 (Fld.other W106 Fs (Or.inr (slot_ne (Or.inl tw22) (Or.inl tw20) (by decide) (t := .int) (t' := .int) (by decide) (by decide)))) (Or.inl (Exa.neArv (Exa.wr W106 E1) (V1.other W106 (Ne.symm (Exa.neArv E1 V1 tw1))) tw1)))
  have N109 := Fr.snoc X109 N107 G1
  refine Goes.step (S' := T109.setTop (mkF m 43 #[.val (.ref a1), .val (.int p1)] [])) (fun t k => st109 _ k) ?_
  refine Goes.leave (g := (mkF m 43 #[.val (.ref a1), .val (.int p1)] [])) X109 Bd.notSynchronized (v := none) (fun _ => rfl) (fun fs hr => X109.returnOut hx Bd.returns (hb hby d_prog_79_method_6_code_43) hr) e109 ?_ (by decide) (by decide)
  exact ⟨rfl, N109, ((((Keep.refl _ [a1, b1]).wr W106 (Or.inl (List.mem_of_getElem? (i := 0) rfl))).wr W107 (Or.inl (List.mem_of_getElem? (i := 1) rfl))).wr W109 (Or.inl (List.mem_of_getElem? (i := 0) rfl))), (Exa.wr W109 (Exa.wr W107 (Exa.wr W106 E1))), (Fld.other W109 (Fld.other W107 (Fld.other W106 Fw (Or.inr (slot_ne (Or.inl tw11) (Or.inl tw20) (by decide) (t := (.array .int)) (t' := .int) (by decide) (by decide)))) (Or.inl (Exa.neArv (Exa.wr W106 E1) (V1.other W106 (Ne.symm (Exa.neArv E1 V1 tw1))) tw1))) (Or.inr (slot_ne (Or.inl tw11) (Or.inl tw22) (by decide) (t := (.array .int)) (t' := .int) (by decide) (by decide)))), (Fld.other W109 (Fld.other W107 (Fld.other W106 Fc (Or.inr (slot_ne (Or.inl tw31) (Or.inl tw20) (by decide) (t := (.array (.array .int))) (t' := .int) (by decide) (by decide)))) (Or.inl (Exa.neArv (Exa.wr W106 E1) (V1.other W106 (Ne.symm (Exa.neArv E1 V1 tw1))) tw1))) (Or.inr (slot_ne (Or.inl tw31) (Or.inl tw22) (by decide) (t := (.array (.array .int))) (t' := .int) (by decide) (by decide)))), (Fld.other W109 (Fld.other W107 (Fld.other W106 Ff (Or.inr (slot_ne (Or.inl tw13) (Or.inl tw20) (by decide) (t := (.array .int)) (t' := .int) (by decide) (by decide)))) (Or.inl (Exa.neArv (Exa.wr W106 E1) (V1.other W106 (Ne.symm (Exa.neArv E1 V1 tw1))) tw1))) (Or.inr (slot_ne (Or.inl tw13) (Or.inl tw22) (by decide) (t := (.array .int)) (t' := .int) (by decide) (by decide)))), (Fld.other W109 (Fld.other W107 Fw106 (Or.inl (Exa.neArv (Exa.wr W106 E1) (V1.other W106 (Ne.symm (Exa.neArv E1 V1 tw1))) tw1))) (Or.inr (slot_ne (Or.inl tw20) (Or.inl tw22) (by decide) (t := .int) (t' := .int) (by decide) (by decide)))), Fw109, (V107.other W109 (Ne.symm (Exa.neArv (Exa.wr W107 (Exa.wr W106 E1)) V107 tw1)))⟩

theorem ef_set_w0 (m : MethodId) (x0 : Addr) (x1 : Int32) (x2 : Int32) : entryFrame m #[(.ref x0), (.int x1), (.int x2)] 3 = mkF m 0 #[.val (.ref x0), .val (.int x1), .val (.int x2)] [] := by first | (simp [entryFrame, mkF, argsToLocals, Value.category]; done) | rfl
def Q_set_w0 (Z : State) (a1 : Addr) (p2 : Int32) (b1 : Addr) (k1 : ClassId) (e0 : Int32) (e1 : Int32) (e2 : Int32) (h0 : Heap) (n0 : Nat) (v : Option Value) (h : Heap) (L : List Loc) : Prop := v = none ∧ Fr n0 L ∧ Keep h0 h [b1] ∧ Arv Z h b1 k1 .int (3 : Int32) [(.int p2), (.int e1), (.int e2)] (.int (0 : Int32))
set_option maxRecDepth 65536 in
set_option maxHeartbeats 40000000 in
theorem set_w0 (l : Launch) (Z : State) (a0 : Array Value) (hw : ∀ d ∈ tables_1, d.before a0 Z = true) (ws : List Jvm.Cond) (a1 : Addr) (p2 : Int32) (b1 : Addr) (k1 : ClassId) (e0 : Int32) (e1 : Int32) (e2 : Int32) (h0 : Heap) (n0 : Nat) (Z0 : n0 ≤ h0.size) (Fw : Fld Z h0 a1 "com/example/lumping/lumping/numbers/ChunkedInts" "whole" "[I" (.ref b1)) (V1 : Arv Z h0 b1 k1 .int (3 : Int32) [(.int e0), (.int e1), (.int e2)] (.int (0 : Int32))) (G2 : n0 ≤ b1) :
    MetFree l mth7 (head1 (Jvm.Cond.code mth7 prog_79_method_5_code 3 none :: ws) rom0) (fun a U => a = #[(.ref a1), (.int (0 : Int32)), (.int p2)] ∧ Z.Warmed39 U.vm ∧ U.heap = h0) (fun _ _ _ _ _ => True) (fun _ U o U' => ∃ v L, o = .returned v ∧ Q_set_w0 Z a1 p2 b1 k1 e0 e1 e2 h0 n0 v U'.heap L ∧ FrameEnd U o U' L rom0.cells rom0.slots) := by
  refine MetFree.of_bodySF (plainFor_of_name pnm1) hisR ?_
  intro p e s m args below meth c s₁ Bd hml0 hP hK
  obtain ⟨rfl, hZ, hh⟩ := hP
  have hx := Bd.exec
  have hby := Bd.bytes
  have hml : c.maxLocals = 3 := hml0
  have hown : s.vm.findClass "com/example/lumping/lumping/numbers/ChunkedInts" = some m.cls := findClass_of_methodNamed Bd.named
  have hnm := (name_of_methodNamed Bd.named Bd.method).1
  have X0 : Stand p l e rom0 s m #[(.ref a1), (.int (0 : Int32)), (.int p2)] below meth c s₁ [] 0 0 := Stand.of_body Bd
  have eh0 : s₁.heap = h0 := by rw [← hh, Bd.state]; rfl
  have N0 := Fr.nil n0
  have tw10 := hw _ (List.mem_of_getElem? (i := 10) rfl)
  show Goes p e below (Pq (Q_set_w0 Z a1 p2 b1 k1 e0 e1 e2 h0 n0) s rom0.cells rom0.slots) (s₁.setTop (entryFrame m #[(.ref a1), (.int (0 : Int32)), (.int p2)] 3))
  refine Goes.step (S' := s₁.setTop (mkF m 0 #[.val (.ref a1), .val (.int (0 : Int32)), .val (.int p2)] [])) (fun t k => castTop (ef_set_w0 m a1 (0 : Int32) p2) k) ?_
  refine Goes.step (S' := s₁.setTop (mkF m 1 #[.val (.ref a1), .val (.int (0 : Int32)), .val (.int p2)] [(.ref a1)])) (fun t k => XS.aloadN X0.here hx rfl (hb hby d_prog_79_method_5_code_0) rfl rfl k) ?_
  obtain ⟨T101, X101, e101, st101⟩ := getF X0 hx hZ hown (host := "") (Or.inl tw10) Via.refl eh0 Fw (g := (mkF m 1 #[.val (.ref a1), .val (.int (0 : Int32)), .val (.int p2)] [(.ref a1)])) rfl rfl (hb hby d_prog_79_method_5_code_1)
  refine Goes.step (S' := T101.setTop (mkF m 8 #[.val (.ref a1), .val (.int (0 : Int32)), .val (.int p2)] [(.ref a1)])) (fun t k => st101 _ (XS.ifnullNo X101.here hx rfl (hb hby d_prog_79_method_5_code_4) rfl (XS.aloadN X101.here hx rfl (hb hby d_prog_79_method_5_code_7) rfl rfl k))) ?_
  obtain ⟨T102, X102, e102, st102⟩ := getF X101 hx hZ hown (host := "") (Or.inl tw10) Via.refl e101 Fw (g := (mkF m 8 #[.val (.ref a1), .val (.int (0 : Int32)), .val (.int p2)] [(.ref a1)])) rfl rfl (hb hby d_prog_79_method_5_code_8)
  refine Goes.step (S' := T102.setTop (mkF m 13 #[.val (.ref a1), .val (.int (0 : Int32)), .val (.int p2)] [(.int p2), (.int (0 : Int32)), (.ref b1)])) (fun t k => st102 _ (XS.iloadN X102.here hx rfl (hb hby d_prog_79_method_5_code_11) rfl (XS.iloadN X102.here hx rfl (hb hby d_prog_79_method_5_code_12) rfl k))) ?_
  obtain ⟨cl103, Ar103, qk103, Sz103, Nn103, Hs103, Gs103⟩ := id V1
  obtain ⟨T103, h103, X103, e103, W103, st103⟩ := stI X102 hx hZ e102 Ar103 (j := (0 : Int32)) (inb_of (j := (0 : Int32)) Sz103 ⟨by decide, by decide⟩) (g := (mkF m 13 #[.val (.ref a1), .val (.int (0 : Int32)), .val (.int p2)] [(.int p2), (.int (0 : Int32)), (.ref b1)])) rfl rfl (hb hby d_prog_79_method_5_code_13)
  have V103 : Arv Z h103 b1 k1 .int (3 : Int32) [(.int p2), (.int e1), (.int e2)] (.int (0 : Int32)) := Arv.set Ar103 qk103 Sz103 Nn103 Hs103 Gs103 rfl W103 0 rfl (Nat.le_of_ble_eq_true rfl)
  have N103 := Fr.snoc X103 N0 G2
  refine Goes.step (S' := T103.setTop (mkF m 32 #[.val (.ref a1), .val (.int (0 : Int32)), .val (.int p2)] [])) (fun t k => st103 _ (XS.goto X103.here hx rfl (pc0 := 14) (pc' := 32) rfl (hb hby d_prog_79_method_5_code_14) (by decide) (by decide) k)) ?_
  refine Goes.leave (g := (mkF m 32 #[.val (.ref a1), .val (.int (0 : Int32)), .val (.int p2)] [])) X103 Bd.notSynchronized (v := none) (fun _ => rfl) (fun fs hr => X103.returnOut hx Bd.returns (hb hby d_prog_79_method_5_code_32) hr) e103 ?_ (by decide) (by decide)
  exact ⟨rfl, N103, ((Keep.refl _ [b1]).wr W103 (Or.inl (List.mem_of_getElem? (i := 0) rfl))), V103⟩

theorem ef_set_c0 (m : MethodId) (x0 : Addr) (x1 : Int32) (x2 : Int32) : entryFrame m #[(.ref x0), (.int x1), (.int x2)] 3 = mkF m 0 #[.val (.ref x0), .val (.int x1), .val (.int x2)] [] := by first | (simp [entryFrame, mkF, argsToLocals, Value.category]; done) | rfl
def Q_set_c0 (Z : State) (a1 : Addr) (p2 : Int32) (c1 : Addr) (kc : ClassId) (b1 : Addr) (k1 : ClassId) (e0 : Int32) (e1 : Int32) (e2 : Int32) (h0 : Heap) (n0 : Nat) (v : Option Value) (h : Heap) (L : List Loc) : Prop := v = none ∧ Fr n0 L ∧ Keep h0 h [b1] ∧ Arv Z h b1 k1 .int (16 : Int32) [(.int p2), (.int e1), (.int e2), (.int (0 : Int32)), (.int (0 : Int32)), (.int (0 : Int32)), (.int (0 : Int32)), (.int (0 : Int32)), (.int (0 : Int32)), (.int (0 : Int32)), (.int (0 : Int32)), (.int (0 : Int32)), (.int (0 : Int32)), (.int (0 : Int32)), (.int (0 : Int32)), (.int (0 : Int32))] (.int (0 : Int32))
set_option maxRecDepth 65536 in
set_option maxHeartbeats 40000000 in
theorem set_c0 (l : Launch) (Z : State) (a0 : Array Value) (hw : ∀ d ∈ tables_1, d.before a0 Z = true) (ws : List Jvm.Cond) (a1 : Addr) (p2 : Int32) (c1 : Addr) (kc : ClassId) (b1 : Addr) (k1 : ClassId) (e0 : Int32) (e1 : Int32) (e2 : Int32) (h0 : Heap) (n0 : Nat) (Z0 : n0 ≤ h0.size) (Fw : Fld Z h0 a1 "com/example/lumping/lumping/numbers/ChunkedInts" "whole" "[I" .null) (Fc : Fld Z h0 a1 "com/example/lumping/lumping/numbers/ChunkedInts" "chunks" "[[I" (.ref c1)) (V2 : Arv Z h0 c1 kc (.array .int) (1 : Int32) [(.ref b1)] .null) (V1 : Arv Z h0 b1 k1 .int (16 : Int32) [(.int e0), (.int e1), (.int e2), (.int (0 : Int32)), (.int (0 : Int32)), (.int (0 : Int32)), (.int (0 : Int32)), (.int (0 : Int32)), (.int (0 : Int32)), (.int (0 : Int32)), (.int (0 : Int32)), (.int (0 : Int32)), (.int (0 : Int32)), (.int (0 : Int32)), (.int (0 : Int32)), (.int (0 : Int32))] (.int (0 : Int32))) (G2 : n0 ≤ b1) :
    MetFree l mth7 (head1 (Jvm.Cond.code mth7 prog_79_method_5_code 3 none :: ws) rom0) (fun a U => a = #[(.ref a1), (.int (0 : Int32)), (.int p2)] ∧ Z.Warmed39 U.vm ∧ U.heap = h0) (fun _ _ _ _ _ => True) (fun _ U o U' => ∃ v L, o = .returned v ∧ Q_set_c0 Z a1 p2 c1 kc b1 k1 e0 e1 e2 h0 n0 v U'.heap L ∧ FrameEnd U o U' L rom0.cells rom0.slots) := by
  refine MetFree.of_bodySF (plainFor_of_name pnm1) hisR ?_
  intro p e s m args below meth c s₁ Bd hml0 hP hK
  obtain ⟨rfl, hZ, hh⟩ := hP
  have hx := Bd.exec
  have hby := Bd.bytes
  have hml : c.maxLocals = 3 := hml0
  have hown : s.vm.findClass "com/example/lumping/lumping/numbers/ChunkedInts" = some m.cls := findClass_of_methodNamed Bd.named
  have hnm := (name_of_methodNamed Bd.named Bd.method).1
  have X0 : Stand p l e rom0 s m #[(.ref a1), (.int (0 : Int32)), (.int p2)] below meth c s₁ [] 0 0 := Stand.of_body Bd
  have eh0 : s₁.heap = h0 := by rw [← hh, Bd.state]; rfl
  have N0 := Fr.nil n0
  have tw10 := hw _ (List.mem_of_getElem? (i := 10) rfl)
  have tw27 := hw _ (List.mem_of_getElem? (i := 27) rfl)
  have tw30 := hw _ (List.mem_of_getElem? (i := 30) rfl)
  show Goes p e below (Pq (Q_set_c0 Z a1 p2 c1 kc b1 k1 e0 e1 e2 h0 n0) s rom0.cells rom0.slots) (s₁.setTop (entryFrame m #[(.ref a1), (.int (0 : Int32)), (.int p2)] 3))
  refine Goes.step (S' := s₁.setTop (mkF m 0 #[.val (.ref a1), .val (.int (0 : Int32)), .val (.int p2)] [])) (fun t k => castTop (ef_set_c0 m a1 (0 : Int32) p2) k) ?_
  refine Goes.step (S' := s₁.setTop (mkF m 1 #[.val (.ref a1), .val (.int (0 : Int32)), .val (.int p2)] [(.ref a1)])) (fun t k => XS.aloadN X0.here hx rfl (hb hby d_prog_79_method_5_code_0) rfl rfl k) ?_
  obtain ⟨T101, X101, e101, st101⟩ := getF X0 hx hZ hown (host := "") (Or.inl tw10) Via.refl eh0 Fw (g := (mkF m 1 #[.val (.ref a1), .val (.int (0 : Int32)), .val (.int p2)] [(.ref a1)])) rfl rfl (hb hby d_prog_79_method_5_code_1)
  refine Goes.step (S' := T101.setTop (mkF m 18 #[.val (.ref a1), .val (.int (0 : Int32)), .val (.int p2)] [(.ref a1)])) (fun t k => st101 _ (XS.ifnullYes X101.here hx rfl (pc0 := 4) (pc' := 17) rfl (hb hby d_prog_79_method_5_code_4) rfl (by decide) (by decide) (XS.aloadN X101.here hx rfl (hb hby d_prog_79_method_5_code_17) rfl rfl k))) ?_
  obtain ⟨T102, X102, e102, st102⟩ := getF X101 hx hZ hown (host := "") (Or.inl tw30) Via.refl e101 Fc (g := (mkF m 18 #[.val (.ref a1), .val (.int (0 : Int32)), .val (.int p2)] [(.ref a1)])) rfl rfl (hb hby d_prog_79_method_5_code_18)
  refine Goes.step (S' := T102.setTop (mkF m 25 #[.val (.ref a1), .val (.int (0 : Int32)), .val (.int p2)] [(.int ((0 : Int32) / (1048572 : Int32))), (.ref c1)])) (fun t k => st102 _ (XS.iloadN X102.here hx rfl (hb hby d_prog_79_method_5_code_21) rfl (X102.ldcInt hx hown (mvT hZ tw27) (g := (mkF m 22 #[.val (.ref a1), .val (.int (0 : Int32)), .val (.int p2)] [(.int (0 : Int32)), (.ref c1)])) rfl (hb hby d_prog_79_method_5_code_22) _ (XS.idiv X102.here hx rfl (hb hby d_prog_79_method_5_code_24) rfl (by decide) k)))) ?_
  rw [show ((0 : Int32) / (1048572 : Int32)) = (0 : Int32) from by decide]
  obtain ⟨cl103, Ar103, qk103, Sz103, Nn103, Hs103, Gs103⟩ := id V2
  have hin103 := (inb_of (j := (0 : Int32)) Sz103 ⟨by decide, by decide⟩)
  refine Goes.step (S' := T102.setTop (mkF m 30 #[.val (.ref a1), .val (.int (0 : Int32)), .val (.int p2)] [(.int ((0 : Int32) % (1048572 : Int32))), (.ref b1)])) (fun t k => X102.aaload hx (j := (0 : Int32)) (v := (.ref b1)) (by rw [e102]; exact Ar103.1) (State.isArrayOf_alike hZ.alike Ar103.2.1) rfl Ar103.2.2 hin103 (Has.at Hs103 hin103 rfl) (g := (mkF m 25 #[.val (.ref a1), .val (.int (0 : Int32)), .val (.int p2)] [(.int (0 : Int32)), (.ref c1)])) rfl rfl (hb hby d_prog_79_method_5_code_25) _ (XS.iloadN X102.here hx rfl (hb hby d_prog_79_method_5_code_26) rfl (X102.ldcInt hx hown (mvT hZ tw27) (g := (mkF m 27 #[.val (.ref a1), .val (.int (0 : Int32)), .val (.int p2)] [(.int (0 : Int32)), (.ref b1)])) rfl (hb hby d_prog_79_method_5_code_27) _ (iremM X102 hx rfl (hb hby d_prog_79_method_5_code_29) rfl (by decide) k)))) ?_
  rw [show ((0 : Int32) % (1048572 : Int32)) = (0 : Int32) from by decide]
  refine Goes.step (S' := T102.setTop (mkF m 31 #[.val (.ref a1), .val (.int (0 : Int32)), .val (.int p2)] [(.int p2), (.int (0 : Int32)), (.ref b1)])) (fun t k => XS.iloadN X102.here hx rfl (hb hby d_prog_79_method_5_code_30) rfl k) ?_
  obtain ⟨cl104, Ar104, qk104, Sz104, Nn104, Hs104, Gs104⟩ := id V1
  obtain ⟨T104, h104, X104, e104, W104, st104⟩ := stI X102 hx hZ e102 Ar104 (j := (0 : Int32)) (inb_of (j := (0 : Int32)) Sz104 ⟨by decide, by decide⟩) (g := (mkF m 31 #[.val (.ref a1), .val (.int (0 : Int32)), .val (.int p2)] [(.int p2), (.int (0 : Int32)), (.ref b1)])) rfl rfl (hb hby d_prog_79_method_5_code_31)
  have V104 : Arv Z h104 b1 k1 .int (16 : Int32) [(.int p2), (.int e1), (.int e2), (.int (0 : Int32)), (.int (0 : Int32)), (.int (0 : Int32)), (.int (0 : Int32)), (.int (0 : Int32)), (.int (0 : Int32)), (.int (0 : Int32)), (.int (0 : Int32)), (.int (0 : Int32)), (.int (0 : Int32)), (.int (0 : Int32)), (.int (0 : Int32)), (.int (0 : Int32))] (.int (0 : Int32)) := Arv.set Ar104 qk104 Sz104 Nn104 Hs104 Gs104 rfl W104 0 rfl (Nat.le_of_ble_eq_true rfl)
  have N104 := Fr.snoc X104 N0 G2
  refine Goes.step (S' := T104.setTop (mkF m 32 #[.val (.ref a1), .val (.int (0 : Int32)), .val (.int p2)] [])) (fun t k => st104 _ k) ?_
  refine Goes.leave (g := (mkF m 32 #[.val (.ref a1), .val (.int (0 : Int32)), .val (.int p2)] [])) X104 Bd.notSynchronized (v := none) (fun _ => rfl) (fun fs hr => X104.returnOut hx Bd.returns (hb hby d_prog_79_method_5_code_32) hr) e104 ?_ (by decide) (by decide)
  exact ⟨rfl, N104, ((Keep.refl _ [b1]).wr W104 (Or.inl (List.mem_of_getElem? (i := 0) rfl))), V104⟩

theorem ef_get_w0 (m : MethodId) (x0 : Addr) (x1 : Int32) : entryFrame m #[(.ref x0), (.int x1)] 2 = mkF m 0 #[.val (.ref x0), .val (.int x1)] [] := by first | (simp [entryFrame, mkF, argsToLocals, Value.category]; done) | rfl
def Q_get_w0 (Z : State) (a1 : Addr) (b1 : Addr) (k1 : ClassId) (e0 : Int32) (e1 : Int32) (e2 : Int32) (h0 : Heap) (n0 : Nat) (v : Option Value) (h : Heap) (L : List Loc) : Prop := v = some (.int e0) ∧ Fr n0 L ∧ h = h0
set_option maxRecDepth 65536 in
set_option maxHeartbeats 40000000 in
theorem get_w0 (l : Launch) (Z : State) (a0 : Array Value) (hw : ∀ d ∈ tables_1, d.before a0 Z = true) (ws : List Jvm.Cond) (a1 : Addr) (b1 : Addr) (k1 : ClassId) (e0 : Int32) (e1 : Int32) (e2 : Int32) (h0 : Heap) (n0 : Nat) (Z0 : n0 ≤ h0.size) (Fw : Fld Z h0 a1 "com/example/lumping/lumping/numbers/ChunkedInts" "whole" "[I" (.ref b1)) (V1 : Arv Z h0 b1 k1 .int (3 : Int32) [(.int e0), (.int e1), (.int e2)] (.int (0 : Int32))) :
    MetFree l mth8 (head1 (Jvm.Cond.code mth8 prog_79_method_4_code 2 (some .int) :: ws) rom0) (fun a U => a = #[(.ref a1), (.int (0 : Int32))] ∧ Z.Warmed39 U.vm ∧ U.heap = h0) (fun _ _ _ _ _ => True) (fun _ U o U' => ∃ v L, o = .returned v ∧ Q_get_w0 Z a1 b1 k1 e0 e1 e2 h0 n0 v U'.heap L ∧ FrameEnd U o U' L rom0.cells rom0.slots) := by
  refine MetFree.of_bodySF (plainFor_of_name pnm1) hisR ?_
  intro p e s m args below meth c s₁ Bd hml0 hP hK
  obtain ⟨rfl, hZ, hh⟩ := hP
  have hx := Bd.exec
  have hby := Bd.bytes
  have hml : c.maxLocals = 2 := hml0
  have hown : s.vm.findClass "com/example/lumping/lumping/numbers/ChunkedInts" = some m.cls := findClass_of_methodNamed Bd.named
  have hnm := (name_of_methodNamed Bd.named Bd.method).1
  have X0 : Stand p l e rom0 s m #[(.ref a1), (.int (0 : Int32))] below meth c s₁ [] 0 0 := Stand.of_body Bd
  have eh0 : s₁.heap = h0 := by rw [← hh, Bd.state]; rfl
  have N0 := Fr.nil n0
  have tw10 := hw _ (List.mem_of_getElem? (i := 10) rfl)
  show Goes p e below (Pq (Q_get_w0 Z a1 b1 k1 e0 e1 e2 h0 n0) s rom0.cells rom0.slots) (s₁.setTop (entryFrame m #[(.ref a1), (.int (0 : Int32))] 2))
  refine Goes.step (S' := s₁.setTop (mkF m 0 #[.val (.ref a1), .val (.int (0 : Int32))] [])) (fun t k => castTop (ef_get_w0 m a1 (0 : Int32)) k) ?_
  refine Goes.step (S' := s₁.setTop (mkF m 1 #[.val (.ref a1), .val (.int (0 : Int32))] [(.ref a1)])) (fun t k => XS.aloadN X0.here hx rfl (hb hby d_prog_79_method_4_code_0) rfl rfl k) ?_
  obtain ⟨T101, X101, e101, st101⟩ := getF X0 hx hZ hown (host := "") (Or.inl tw10) Via.refl eh0 Fw (g := (mkF m 1 #[.val (.ref a1), .val (.int (0 : Int32))] [(.ref a1)])) rfl rfl (hb hby d_prog_79_method_4_code_1)
  refine Goes.step (S' := T101.setTop (mkF m 8 #[.val (.ref a1), .val (.int (0 : Int32))] [(.ref a1)])) (fun t k => st101 _ (XS.ifnullNo X101.here hx rfl (hb hby d_prog_79_method_4_code_4) rfl (XS.aloadN X101.here hx rfl (hb hby d_prog_79_method_4_code_7) rfl rfl k))) ?_
  obtain ⟨T102, X102, e102, st102⟩ := getF X101 hx hZ hown (host := "") (Or.inl tw10) Via.refl e101 Fw (g := (mkF m 8 #[.val (.ref a1), .val (.int (0 : Int32))] [(.ref a1)])) rfl rfl (hb hby d_prog_79_method_4_code_8)
  refine Goes.step (S' := T102.setTop (mkF m 12 #[.val (.ref a1), .val (.int (0 : Int32))] [(.int (0 : Int32)), (.ref b1)])) (fun t k => st102 _ (XS.iloadN X102.here hx rfl (hb hby d_prog_79_method_4_code_11) rfl k)) ?_
  obtain ⟨cl103, Ar103, qk103, Sz103, Nn103, Hs103, Gs103⟩ := id V1
  have hin103 := (inb_of (j := (0 : Int32)) Sz103 ⟨by decide, by decide⟩)
  refine Goes.step (S' := T102.setTop (mkF m 30 #[.val (.ref a1), .val (.int (0 : Int32))] [(.int e0)])) (fun t k => X102.iaload hx (j := (0 : Int32)) (v := (.int e0)) (by rw [e102]; exact Ar103.1) (State.isArrayOf_alike hZ.alike Ar103.2.1) Ar103.2.2 hin103 (Has.at Hs103 hin103 rfl) (g := (mkF m 12 #[.val (.ref a1), .val (.int (0 : Int32))] [(.int (0 : Int32)), (.ref b1)])) rfl rfl (hb hby d_prog_79_method_4_code_12) _ (XS.goto X102.here hx rfl (pc0 := 13) (pc' := 30) rfl (hb hby d_prog_79_method_4_code_13) (by decide) (by decide) k)) ?_
  refine Goes.leave (g := (mkF m 30 #[.val (.ref a1), .val (.int (0 : Int32))] [(.int e0)])) X102 Bd.notSynchronized (v := (some (.int e0))) (fun h => by rw [Bd.returns] at h; cases h) (fun fs hr => retI X102 hx Bd.returns (hb hby d_prog_79_method_4_code_30) hr) e102 ?_ (by decide) (by decide)
  exact ⟨rfl, N0, rfl⟩

theorem ef_get_c0 (m : MethodId) (x0 : Addr) (x1 : Int32) : entryFrame m #[(.ref x0), (.int x1)] 2 = mkF m 0 #[.val (.ref x0), .val (.int x1)] [] := by first | (simp [entryFrame, mkF, argsToLocals, Value.category]; done) | rfl
def Q_get_c0 (Z : State) (a1 : Addr) (c1 : Addr) (kc : ClassId) (b1 : Addr) (k1 : ClassId) (e0 : Int32) (e1 : Int32) (e2 : Int32) (h0 : Heap) (n0 : Nat) (v : Option Value) (h : Heap) (L : List Loc) : Prop := v = some (.int e0) ∧ Fr n0 L ∧ h = h0
set_option maxRecDepth 65536 in
set_option maxHeartbeats 40000000 in
theorem get_c0 (l : Launch) (Z : State) (a0 : Array Value) (hw : ∀ d ∈ tables_1, d.before a0 Z = true) (ws : List Jvm.Cond) (a1 : Addr) (c1 : Addr) (kc : ClassId) (b1 : Addr) (k1 : ClassId) (e0 : Int32) (e1 : Int32) (e2 : Int32) (h0 : Heap) (n0 : Nat) (Z0 : n0 ≤ h0.size) (Fw : Fld Z h0 a1 "com/example/lumping/lumping/numbers/ChunkedInts" "whole" "[I" .null) (Fc : Fld Z h0 a1 "com/example/lumping/lumping/numbers/ChunkedInts" "chunks" "[[I" (.ref c1)) (V2 : Arv Z h0 c1 kc (.array .int) (1 : Int32) [(.ref b1)] .null) (V1 : Arv Z h0 b1 k1 .int (16 : Int32) [(.int e0), (.int e1), (.int e2), (.int (0 : Int32)), (.int (0 : Int32)), (.int (0 : Int32)), (.int (0 : Int32)), (.int (0 : Int32)), (.int (0 : Int32)), (.int (0 : Int32)), (.int (0 : Int32)), (.int (0 : Int32)), (.int (0 : Int32)), (.int (0 : Int32)), (.int (0 : Int32)), (.int (0 : Int32))] (.int (0 : Int32))) :
    MetFree l mth8 (head1 (Jvm.Cond.code mth8 prog_79_method_4_code 2 (some .int) :: ws) rom0) (fun a U => a = #[(.ref a1), (.int (0 : Int32))] ∧ Z.Warmed39 U.vm ∧ U.heap = h0) (fun _ _ _ _ _ => True) (fun _ U o U' => ∃ v L, o = .returned v ∧ Q_get_c0 Z a1 c1 kc b1 k1 e0 e1 e2 h0 n0 v U'.heap L ∧ FrameEnd U o U' L rom0.cells rom0.slots) := by
  refine MetFree.of_bodySF (plainFor_of_name pnm1) hisR ?_
  intro p e s m args below meth c s₁ Bd hml0 hP hK
  obtain ⟨rfl, hZ, hh⟩ := hP
  have hx := Bd.exec
  have hby := Bd.bytes
  have hml : c.maxLocals = 2 := hml0
  have hown : s.vm.findClass "com/example/lumping/lumping/numbers/ChunkedInts" = some m.cls := findClass_of_methodNamed Bd.named
  have hnm := (name_of_methodNamed Bd.named Bd.method).1
  have X0 : Stand p l e rom0 s m #[(.ref a1), (.int (0 : Int32))] below meth c s₁ [] 0 0 := Stand.of_body Bd
  have eh0 : s₁.heap = h0 := by rw [← hh, Bd.state]; rfl
  have N0 := Fr.nil n0
  have tw10 := hw _ (List.mem_of_getElem? (i := 10) rfl)
  have tw27 := hw _ (List.mem_of_getElem? (i := 27) rfl)
  have tw30 := hw _ (List.mem_of_getElem? (i := 30) rfl)
  show Goes p e below (Pq (Q_get_c0 Z a1 c1 kc b1 k1 e0 e1 e2 h0 n0) s rom0.cells rom0.slots) (s₁.setTop (entryFrame m #[(.ref a1), (.int (0 : Int32))] 2))
  refine Goes.step (S' := s₁.setTop (mkF m 0 #[.val (.ref a1), .val (.int (0 : Int32))] [])) (fun t k => castTop (ef_get_c0 m a1 (0 : Int32)) k) ?_
  refine Goes.step (S' := s₁.setTop (mkF m 1 #[.val (.ref a1), .val (.int (0 : Int32))] [(.ref a1)])) (fun t k => XS.aloadN X0.here hx rfl (hb hby d_prog_79_method_4_code_0) rfl rfl k) ?_
  obtain ⟨T101, X101, e101, st101⟩ := getF X0 hx hZ hown (host := "") (Or.inl tw10) Via.refl eh0 Fw (g := (mkF m 1 #[.val (.ref a1), .val (.int (0 : Int32))] [(.ref a1)])) rfl rfl (hb hby d_prog_79_method_4_code_1)
  refine Goes.step (S' := T101.setTop (mkF m 17 #[.val (.ref a1), .val (.int (0 : Int32))] [(.ref a1)])) (fun t k => st101 _ (XS.ifnullYes X101.here hx rfl (pc0 := 4) (pc' := 16) rfl (hb hby d_prog_79_method_4_code_4) rfl (by decide) (by decide) (XS.aloadN X101.here hx rfl (hb hby d_prog_79_method_4_code_16) rfl rfl k))) ?_
  obtain ⟨T102, X102, e102, st102⟩ := getF X101 hx hZ hown (host := "") (Or.inl tw30) Via.refl e101 Fc (g := (mkF m 17 #[.val (.ref a1), .val (.int (0 : Int32))] [(.ref a1)])) rfl rfl (hb hby d_prog_79_method_4_code_17)
  refine Goes.step (S' := T102.setTop (mkF m 24 #[.val (.ref a1), .val (.int (0 : Int32))] [(.int ((0 : Int32) / (1048572 : Int32))), (.ref c1)])) (fun t k => st102 _ (XS.iloadN X102.here hx rfl (hb hby d_prog_79_method_4_code_20) rfl (X102.ldcInt hx hown (mvT hZ tw27) (g := (mkF m 21 #[.val (.ref a1), .val (.int (0 : Int32))] [(.int (0 : Int32)), (.ref c1)])) rfl (hb hby d_prog_79_method_4_code_21) _ (XS.idiv X102.here hx rfl (hb hby d_prog_79_method_4_code_23) rfl (by decide) k)))) ?_
  rw [show ((0 : Int32) / (1048572 : Int32)) = (0 : Int32) from by decide]
  obtain ⟨cl103, Ar103, qk103, Sz103, Nn103, Hs103, Gs103⟩ := id V2
  have hin103 := (inb_of (j := (0 : Int32)) Sz103 ⟨by decide, by decide⟩)
  refine Goes.step (S' := T102.setTop (mkF m 29 #[.val (.ref a1), .val (.int (0 : Int32))] [(.int ((0 : Int32) % (1048572 : Int32))), (.ref b1)])) (fun t k => X102.aaload hx (j := (0 : Int32)) (v := (.ref b1)) (by rw [e102]; exact Ar103.1) (State.isArrayOf_alike hZ.alike Ar103.2.1) rfl Ar103.2.2 hin103 (Has.at Hs103 hin103 rfl) (g := (mkF m 24 #[.val (.ref a1), .val (.int (0 : Int32))] [(.int (0 : Int32)), (.ref c1)])) rfl rfl (hb hby d_prog_79_method_4_code_24) _ (XS.iloadN X102.here hx rfl (hb hby d_prog_79_method_4_code_25) rfl (X102.ldcInt hx hown (mvT hZ tw27) (g := (mkF m 26 #[.val (.ref a1), .val (.int (0 : Int32))] [(.int (0 : Int32)), (.ref b1)])) rfl (hb hby d_prog_79_method_4_code_26) _ (iremM X102 hx rfl (hb hby d_prog_79_method_4_code_28) rfl (by decide) k)))) ?_
  rw [show ((0 : Int32) % (1048572 : Int32)) = (0 : Int32) from by decide]
  obtain ⟨cl104, Ar104, qk104, Sz104, Nn104, Hs104, Gs104⟩ := id V1
  have hin104 := (inb_of (j := (0 : Int32)) Sz104 ⟨by decide, by decide⟩)
  refine Goes.step (S' := T102.setTop (mkF m 30 #[.val (.ref a1), .val (.int (0 : Int32))] [(.int e0)])) (fun t k => X102.iaload hx (j := (0 : Int32)) (v := (.int e0)) (by rw [e102]; exact Ar104.1) (State.isArrayOf_alike hZ.alike Ar104.2.1) Ar104.2.2 hin104 (Has.at Hs104 hin104 rfl) (g := (mkF m 29 #[.val (.ref a1), .val (.int (0 : Int32))] [(.int (0 : Int32)), (.ref b1)])) rfl rfl (hb hby d_prog_79_method_4_code_29) _ k) ?_
  refine Goes.leave (g := (mkF m 30 #[.val (.ref a1), .val (.int (0 : Int32))] [(.int e0)])) X102 Bd.notSynchronized (v := (some (.int e0))) (fun h => by rw [Bd.returns] at h; cases h) (fun fs hr => retI X102 hx Bd.returns (hb hby d_prog_79_method_4_code_30) hr) e102 ?_ (by decide) (by decide)
  exact ⟨rfl, N0, rfl⟩

theorem ef_set_w1 (m : MethodId) (x0 : Addr) (x1 : Int32) (x2 : Int32) : entryFrame m #[(.ref x0), (.int x1), (.int x2)] 3 = mkF m 0 #[.val (.ref x0), .val (.int x1), .val (.int x2)] [] := by first | (simp [entryFrame, mkF, argsToLocals, Value.category]; done) | rfl
def Q_set_w1 (Z : State) (a1 : Addr) (p2 : Int32) (b1 : Addr) (k1 : ClassId) (e0 : Int32) (e1 : Int32) (e2 : Int32) (h0 : Heap) (n0 : Nat) (v : Option Value) (h : Heap) (L : List Loc) : Prop := v = none ∧ Fr n0 L ∧ Keep h0 h [b1] ∧ Arv Z h b1 k1 .int (3 : Int32) [(.int e0), (.int p2), (.int e2)] (.int (0 : Int32))
set_option maxRecDepth 65536 in
set_option maxHeartbeats 40000000 in
theorem set_w1 (l : Launch) (Z : State) (a0 : Array Value) (hw : ∀ d ∈ tables_1, d.before a0 Z = true) (ws : List Jvm.Cond) (a1 : Addr) (p2 : Int32) (b1 : Addr) (k1 : ClassId) (e0 : Int32) (e1 : Int32) (e2 : Int32) (h0 : Heap) (n0 : Nat) (Z0 : n0 ≤ h0.size) (Fw : Fld Z h0 a1 "com/example/lumping/lumping/numbers/ChunkedInts" "whole" "[I" (.ref b1)) (V1 : Arv Z h0 b1 k1 .int (3 : Int32) [(.int e0), (.int e1), (.int e2)] (.int (0 : Int32))) (G2 : n0 ≤ b1) :
    MetFree l mth7 (head1 (Jvm.Cond.code mth7 prog_79_method_5_code 3 none :: ws) rom0) (fun a U => a = #[(.ref a1), (.int (1 : Int32)), (.int p2)] ∧ Z.Warmed39 U.vm ∧ U.heap = h0) (fun _ _ _ _ _ => True) (fun _ U o U' => ∃ v L, o = .returned v ∧ Q_set_w1 Z a1 p2 b1 k1 e0 e1 e2 h0 n0 v U'.heap L ∧ FrameEnd U o U' L rom0.cells rom0.slots) := by
  refine MetFree.of_bodySF (plainFor_of_name pnm1) hisR ?_
  intro p e s m args below meth c s₁ Bd hml0 hP hK
  obtain ⟨rfl, hZ, hh⟩ := hP
  have hx := Bd.exec
  have hby := Bd.bytes
  have hml : c.maxLocals = 3 := hml0
  have hown : s.vm.findClass "com/example/lumping/lumping/numbers/ChunkedInts" = some m.cls := findClass_of_methodNamed Bd.named
  have hnm := (name_of_methodNamed Bd.named Bd.method).1
  have X0 : Stand p l e rom0 s m #[(.ref a1), (.int (1 : Int32)), (.int p2)] below meth c s₁ [] 0 0 := Stand.of_body Bd
  have eh0 : s₁.heap = h0 := by rw [← hh, Bd.state]; rfl
  have N0 := Fr.nil n0
  have tw10 := hw _ (List.mem_of_getElem? (i := 10) rfl)
  show Goes p e below (Pq (Q_set_w1 Z a1 p2 b1 k1 e0 e1 e2 h0 n0) s rom0.cells rom0.slots) (s₁.setTop (entryFrame m #[(.ref a1), (.int (1 : Int32)), (.int p2)] 3))
  refine Goes.step (S' := s₁.setTop (mkF m 0 #[.val (.ref a1), .val (.int (1 : Int32)), .val (.int p2)] [])) (fun t k => castTop (ef_set_w1 m a1 (1 : Int32) p2) k) ?_
  refine Goes.step (S' := s₁.setTop (mkF m 1 #[.val (.ref a1), .val (.int (1 : Int32)), .val (.int p2)] [(.ref a1)])) (fun t k => XS.aloadN X0.here hx rfl (hb hby d_prog_79_method_5_code_0) rfl rfl k) ?_
  obtain ⟨T101, X101, e101, st101⟩ := getF X0 hx hZ hown (host := "") (Or.inl tw10) Via.refl eh0 Fw (g := (mkF m 1 #[.val (.ref a1), .val (.int (1 : Int32)), .val (.int p2)] [(.ref a1)])) rfl rfl (hb hby d_prog_79_method_5_code_1)
  refine Goes.step (S' := T101.setTop (mkF m 8 #[.val (.ref a1), .val (.int (1 : Int32)), .val (.int p2)] [(.ref a1)])) (fun t k => st101 _ (XS.ifnullNo X101.here hx rfl (hb hby d_prog_79_method_5_code_4) rfl (XS.aloadN X101.here hx rfl (hb hby d_prog_79_method_5_code_7) rfl rfl k))) ?_
  obtain ⟨T102, X102, e102, st102⟩ := getF X101 hx hZ hown (host := "") (Or.inl tw10) Via.refl e101 Fw (g := (mkF m 8 #[.val (.ref a1), .val (.int (1 : Int32)), .val (.int p2)] [(.ref a1)])) rfl rfl (hb hby d_prog_79_method_5_code_8)
  refine Goes.step (S' := T102.setTop (mkF m 13 #[.val (.ref a1), .val (.int (1 : Int32)), .val (.int p2)] [(.int p2), (.int (1 : Int32)), (.ref b1)])) (fun t k => st102 _ (XS.iloadN X102.here hx rfl (hb hby d_prog_79_method_5_code_11) rfl (XS.iloadN X102.here hx rfl (hb hby d_prog_79_method_5_code_12) rfl k))) ?_
  obtain ⟨cl103, Ar103, qk103, Sz103, Nn103, Hs103, Gs103⟩ := id V1
  obtain ⟨T103, h103, X103, e103, W103, st103⟩ := stI X102 hx hZ e102 Ar103 (j := (1 : Int32)) (inb_of (j := (1 : Int32)) Sz103 ⟨by decide, by decide⟩) (g := (mkF m 13 #[.val (.ref a1), .val (.int (1 : Int32)), .val (.int p2)] [(.int p2), (.int (1 : Int32)), (.ref b1)])) rfl rfl (hb hby d_prog_79_method_5_code_13)
  have V103 : Arv Z h103 b1 k1 .int (3 : Int32) [(.int e0), (.int p2), (.int e2)] (.int (0 : Int32)) := Arv.set Ar103 qk103 Sz103 Nn103 Hs103 Gs103 rfl W103 1 rfl (Nat.le_of_ble_eq_true rfl)
  have N103 := Fr.snoc X103 N0 G2
  refine Goes.step (S' := T103.setTop (mkF m 32 #[.val (.ref a1), .val (.int (1 : Int32)), .val (.int p2)] [])) (fun t k => st103 _ (XS.goto X103.here hx rfl (pc0 := 14) (pc' := 32) rfl (hb hby d_prog_79_method_5_code_14) (by decide) (by decide) k)) ?_
  refine Goes.leave (g := (mkF m 32 #[.val (.ref a1), .val (.int (1 : Int32)), .val (.int p2)] [])) X103 Bd.notSynchronized (v := none) (fun _ => rfl) (fun fs hr => X103.returnOut hx Bd.returns (hb hby d_prog_79_method_5_code_32) hr) e103 ?_ (by decide) (by decide)
  exact ⟨rfl, N103, ((Keep.refl _ [b1]).wr W103 (Or.inl (List.mem_of_getElem? (i := 0) rfl))), V103⟩

theorem ef_set_c1 (m : MethodId) (x0 : Addr) (x1 : Int32) (x2 : Int32) : entryFrame m #[(.ref x0), (.int x1), (.int x2)] 3 = mkF m 0 #[.val (.ref x0), .val (.int x1), .val (.int x2)] [] := by first | (simp [entryFrame, mkF, argsToLocals, Value.category]; done) | rfl
def Q_set_c1 (Z : State) (a1 : Addr) (p2 : Int32) (c1 : Addr) (kc : ClassId) (b1 : Addr) (k1 : ClassId) (e0 : Int32) (e1 : Int32) (e2 : Int32) (h0 : Heap) (n0 : Nat) (v : Option Value) (h : Heap) (L : List Loc) : Prop := v = none ∧ Fr n0 L ∧ Keep h0 h [b1] ∧ Arv Z h b1 k1 .int (16 : Int32) [(.int e0), (.int p2), (.int e2), (.int (0 : Int32)), (.int (0 : Int32)), (.int (0 : Int32)), (.int (0 : Int32)), (.int (0 : Int32)), (.int (0 : Int32)), (.int (0 : Int32)), (.int (0 : Int32)), (.int (0 : Int32)), (.int (0 : Int32)), (.int (0 : Int32)), (.int (0 : Int32)), (.int (0 : Int32))] (.int (0 : Int32))
set_option maxRecDepth 65536 in
set_option maxHeartbeats 40000000 in
theorem set_c1 (l : Launch) (Z : State) (a0 : Array Value) (hw : ∀ d ∈ tables_1, d.before a0 Z = true) (ws : List Jvm.Cond) (a1 : Addr) (p2 : Int32) (c1 : Addr) (kc : ClassId) (b1 : Addr) (k1 : ClassId) (e0 : Int32) (e1 : Int32) (e2 : Int32) (h0 : Heap) (n0 : Nat) (Z0 : n0 ≤ h0.size) (Fw : Fld Z h0 a1 "com/example/lumping/lumping/numbers/ChunkedInts" "whole" "[I" .null) (Fc : Fld Z h0 a1 "com/example/lumping/lumping/numbers/ChunkedInts" "chunks" "[[I" (.ref c1)) (V2 : Arv Z h0 c1 kc (.array .int) (1 : Int32) [(.ref b1)] .null) (V1 : Arv Z h0 b1 k1 .int (16 : Int32) [(.int e0), (.int e1), (.int e2), (.int (0 : Int32)), (.int (0 : Int32)), (.int (0 : Int32)), (.int (0 : Int32)), (.int (0 : Int32)), (.int (0 : Int32)), (.int (0 : Int32)), (.int (0 : Int32)), (.int (0 : Int32)), (.int (0 : Int32)), (.int (0 : Int32)), (.int (0 : Int32)), (.int (0 : Int32))] (.int (0 : Int32))) (G2 : n0 ≤ b1) :
    MetFree l mth7 (head1 (Jvm.Cond.code mth7 prog_79_method_5_code 3 none :: ws) rom0) (fun a U => a = #[(.ref a1), (.int (1 : Int32)), (.int p2)] ∧ Z.Warmed39 U.vm ∧ U.heap = h0) (fun _ _ _ _ _ => True) (fun _ U o U' => ∃ v L, o = .returned v ∧ Q_set_c1 Z a1 p2 c1 kc b1 k1 e0 e1 e2 h0 n0 v U'.heap L ∧ FrameEnd U o U' L rom0.cells rom0.slots) := by
  refine MetFree.of_bodySF (plainFor_of_name pnm1) hisR ?_
  intro p e s m args below meth c s₁ Bd hml0 hP hK
  obtain ⟨rfl, hZ, hh⟩ := hP
  have hx := Bd.exec
  have hby := Bd.bytes
  have hml : c.maxLocals = 3 := hml0
  have hown : s.vm.findClass "com/example/lumping/lumping/numbers/ChunkedInts" = some m.cls := findClass_of_methodNamed Bd.named
  have hnm := (name_of_methodNamed Bd.named Bd.method).1
  have X0 : Stand p l e rom0 s m #[(.ref a1), (.int (1 : Int32)), (.int p2)] below meth c s₁ [] 0 0 := Stand.of_body Bd
  have eh0 : s₁.heap = h0 := by rw [← hh, Bd.state]; rfl
  have N0 := Fr.nil n0
  have tw10 := hw _ (List.mem_of_getElem? (i := 10) rfl)
  have tw27 := hw _ (List.mem_of_getElem? (i := 27) rfl)
  have tw30 := hw _ (List.mem_of_getElem? (i := 30) rfl)
  show Goes p e below (Pq (Q_set_c1 Z a1 p2 c1 kc b1 k1 e0 e1 e2 h0 n0) s rom0.cells rom0.slots) (s₁.setTop (entryFrame m #[(.ref a1), (.int (1 : Int32)), (.int p2)] 3))
  refine Goes.step (S' := s₁.setTop (mkF m 0 #[.val (.ref a1), .val (.int (1 : Int32)), .val (.int p2)] [])) (fun t k => castTop (ef_set_c1 m a1 (1 : Int32) p2) k) ?_
  refine Goes.step (S' := s₁.setTop (mkF m 1 #[.val (.ref a1), .val (.int (1 : Int32)), .val (.int p2)] [(.ref a1)])) (fun t k => XS.aloadN X0.here hx rfl (hb hby d_prog_79_method_5_code_0) rfl rfl k) ?_
  obtain ⟨T101, X101, e101, st101⟩ := getF X0 hx hZ hown (host := "") (Or.inl tw10) Via.refl eh0 Fw (g := (mkF m 1 #[.val (.ref a1), .val (.int (1 : Int32)), .val (.int p2)] [(.ref a1)])) rfl rfl (hb hby d_prog_79_method_5_code_1)
  refine Goes.step (S' := T101.setTop (mkF m 18 #[.val (.ref a1), .val (.int (1 : Int32)), .val (.int p2)] [(.ref a1)])) (fun t k => st101 _ (XS.ifnullYes X101.here hx rfl (pc0 := 4) (pc' := 17) rfl (hb hby d_prog_79_method_5_code_4) rfl (by decide) (by decide) (XS.aloadN X101.here hx rfl (hb hby d_prog_79_method_5_code_17) rfl rfl k))) ?_
  obtain ⟨T102, X102, e102, st102⟩ := getF X101 hx hZ hown (host := "") (Or.inl tw30) Via.refl e101 Fc (g := (mkF m 18 #[.val (.ref a1), .val (.int (1 : Int32)), .val (.int p2)] [(.ref a1)])) rfl rfl (hb hby d_prog_79_method_5_code_18)
  refine Goes.step (S' := T102.setTop (mkF m 25 #[.val (.ref a1), .val (.int (1 : Int32)), .val (.int p2)] [(.int ((1 : Int32) / (1048572 : Int32))), (.ref c1)])) (fun t k => st102 _ (XS.iloadN X102.here hx rfl (hb hby d_prog_79_method_5_code_21) rfl (X102.ldcInt hx hown (mvT hZ tw27) (g := (mkF m 22 #[.val (.ref a1), .val (.int (1 : Int32)), .val (.int p2)] [(.int (1 : Int32)), (.ref c1)])) rfl (hb hby d_prog_79_method_5_code_22) _ (XS.idiv X102.here hx rfl (hb hby d_prog_79_method_5_code_24) rfl (by decide) k)))) ?_
  rw [show ((1 : Int32) / (1048572 : Int32)) = (0 : Int32) from by decide]
  obtain ⟨cl103, Ar103, qk103, Sz103, Nn103, Hs103, Gs103⟩ := id V2
  have hin103 := (inb_of (j := (0 : Int32)) Sz103 ⟨by decide, by decide⟩)
  refine Goes.step (S' := T102.setTop (mkF m 30 #[.val (.ref a1), .val (.int (1 : Int32)), .val (.int p2)] [(.int ((1 : Int32) % (1048572 : Int32))), (.ref b1)])) (fun t k => X102.aaload hx (j := (0 : Int32)) (v := (.ref b1)) (by rw [e102]; exact Ar103.1) (State.isArrayOf_alike hZ.alike Ar103.2.1) rfl Ar103.2.2 hin103 (Has.at Hs103 hin103 rfl) (g := (mkF m 25 #[.val (.ref a1), .val (.int (1 : Int32)), .val (.int p2)] [(.int (0 : Int32)), (.ref c1)])) rfl rfl (hb hby d_prog_79_method_5_code_25) _ (XS.iloadN X102.here hx rfl (hb hby d_prog_79_method_5_code_26) rfl (X102.ldcInt hx hown (mvT hZ tw27) (g := (mkF m 27 #[.val (.ref a1), .val (.int (1 : Int32)), .val (.int p2)] [(.int (1 : Int32)), (.ref b1)])) rfl (hb hby d_prog_79_method_5_code_27) _ (iremM X102 hx rfl (hb hby d_prog_79_method_5_code_29) rfl (by decide) k)))) ?_
  rw [show ((1 : Int32) % (1048572 : Int32)) = (1 : Int32) from by decide]
  refine Goes.step (S' := T102.setTop (mkF m 31 #[.val (.ref a1), .val (.int (1 : Int32)), .val (.int p2)] [(.int p2), (.int (1 : Int32)), (.ref b1)])) (fun t k => XS.iloadN X102.here hx rfl (hb hby d_prog_79_method_5_code_30) rfl k) ?_
  obtain ⟨cl104, Ar104, qk104, Sz104, Nn104, Hs104, Gs104⟩ := id V1
  obtain ⟨T104, h104, X104, e104, W104, st104⟩ := stI X102 hx hZ e102 Ar104 (j := (1 : Int32)) (inb_of (j := (1 : Int32)) Sz104 ⟨by decide, by decide⟩) (g := (mkF m 31 #[.val (.ref a1), .val (.int (1 : Int32)), .val (.int p2)] [(.int p2), (.int (1 : Int32)), (.ref b1)])) rfl rfl (hb hby d_prog_79_method_5_code_31)
  have V104 : Arv Z h104 b1 k1 .int (16 : Int32) [(.int e0), (.int p2), (.int e2), (.int (0 : Int32)), (.int (0 : Int32)), (.int (0 : Int32)), (.int (0 : Int32)), (.int (0 : Int32)), (.int (0 : Int32)), (.int (0 : Int32)), (.int (0 : Int32)), (.int (0 : Int32)), (.int (0 : Int32)), (.int (0 : Int32)), (.int (0 : Int32)), (.int (0 : Int32))] (.int (0 : Int32)) := Arv.set Ar104 qk104 Sz104 Nn104 Hs104 Gs104 rfl W104 1 rfl (Nat.le_of_ble_eq_true rfl)
  have N104 := Fr.snoc X104 N0 G2
  refine Goes.step (S' := T104.setTop (mkF m 32 #[.val (.ref a1), .val (.int (1 : Int32)), .val (.int p2)] [])) (fun t k => st104 _ k) ?_
  refine Goes.leave (g := (mkF m 32 #[.val (.ref a1), .val (.int (1 : Int32)), .val (.int p2)] [])) X104 Bd.notSynchronized (v := none) (fun _ => rfl) (fun fs hr => X104.returnOut hx Bd.returns (hb hby d_prog_79_method_5_code_32) hr) e104 ?_ (by decide) (by decide)
  exact ⟨rfl, N104, ((Keep.refl _ [b1]).wr W104 (Or.inl (List.mem_of_getElem? (i := 0) rfl))), V104⟩

theorem ef_get_w1 (m : MethodId) (x0 : Addr) (x1 : Int32) : entryFrame m #[(.ref x0), (.int x1)] 2 = mkF m 0 #[.val (.ref x0), .val (.int x1)] [] := by first | (simp [entryFrame, mkF, argsToLocals, Value.category]; done) | rfl
def Q_get_w1 (Z : State) (a1 : Addr) (b1 : Addr) (k1 : ClassId) (e0 : Int32) (e1 : Int32) (e2 : Int32) (h0 : Heap) (n0 : Nat) (v : Option Value) (h : Heap) (L : List Loc) : Prop := v = some (.int e1) ∧ Fr n0 L ∧ h = h0
set_option maxRecDepth 65536 in
set_option maxHeartbeats 40000000 in
theorem get_w1 (l : Launch) (Z : State) (a0 : Array Value) (hw : ∀ d ∈ tables_1, d.before a0 Z = true) (ws : List Jvm.Cond) (a1 : Addr) (b1 : Addr) (k1 : ClassId) (e0 : Int32) (e1 : Int32) (e2 : Int32) (h0 : Heap) (n0 : Nat) (Z0 : n0 ≤ h0.size) (Fw : Fld Z h0 a1 "com/example/lumping/lumping/numbers/ChunkedInts" "whole" "[I" (.ref b1)) (V1 : Arv Z h0 b1 k1 .int (3 : Int32) [(.int e0), (.int e1), (.int e2)] (.int (0 : Int32))) :
    MetFree l mth8 (head1 (Jvm.Cond.code mth8 prog_79_method_4_code 2 (some .int) :: ws) rom0) (fun a U => a = #[(.ref a1), (.int (1 : Int32))] ∧ Z.Warmed39 U.vm ∧ U.heap = h0) (fun _ _ _ _ _ => True) (fun _ U o U' => ∃ v L, o = .returned v ∧ Q_get_w1 Z a1 b1 k1 e0 e1 e2 h0 n0 v U'.heap L ∧ FrameEnd U o U' L rom0.cells rom0.slots) := by
  refine MetFree.of_bodySF (plainFor_of_name pnm1) hisR ?_
  intro p e s m args below meth c s₁ Bd hml0 hP hK
  obtain ⟨rfl, hZ, hh⟩ := hP
  have hx := Bd.exec
  have hby := Bd.bytes
  have hml : c.maxLocals = 2 := hml0
  have hown : s.vm.findClass "com/example/lumping/lumping/numbers/ChunkedInts" = some m.cls := findClass_of_methodNamed Bd.named
  have hnm := (name_of_methodNamed Bd.named Bd.method).1
  have X0 : Stand p l e rom0 s m #[(.ref a1), (.int (1 : Int32))] below meth c s₁ [] 0 0 := Stand.of_body Bd
  have eh0 : s₁.heap = h0 := by rw [← hh, Bd.state]; rfl
  have N0 := Fr.nil n0
  have tw10 := hw _ (List.mem_of_getElem? (i := 10) rfl)
  show Goes p e below (Pq (Q_get_w1 Z a1 b1 k1 e0 e1 e2 h0 n0) s rom0.cells rom0.slots) (s₁.setTop (entryFrame m #[(.ref a1), (.int (1 : Int32))] 2))
  refine Goes.step (S' := s₁.setTop (mkF m 0 #[.val (.ref a1), .val (.int (1 : Int32))] [])) (fun t k => castTop (ef_get_w1 m a1 (1 : Int32)) k) ?_
  refine Goes.step (S' := s₁.setTop (mkF m 1 #[.val (.ref a1), .val (.int (1 : Int32))] [(.ref a1)])) (fun t k => XS.aloadN X0.here hx rfl (hb hby d_prog_79_method_4_code_0) rfl rfl k) ?_
  obtain ⟨T101, X101, e101, st101⟩ := getF X0 hx hZ hown (host := "") (Or.inl tw10) Via.refl eh0 Fw (g := (mkF m 1 #[.val (.ref a1), .val (.int (1 : Int32))] [(.ref a1)])) rfl rfl (hb hby d_prog_79_method_4_code_1)
  refine Goes.step (S' := T101.setTop (mkF m 8 #[.val (.ref a1), .val (.int (1 : Int32))] [(.ref a1)])) (fun t k => st101 _ (XS.ifnullNo X101.here hx rfl (hb hby d_prog_79_method_4_code_4) rfl (XS.aloadN X101.here hx rfl (hb hby d_prog_79_method_4_code_7) rfl rfl k))) ?_
  obtain ⟨T102, X102, e102, st102⟩ := getF X101 hx hZ hown (host := "") (Or.inl tw10) Via.refl e101 Fw (g := (mkF m 8 #[.val (.ref a1), .val (.int (1 : Int32))] [(.ref a1)])) rfl rfl (hb hby d_prog_79_method_4_code_8)
  refine Goes.step (S' := T102.setTop (mkF m 12 #[.val (.ref a1), .val (.int (1 : Int32))] [(.int (1 : Int32)), (.ref b1)])) (fun t k => st102 _ (XS.iloadN X102.here hx rfl (hb hby d_prog_79_method_4_code_11) rfl k)) ?_
  obtain ⟨cl103, Ar103, qk103, Sz103, Nn103, Hs103, Gs103⟩ := id V1
  have hin103 := (inb_of (j := (1 : Int32)) Sz103 ⟨by decide, by decide⟩)
  refine Goes.step (S' := T102.setTop (mkF m 30 #[.val (.ref a1), .val (.int (1 : Int32))] [(.int e1)])) (fun t k => X102.iaload hx (j := (1 : Int32)) (v := (.int e1)) (by rw [e102]; exact Ar103.1) (State.isArrayOf_alike hZ.alike Ar103.2.1) Ar103.2.2 hin103 (Has.at Hs103 hin103 rfl) (g := (mkF m 12 #[.val (.ref a1), .val (.int (1 : Int32))] [(.int (1 : Int32)), (.ref b1)])) rfl rfl (hb hby d_prog_79_method_4_code_12) _ (XS.goto X102.here hx rfl (pc0 := 13) (pc' := 30) rfl (hb hby d_prog_79_method_4_code_13) (by decide) (by decide) k)) ?_
  refine Goes.leave (g := (mkF m 30 #[.val (.ref a1), .val (.int (1 : Int32))] [(.int e1)])) X102 Bd.notSynchronized (v := (some (.int e1))) (fun h => by rw [Bd.returns] at h; cases h) (fun fs hr => retI X102 hx Bd.returns (hb hby d_prog_79_method_4_code_30) hr) e102 ?_ (by decide) (by decide)
  exact ⟨rfl, N0, rfl⟩

theorem ef_get_c1 (m : MethodId) (x0 : Addr) (x1 : Int32) : entryFrame m #[(.ref x0), (.int x1)] 2 = mkF m 0 #[.val (.ref x0), .val (.int x1)] [] := by first | (simp [entryFrame, mkF, argsToLocals, Value.category]; done) | rfl
def Q_get_c1 (Z : State) (a1 : Addr) (c1 : Addr) (kc : ClassId) (b1 : Addr) (k1 : ClassId) (e0 : Int32) (e1 : Int32) (e2 : Int32) (h0 : Heap) (n0 : Nat) (v : Option Value) (h : Heap) (L : List Loc) : Prop := v = some (.int e1) ∧ Fr n0 L ∧ h = h0
set_option maxRecDepth 65536 in
set_option maxHeartbeats 40000000 in
theorem get_c1 (l : Launch) (Z : State) (a0 : Array Value) (hw : ∀ d ∈ tables_1, d.before a0 Z = true) (ws : List Jvm.Cond) (a1 : Addr) (c1 : Addr) (kc : ClassId) (b1 : Addr) (k1 : ClassId) (e0 : Int32) (e1 : Int32) (e2 : Int32) (h0 : Heap) (n0 : Nat) (Z0 : n0 ≤ h0.size) (Fw : Fld Z h0 a1 "com/example/lumping/lumping/numbers/ChunkedInts" "whole" "[I" .null) (Fc : Fld Z h0 a1 "com/example/lumping/lumping/numbers/ChunkedInts" "chunks" "[[I" (.ref c1)) (V2 : Arv Z h0 c1 kc (.array .int) (1 : Int32) [(.ref b1)] .null) (V1 : Arv Z h0 b1 k1 .int (16 : Int32) [(.int e0), (.int e1), (.int e2), (.int (0 : Int32)), (.int (0 : Int32)), (.int (0 : Int32)), (.int (0 : Int32)), (.int (0 : Int32)), (.int (0 : Int32)), (.int (0 : Int32)), (.int (0 : Int32)), (.int (0 : Int32)), (.int (0 : Int32)), (.int (0 : Int32)), (.int (0 : Int32)), (.int (0 : Int32))] (.int (0 : Int32))) :
    MetFree l mth8 (head1 (Jvm.Cond.code mth8 prog_79_method_4_code 2 (some .int) :: ws) rom0) (fun a U => a = #[(.ref a1), (.int (1 : Int32))] ∧ Z.Warmed39 U.vm ∧ U.heap = h0) (fun _ _ _ _ _ => True) (fun _ U o U' => ∃ v L, o = .returned v ∧ Q_get_c1 Z a1 c1 kc b1 k1 e0 e1 e2 h0 n0 v U'.heap L ∧ FrameEnd U o U' L rom0.cells rom0.slots) := by
  refine MetFree.of_bodySF (plainFor_of_name pnm1) hisR ?_
  intro p e s m args below meth c s₁ Bd hml0 hP hK
  obtain ⟨rfl, hZ, hh⟩ := hP
  have hx := Bd.exec
  have hby := Bd.bytes
  have hml : c.maxLocals = 2 := hml0
  have hown : s.vm.findClass "com/example/lumping/lumping/numbers/ChunkedInts" = some m.cls := findClass_of_methodNamed Bd.named
  have hnm := (name_of_methodNamed Bd.named Bd.method).1
  have X0 : Stand p l e rom0 s m #[(.ref a1), (.int (1 : Int32))] below meth c s₁ [] 0 0 := Stand.of_body Bd
  have eh0 : s₁.heap = h0 := by rw [← hh, Bd.state]; rfl
  have N0 := Fr.nil n0
  have tw10 := hw _ (List.mem_of_getElem? (i := 10) rfl)
  have tw27 := hw _ (List.mem_of_getElem? (i := 27) rfl)
  have tw30 := hw _ (List.mem_of_getElem? (i := 30) rfl)
  show Goes p e below (Pq (Q_get_c1 Z a1 c1 kc b1 k1 e0 e1 e2 h0 n0) s rom0.cells rom0.slots) (s₁.setTop (entryFrame m #[(.ref a1), (.int (1 : Int32))] 2))
  refine Goes.step (S' := s₁.setTop (mkF m 0 #[.val (.ref a1), .val (.int (1 : Int32))] [])) (fun t k => castTop (ef_get_c1 m a1 (1 : Int32)) k) ?_
  refine Goes.step (S' := s₁.setTop (mkF m 1 #[.val (.ref a1), .val (.int (1 : Int32))] [(.ref a1)])) (fun t k => XS.aloadN X0.here hx rfl (hb hby d_prog_79_method_4_code_0) rfl rfl k) ?_
  obtain ⟨T101, X101, e101, st101⟩ := getF X0 hx hZ hown (host := "") (Or.inl tw10) Via.refl eh0 Fw (g := (mkF m 1 #[.val (.ref a1), .val (.int (1 : Int32))] [(.ref a1)])) rfl rfl (hb hby d_prog_79_method_4_code_1)
  refine Goes.step (S' := T101.setTop (mkF m 17 #[.val (.ref a1), .val (.int (1 : Int32))] [(.ref a1)])) (fun t k => st101 _ (XS.ifnullYes X101.here hx rfl (pc0 := 4) (pc' := 16) rfl (hb hby d_prog_79_method_4_code_4) rfl (by decide) (by decide) (XS.aloadN X101.here hx rfl (hb hby d_prog_79_method_4_code_16) rfl rfl k))) ?_
  obtain ⟨T102, X102, e102, st102⟩ := getF X101 hx hZ hown (host := "") (Or.inl tw30) Via.refl e101 Fc (g := (mkF m 17 #[.val (.ref a1), .val (.int (1 : Int32))] [(.ref a1)])) rfl rfl (hb hby d_prog_79_method_4_code_17)
  refine Goes.step (S' := T102.setTop (mkF m 24 #[.val (.ref a1), .val (.int (1 : Int32))] [(.int ((1 : Int32) / (1048572 : Int32))), (.ref c1)])) (fun t k => st102 _ (XS.iloadN X102.here hx rfl (hb hby d_prog_79_method_4_code_20) rfl (X102.ldcInt hx hown (mvT hZ tw27) (g := (mkF m 21 #[.val (.ref a1), .val (.int (1 : Int32))] [(.int (1 : Int32)), (.ref c1)])) rfl (hb hby d_prog_79_method_4_code_21) _ (XS.idiv X102.here hx rfl (hb hby d_prog_79_method_4_code_23) rfl (by decide) k)))) ?_
  rw [show ((1 : Int32) / (1048572 : Int32)) = (0 : Int32) from by decide]
  obtain ⟨cl103, Ar103, qk103, Sz103, Nn103, Hs103, Gs103⟩ := id V2
  have hin103 := (inb_of (j := (0 : Int32)) Sz103 ⟨by decide, by decide⟩)
  refine Goes.step (S' := T102.setTop (mkF m 29 #[.val (.ref a1), .val (.int (1 : Int32))] [(.int ((1 : Int32) % (1048572 : Int32))), (.ref b1)])) (fun t k => X102.aaload hx (j := (0 : Int32)) (v := (.ref b1)) (by rw [e102]; exact Ar103.1) (State.isArrayOf_alike hZ.alike Ar103.2.1) rfl Ar103.2.2 hin103 (Has.at Hs103 hin103 rfl) (g := (mkF m 24 #[.val (.ref a1), .val (.int (1 : Int32))] [(.int (0 : Int32)), (.ref c1)])) rfl rfl (hb hby d_prog_79_method_4_code_24) _ (XS.iloadN X102.here hx rfl (hb hby d_prog_79_method_4_code_25) rfl (X102.ldcInt hx hown (mvT hZ tw27) (g := (mkF m 26 #[.val (.ref a1), .val (.int (1 : Int32))] [(.int (1 : Int32)), (.ref b1)])) rfl (hb hby d_prog_79_method_4_code_26) _ (iremM X102 hx rfl (hb hby d_prog_79_method_4_code_28) rfl (by decide) k)))) ?_
  rw [show ((1 : Int32) % (1048572 : Int32)) = (1 : Int32) from by decide]
  obtain ⟨cl104, Ar104, qk104, Sz104, Nn104, Hs104, Gs104⟩ := id V1
  have hin104 := (inb_of (j := (1 : Int32)) Sz104 ⟨by decide, by decide⟩)
  refine Goes.step (S' := T102.setTop (mkF m 30 #[.val (.ref a1), .val (.int (1 : Int32))] [(.int e1)])) (fun t k => X102.iaload hx (j := (1 : Int32)) (v := (.int e1)) (by rw [e102]; exact Ar104.1) (State.isArrayOf_alike hZ.alike Ar104.2.1) Ar104.2.2 hin104 (Has.at Hs104 hin104 rfl) (g := (mkF m 29 #[.val (.ref a1), .val (.int (1 : Int32))] [(.int (1 : Int32)), (.ref b1)])) rfl rfl (hb hby d_prog_79_method_4_code_29) _ k) ?_
  refine Goes.leave (g := (mkF m 30 #[.val (.ref a1), .val (.int (1 : Int32))] [(.int e1)])) X102 Bd.notSynchronized (v := (some (.int e1))) (fun h => by rw [Bd.returns] at h; cases h) (fun fs hr => retI X102 hx Bd.returns (hb hby d_prog_79_method_4_code_30) hr) e102 ?_ (by decide) (by decide)
  exact ⟨rfl, N0, rfl⟩

theorem ef_set_w2 (m : MethodId) (x0 : Addr) (x1 : Int32) (x2 : Int32) : entryFrame m #[(.ref x0), (.int x1), (.int x2)] 3 = mkF m 0 #[.val (.ref x0), .val (.int x1), .val (.int x2)] [] := by first | (simp [entryFrame, mkF, argsToLocals, Value.category]; done) | rfl
def Q_set_w2 (Z : State) (a1 : Addr) (p2 : Int32) (b1 : Addr) (k1 : ClassId) (e0 : Int32) (e1 : Int32) (e2 : Int32) (h0 : Heap) (n0 : Nat) (v : Option Value) (h : Heap) (L : List Loc) : Prop := v = none ∧ Fr n0 L ∧ Keep h0 h [b1] ∧ Arv Z h b1 k1 .int (3 : Int32) [(.int e0), (.int e1), (.int p2)] (.int (0 : Int32))
set_option maxRecDepth 65536 in
set_option maxHeartbeats 40000000 in
theorem set_w2 (l : Launch) (Z : State) (a0 : Array Value) (hw : ∀ d ∈ tables_1, d.before a0 Z = true) (ws : List Jvm.Cond) (a1 : Addr) (p2 : Int32) (b1 : Addr) (k1 : ClassId) (e0 : Int32) (e1 : Int32) (e2 : Int32) (h0 : Heap) (n0 : Nat) (Z0 : n0 ≤ h0.size) (Fw : Fld Z h0 a1 "com/example/lumping/lumping/numbers/ChunkedInts" "whole" "[I" (.ref b1)) (V1 : Arv Z h0 b1 k1 .int (3 : Int32) [(.int e0), (.int e1), (.int e2)] (.int (0 : Int32))) (G2 : n0 ≤ b1) :
    MetFree l mth7 (head1 (Jvm.Cond.code mth7 prog_79_method_5_code 3 none :: ws) rom0) (fun a U => a = #[(.ref a1), (.int (2 : Int32)), (.int p2)] ∧ Z.Warmed39 U.vm ∧ U.heap = h0) (fun _ _ _ _ _ => True) (fun _ U o U' => ∃ v L, o = .returned v ∧ Q_set_w2 Z a1 p2 b1 k1 e0 e1 e2 h0 n0 v U'.heap L ∧ FrameEnd U o U' L rom0.cells rom0.slots) := by
  refine MetFree.of_bodySF (plainFor_of_name pnm1) hisR ?_
  intro p e s m args below meth c s₁ Bd hml0 hP hK
  obtain ⟨rfl, hZ, hh⟩ := hP
  have hx := Bd.exec
  have hby := Bd.bytes
  have hml : c.maxLocals = 3 := hml0
  have hown : s.vm.findClass "com/example/lumping/lumping/numbers/ChunkedInts" = some m.cls := findClass_of_methodNamed Bd.named
  have hnm := (name_of_methodNamed Bd.named Bd.method).1
  have X0 : Stand p l e rom0 s m #[(.ref a1), (.int (2 : Int32)), (.int p2)] below meth c s₁ [] 0 0 := Stand.of_body Bd
  have eh0 : s₁.heap = h0 := by rw [← hh, Bd.state]; rfl
  have N0 := Fr.nil n0
  have tw10 := hw _ (List.mem_of_getElem? (i := 10) rfl)
  show Goes p e below (Pq (Q_set_w2 Z a1 p2 b1 k1 e0 e1 e2 h0 n0) s rom0.cells rom0.slots) (s₁.setTop (entryFrame m #[(.ref a1), (.int (2 : Int32)), (.int p2)] 3))
  refine Goes.step (S' := s₁.setTop (mkF m 0 #[.val (.ref a1), .val (.int (2 : Int32)), .val (.int p2)] [])) (fun t k => castTop (ef_set_w2 m a1 (2 : Int32) p2) k) ?_
  refine Goes.step (S' := s₁.setTop (mkF m 1 #[.val (.ref a1), .val (.int (2 : Int32)), .val (.int p2)] [(.ref a1)])) (fun t k => XS.aloadN X0.here hx rfl (hb hby d_prog_79_method_5_code_0) rfl rfl k) ?_
  obtain ⟨T101, X101, e101, st101⟩ := getF X0 hx hZ hown (host := "") (Or.inl tw10) Via.refl eh0 Fw (g := (mkF m 1 #[.val (.ref a1), .val (.int (2 : Int32)), .val (.int p2)] [(.ref a1)])) rfl rfl (hb hby d_prog_79_method_5_code_1)
  refine Goes.step (S' := T101.setTop (mkF m 8 #[.val (.ref a1), .val (.int (2 : Int32)), .val (.int p2)] [(.ref a1)])) (fun t k => st101 _ (XS.ifnullNo X101.here hx rfl (hb hby d_prog_79_method_5_code_4) rfl (XS.aloadN X101.here hx rfl (hb hby d_prog_79_method_5_code_7) rfl rfl k))) ?_
  obtain ⟨T102, X102, e102, st102⟩ := getF X101 hx hZ hown (host := "") (Or.inl tw10) Via.refl e101 Fw (g := (mkF m 8 #[.val (.ref a1), .val (.int (2 : Int32)), .val (.int p2)] [(.ref a1)])) rfl rfl (hb hby d_prog_79_method_5_code_8)
  refine Goes.step (S' := T102.setTop (mkF m 13 #[.val (.ref a1), .val (.int (2 : Int32)), .val (.int p2)] [(.int p2), (.int (2 : Int32)), (.ref b1)])) (fun t k => st102 _ (XS.iloadN X102.here hx rfl (hb hby d_prog_79_method_5_code_11) rfl (XS.iloadN X102.here hx rfl (hb hby d_prog_79_method_5_code_12) rfl k))) ?_
  obtain ⟨cl103, Ar103, qk103, Sz103, Nn103, Hs103, Gs103⟩ := id V1
  obtain ⟨T103, h103, X103, e103, W103, st103⟩ := stI X102 hx hZ e102 Ar103 (j := (2 : Int32)) (inb_of (j := (2 : Int32)) Sz103 ⟨by decide, by decide⟩) (g := (mkF m 13 #[.val (.ref a1), .val (.int (2 : Int32)), .val (.int p2)] [(.int p2), (.int (2 : Int32)), (.ref b1)])) rfl rfl (hb hby d_prog_79_method_5_code_13)
  have V103 : Arv Z h103 b1 k1 .int (3 : Int32) [(.int e0), (.int e1), (.int p2)] (.int (0 : Int32)) := Arv.set Ar103 qk103 Sz103 Nn103 Hs103 Gs103 rfl W103 2 rfl (Nat.le_of_ble_eq_true rfl)
  have N103 := Fr.snoc X103 N0 G2
  refine Goes.step (S' := T103.setTop (mkF m 32 #[.val (.ref a1), .val (.int (2 : Int32)), .val (.int p2)] [])) (fun t k => st103 _ (XS.goto X103.here hx rfl (pc0 := 14) (pc' := 32) rfl (hb hby d_prog_79_method_5_code_14) (by decide) (by decide) k)) ?_
  refine Goes.leave (g := (mkF m 32 #[.val (.ref a1), .val (.int (2 : Int32)), .val (.int p2)] [])) X103 Bd.notSynchronized (v := none) (fun _ => rfl) (fun fs hr => X103.returnOut hx Bd.returns (hb hby d_prog_79_method_5_code_32) hr) e103 ?_ (by decide) (by decide)
  exact ⟨rfl, N103, ((Keep.refl _ [b1]).wr W103 (Or.inl (List.mem_of_getElem? (i := 0) rfl))), V103⟩

theorem ef_set_c2 (m : MethodId) (x0 : Addr) (x1 : Int32) (x2 : Int32) : entryFrame m #[(.ref x0), (.int x1), (.int x2)] 3 = mkF m 0 #[.val (.ref x0), .val (.int x1), .val (.int x2)] [] := by first | (simp [entryFrame, mkF, argsToLocals, Value.category]; done) | rfl
def Q_set_c2 (Z : State) (a1 : Addr) (p2 : Int32) (c1 : Addr) (kc : ClassId) (b1 : Addr) (k1 : ClassId) (e0 : Int32) (e1 : Int32) (e2 : Int32) (h0 : Heap) (n0 : Nat) (v : Option Value) (h : Heap) (L : List Loc) : Prop := v = none ∧ Fr n0 L ∧ Keep h0 h [b1] ∧ Arv Z h b1 k1 .int (16 : Int32) [(.int e0), (.int e1), (.int p2), (.int (0 : Int32)), (.int (0 : Int32)), (.int (0 : Int32)), (.int (0 : Int32)), (.int (0 : Int32)), (.int (0 : Int32)), (.int (0 : Int32)), (.int (0 : Int32)), (.int (0 : Int32)), (.int (0 : Int32)), (.int (0 : Int32)), (.int (0 : Int32)), (.int (0 : Int32))] (.int (0 : Int32))
set_option maxRecDepth 65536 in
set_option maxHeartbeats 40000000 in
theorem set_c2 (l : Launch) (Z : State) (a0 : Array Value) (hw : ∀ d ∈ tables_1, d.before a0 Z = true) (ws : List Jvm.Cond) (a1 : Addr) (p2 : Int32) (c1 : Addr) (kc : ClassId) (b1 : Addr) (k1 : ClassId) (e0 : Int32) (e1 : Int32) (e2 : Int32) (h0 : Heap) (n0 : Nat) (Z0 : n0 ≤ h0.size) (Fw : Fld Z h0 a1 "com/example/lumping/lumping/numbers/ChunkedInts" "whole" "[I" .null) (Fc : Fld Z h0 a1 "com/example/lumping/lumping/numbers/ChunkedInts" "chunks" "[[I" (.ref c1)) (V2 : Arv Z h0 c1 kc (.array .int) (1 : Int32) [(.ref b1)] .null) (V1 : Arv Z h0 b1 k1 .int (16 : Int32) [(.int e0), (.int e1), (.int e2), (.int (0 : Int32)), (.int (0 : Int32)), (.int (0 : Int32)), (.int (0 : Int32)), (.int (0 : Int32)), (.int (0 : Int32)), (.int (0 : Int32)), (.int (0 : Int32)), (.int (0 : Int32)), (.int (0 : Int32)), (.int (0 : Int32)), (.int (0 : Int32)), (.int (0 : Int32))] (.int (0 : Int32))) (G2 : n0 ≤ b1) :
    MetFree l mth7 (head1 (Jvm.Cond.code mth7 prog_79_method_5_code 3 none :: ws) rom0) (fun a U => a = #[(.ref a1), (.int (2 : Int32)), (.int p2)] ∧ Z.Warmed39 U.vm ∧ U.heap = h0) (fun _ _ _ _ _ => True) (fun _ U o U' => ∃ v L, o = .returned v ∧ Q_set_c2 Z a1 p2 c1 kc b1 k1 e0 e1 e2 h0 n0 v U'.heap L ∧ FrameEnd U o U' L rom0.cells rom0.slots) := by
  refine MetFree.of_bodySF (plainFor_of_name pnm1) hisR ?_
  intro p e s m args below meth c s₁ Bd hml0 hP hK
  obtain ⟨rfl, hZ, hh⟩ := hP
  have hx := Bd.exec
  have hby := Bd.bytes
  have hml : c.maxLocals = 3 := hml0
  have hown : s.vm.findClass "com/example/lumping/lumping/numbers/ChunkedInts" = some m.cls := findClass_of_methodNamed Bd.named
  have hnm := (name_of_methodNamed Bd.named Bd.method).1
  have X0 : Stand p l e rom0 s m #[(.ref a1), (.int (2 : Int32)), (.int p2)] below meth c s₁ [] 0 0 := Stand.of_body Bd
  have eh0 : s₁.heap = h0 := by rw [← hh, Bd.state]; rfl
  have N0 := Fr.nil n0
  have tw10 := hw _ (List.mem_of_getElem? (i := 10) rfl)
  have tw27 := hw _ (List.mem_of_getElem? (i := 27) rfl)
  have tw30 := hw _ (List.mem_of_getElem? (i := 30) rfl)
  show Goes p e below (Pq (Q_set_c2 Z a1 p2 c1 kc b1 k1 e0 e1 e2 h0 n0) s rom0.cells rom0.slots) (s₁.setTop (entryFrame m #[(.ref a1), (.int (2 : Int32)), (.int p2)] 3))
  refine Goes.step (S' := s₁.setTop (mkF m 0 #[.val (.ref a1), .val (.int (2 : Int32)), .val (.int p2)] [])) (fun t k => castTop (ef_set_c2 m a1 (2 : Int32) p2) k) ?_
  refine Goes.step (S' := s₁.setTop (mkF m 1 #[.val (.ref a1), .val (.int (2 : Int32)), .val (.int p2)] [(.ref a1)])) (fun t k => XS.aloadN X0.here hx rfl (hb hby d_prog_79_method_5_code_0) rfl rfl k) ?_
  obtain ⟨T101, X101, e101, st101⟩ := getF X0 hx hZ hown (host := "") (Or.inl tw10) Via.refl eh0 Fw (g := (mkF m 1 #[.val (.ref a1), .val (.int (2 : Int32)), .val (.int p2)] [(.ref a1)])) rfl rfl (hb hby d_prog_79_method_5_code_1)
  refine Goes.step (S' := T101.setTop (mkF m 18 #[.val (.ref a1), .val (.int (2 : Int32)), .val (.int p2)] [(.ref a1)])) (fun t k => st101 _ (XS.ifnullYes X101.here hx rfl (pc0 := 4) (pc' := 17) rfl (hb hby d_prog_79_method_5_code_4) rfl (by decide) (by decide) (XS.aloadN X101.here hx rfl (hb hby d_prog_79_method_5_code_17) rfl rfl k))) ?_
  obtain ⟨T102, X102, e102, st102⟩ := getF X101 hx hZ hown (host := "") (Or.inl tw30) Via.refl e101 Fc (g := (mkF m 18 #[.val (.ref a1), .val (.int (2 : Int32)), .val (.int p2)] [(.ref a1)])) rfl rfl (hb hby d_prog_79_method_5_code_18)
  refine Goes.step (S' := T102.setTop (mkF m 25 #[.val (.ref a1), .val (.int (2 : Int32)), .val (.int p2)] [(.int ((2 : Int32) / (1048572 : Int32))), (.ref c1)])) (fun t k => st102 _ (XS.iloadN X102.here hx rfl (hb hby d_prog_79_method_5_code_21) rfl (X102.ldcInt hx hown (mvT hZ tw27) (g := (mkF m 22 #[.val (.ref a1), .val (.int (2 : Int32)), .val (.int p2)] [(.int (2 : Int32)), (.ref c1)])) rfl (hb hby d_prog_79_method_5_code_22) _ (XS.idiv X102.here hx rfl (hb hby d_prog_79_method_5_code_24) rfl (by decide) k)))) ?_
  rw [show ((2 : Int32) / (1048572 : Int32)) = (0 : Int32) from by decide]
  obtain ⟨cl103, Ar103, qk103, Sz103, Nn103, Hs103, Gs103⟩ := id V2
  have hin103 := (inb_of (j := (0 : Int32)) Sz103 ⟨by decide, by decide⟩)
  refine Goes.step (S' := T102.setTop (mkF m 30 #[.val (.ref a1), .val (.int (2 : Int32)), .val (.int p2)] [(.int ((2 : Int32) % (1048572 : Int32))), (.ref b1)])) (fun t k => X102.aaload hx (j := (0 : Int32)) (v := (.ref b1)) (by rw [e102]; exact Ar103.1) (State.isArrayOf_alike hZ.alike Ar103.2.1) rfl Ar103.2.2 hin103 (Has.at Hs103 hin103 rfl) (g := (mkF m 25 #[.val (.ref a1), .val (.int (2 : Int32)), .val (.int p2)] [(.int (0 : Int32)), (.ref c1)])) rfl rfl (hb hby d_prog_79_method_5_code_25) _ (XS.iloadN X102.here hx rfl (hb hby d_prog_79_method_5_code_26) rfl (X102.ldcInt hx hown (mvT hZ tw27) (g := (mkF m 27 #[.val (.ref a1), .val (.int (2 : Int32)), .val (.int p2)] [(.int (2 : Int32)), (.ref b1)])) rfl (hb hby d_prog_79_method_5_code_27) _ (iremM X102 hx rfl (hb hby d_prog_79_method_5_code_29) rfl (by decide) k)))) ?_
  rw [show ((2 : Int32) % (1048572 : Int32)) = (2 : Int32) from by decide]
  refine Goes.step (S' := T102.setTop (mkF m 31 #[.val (.ref a1), .val (.int (2 : Int32)), .val (.int p2)] [(.int p2), (.int (2 : Int32)), (.ref b1)])) (fun t k => XS.iloadN X102.here hx rfl (hb hby d_prog_79_method_5_code_30) rfl k) ?_
  obtain ⟨cl104, Ar104, qk104, Sz104, Nn104, Hs104, Gs104⟩ := id V1
  obtain ⟨T104, h104, X104, e104, W104, st104⟩ := stI X102 hx hZ e102 Ar104 (j := (2 : Int32)) (inb_of (j := (2 : Int32)) Sz104 ⟨by decide, by decide⟩) (g := (mkF m 31 #[.val (.ref a1), .val (.int (2 : Int32)), .val (.int p2)] [(.int p2), (.int (2 : Int32)), (.ref b1)])) rfl rfl (hb hby d_prog_79_method_5_code_31)
  have V104 : Arv Z h104 b1 k1 .int (16 : Int32) [(.int e0), (.int e1), (.int p2), (.int (0 : Int32)), (.int (0 : Int32)), (.int (0 : Int32)), (.int (0 : Int32)), (.int (0 : Int32)), (.int (0 : Int32)), (.int (0 : Int32)), (.int (0 : Int32)), (.int (0 : Int32)), (.int (0 : Int32)), (.int (0 : Int32)), (.int (0 : Int32)), (.int (0 : Int32))] (.int (0 : Int32)) := Arv.set Ar104 qk104 Sz104 Nn104 Hs104 Gs104 rfl W104 2 rfl (Nat.le_of_ble_eq_true rfl)
  have N104 := Fr.snoc X104 N0 G2
  refine Goes.step (S' := T104.setTop (mkF m 32 #[.val (.ref a1), .val (.int (2 : Int32)), .val (.int p2)] [])) (fun t k => st104 _ k) ?_
  refine Goes.leave (g := (mkF m 32 #[.val (.ref a1), .val (.int (2 : Int32)), .val (.int p2)] [])) X104 Bd.notSynchronized (v := none) (fun _ => rfl) (fun fs hr => X104.returnOut hx Bd.returns (hb hby d_prog_79_method_5_code_32) hr) e104 ?_ (by decide) (by decide)
  exact ⟨rfl, N104, ((Keep.refl _ [b1]).wr W104 (Or.inl (List.mem_of_getElem? (i := 0) rfl))), V104⟩

theorem ef_get_w2 (m : MethodId) (x0 : Addr) (x1 : Int32) : entryFrame m #[(.ref x0), (.int x1)] 2 = mkF m 0 #[.val (.ref x0), .val (.int x1)] [] := by first | (simp [entryFrame, mkF, argsToLocals, Value.category]; done) | rfl
def Q_get_w2 (Z : State) (a1 : Addr) (b1 : Addr) (k1 : ClassId) (e0 : Int32) (e1 : Int32) (e2 : Int32) (h0 : Heap) (n0 : Nat) (v : Option Value) (h : Heap) (L : List Loc) : Prop := v = some (.int e2) ∧ Fr n0 L ∧ h = h0
set_option maxRecDepth 65536 in
set_option maxHeartbeats 40000000 in
theorem get_w2 (l : Launch) (Z : State) (a0 : Array Value) (hw : ∀ d ∈ tables_1, d.before a0 Z = true) (ws : List Jvm.Cond) (a1 : Addr) (b1 : Addr) (k1 : ClassId) (e0 : Int32) (e1 : Int32) (e2 : Int32) (h0 : Heap) (n0 : Nat) (Z0 : n0 ≤ h0.size) (Fw : Fld Z h0 a1 "com/example/lumping/lumping/numbers/ChunkedInts" "whole" "[I" (.ref b1)) (V1 : Arv Z h0 b1 k1 .int (3 : Int32) [(.int e0), (.int e1), (.int e2)] (.int (0 : Int32))) :
    MetFree l mth8 (head1 (Jvm.Cond.code mth8 prog_79_method_4_code 2 (some .int) :: ws) rom0) (fun a U => a = #[(.ref a1), (.int (2 : Int32))] ∧ Z.Warmed39 U.vm ∧ U.heap = h0) (fun _ _ _ _ _ => True) (fun _ U o U' => ∃ v L, o = .returned v ∧ Q_get_w2 Z a1 b1 k1 e0 e1 e2 h0 n0 v U'.heap L ∧ FrameEnd U o U' L rom0.cells rom0.slots) := by
  refine MetFree.of_bodySF (plainFor_of_name pnm1) hisR ?_
  intro p e s m args below meth c s₁ Bd hml0 hP hK
  obtain ⟨rfl, hZ, hh⟩ := hP
  have hx := Bd.exec
  have hby := Bd.bytes
  have hml : c.maxLocals = 2 := hml0
  have hown : s.vm.findClass "com/example/lumping/lumping/numbers/ChunkedInts" = some m.cls := findClass_of_methodNamed Bd.named
  have hnm := (name_of_methodNamed Bd.named Bd.method).1
  have X0 : Stand p l e rom0 s m #[(.ref a1), (.int (2 : Int32))] below meth c s₁ [] 0 0 := Stand.of_body Bd
  have eh0 : s₁.heap = h0 := by rw [← hh, Bd.state]; rfl
  have N0 := Fr.nil n0
  have tw10 := hw _ (List.mem_of_getElem? (i := 10) rfl)
  show Goes p e below (Pq (Q_get_w2 Z a1 b1 k1 e0 e1 e2 h0 n0) s rom0.cells rom0.slots) (s₁.setTop (entryFrame m #[(.ref a1), (.int (2 : Int32))] 2))
  refine Goes.step (S' := s₁.setTop (mkF m 0 #[.val (.ref a1), .val (.int (2 : Int32))] [])) (fun t k => castTop (ef_get_w2 m a1 (2 : Int32)) k) ?_
  refine Goes.step (S' := s₁.setTop (mkF m 1 #[.val (.ref a1), .val (.int (2 : Int32))] [(.ref a1)])) (fun t k => XS.aloadN X0.here hx rfl (hb hby d_prog_79_method_4_code_0) rfl rfl k) ?_
  obtain ⟨T101, X101, e101, st101⟩ := getF X0 hx hZ hown (host := "") (Or.inl tw10) Via.refl eh0 Fw (g := (mkF m 1 #[.val (.ref a1), .val (.int (2 : Int32))] [(.ref a1)])) rfl rfl (hb hby d_prog_79_method_4_code_1)
  refine Goes.step (S' := T101.setTop (mkF m 8 #[.val (.ref a1), .val (.int (2 : Int32))] [(.ref a1)])) (fun t k => st101 _ (XS.ifnullNo X101.here hx rfl (hb hby d_prog_79_method_4_code_4) rfl (XS.aloadN X101.here hx rfl (hb hby d_prog_79_method_4_code_7) rfl rfl k))) ?_
  obtain ⟨T102, X102, e102, st102⟩ := getF X101 hx hZ hown (host := "") (Or.inl tw10) Via.refl e101 Fw (g := (mkF m 8 #[.val (.ref a1), .val (.int (2 : Int32))] [(.ref a1)])) rfl rfl (hb hby d_prog_79_method_4_code_8)
  refine Goes.step (S' := T102.setTop (mkF m 12 #[.val (.ref a1), .val (.int (2 : Int32))] [(.int (2 : Int32)), (.ref b1)])) (fun t k => st102 _ (XS.iloadN X102.here hx rfl (hb hby d_prog_79_method_4_code_11) rfl k)) ?_
  obtain ⟨cl103, Ar103, qk103, Sz103, Nn103, Hs103, Gs103⟩ := id V1
  have hin103 := (inb_of (j := (2 : Int32)) Sz103 ⟨by decide, by decide⟩)
  refine Goes.step (S' := T102.setTop (mkF m 30 #[.val (.ref a1), .val (.int (2 : Int32))] [(.int e2)])) (fun t k => X102.iaload hx (j := (2 : Int32)) (v := (.int e2)) (by rw [e102]; exact Ar103.1) (State.isArrayOf_alike hZ.alike Ar103.2.1) Ar103.2.2 hin103 (Has.at Hs103 hin103 rfl) (g := (mkF m 12 #[.val (.ref a1), .val (.int (2 : Int32))] [(.int (2 : Int32)), (.ref b1)])) rfl rfl (hb hby d_prog_79_method_4_code_12) _ (XS.goto X102.here hx rfl (pc0 := 13) (pc' := 30) rfl (hb hby d_prog_79_method_4_code_13) (by decide) (by decide) k)) ?_
  refine Goes.leave (g := (mkF m 30 #[.val (.ref a1), .val (.int (2 : Int32))] [(.int e2)])) X102 Bd.notSynchronized (v := (some (.int e2))) (fun h => by rw [Bd.returns] at h; cases h) (fun fs hr => retI X102 hx Bd.returns (hb hby d_prog_79_method_4_code_30) hr) e102 ?_ (by decide) (by decide)
  exact ⟨rfl, N0, rfl⟩

theorem ef_get_c2 (m : MethodId) (x0 : Addr) (x1 : Int32) : entryFrame m #[(.ref x0), (.int x1)] 2 = mkF m 0 #[.val (.ref x0), .val (.int x1)] [] := by first | (simp [entryFrame, mkF, argsToLocals, Value.category]; done) | rfl
def Q_get_c2 (Z : State) (a1 : Addr) (c1 : Addr) (kc : ClassId) (b1 : Addr) (k1 : ClassId) (e0 : Int32) (e1 : Int32) (e2 : Int32) (h0 : Heap) (n0 : Nat) (v : Option Value) (h : Heap) (L : List Loc) : Prop := v = some (.int e2) ∧ Fr n0 L ∧ h = h0
set_option maxRecDepth 65536 in
set_option maxHeartbeats 40000000 in
theorem get_c2 (l : Launch) (Z : State) (a0 : Array Value) (hw : ∀ d ∈ tables_1, d.before a0 Z = true) (ws : List Jvm.Cond) (a1 : Addr) (c1 : Addr) (kc : ClassId) (b1 : Addr) (k1 : ClassId) (e0 : Int32) (e1 : Int32) (e2 : Int32) (h0 : Heap) (n0 : Nat) (Z0 : n0 ≤ h0.size) (Fw : Fld Z h0 a1 "com/example/lumping/lumping/numbers/ChunkedInts" "whole" "[I" .null) (Fc : Fld Z h0 a1 "com/example/lumping/lumping/numbers/ChunkedInts" "chunks" "[[I" (.ref c1)) (V2 : Arv Z h0 c1 kc (.array .int) (1 : Int32) [(.ref b1)] .null) (V1 : Arv Z h0 b1 k1 .int (16 : Int32) [(.int e0), (.int e1), (.int e2), (.int (0 : Int32)), (.int (0 : Int32)), (.int (0 : Int32)), (.int (0 : Int32)), (.int (0 : Int32)), (.int (0 : Int32)), (.int (0 : Int32)), (.int (0 : Int32)), (.int (0 : Int32)), (.int (0 : Int32)), (.int (0 : Int32)), (.int (0 : Int32)), (.int (0 : Int32))] (.int (0 : Int32))) :
    MetFree l mth8 (head1 (Jvm.Cond.code mth8 prog_79_method_4_code 2 (some .int) :: ws) rom0) (fun a U => a = #[(.ref a1), (.int (2 : Int32))] ∧ Z.Warmed39 U.vm ∧ U.heap = h0) (fun _ _ _ _ _ => True) (fun _ U o U' => ∃ v L, o = .returned v ∧ Q_get_c2 Z a1 c1 kc b1 k1 e0 e1 e2 h0 n0 v U'.heap L ∧ FrameEnd U o U' L rom0.cells rom0.slots) := by
  refine MetFree.of_bodySF (plainFor_of_name pnm1) hisR ?_
  intro p e s m args below meth c s₁ Bd hml0 hP hK
  obtain ⟨rfl, hZ, hh⟩ := hP
  have hx := Bd.exec
  have hby := Bd.bytes
  have hml : c.maxLocals = 2 := hml0
  have hown : s.vm.findClass "com/example/lumping/lumping/numbers/ChunkedInts" = some m.cls := findClass_of_methodNamed Bd.named
  have hnm := (name_of_methodNamed Bd.named Bd.method).1
  have X0 : Stand p l e rom0 s m #[(.ref a1), (.int (2 : Int32))] below meth c s₁ [] 0 0 := Stand.of_body Bd
  have eh0 : s₁.heap = h0 := by rw [← hh, Bd.state]; rfl
  have N0 := Fr.nil n0
  have tw10 := hw _ (List.mem_of_getElem? (i := 10) rfl)
  have tw27 := hw _ (List.mem_of_getElem? (i := 27) rfl)
  have tw30 := hw _ (List.mem_of_getElem? (i := 30) rfl)
  show Goes p e below (Pq (Q_get_c2 Z a1 c1 kc b1 k1 e0 e1 e2 h0 n0) s rom0.cells rom0.slots) (s₁.setTop (entryFrame m #[(.ref a1), (.int (2 : Int32))] 2))
  refine Goes.step (S' := s₁.setTop (mkF m 0 #[.val (.ref a1), .val (.int (2 : Int32))] [])) (fun t k => castTop (ef_get_c2 m a1 (2 : Int32)) k) ?_
  refine Goes.step (S' := s₁.setTop (mkF m 1 #[.val (.ref a1), .val (.int (2 : Int32))] [(.ref a1)])) (fun t k => XS.aloadN X0.here hx rfl (hb hby d_prog_79_method_4_code_0) rfl rfl k) ?_
  obtain ⟨T101, X101, e101, st101⟩ := getF X0 hx hZ hown (host := "") (Or.inl tw10) Via.refl eh0 Fw (g := (mkF m 1 #[.val (.ref a1), .val (.int (2 : Int32))] [(.ref a1)])) rfl rfl (hb hby d_prog_79_method_4_code_1)
  refine Goes.step (S' := T101.setTop (mkF m 17 #[.val (.ref a1), .val (.int (2 : Int32))] [(.ref a1)])) (fun t k => st101 _ (XS.ifnullYes X101.here hx rfl (pc0 := 4) (pc' := 16) rfl (hb hby d_prog_79_method_4_code_4) rfl (by decide) (by decide) (XS.aloadN X101.here hx rfl (hb hby d_prog_79_method_4_code_16) rfl rfl k))) ?_
  obtain ⟨T102, X102, e102, st102⟩ := getF X101 hx hZ hown (host := "") (Or.inl tw30) Via.refl e101 Fc (g := (mkF m 17 #[.val (.ref a1), .val (.int (2 : Int32))] [(.ref a1)])) rfl rfl (hb hby d_prog_79_method_4_code_17)
  refine Goes.step (S' := T102.setTop (mkF m 24 #[.val (.ref a1), .val (.int (2 : Int32))] [(.int ((2 : Int32) / (1048572 : Int32))), (.ref c1)])) (fun t k => st102 _ (XS.iloadN X102.here hx rfl (hb hby d_prog_79_method_4_code_20) rfl (X102.ldcInt hx hown (mvT hZ tw27) (g := (mkF m 21 #[.val (.ref a1), .val (.int (2 : Int32))] [(.int (2 : Int32)), (.ref c1)])) rfl (hb hby d_prog_79_method_4_code_21) _ (XS.idiv X102.here hx rfl (hb hby d_prog_79_method_4_code_23) rfl (by decide) k)))) ?_
  rw [show ((2 : Int32) / (1048572 : Int32)) = (0 : Int32) from by decide]
  obtain ⟨cl103, Ar103, qk103, Sz103, Nn103, Hs103, Gs103⟩ := id V2
  have hin103 := (inb_of (j := (0 : Int32)) Sz103 ⟨by decide, by decide⟩)
  refine Goes.step (S' := T102.setTop (mkF m 29 #[.val (.ref a1), .val (.int (2 : Int32))] [(.int ((2 : Int32) % (1048572 : Int32))), (.ref b1)])) (fun t k => X102.aaload hx (j := (0 : Int32)) (v := (.ref b1)) (by rw [e102]; exact Ar103.1) (State.isArrayOf_alike hZ.alike Ar103.2.1) rfl Ar103.2.2 hin103 (Has.at Hs103 hin103 rfl) (g := (mkF m 24 #[.val (.ref a1), .val (.int (2 : Int32))] [(.int (0 : Int32)), (.ref c1)])) rfl rfl (hb hby d_prog_79_method_4_code_24) _ (XS.iloadN X102.here hx rfl (hb hby d_prog_79_method_4_code_25) rfl (X102.ldcInt hx hown (mvT hZ tw27) (g := (mkF m 26 #[.val (.ref a1), .val (.int (2 : Int32))] [(.int (2 : Int32)), (.ref b1)])) rfl (hb hby d_prog_79_method_4_code_26) _ (iremM X102 hx rfl (hb hby d_prog_79_method_4_code_28) rfl (by decide) k)))) ?_
  rw [show ((2 : Int32) % (1048572 : Int32)) = (2 : Int32) from by decide]
  obtain ⟨cl104, Ar104, qk104, Sz104, Nn104, Hs104, Gs104⟩ := id V1
  have hin104 := (inb_of (j := (2 : Int32)) Sz104 ⟨by decide, by decide⟩)
  refine Goes.step (S' := T102.setTop (mkF m 30 #[.val (.ref a1), .val (.int (2 : Int32))] [(.int e2)])) (fun t k => X102.iaload hx (j := (2 : Int32)) (v := (.int e2)) (by rw [e102]; exact Ar104.1) (State.isArrayOf_alike hZ.alike Ar104.2.1) Ar104.2.2 hin104 (Has.at Hs104 hin104 rfl) (g := (mkF m 29 #[.val (.ref a1), .val (.int (2 : Int32))] [(.int (2 : Int32)), (.ref b1)])) rfl rfl (hb hby d_prog_79_method_4_code_29) _ k) ?_
  refine Goes.leave (g := (mkF m 30 #[.val (.ref a1), .val (.int (2 : Int32))] [(.int e2)])) X102 Bd.notSynchronized (v := (some (.int e2))) (fun h => by rw [Bd.returns] at h; cases h) (fun fs hr => retI X102 hx Bd.returns (hb hby d_prog_79_method_4_code_30) hr) e102 ?_ (by decide) (by decide)
  exact ⟨rfl, N0, rfl⟩

theorem ef_siz (m : MethodId) (x0 : Addr) : entryFrame m #[(.ref x0)] 1 = mkF m 0 #[.val (.ref x0)] [] := by first | (simp [entryFrame, mkF, argsToLocals, Value.category]; done) | rfl
def Q_siz (Z : State) (a1 : Addr) (p1 : Int32) (h0 : Heap) (n0 : Nat) (v : Option Value) (h : Heap) (L : List Loc) : Prop := v = some (.int p1) ∧ Fr n0 L ∧ h = h0
set_option maxRecDepth 65536 in
set_option maxHeartbeats 40000000 in
theorem siz (l : Launch) (Z : State) (a0 : Array Value) (hw : ∀ d ∈ tables_1, d.before a0 Z = true) (ws : List Jvm.Cond) (a1 : Addr) (p1 : Int32) (h0 : Heap) (n0 : Nat) (Z0 : n0 ≤ h0.size) (Fs : Fld Z h0 a1 "com/example/lumping/lumping/numbers/ChunkedInts" "size" "I" (.int p1)) :
    MetFree l mth9 (head1 (Jvm.Cond.code mth9 prog_79_method_3_code 1 (some .int) :: ws) rom0) (fun a U => a = #[(.ref a1)] ∧ Z.Warmed39 U.vm ∧ U.heap = h0) (fun _ _ _ _ _ => True) (fun _ U o U' => ∃ v L, o = .returned v ∧ Q_siz Z a1 p1 h0 n0 v U'.heap L ∧ FrameEnd U o U' L rom0.cells rom0.slots) := by
  refine MetFree.of_bodySF (plainFor_of_name pnm1) hisR ?_
  intro p e s m args below meth c s₁ Bd hml0 hP hK
  obtain ⟨rfl, hZ, hh⟩ := hP
  have hx := Bd.exec
  have hby := Bd.bytes
  have hml : c.maxLocals = 1 := hml0
  have hown : s.vm.findClass "com/example/lumping/lumping/numbers/ChunkedInts" = some m.cls := findClass_of_methodNamed Bd.named
  have hnm := (name_of_methodNamed Bd.named Bd.method).1
  have X0 : Stand p l e rom0 s m #[(.ref a1)] below meth c s₁ [] 0 0 := Stand.of_body Bd
  have eh0 : s₁.heap = h0 := by rw [← hh, Bd.state]; rfl
  have N0 := Fr.nil n0
  have tw21 := hw _ (List.mem_of_getElem? (i := 21) rfl)
  show Goes p e below (Pq (Q_siz Z a1 p1 h0 n0) s rom0.cells rom0.slots) (s₁.setTop (entryFrame m #[(.ref a1)] 1))
  refine Goes.step (S' := s₁.setTop (mkF m 0 #[.val (.ref a1)] [])) (fun t k => castTop (ef_siz m a1) k) ?_
  refine Goes.step (S' := s₁.setTop (mkF m 1 #[.val (.ref a1)] [(.ref a1)])) (fun t k => XS.aloadN X0.here hx rfl (hb hby d_prog_79_method_3_code_0) rfl rfl k) ?_
  obtain ⟨T101, X101, e101, st101⟩ := getF X0 hx hZ hown (host := "") (Or.inl tw21) Via.refl eh0 Fs (g := (mkF m 1 #[.val (.ref a1)] [(.ref a1)])) rfl rfl (hb hby d_prog_79_method_3_code_1)
  refine Goes.step (S' := T101.setTop (mkF m 4 #[.val (.ref a1)] [(.int p1)])) (fun t k => st101 _ k) ?_
  refine Goes.leave (g := (mkF m 4 #[.val (.ref a1)] [(.int p1)])) X101 Bd.notSynchronized (v := (some (.int p1))) (fun h => by rw [Bd.returns] at h; cases h) (fun fs hr => retI X101 hx Bd.returns (hb hby d_prog_79_method_3_code_4) hr) e101 ?_ (by decide) (by decide)
  exact ⟨rfl, N0, rfl⟩

theorem ef_exp_t (m : MethodId) (x0 : Int32) (x1 : Int32) (x2 : Int32) (x3 : Int32) : entryFrame m #[(.int x0), (.int x1), (.int x2), (.int x3)] 4 = mkF m 0 #[.val (.int x0), .val (.int x1), .val (.int x2), .val (.int x3)] [] := by first | (simp [entryFrame, mkF, argsToLocals, Value.category]; done) | rfl
def Q_exp_t (Z : State) (p0 : Int32) (p1 : Int32) (p2 : Int32) (p3 : Int32) (h0 : Heap) (n0 : Nat) (v : Option Value) (h : Heap) (L : List Loc) : Prop := v = some (.int p2) ∧ Fr n0 L ∧ h = h0
set_option maxRecDepth 65536 in
set_option maxHeartbeats 40000000 in
theorem exp_t (l : Launch) (Z : State) (a0 : Array Value) (hw : ∀ d ∈ tables_1, d.before a0 Z = true) (ws : List Jvm.Cond) (p0 : Int32) (p1 : Int32) (p2 : Int32) (p3 : Int32) (h0 : Heap) (n0 : Nat) (Z0 : n0 ≤ h0.size) (H : p0 = p1) :
    MetFree l mth10 (head1 (Jvm.Cond.code mth10 method_2_code 4 (some .int) :: ws) rom0) (fun a U => a = #[(.int p0), (.int p1), (.int p2), (.int p3)] ∧ Z.Warmed39 U.vm ∧ U.heap = h0) (fun _ _ _ _ _ => True) (fun _ U o U' => ∃ v L, o = .returned v ∧ Q_exp_t Z p0 p1 p2 p3 h0 n0 v U'.heap L ∧ FrameEnd U o U' L rom0.cells rom0.slots) := by
  refine MetFree.of_bodySF (plainFor_of_name pnm2) hisR ?_
  intro p e s m args below meth c s₁ Bd hml0 hP hK
  obtain ⟨rfl, hZ, hh⟩ := hP
  have hx := Bd.exec
  have hby := Bd.bytes
  have hml : c.maxLocals = 4 := hml0
  have hown : s.vm.findClass "com/example/lumping/lumping/numbers/ChunkedIntsSetPinLaw" = some m.cls := findClass_of_methodNamed Bd.named
  have hnm := (name_of_methodNamed Bd.named Bd.method).1
  have X0 : Stand p l e rom0 s m #[(.int p0), (.int p1), (.int p2), (.int p3)] below meth c s₁ [] 0 0 := Stand.of_body Bd
  have eh0 : s₁.heap = h0 := by rw [← hh, Bd.state]; rfl
  have N0 := Fr.nil n0
  show Goes p e below (Pq (Q_exp_t Z p0 p1 p2 p3 h0 n0) s rom0.cells rom0.slots) (s₁.setTop (entryFrame m #[(.int p0), (.int p1), (.int p2), (.int p3)] 4))
  refine Goes.step (S' := s₁.setTop (mkF m 0 #[.val (.int p0), .val (.int p1), .val (.int p2), .val (.int p3)] [])) (fun t k => castTop (ef_exp_t m p0 p1 p2 p3) k) ?_
  refine Goes.step (S' := s₁.setTop (mkF m 6 #[.val (.int p0), .val (.int p1), .val (.int p2), .val (.int p3)] [(.int p2)])) (fun t k => XS.iloadN X0.here hx rfl (hb hby d_method_2_code_0) rfl (XS.iloadN X0.here hx rfl (hb hby d_method_2_code_1) rfl (XS.icmpNo X0.here hx rfl (hb hby d_method_2_code_2) rfl (teq (H : p0 = p1)).2 (XS.iloadN X0.here hx rfl (hb hby d_method_2_code_5) rfl k)))) ?_
  refine Goes.leave (g := (mkF m 6 #[.val (.int p0), .val (.int p1), .val (.int p2), .val (.int p3)] [(.int p2)])) X0 Bd.notSynchronized (v := (some (.int p2))) (fun h => by rw [Bd.returns] at h; cases h) (fun fs hr => retI X0 hx Bd.returns (hb hby d_method_2_code_6) hr) eh0 ?_ (by decide) (by decide)
  exact ⟨rfl, N0, rfl⟩

theorem ef_exp_f (m : MethodId) (x0 : Int32) (x1 : Int32) (x2 : Int32) (x3 : Int32) : entryFrame m #[(.int x0), (.int x1), (.int x2), (.int x3)] 4 = mkF m 0 #[.val (.int x0), .val (.int x1), .val (.int x2), .val (.int x3)] [] := by first | (simp [entryFrame, mkF, argsToLocals, Value.category]; done) | rfl
def Q_exp_f (Z : State) (p0 : Int32) (p1 : Int32) (p2 : Int32) (p3 : Int32) (h0 : Heap) (n0 : Nat) (v : Option Value) (h : Heap) (L : List Loc) : Prop := v = some (.int p3) ∧ Fr n0 L ∧ h = h0
set_option maxRecDepth 65536 in
set_option maxHeartbeats 40000000 in
theorem exp_f (l : Launch) (Z : State) (a0 : Array Value) (hw : ∀ d ∈ tables_1, d.before a0 Z = true) (ws : List Jvm.Cond) (p0 : Int32) (p1 : Int32) (p2 : Int32) (p3 : Int32) (h0 : Heap) (n0 : Nat) (Z0 : n0 ≤ h0.size) (H : ¬ (p0 = p1)) :
    MetFree l mth10 (head1 (Jvm.Cond.code mth10 method_2_code 4 (some .int) :: ws) rom0) (fun a U => a = #[(.int p0), (.int p1), (.int p2), (.int p3)] ∧ Z.Warmed39 U.vm ∧ U.heap = h0) (fun _ _ _ _ _ => True) (fun _ U o U' => ∃ v L, o = .returned v ∧ Q_exp_f Z p0 p1 p2 p3 h0 n0 v U'.heap L ∧ FrameEnd U o U' L rom0.cells rom0.slots) := by
  refine MetFree.of_bodySF (plainFor_of_name pnm2) hisR ?_
  intro p e s m args below meth c s₁ Bd hml0 hP hK
  obtain ⟨rfl, hZ, hh⟩ := hP
  have hx := Bd.exec
  have hby := Bd.bytes
  have hml : c.maxLocals = 4 := hml0
  have hown : s.vm.findClass "com/example/lumping/lumping/numbers/ChunkedIntsSetPinLaw" = some m.cls := findClass_of_methodNamed Bd.named
  have hnm := (name_of_methodNamed Bd.named Bd.method).1
  have X0 : Stand p l e rom0 s m #[(.int p0), (.int p1), (.int p2), (.int p3)] below meth c s₁ [] 0 0 := Stand.of_body Bd
  have eh0 : s₁.heap = h0 := by rw [← hh, Bd.state]; rfl
  have N0 := Fr.nil n0
  show Goes p e below (Pq (Q_exp_f Z p0 p1 p2 p3 h0 n0) s rom0.cells rom0.slots) (s₁.setTop (entryFrame m #[(.int p0), (.int p1), (.int p2), (.int p3)] 4))
  refine Goes.step (S' := s₁.setTop (mkF m 0 #[.val (.int p0), .val (.int p1), .val (.int p2), .val (.int p3)] [])) (fun t k => castTop (ef_exp_f m p0 p1 p2 p3) k) ?_
  refine Goes.step (S' := s₁.setTop (mkF m 8 #[.val (.int p0), .val (.int p1), .val (.int p2), .val (.int p3)] [(.int p3)])) (fun t k => XS.iloadN X0.here hx rfl (hb hby d_method_2_code_0) rfl (XS.iloadN X0.here hx rfl (hb hby d_method_2_code_1) rfl (XS.icmpYes X0.here hx rfl (pc0 := 2) (pc' := 7) rfl (hb hby d_method_2_code_2) rfl (feq (H : ¬ (p0 = p1))).2 (by decide) (by decide) (XS.iloadN X0.here hx rfl (hb hby d_method_2_code_7) rfl k)))) ?_
  refine Goes.leave (g := (mkF m 8 #[.val (.int p0), .val (.int p1), .val (.int p2), .val (.int p3)] [(.int p3)])) X0 Bd.notSynchronized (v := (some (.int p3))) (fun h => by rw [Bd.returns] at h; cases h) (fun fs hr => retI X0 hx Bd.returns (hb hby d_method_2_code_8) hr) eh0 ?_ (by decide) (by decide)
  exact ⟨rfl, N0, rfl⟩

theorem ef_law (m : MethodId) (x0 : Int32) (x1 : Int32) (x2 : Int32) (x3 : Int32) (x4 : Int32) (x5 : Int32) : entryFrame m #[(.int x0), (.int x1), (.int x2), (.int x3), (.int x4), (.int x5)] maxLocals = mkF m 0 #[.val (.int x0), .val (.int x1), .val (.int x2), .val (.int x3), .val (.int x4), .val (.int x5), .unset, .unset, .unset, .unset, .unset, .unset] [] := by first | (simp [entryFrame, mkF, argsToLocals, Value.category, maxLocals]; done) | rfl
def Q_law (Z : State) (p0 : Int32) (p1 : Int32) (p2 : Int32) (p3 : Int32) (p4 : Int32) (p5 : Int32) (h0 : Heap) (n0 : Nat) (v : Option Value) (h : Heap) (L : List Loc) : Prop := v = some (.int (1 : Int32)) ∧ Fr n0 L
set_option maxRecDepth 65536 in
set_option maxHeartbeats 40000000 in
theorem law (l : Launch) (Z : State) (a0 : Array Value) (hw : ∀ d ∈ tables_1, d.before a0 Z = true) (ws : List Jvm.Cond) (p0 : Int32) (p1 : Int32) (p2 : Int32) (p3 : Int32) (p4 : Int32) (p5 : Int32) (h0 : Heap) (n0 : Nat) (Z0 : n0 ≤ h0.size) :
    MetFree l x (head1 (Jvm.Cond.code x code maxLocals ret :: ws) room_1) (fun a U => a = #[(.int p0), (.int p1), (.int p2), (.int p3), (.int p4), (.int p5)] ∧ Z.Warmed39 U.vm ∧ U.heap = h0) (fun _ _ _ _ _ => True) (fun _ U o U' => ∃ v L, o = .returned v ∧ Q_law Z p0 p1 p2 p3 p4 p5 h0 n0 v U'.heap L ∧ FrameEnd U o U' L room_1.cells room_1.slots) := by
  refine MetFree.of_bodySF (plainFor_of_name pnm2) hisR ?_
  intro p e s m args below meth c s₁ Bd hml0 hP hK
  obtain ⟨rfl, hZ, hh⟩ := hP
  have hx := Bd.exec
  have hby := Bd.bytes
  have hml : c.maxLocals = 12 := hml0
  have hown : s.vm.findClass "com/example/lumping/lumping/numbers/ChunkedIntsSetPinLaw" = some m.cls := findClass_of_methodNamed Bd.named
  have hnm := (name_of_methodNamed Bd.named Bd.method).1
  have X0 : Stand p l e room_1 s m #[(.int p0), (.int p1), (.int p2), (.int p3), (.int p4), (.int p5)] below meth c s₁ [] 0 0 := Stand.of_body Bd
  have eh0 : s₁.heap = h0 := by rw [← hh, Bd.state]; rfl
  have N0 := Fr.nil n0
  have tw0 := hw _ (List.mem_of_getElem? (i := 0) rfl)
  have tw1 := hw _ (List.mem_of_getElem? (i := 1) rfl)
  have tw2 := hw _ (List.mem_of_getElem? (i := 2) rfl)
  have tw3 := hw _ (List.mem_of_getElem? (i := 3) rfl)
  have tw4 := hw _ (List.mem_of_getElem? (i := 4) rfl)
  have tw5 := hw _ (List.mem_of_getElem? (i := 5) rfl)
  have tw11 := hw _ (List.mem_of_getElem? (i := 11) rfl)
  have tw13 := hw _ (List.mem_of_getElem? (i := 13) rfl)
  have tw14 := hw _ (List.mem_of_getElem? (i := 14) rfl)
  have tw15 := hw _ (List.mem_of_getElem? (i := 15) rfl)
  have tw16 := hw _ (List.mem_of_getElem? (i := 16) rfl)
  have tw17 := hw _ (List.mem_of_getElem? (i := 17) rfl)
  have tw18 := hw _ (List.mem_of_getElem? (i := 18) rfl)
  have tw20 := hw _ (List.mem_of_getElem? (i := 20) rfl)
  have tw22 := hw _ (List.mem_of_getElem? (i := 22) rfl)
  have tw31 := hw _ (List.mem_of_getElem? (i := 31) rfl)
  have tw49 := hw _ (List.mem_of_getElem? (i := 49) rfl)
  have tw50 := hw _ (List.mem_of_getElem? (i := 50) rfl)
  have tw51 := hw _ (List.mem_of_getElem? (i := 51) rfl)
  have tw52 := hw _ (List.mem_of_getElem? (i := 52) rfl)
  have tw53 := hw _ (List.mem_of_getElem? (i := 53) rfl)
  have tw54 := hw _ (List.mem_of_getElem? (i := 54) rfl)
  have tw55 := hw _ (List.mem_of_getElem? (i := 55) rfl)
  have tw56 := hw _ (List.mem_of_getElem? (i := 56) rfl)
  have tw57 := hw _ (List.mem_of_getElem? (i := 57) rfl)
  have tw58 := hw _ (List.mem_of_getElem? (i := 58) rfl)
  have tw59 := hw _ (List.mem_of_getElem? (i := 59) rfl)
  have tw60 := hw _ (List.mem_of_getElem? (i := 60) rfl)
  have tw61 := hw _ (List.mem_of_getElem? (i := 61) rfl)
  have tw62 := hw _ (List.mem_of_getElem? (i := 62) rfl)
  have tw63 := hw _ (List.mem_of_getElem? (i := 63) rfl)
  have tw64 := hw _ (List.mem_of_getElem? (i := 64) rfl)
  have tw65 := hw _ (List.mem_of_getElem? (i := 65) rfl)
  have tw66 := hw _ (List.mem_of_getElem? (i := 66) rfl)
  have tw67 := hw _ (List.mem_of_getElem? (i := 67) rfl)
  have tw68 := hw _ (List.mem_of_getElem? (i := 68) rfl)
  have tw69 := hw _ (List.mem_of_getElem? (i := 69) rfl)
  have tw70 := hw _ (List.mem_of_getElem? (i := 70) rfl)
  have tw71 := hw _ (List.mem_of_getElem? (i := 71) rfl)
  show Goes p e below (Pq (Q_law Z p0 p1 p2 p3 p4 p5 h0 n0) s room_1.cells room_1.slots) (s₁.setTop (entryFrame m #[(.int p0), (.int p1), (.int p2), (.int p3), (.int p4), (.int p5)] maxLocals))
  refine Goes.step (S' := s₁.setTop (mkF m 0 #[.val (.int p0), .val (.int p1), .val (.int p2), .val (.int p3), .val (.int p4), .val (.int p5), .unset, .unset, .unset, .unset, .unset, .unset] [])) (fun t k => castTop (ef_law m p0 p1 p2 p3 p4 p5) k) ?_
  have sg : ∀ (o6 : Addr) (s7 : Slot) (cc : Addr) (kc : ClassId) (bb : Addr) (kb : ClassId) (Tsg : State) (locssg : List Loc) (hsg : Heap)  (Xsg : Stand p l e room_1 s m #[(.int p0), (.int p1), (.int p2), (.int p3), (.int p4), (.int p5)] below meth c Tsg locssg 4 24) (esg : Tsg.heap = hsg) (Nsg : Fr n0 locssg) (Ksg : Keep h0 hsg []) (O7 : One s7) (E6 : Exa Z hsg o6 "com/example/lumping/lumping/numbers/ChunkedInts") (Fw : Fld Z hsg o6 "com/example/lumping/lumping/numbers/ChunkedInts" "whole" "[I" .null) (Fc : Fld Z hsg o6 "com/example/lumping/lumping/numbers/ChunkedInts" "chunks" "[[I" (.ref cc)) (Ff : Fld Z hsg o6 "com/example/lumping/lumping/numbers/ChunkedInts" "filling" "[I" (.ref bb)) (Fs : Fld Z hsg o6 "com/example/lumping/lumping/numbers/ChunkedInts" "size" "I" (.int (3 : Int32))) (Vc : Arv Z hsg cc kc (.array .int) (1 : Int32) [(.ref bb)] .null) (Vb : Arv Z hsg bb kb .int (16 : Int32) [(.int p0), (.int p1), (.int p2), (.int (0 : Int32)), (.int (0 : Int32)), (.int (0 : Int32)), (.int (0 : Int32)), (.int (0 : Int32)), (.int (0 : Int32)), (.int (0 : Int32)), (.int (0 : Int32)), (.int (0 : Int32)), (.int (0 : Int32)), (.int (0 : Int32)), (.int (0 : Int32)), (.int (0 : Int32))] (.int (0 : Int32))) (Gb : n0 ≤ bb), Goes p e below (Pq (Q_law Z p0 p1 p2 p3 p4 p5 h0 n0) s room_1.cells room_1.slots) (Tsg.setTop (mkF m 56 #[.val (.int p0), .val (.int p1), .val (.int p2), .val (.int p3), .val (.int p4), .val (.int p5), .val (.ref o6), s7, .unset, .unset, .unset, .unset] [])) := by
    intro o6 s7 cc kc bb kb Tsg locssg hsg Xsg esg Nsg Ksg O7 E6 Fw Fc Ff Fs Vc Vb Gb
    refine Goes.step (S' := Tsg.setTop (mkF m 63 #[.val (.int p0), .val (.int p1), .val (.int p2), .val (.int p3), .val (.int p4), .val (.int p5), .val (.ref o6), s7, .unset, .unset, .unset, .unset] [(.int ((p4 &&& (2147483647 : Int32)) % (3 : Int32)))])) (fun t k => XS.iload Xsg.here hx rfl (hb hby at_56) rfl (Xsg.ldcInt hx hown (mvT hZ tw49) (g := (mkF m 58 #[.val (.int p0), .val (.int p1), .val (.int p2), .val (.int p3), .val (.int p4), .val (.int p5), .val (.ref o6), s7, .unset, .unset, .unset, .unset] [(.int p4)])) rfl (hb hby at_58) _ (XS.iand Xsg.here hx rfl (hb hby at_60) rfl (XS.iconst Xsg.here hx rfl (hb hby at_61) (iremM Xsg hx rfl (hb hby at_62) rfl (by decide) k))))) ?_
    by_cases hc101 : ((p4 &&& (2147483647 : Int32)) % (3 : Int32)) = (0 : Int32)
    case pos =>
      rw [hc101]
      refine Goes.step (S' := Tsg.setTop (mkF m 70 #[.val (.int p0), .val (.int p1), .val (.int p2), .val (.int p3), .val (.int p4), .val (.int p5), .val (.ref o6), .val (.int (0 : Int32)), .unset, .unset, .unset, .unset] [(.int p3), (.int (0 : Int32)), (.ref o6)])) (fun t k => XS.istoreS Xsg.here hx rfl (hb hby at_63) rfl rfl O7 (XS.aload Xsg.here hx rfl (hb hby at_65) rfl rfl (XS.iload Xsg.here hx rfl (hb hby at_67) rfl (XS.iloadN Xsg.here hx rfl (hb hby at_69) rfl k)))) ?_
      obtain ⟨cq102, kq102, q102a, q102b, q102c⟩ := isOf hZ esg E6
      obtain ⟨_, _, ⟨T102, L102, k102, n102⟩, -, X102, ⟨Lc102, hQ102, l102, y102, z102⟩, st102⟩ := Xsg.virtualBack hx (y := mth7) (z := mth7) hown (mvT hZ tw50) (mvT hZ tw51) (notFace_of_selects (args := #[]) (mvT hZ tw53)) (mvT hZ tw53) (mvT hZ tw52) (by decide) (backOf (W := 0) (set_c0 l Z a0 hw [] o6 p3 cc kc bb kb p0 p1 p2 hsg n0 (Nat.le_trans Z0 Ksg.1) Fw Fc Vc Vb Gb) hZ tw54 tw2 (by decide) (by decide)) q102a q102c (g := (mkF m 70 #[.val (.int p0), .val (.int p1), .val (.int p2), .val (.int p3), .val (.int p4), .val (.int p5), .val (.ref o6), .val (.int (0 : Int32)), .unset, .unset, .unset, .unset] [(.int p3), (.int (0 : Int32)), (.ref o6)])) rfl (by rw [hml]; rfl) (Steps.refl _) (argsL := [(.int (0 : Int32)), (.int p3)]) (rest := []) (lenOf pd_II_V rfl) rfl (Nat.le_of_eq rfl) (hb hby at_70) (fun _ _ => ⟨rfl, esg, (by decide : 4 + 0 ≤ _), (by decide : 24 + 0 ≤ _)⟩)
      dsimp only [Pt.U, Pt.locs, Pt.cells, Pt.slots] at X102 l102 y102 z102 st102 hQ102
      subst l102 y102 z102
      obtain ⟨rfl, Nq102, q102_0, q102_1⟩ := hQ102
      have N102 := Fr.app Nsg Nq102
      refine Goes.step (S' := T102.setTop (mkF m 76 #[.val (.int p0), .val (.int p1), .val (.int p2), .val (.int p3), .val (.int p4), .val (.int p5), .val (.ref o6), .val (.int (0 : Int32)), .unset, .unset, .unset, .unset] [(.int (0 : Int32)), (.ref o6)])) (fun t k => st102.trans (XS.aload X102.here hx rfl (hb hby at_73) rfl rfl (XS.iconst X102.here hx rfl (hb hby at_75) k))) ?_
      obtain ⟨cq103, kq103, q103a, q103b, q103c⟩ := isOf hZ rfl (E6.keep q102_0)
      obtain ⟨_, _, ⟨T103, L103, k103, n103⟩, -, X103, ⟨Lc103, hQ103, l103, y103, z103⟩, st103⟩ := X102.virtualBack hx (y := mth8) (z := mth8) hown (mvT hZ tw55) (mvT hZ tw56) (notFace_of_selects (args := #[]) (mvT hZ tw58)) (mvT hZ tw58) (mvT hZ tw57) (by decide) (backOf (W := 0) (get_c0 l Z a0 hw [] o6 cc kc bb kb p3 p1 p2 T102.heap n0 (Nat.le_trans Z0 (Nat.le_trans Ksg.1 q102_0.1)) (Fw.keep q102_0 (ninS (Exa.neArv E6 Vb tw1) nin0)) (Fc.keep q102_0 (ninS (Exa.neArv E6 Vb tw1) nin0)) (Vc.keep q102_0 (ninS (own_neVV Vc Vb (by decide)) nin0)) q102_1) hZ tw59 tw2 (by decide) (by decide)) q103a q103c (g := (mkF m 76 #[.val (.int p0), .val (.int p1), .val (.int p2), .val (.int p3), .val (.int p4), .val (.int p5), .val (.ref o6), .val (.int (0 : Int32)), .unset, .unset, .unset, .unset] [(.int (0 : Int32)), (.ref o6)])) rfl (by rw [hml]; rfl) (Steps.refl _) (argsL := [(.int (0 : Int32))]) (rest := []) (lenOf pd_I_I rfl) rfl (Nat.le_of_eq rfl) (hb hby at_76) (fun _ _ => ⟨rfl, rfl, (by decide : 4 + 0 ≤ _), (by decide : 24 + 0 ≤ _)⟩)
      dsimp only [Pt.U, Pt.locs, Pt.cells, Pt.slots] at X103 l103 y103 z103 st103 hQ103
      subst l103 y103 z103
      obtain ⟨rfl, Nq103, q103_0⟩ := hQ103
      have N103 := Fr.app N102 Nq103
      refine Goes.step (S' := T103.setTop (mkF m 84 #[.val (.int p0), .val (.int p1), .val (.int p2), .val (.int p3), .val (.int p4), .val (.int p5), .val (.ref o6), .val (.int (0 : Int32)), .val (.int p3), .unset, .unset, .unset] [(.int (1 : Int32)), (.ref o6)])) (fun t k => st103.trans (XS.istore X103.here hx rfl (hb hby at_79) rfl (l' := #[.val (.int p0), .val (.int p1), .val (.int p2), .val (.int p3), .val (.int p4), .val (.int p5), .val (.ref o6), .val (.int (0 : Int32)), .val (.int p3), .unset, .unset, .unset]) rfl (XS.aload X103.here hx rfl (hb hby at_81) rfl rfl (XS.iconst X103.here hx rfl (hb hby at_83) k)))) ?_
      obtain ⟨cq104, kq104, q104a, q104b, q104c⟩ := isOf hZ q103_0 (E6.keep q102_0)
      obtain ⟨_, _, ⟨T104, L104, k104, n104⟩, -, X104, ⟨Lc104, hQ104, l104, y104, z104⟩, st104⟩ := X103.virtualBack hx (y := mth8) (z := mth8) hown (mvT hZ tw55) (mvT hZ tw56) (notFace_of_selects (args := #[]) (mvT hZ tw58)) (mvT hZ tw58) (mvT hZ tw57) (by decide) (backOf (W := 0) (get_c1 l Z a0 hw [] o6 cc kc bb kb p3 p1 p2 T102.heap n0 (Nat.le_trans Z0 (Nat.le_trans Ksg.1 q102_0.1)) (Fw.keep q102_0 (ninS (Exa.neArv E6 Vb tw1) nin0)) (Fc.keep q102_0 (ninS (Exa.neArv E6 Vb tw1) nin0)) (Vc.keep q102_0 (ninS (own_neVV Vc Vb (by decide)) nin0)) q102_1) hZ tw59 tw2 (by decide) (by decide)) q104a q104c (g := (mkF m 84 #[.val (.int p0), .val (.int p1), .val (.int p2), .val (.int p3), .val (.int p4), .val (.int p5), .val (.ref o6), .val (.int (0 : Int32)), .val (.int p3), .unset, .unset, .unset] [(.int (1 : Int32)), (.ref o6)])) rfl (by rw [hml]; rfl) (Steps.refl _) (argsL := [(.int (1 : Int32))]) (rest := []) (lenOf pd_I_I rfl) rfl (Nat.le_of_eq rfl) (hb hby at_84) (fun _ _ => ⟨rfl, q103_0, (by decide : 4 + 0 ≤ _), (by decide : 24 + 0 ≤ _)⟩)
      dsimp only [Pt.U, Pt.locs, Pt.cells, Pt.slots] at X104 l104 y104 z104 st104 hQ104
      subst l104 y104 z104
      obtain ⟨rfl, Nq104, q104_0⟩ := hQ104
      have N104 := Fr.app N103 Nq104
      refine Goes.step (S' := T104.setTop (mkF m 92 #[.val (.int p0), .val (.int p1), .val (.int p2), .val (.int p3), .val (.int p4), .val (.int p5), .val (.ref o6), .val (.int (0 : Int32)), .val (.int p3), .val (.int p1), .unset, .unset] [(.int (2 : Int32)), (.ref o6)])) (fun t k => st104.trans (XS.istore X104.here hx rfl (hb hby at_87) rfl (l' := #[.val (.int p0), .val (.int p1), .val (.int p2), .val (.int p3), .val (.int p4), .val (.int p5), .val (.ref o6), .val (.int (0 : Int32)), .val (.int p3), .val (.int p1), .unset, .unset]) rfl (XS.aload X104.here hx rfl (hb hby at_89) rfl rfl (XS.iconst X104.here hx rfl (hb hby at_91) k)))) ?_
      obtain ⟨cq105, kq105, q105a, q105b, q105c⟩ := isOf hZ q104_0 (E6.keep q102_0)
      obtain ⟨_, _, ⟨T105, L105, k105, n105⟩, -, X105, ⟨Lc105, hQ105, l105, y105, z105⟩, st105⟩ := X104.virtualBack hx (y := mth8) (z := mth8) hown (mvT hZ tw55) (mvT hZ tw56) (notFace_of_selects (args := #[]) (mvT hZ tw58)) (mvT hZ tw58) (mvT hZ tw57) (by decide) (backOf (W := 0) (get_c2 l Z a0 hw [] o6 cc kc bb kb p3 p1 p2 T102.heap n0 (Nat.le_trans Z0 (Nat.le_trans Ksg.1 q102_0.1)) (Fw.keep q102_0 (ninS (Exa.neArv E6 Vb tw1) nin0)) (Fc.keep q102_0 (ninS (Exa.neArv E6 Vb tw1) nin0)) (Vc.keep q102_0 (ninS (own_neVV Vc Vb (by decide)) nin0)) q102_1) hZ tw59 tw2 (by decide) (by decide)) q105a q105c (g := (mkF m 92 #[.val (.int p0), .val (.int p1), .val (.int p2), .val (.int p3), .val (.int p4), .val (.int p5), .val (.ref o6), .val (.int (0 : Int32)), .val (.int p3), .val (.int p1), .unset, .unset] [(.int (2 : Int32)), (.ref o6)])) rfl (by rw [hml]; rfl) (Steps.refl _) (argsL := [(.int (2 : Int32))]) (rest := []) (lenOf pd_I_I rfl) rfl (Nat.le_of_eq rfl) (hb hby at_92) (fun _ _ => ⟨rfl, q104_0, (by decide : 4 + 0 ≤ _), (by decide : 24 + 0 ≤ _)⟩)
      dsimp only [Pt.U, Pt.locs, Pt.cells, Pt.slots] at X105 l105 y105 z105 st105 hQ105
      subst l105 y105 z105
      obtain ⟨rfl, Nq105, q105_0⟩ := hQ105
      have N105 := Fr.app N104 Nq105
      refine Goes.step (S' := T105.setTop (mkF m 99 #[.val (.int p0), .val (.int p1), .val (.int p2), .val (.int p3), .val (.int p4), .val (.int p5), .val (.ref o6), .val (.int (0 : Int32)), .val (.int p3), .val (.int p1), .val (.int p2), .unset] [(.ref o6)])) (fun t k => st105.trans (XS.istore X105.here hx rfl (hb hby at_95) rfl (l' := #[.val (.int p0), .val (.int p1), .val (.int p2), .val (.int p3), .val (.int p4), .val (.int p5), .val (.ref o6), .val (.int (0 : Int32)), .val (.int p3), .val (.int p1), .val (.int p2), .unset]) rfl (XS.aload X105.here hx rfl (hb hby at_97) rfl rfl k))) ?_
      obtain ⟨cq106, kq106, q106a, q106b, q106c⟩ := isOf hZ q105_0 (E6.keep q102_0)
      obtain ⟨_, _, ⟨T106, L106, k106, n106⟩, -, X106, ⟨Lc106, hQ106, l106, y106, z106⟩, st106⟩ := X105.virtualBack hx (y := mth9) (z := mth9) hown (mvT hZ tw60) (mvT hZ tw61) (notFace_of_selects (args := #[]) (mvT hZ tw63)) (mvT hZ tw63) (mvT hZ tw62) (by decide) (backOf (W := 0) (siz l Z a0 hw [] o6 (3 : Int32) T102.heap n0 (Nat.le_trans Z0 (Nat.le_trans Ksg.1 q102_0.1)) (Fs.keep q102_0 (ninS (Exa.neArv E6 Vb tw1) nin0))) hZ tw64 tw2 (by decide) (by decide)) q106a q106c (g := (mkF m 99 #[.val (.int p0), .val (.int p1), .val (.int p2), .val (.int p3), .val (.int p4), .val (.int p5), .val (.ref o6), .val (.int (0 : Int32)), .val (.int p3), .val (.int p1), .val (.int p2), .unset] [(.ref o6)])) rfl (by rw [hml]; rfl) (Steps.refl _) (argsL := []) (rest := []) (lenOf pd_I rfl) rfl (Nat.le_of_eq rfl) (hb hby at_99) (fun _ _ => ⟨rfl, q105_0, (by decide : 4 + 0 ≤ _), (by decide : 24 + 0 ≤ _)⟩)
      dsimp only [Pt.U, Pt.locs, Pt.cells, Pt.slots] at X106 l106 y106 z106 st106 hQ106
      subst l106 y106 z106
      obtain ⟨rfl, Nq106, q106_0⟩ := hQ106
      have N106 := Fr.app N105 Nq106
      refine Goes.step (S' := T106.setTop (mkF m 115 #[.val (.int p0), .val (.int p1), .val (.int p2), .val (.int p3), .val (.int p4), .val (.int p5), .val (.ref o6), .val (.int (0 : Int32)), .val (.int p3), .val (.int p1), .val (.int p2), .val (.int (3 : Int32))] [(.int (0 : Int32)), (.int (0 : Int32)), (.int p3)])) (fun t k => st106.trans (XS.istore X106.here hx rfl (hb hby at_102) rfl (l' := #[.val (.int p0), .val (.int p1), .val (.int p2), .val (.int p3), .val (.int p4), .val (.int p5), .val (.ref o6), .val (.int (0 : Int32)), .val (.int p3), .val (.int p1), .val (.int p2), .val (.int (3 : Int32))]) rfl (XS.iload X106.here hx rfl (hb hby at_104) rfl (XS.iconst X106.here hx rfl (hb hby at_106) (XS.icmpNo X106.here hx rfl (hb hby at_107) rfl (teq ((by decide) : (3 : Int32) = (3 : Int32))).2 (XS.iload X106.here hx rfl (hb hby at_110) rfl (XS.iconst X106.here hx rfl (hb hby at_112) (XS.iload X106.here hx rfl (hb hby at_113) rfl k)))))))) ?_
      refine Goes.step (S' := T106.setTop (mkF m 117 #[.val (.int p0), .val (.int p1), .val (.int p2), .val (.int p3), .val (.int p4), .val (.int p5), .val (.ref o6), .val (.int (0 : Int32)), .val (.int p3), .val (.int p1), .val (.int p2), .val (.int (3 : Int32))] [(.int p0), (.int p3), (.int (0 : Int32)), (.int (0 : Int32)), (.int p3)])) (fun t k => XS.iloadN X106.here hx rfl (hb hby at_115) rfl (XS.iloadN X106.here hx rfl (hb hby at_116) rfl k)) ?_
      obtain ⟨_, _, ⟨T107, L107, k107, n107⟩, -, X107, ⟨Lc107, hQ107, l107, y107, z107⟩, st107⟩ := Jvm.LawKit.callS X106 hx (y := mth10) hown (mvT hZ tw65) (mvT hZ tw66) (mvT hZ tw67) (mvT hZ tw68) (by decide) (backOf (W := 1) (exp_t l Z a0 hw [] (0 : Int32) (0 : Int32) p3 p0 T102.heap n0 (Nat.le_trans Z0 (Nat.le_trans Ksg.1 q102_0.1)) ((by decide) : (0 : Int32) = (0 : Int32))) hZ tw68 tw67 (by decide) (by decide)) (g := (mkF m 117 #[.val (.int p0), .val (.int p1), .val (.int p2), .val (.int p3), .val (.int p4), .val (.int p5), .val (.ref o6), .val (.int (0 : Int32)), .val (.int p3), .val (.int p1), .val (.int p2), .val (.int (3 : Int32))] [(.int p0), (.int p3), (.int (0 : Int32)), (.int (0 : Int32)), (.int p3)])) rfl (by rw [hml]; rfl) (argsL := [(.int (0 : Int32)), (.int (0 : Int32)), (.int p3), (.int p0)]) (rest := [(.int p3)]) (lenOf pd_IIII_I rfl) rfl (Nat.le_of_eq rfl) (hb hby at_117) (fun _ _ => ⟨rfl, q106_0, (by decide : 4 + 0 ≤ _), (by decide : 24 + 0 ≤ _)⟩)
      dsimp only [Pt.U, Pt.locs, Pt.cells, Pt.slots] at X107 l107 y107 z107 st107 hQ107
      subst l107 y107 z107
      obtain ⟨rfl, Nq107, q107_0⟩ := hQ107
      have N107 := Fr.app N106 Nq107
      refine Goes.step (S' := T107.setTop (mkF m 130 #[.val (.int p0), .val (.int p1), .val (.int p2), .val (.int p3), .val (.int p4), .val (.int p5), .val (.ref o6), .val (.int (0 : Int32)), .val (.int p3), .val (.int p1), .val (.int p2), .val (.int (3 : Int32))] [(.int p1), (.int p3), (.int (0 : Int32)), (.int (1 : Int32)), (.int p1)])) (fun t k => st107 _ (XS.icmpNo X107.here hx rfl (hb hby at_120) rfl (teq (rfl : p3 = p3)).2 (XS.iload X107.here hx rfl (hb hby at_123) rfl (XS.iconst X107.here hx rfl (hb hby at_125) (XS.iload X107.here hx rfl (hb hby at_126) rfl (XS.iloadN X107.here hx rfl (hb hby at_128) rfl (XS.iloadN X107.here hx rfl (hb hby at_129) rfl k))))))) ?_
      obtain ⟨_, _, ⟨T108, L108, k108, n108⟩, -, X108, ⟨Lc108, hQ108, l108, y108, z108⟩, st108⟩ := Jvm.LawKit.callS X107 hx (y := mth10) hown (mvT hZ tw65) (mvT hZ tw66) (mvT hZ tw67) (mvT hZ tw68) (by decide) (backOf (W := 1) (exp_f l Z a0 hw [] (1 : Int32) (0 : Int32) p3 p1 T102.heap n0 (Nat.le_trans Z0 (Nat.le_trans Ksg.1 q102_0.1)) ((by decide) : ¬ ((1 : Int32) = (0 : Int32)))) hZ tw68 tw67 (by decide) (by decide)) (g := (mkF m 130 #[.val (.int p0), .val (.int p1), .val (.int p2), .val (.int p3), .val (.int p4), .val (.int p5), .val (.ref o6), .val (.int (0 : Int32)), .val (.int p3), .val (.int p1), .val (.int p2), .val (.int (3 : Int32))] [(.int p1), (.int p3), (.int (0 : Int32)), (.int (1 : Int32)), (.int p1)])) rfl (by rw [hml]; rfl) (argsL := [(.int (1 : Int32)), (.int (0 : Int32)), (.int p3), (.int p1)]) (rest := [(.int p1)]) (lenOf pd_IIII_I rfl) rfl (Nat.le_of_eq rfl) (hb hby at_130) (fun _ _ => ⟨rfl, q107_0, (by decide : 4 + 0 ≤ _), (by decide : 24 + 0 ≤ _)⟩)
      dsimp only [Pt.U, Pt.locs, Pt.cells, Pt.slots] at X108 l108 y108 z108 st108 hQ108
      subst l108 y108 z108
      obtain ⟨rfl, Nq108, q108_0⟩ := hQ108
      have N108 := Fr.app N107 Nq108
      refine Goes.step (S' := T108.setTop (mkF m 143 #[.val (.int p0), .val (.int p1), .val (.int p2), .val (.int p3), .val (.int p4), .val (.int p5), .val (.ref o6), .val (.int (0 : Int32)), .val (.int p3), .val (.int p1), .val (.int p2), .val (.int (3 : Int32))] [(.int p2), (.int p3), (.int (0 : Int32)), (.int (2 : Int32)), (.int p2)])) (fun t k => st108 _ (XS.icmpNo X108.here hx rfl (hb hby at_133) rfl (teq (rfl : p1 = p1)).2 (XS.iload X108.here hx rfl (hb hby at_136) rfl (XS.iconst X108.here hx rfl (hb hby at_138) (XS.iload X108.here hx rfl (hb hby at_139) rfl (XS.iloadN X108.here hx rfl (hb hby at_141) rfl (XS.iloadN X108.here hx rfl (hb hby at_142) rfl k))))))) ?_
      obtain ⟨_, _, ⟨T109, L109, k109, n109⟩, -, X109, ⟨Lc109, hQ109, l109, y109, z109⟩, st109⟩ := Jvm.LawKit.callS X108 hx (y := mth10) hown (mvT hZ tw65) (mvT hZ tw66) (mvT hZ tw67) (mvT hZ tw68) (by decide) (backOf (W := 1) (exp_f l Z a0 hw [] (2 : Int32) (0 : Int32) p3 p2 T102.heap n0 (Nat.le_trans Z0 (Nat.le_trans Ksg.1 q102_0.1)) ((by decide) : ¬ ((2 : Int32) = (0 : Int32)))) hZ tw68 tw67 (by decide) (by decide)) (g := (mkF m 143 #[.val (.int p0), .val (.int p1), .val (.int p2), .val (.int p3), .val (.int p4), .val (.int p5), .val (.ref o6), .val (.int (0 : Int32)), .val (.int p3), .val (.int p1), .val (.int p2), .val (.int (3 : Int32))] [(.int p2), (.int p3), (.int (0 : Int32)), (.int (2 : Int32)), (.int p2)])) rfl (by rw [hml]; rfl) (argsL := [(.int (2 : Int32)), (.int (0 : Int32)), (.int p3), (.int p2)]) (rest := [(.int p2)]) (lenOf pd_IIII_I rfl) rfl (Nat.le_of_eq rfl) (hb hby at_143) (fun _ _ => ⟨rfl, q108_0, (by decide : 4 + 0 ≤ _), (by decide : 24 + 0 ≤ _)⟩)
      dsimp only [Pt.U, Pt.locs, Pt.cells, Pt.slots] at X109 l109 y109 z109 st109 hQ109
      subst l109 y109 z109
      obtain ⟨rfl, Nq109, q109_0⟩ := hQ109
      have N109 := Fr.app N108 Nq109
      refine Goes.step (S' := T109.setTop (mkF m 154 #[.val (.int p0), .val (.int p1), .val (.int p2), .val (.int p3), .val (.int p4), .val (.int p5), .val (.ref o6), .val (.int (0 : Int32)), .val (.int p3), .val (.int p1), .val (.int p2), .val (.int (3 : Int32))] [(.int (1 : Int32))])) (fun t k => st109 _ (XS.icmpNo X109.here hx rfl (hb hby at_146) rfl (teq (rfl : p2 = p2)).2 (XS.iconst X109.here hx rfl (hb hby at_149) (XS.goto X109.here hx rfl (pc0 := 150) (pc' := 154) rfl (hb hby at_150) (by decide) (by decide) k)))) ?_
      refine Goes.leave (g := (mkF m 154 #[.val (.int p0), .val (.int p1), .val (.int p2), .val (.int p3), .val (.int p4), .val (.int p5), .val (.ref o6), .val (.int (0 : Int32)), .val (.int p3), .val (.int p1), .val (.int p2), .val (.int (3 : Int32))] [(.int (1 : Int32))])) X109 Bd.notSynchronized (v := (some (.int (1 : Int32)))) (fun h => by rw [Bd.returns] at h; cases h) (fun fs hr => retN X109 hx (t := .boolean) Bd.returns (by simp) (hb hby at_154) hr) q109_0 ?_ (by decide) (by decide)
      exact ⟨rfl, N109⟩
    case neg =>
      by_cases hc110 : ((p4 &&& (2147483647 : Int32)) % (3 : Int32)) = (1 : Int32)
      case pos =>
        rw [hc110]
        refine Goes.step (S' := Tsg.setTop (mkF m 70 #[.val (.int p0), .val (.int p1), .val (.int p2), .val (.int p3), .val (.int p4), .val (.int p5), .val (.ref o6), .val (.int (1 : Int32)), .unset, .unset, .unset, .unset] [(.int p3), (.int (1 : Int32)), (.ref o6)])) (fun t k => XS.istoreS Xsg.here hx rfl (hb hby at_63) rfl rfl O7 (XS.aload Xsg.here hx rfl (hb hby at_65) rfl rfl (XS.iload Xsg.here hx rfl (hb hby at_67) rfl (XS.iloadN Xsg.here hx rfl (hb hby at_69) rfl k)))) ?_
        obtain ⟨cq111, kq111, q111a, q111b, q111c⟩ := isOf hZ esg E6
        obtain ⟨_, _, ⟨T111, L111, k111, n111⟩, -, X111, ⟨Lc111, hQ111, l111, y111, z111⟩, st111⟩ := Xsg.virtualBack hx (y := mth7) (z := mth7) hown (mvT hZ tw50) (mvT hZ tw51) (notFace_of_selects (args := #[]) (mvT hZ tw53)) (mvT hZ tw53) (mvT hZ tw52) (by decide) (backOf (W := 0) (set_c1 l Z a0 hw [] o6 p3 cc kc bb kb p0 p1 p2 hsg n0 (Nat.le_trans Z0 Ksg.1) Fw Fc Vc Vb Gb) hZ tw54 tw2 (by decide) (by decide)) q111a q111c (g := (mkF m 70 #[.val (.int p0), .val (.int p1), .val (.int p2), .val (.int p3), .val (.int p4), .val (.int p5), .val (.ref o6), .val (.int (1 : Int32)), .unset, .unset, .unset, .unset] [(.int p3), (.int (1 : Int32)), (.ref o6)])) rfl (by rw [hml]; rfl) (Steps.refl _) (argsL := [(.int (1 : Int32)), (.int p3)]) (rest := []) (lenOf pd_II_V rfl) rfl (Nat.le_of_eq rfl) (hb hby at_70) (fun _ _ => ⟨rfl, esg, (by decide : 4 + 0 ≤ _), (by decide : 24 + 0 ≤ _)⟩)
        dsimp only [Pt.U, Pt.locs, Pt.cells, Pt.slots] at X111 l111 y111 z111 st111 hQ111
        subst l111 y111 z111
        obtain ⟨rfl, Nq111, q111_0, q111_1⟩ := hQ111
        have N111 := Fr.app Nsg Nq111
        refine Goes.step (S' := T111.setTop (mkF m 76 #[.val (.int p0), .val (.int p1), .val (.int p2), .val (.int p3), .val (.int p4), .val (.int p5), .val (.ref o6), .val (.int (1 : Int32)), .unset, .unset, .unset, .unset] [(.int (0 : Int32)), (.ref o6)])) (fun t k => st111.trans (XS.aload X111.here hx rfl (hb hby at_73) rfl rfl (XS.iconst X111.here hx rfl (hb hby at_75) k))) ?_
        obtain ⟨cq112, kq112, q112a, q112b, q112c⟩ := isOf hZ rfl (E6.keep q111_0)
        obtain ⟨_, _, ⟨T112, L112, k112, n112⟩, -, X112, ⟨Lc112, hQ112, l112, y112, z112⟩, st112⟩ := X111.virtualBack hx (y := mth8) (z := mth8) hown (mvT hZ tw55) (mvT hZ tw56) (notFace_of_selects (args := #[]) (mvT hZ tw58)) (mvT hZ tw58) (mvT hZ tw57) (by decide) (backOf (W := 0) (get_c0 l Z a0 hw [] o6 cc kc bb kb p0 p3 p2 T111.heap n0 (Nat.le_trans Z0 (Nat.le_trans Ksg.1 q111_0.1)) (Fw.keep q111_0 (ninS (Exa.neArv E6 Vb tw1) nin0)) (Fc.keep q111_0 (ninS (Exa.neArv E6 Vb tw1) nin0)) (Vc.keep q111_0 (ninS (own_neVV Vc Vb (by decide)) nin0)) q111_1) hZ tw59 tw2 (by decide) (by decide)) q112a q112c (g := (mkF m 76 #[.val (.int p0), .val (.int p1), .val (.int p2), .val (.int p3), .val (.int p4), .val (.int p5), .val (.ref o6), .val (.int (1 : Int32)), .unset, .unset, .unset, .unset] [(.int (0 : Int32)), (.ref o6)])) rfl (by rw [hml]; rfl) (Steps.refl _) (argsL := [(.int (0 : Int32))]) (rest := []) (lenOf pd_I_I rfl) rfl (Nat.le_of_eq rfl) (hb hby at_76) (fun _ _ => ⟨rfl, rfl, (by decide : 4 + 0 ≤ _), (by decide : 24 + 0 ≤ _)⟩)
        dsimp only [Pt.U, Pt.locs, Pt.cells, Pt.slots] at X112 l112 y112 z112 st112 hQ112
        subst l112 y112 z112
        obtain ⟨rfl, Nq112, q112_0⟩ := hQ112
        have N112 := Fr.app N111 Nq112
        refine Goes.step (S' := T112.setTop (mkF m 84 #[.val (.int p0), .val (.int p1), .val (.int p2), .val (.int p3), .val (.int p4), .val (.int p5), .val (.ref o6), .val (.int (1 : Int32)), .val (.int p0), .unset, .unset, .unset] [(.int (1 : Int32)), (.ref o6)])) (fun t k => st112.trans (XS.istore X112.here hx rfl (hb hby at_79) rfl (l' := #[.val (.int p0), .val (.int p1), .val (.int p2), .val (.int p3), .val (.int p4), .val (.int p5), .val (.ref o6), .val (.int (1 : Int32)), .val (.int p0), .unset, .unset, .unset]) rfl (XS.aload X112.here hx rfl (hb hby at_81) rfl rfl (XS.iconst X112.here hx rfl (hb hby at_83) k)))) ?_
        obtain ⟨cq113, kq113, q113a, q113b, q113c⟩ := isOf hZ q112_0 (E6.keep q111_0)
        obtain ⟨_, _, ⟨T113, L113, k113, n113⟩, -, X113, ⟨Lc113, hQ113, l113, y113, z113⟩, st113⟩ := X112.virtualBack hx (y := mth8) (z := mth8) hown (mvT hZ tw55) (mvT hZ tw56) (notFace_of_selects (args := #[]) (mvT hZ tw58)) (mvT hZ tw58) (mvT hZ tw57) (by decide) (backOf (W := 0) (get_c1 l Z a0 hw [] o6 cc kc bb kb p0 p3 p2 T111.heap n0 (Nat.le_trans Z0 (Nat.le_trans Ksg.1 q111_0.1)) (Fw.keep q111_0 (ninS (Exa.neArv E6 Vb tw1) nin0)) (Fc.keep q111_0 (ninS (Exa.neArv E6 Vb tw1) nin0)) (Vc.keep q111_0 (ninS (own_neVV Vc Vb (by decide)) nin0)) q111_1) hZ tw59 tw2 (by decide) (by decide)) q113a q113c (g := (mkF m 84 #[.val (.int p0), .val (.int p1), .val (.int p2), .val (.int p3), .val (.int p4), .val (.int p5), .val (.ref o6), .val (.int (1 : Int32)), .val (.int p0), .unset, .unset, .unset] [(.int (1 : Int32)), (.ref o6)])) rfl (by rw [hml]; rfl) (Steps.refl _) (argsL := [(.int (1 : Int32))]) (rest := []) (lenOf pd_I_I rfl) rfl (Nat.le_of_eq rfl) (hb hby at_84) (fun _ _ => ⟨rfl, q112_0, (by decide : 4 + 0 ≤ _), (by decide : 24 + 0 ≤ _)⟩)
        dsimp only [Pt.U, Pt.locs, Pt.cells, Pt.slots] at X113 l113 y113 z113 st113 hQ113
        subst l113 y113 z113
        obtain ⟨rfl, Nq113, q113_0⟩ := hQ113
        have N113 := Fr.app N112 Nq113
        refine Goes.step (S' := T113.setTop (mkF m 92 #[.val (.int p0), .val (.int p1), .val (.int p2), .val (.int p3), .val (.int p4), .val (.int p5), .val (.ref o6), .val (.int (1 : Int32)), .val (.int p0), .val (.int p3), .unset, .unset] [(.int (2 : Int32)), (.ref o6)])) (fun t k => st113.trans (XS.istore X113.here hx rfl (hb hby at_87) rfl (l' := #[.val (.int p0), .val (.int p1), .val (.int p2), .val (.int p3), .val (.int p4), .val (.int p5), .val (.ref o6), .val (.int (1 : Int32)), .val (.int p0), .val (.int p3), .unset, .unset]) rfl (XS.aload X113.here hx rfl (hb hby at_89) rfl rfl (XS.iconst X113.here hx rfl (hb hby at_91) k)))) ?_
        obtain ⟨cq114, kq114, q114a, q114b, q114c⟩ := isOf hZ q113_0 (E6.keep q111_0)
        obtain ⟨_, _, ⟨T114, L114, k114, n114⟩, -, X114, ⟨Lc114, hQ114, l114, y114, z114⟩, st114⟩ := X113.virtualBack hx (y := mth8) (z := mth8) hown (mvT hZ tw55) (mvT hZ tw56) (notFace_of_selects (args := #[]) (mvT hZ tw58)) (mvT hZ tw58) (mvT hZ tw57) (by decide) (backOf (W := 0) (get_c2 l Z a0 hw [] o6 cc kc bb kb p0 p3 p2 T111.heap n0 (Nat.le_trans Z0 (Nat.le_trans Ksg.1 q111_0.1)) (Fw.keep q111_0 (ninS (Exa.neArv E6 Vb tw1) nin0)) (Fc.keep q111_0 (ninS (Exa.neArv E6 Vb tw1) nin0)) (Vc.keep q111_0 (ninS (own_neVV Vc Vb (by decide)) nin0)) q111_1) hZ tw59 tw2 (by decide) (by decide)) q114a q114c (g := (mkF m 92 #[.val (.int p0), .val (.int p1), .val (.int p2), .val (.int p3), .val (.int p4), .val (.int p5), .val (.ref o6), .val (.int (1 : Int32)), .val (.int p0), .val (.int p3), .unset, .unset] [(.int (2 : Int32)), (.ref o6)])) rfl (by rw [hml]; rfl) (Steps.refl _) (argsL := [(.int (2 : Int32))]) (rest := []) (lenOf pd_I_I rfl) rfl (Nat.le_of_eq rfl) (hb hby at_92) (fun _ _ => ⟨rfl, q113_0, (by decide : 4 + 0 ≤ _), (by decide : 24 + 0 ≤ _)⟩)
        dsimp only [Pt.U, Pt.locs, Pt.cells, Pt.slots] at X114 l114 y114 z114 st114 hQ114
        subst l114 y114 z114
        obtain ⟨rfl, Nq114, q114_0⟩ := hQ114
        have N114 := Fr.app N113 Nq114
        refine Goes.step (S' := T114.setTop (mkF m 99 #[.val (.int p0), .val (.int p1), .val (.int p2), .val (.int p3), .val (.int p4), .val (.int p5), .val (.ref o6), .val (.int (1 : Int32)), .val (.int p0), .val (.int p3), .val (.int p2), .unset] [(.ref o6)])) (fun t k => st114.trans (XS.istore X114.here hx rfl (hb hby at_95) rfl (l' := #[.val (.int p0), .val (.int p1), .val (.int p2), .val (.int p3), .val (.int p4), .val (.int p5), .val (.ref o6), .val (.int (1 : Int32)), .val (.int p0), .val (.int p3), .val (.int p2), .unset]) rfl (XS.aload X114.here hx rfl (hb hby at_97) rfl rfl k))) ?_
        obtain ⟨cq115, kq115, q115a, q115b, q115c⟩ := isOf hZ q114_0 (E6.keep q111_0)
        obtain ⟨_, _, ⟨T115, L115, k115, n115⟩, -, X115, ⟨Lc115, hQ115, l115, y115, z115⟩, st115⟩ := X114.virtualBack hx (y := mth9) (z := mth9) hown (mvT hZ tw60) (mvT hZ tw61) (notFace_of_selects (args := #[]) (mvT hZ tw63)) (mvT hZ tw63) (mvT hZ tw62) (by decide) (backOf (W := 0) (siz l Z a0 hw [] o6 (3 : Int32) T111.heap n0 (Nat.le_trans Z0 (Nat.le_trans Ksg.1 q111_0.1)) (Fs.keep q111_0 (ninS (Exa.neArv E6 Vb tw1) nin0))) hZ tw64 tw2 (by decide) (by decide)) q115a q115c (g := (mkF m 99 #[.val (.int p0), .val (.int p1), .val (.int p2), .val (.int p3), .val (.int p4), .val (.int p5), .val (.ref o6), .val (.int (1 : Int32)), .val (.int p0), .val (.int p3), .val (.int p2), .unset] [(.ref o6)])) rfl (by rw [hml]; rfl) (Steps.refl _) (argsL := []) (rest := []) (lenOf pd_I rfl) rfl (Nat.le_of_eq rfl) (hb hby at_99) (fun _ _ => ⟨rfl, q114_0, (by decide : 4 + 0 ≤ _), (by decide : 24 + 0 ≤ _)⟩)
        dsimp only [Pt.U, Pt.locs, Pt.cells, Pt.slots] at X115 l115 y115 z115 st115 hQ115
        subst l115 y115 z115
        obtain ⟨rfl, Nq115, q115_0⟩ := hQ115
        have N115 := Fr.app N114 Nq115
        refine Goes.step (S' := T115.setTop (mkF m 115 #[.val (.int p0), .val (.int p1), .val (.int p2), .val (.int p3), .val (.int p4), .val (.int p5), .val (.ref o6), .val (.int (1 : Int32)), .val (.int p0), .val (.int p3), .val (.int p2), .val (.int (3 : Int32))] [(.int (1 : Int32)), (.int (0 : Int32)), (.int p0)])) (fun t k => st115.trans (XS.istore X115.here hx rfl (hb hby at_102) rfl (l' := #[.val (.int p0), .val (.int p1), .val (.int p2), .val (.int p3), .val (.int p4), .val (.int p5), .val (.ref o6), .val (.int (1 : Int32)), .val (.int p0), .val (.int p3), .val (.int p2), .val (.int (3 : Int32))]) rfl (XS.iload X115.here hx rfl (hb hby at_104) rfl (XS.iconst X115.here hx rfl (hb hby at_106) (XS.icmpNo X115.here hx rfl (hb hby at_107) rfl (teq ((by decide) : (3 : Int32) = (3 : Int32))).2 (XS.iload X115.here hx rfl (hb hby at_110) rfl (XS.iconst X115.here hx rfl (hb hby at_112) (XS.iload X115.here hx rfl (hb hby at_113) rfl k)))))))) ?_
        refine Goes.step (S' := T115.setTop (mkF m 117 #[.val (.int p0), .val (.int p1), .val (.int p2), .val (.int p3), .val (.int p4), .val (.int p5), .val (.ref o6), .val (.int (1 : Int32)), .val (.int p0), .val (.int p3), .val (.int p2), .val (.int (3 : Int32))] [(.int p0), (.int p3), (.int (1 : Int32)), (.int (0 : Int32)), (.int p0)])) (fun t k => XS.iloadN X115.here hx rfl (hb hby at_115) rfl (XS.iloadN X115.here hx rfl (hb hby at_116) rfl k)) ?_
        obtain ⟨_, _, ⟨T116, L116, k116, n116⟩, -, X116, ⟨Lc116, hQ116, l116, y116, z116⟩, st116⟩ := Jvm.LawKit.callS X115 hx (y := mth10) hown (mvT hZ tw65) (mvT hZ tw66) (mvT hZ tw67) (mvT hZ tw68) (by decide) (backOf (W := 1) (exp_f l Z a0 hw [] (0 : Int32) (1 : Int32) p3 p0 T111.heap n0 (Nat.le_trans Z0 (Nat.le_trans Ksg.1 q111_0.1)) ((by decide) : ¬ ((0 : Int32) = (1 : Int32)))) hZ tw68 tw67 (by decide) (by decide)) (g := (mkF m 117 #[.val (.int p0), .val (.int p1), .val (.int p2), .val (.int p3), .val (.int p4), .val (.int p5), .val (.ref o6), .val (.int (1 : Int32)), .val (.int p0), .val (.int p3), .val (.int p2), .val (.int (3 : Int32))] [(.int p0), (.int p3), (.int (1 : Int32)), (.int (0 : Int32)), (.int p0)])) rfl (by rw [hml]; rfl) (argsL := [(.int (0 : Int32)), (.int (1 : Int32)), (.int p3), (.int p0)]) (rest := [(.int p0)]) (lenOf pd_IIII_I rfl) rfl (Nat.le_of_eq rfl) (hb hby at_117) (fun _ _ => ⟨rfl, q115_0, (by decide : 4 + 0 ≤ _), (by decide : 24 + 0 ≤ _)⟩)
        dsimp only [Pt.U, Pt.locs, Pt.cells, Pt.slots] at X116 l116 y116 z116 st116 hQ116
        subst l116 y116 z116
        obtain ⟨rfl, Nq116, q116_0⟩ := hQ116
        have N116 := Fr.app N115 Nq116
        refine Goes.step (S' := T116.setTop (mkF m 130 #[.val (.int p0), .val (.int p1), .val (.int p2), .val (.int p3), .val (.int p4), .val (.int p5), .val (.ref o6), .val (.int (1 : Int32)), .val (.int p0), .val (.int p3), .val (.int p2), .val (.int (3 : Int32))] [(.int p1), (.int p3), (.int (1 : Int32)), (.int (1 : Int32)), (.int p3)])) (fun t k => st116 _ (XS.icmpNo X116.here hx rfl (hb hby at_120) rfl (teq (rfl : p0 = p0)).2 (XS.iload X116.here hx rfl (hb hby at_123) rfl (XS.iconst X116.here hx rfl (hb hby at_125) (XS.iload X116.here hx rfl (hb hby at_126) rfl (XS.iloadN X116.here hx rfl (hb hby at_128) rfl (XS.iloadN X116.here hx rfl (hb hby at_129) rfl k))))))) ?_
        obtain ⟨_, _, ⟨T117, L117, k117, n117⟩, -, X117, ⟨Lc117, hQ117, l117, y117, z117⟩, st117⟩ := Jvm.LawKit.callS X116 hx (y := mth10) hown (mvT hZ tw65) (mvT hZ tw66) (mvT hZ tw67) (mvT hZ tw68) (by decide) (backOf (W := 1) (exp_t l Z a0 hw [] (1 : Int32) (1 : Int32) p3 p1 T111.heap n0 (Nat.le_trans Z0 (Nat.le_trans Ksg.1 q111_0.1)) ((by decide) : (1 : Int32) = (1 : Int32))) hZ tw68 tw67 (by decide) (by decide)) (g := (mkF m 130 #[.val (.int p0), .val (.int p1), .val (.int p2), .val (.int p3), .val (.int p4), .val (.int p5), .val (.ref o6), .val (.int (1 : Int32)), .val (.int p0), .val (.int p3), .val (.int p2), .val (.int (3 : Int32))] [(.int p1), (.int p3), (.int (1 : Int32)), (.int (1 : Int32)), (.int p3)])) rfl (by rw [hml]; rfl) (argsL := [(.int (1 : Int32)), (.int (1 : Int32)), (.int p3), (.int p1)]) (rest := [(.int p3)]) (lenOf pd_IIII_I rfl) rfl (Nat.le_of_eq rfl) (hb hby at_130) (fun _ _ => ⟨rfl, q116_0, (by decide : 4 + 0 ≤ _), (by decide : 24 + 0 ≤ _)⟩)
        dsimp only [Pt.U, Pt.locs, Pt.cells, Pt.slots] at X117 l117 y117 z117 st117 hQ117
        subst l117 y117 z117
        obtain ⟨rfl, Nq117, q117_0⟩ := hQ117
        have N117 := Fr.app N116 Nq117
        refine Goes.step (S' := T117.setTop (mkF m 143 #[.val (.int p0), .val (.int p1), .val (.int p2), .val (.int p3), .val (.int p4), .val (.int p5), .val (.ref o6), .val (.int (1 : Int32)), .val (.int p0), .val (.int p3), .val (.int p2), .val (.int (3 : Int32))] [(.int p2), (.int p3), (.int (1 : Int32)), (.int (2 : Int32)), (.int p2)])) (fun t k => st117 _ (XS.icmpNo X117.here hx rfl (hb hby at_133) rfl (teq (rfl : p3 = p3)).2 (XS.iload X117.here hx rfl (hb hby at_136) rfl (XS.iconst X117.here hx rfl (hb hby at_138) (XS.iload X117.here hx rfl (hb hby at_139) rfl (XS.iloadN X117.here hx rfl (hb hby at_141) rfl (XS.iloadN X117.here hx rfl (hb hby at_142) rfl k))))))) ?_
        obtain ⟨_, _, ⟨T118, L118, k118, n118⟩, -, X118, ⟨Lc118, hQ118, l118, y118, z118⟩, st118⟩ := Jvm.LawKit.callS X117 hx (y := mth10) hown (mvT hZ tw65) (mvT hZ tw66) (mvT hZ tw67) (mvT hZ tw68) (by decide) (backOf (W := 1) (exp_f l Z a0 hw [] (2 : Int32) (1 : Int32) p3 p2 T111.heap n0 (Nat.le_trans Z0 (Nat.le_trans Ksg.1 q111_0.1)) ((by decide) : ¬ ((2 : Int32) = (1 : Int32)))) hZ tw68 tw67 (by decide) (by decide)) (g := (mkF m 143 #[.val (.int p0), .val (.int p1), .val (.int p2), .val (.int p3), .val (.int p4), .val (.int p5), .val (.ref o6), .val (.int (1 : Int32)), .val (.int p0), .val (.int p3), .val (.int p2), .val (.int (3 : Int32))] [(.int p2), (.int p3), (.int (1 : Int32)), (.int (2 : Int32)), (.int p2)])) rfl (by rw [hml]; rfl) (argsL := [(.int (2 : Int32)), (.int (1 : Int32)), (.int p3), (.int p2)]) (rest := [(.int p2)]) (lenOf pd_IIII_I rfl) rfl (Nat.le_of_eq rfl) (hb hby at_143) (fun _ _ => ⟨rfl, q117_0, (by decide : 4 + 0 ≤ _), (by decide : 24 + 0 ≤ _)⟩)
        dsimp only [Pt.U, Pt.locs, Pt.cells, Pt.slots] at X118 l118 y118 z118 st118 hQ118
        subst l118 y118 z118
        obtain ⟨rfl, Nq118, q118_0⟩ := hQ118
        have N118 := Fr.app N117 Nq118
        refine Goes.step (S' := T118.setTop (mkF m 154 #[.val (.int p0), .val (.int p1), .val (.int p2), .val (.int p3), .val (.int p4), .val (.int p5), .val (.ref o6), .val (.int (1 : Int32)), .val (.int p0), .val (.int p3), .val (.int p2), .val (.int (3 : Int32))] [(.int (1 : Int32))])) (fun t k => st118 _ (XS.icmpNo X118.here hx rfl (hb hby at_146) rfl (teq (rfl : p2 = p2)).2 (XS.iconst X118.here hx rfl (hb hby at_149) (XS.goto X118.here hx rfl (pc0 := 150) (pc' := 154) rfl (hb hby at_150) (by decide) (by decide) k)))) ?_
        refine Goes.leave (g := (mkF m 154 #[.val (.int p0), .val (.int p1), .val (.int p2), .val (.int p3), .val (.int p4), .val (.int p5), .val (.ref o6), .val (.int (1 : Int32)), .val (.int p0), .val (.int p3), .val (.int p2), .val (.int (3 : Int32))] [(.int (1 : Int32))])) X118 Bd.notSynchronized (v := (some (.int (1 : Int32)))) (fun h => by rw [Bd.returns] at h; cases h) (fun fs hr => retN X118 hx (t := .boolean) Bd.returns (by simp) (hb hby at_154) hr) q118_0 ?_ (by decide) (by decide)
        exact ⟨rfl, N118⟩
      case neg =>
        have hc119 : ((p4 &&& (2147483647 : Int32)) % (3 : Int32)) = (2 : Int32) := (by have z120_0 := hc101; have z120_1 := hc110; have z120_2 := rng32 ((p4 &&& (2147483647 : Int32)) % (3 : Int32)); have z120_3 := c_irem (p4 &&& (2147483647 : Int32)) (3 : Int32) 3 rfl; have z120_4 := rng32 (p4 &&& (2147483647 : Int32)); have z120_5 := c_mask p4 (2147483647 : Int32) 31 (by decide) (by decide); have z120_6 := rng32 p4; (try simp only [Int32.lt_iff_toInt_lt, Int64.lt_iff_toInt_lt, ne_eq, ← Int32.toInt_inj, ← Int64.toInt_inj, Int32.reduceToInt, Int64.reduceToInt, Nat.reducePow] at z120_0 z120_1 z120_2 z120_3 z120_4 z120_5 z120_6 ⊢); try omega)
        rw [hc119]
        refine Goes.step (S' := Tsg.setTop (mkF m 70 #[.val (.int p0), .val (.int p1), .val (.int p2), .val (.int p3), .val (.int p4), .val (.int p5), .val (.ref o6), .val (.int (2 : Int32)), .unset, .unset, .unset, .unset] [(.int p3), (.int (2 : Int32)), (.ref o6)])) (fun t k => XS.istoreS Xsg.here hx rfl (hb hby at_63) rfl rfl O7 (XS.aload Xsg.here hx rfl (hb hby at_65) rfl rfl (XS.iload Xsg.here hx rfl (hb hby at_67) rfl (XS.iloadN Xsg.here hx rfl (hb hby at_69) rfl k)))) ?_
        obtain ⟨cq121, kq121, q121a, q121b, q121c⟩ := isOf hZ esg E6
        obtain ⟨_, _, ⟨T121, L121, k121, n121⟩, -, X121, ⟨Lc121, hQ121, l121, y121, z121⟩, st121⟩ := Xsg.virtualBack hx (y := mth7) (z := mth7) hown (mvT hZ tw50) (mvT hZ tw51) (notFace_of_selects (args := #[]) (mvT hZ tw53)) (mvT hZ tw53) (mvT hZ tw52) (by decide) (backOf (W := 0) (set_c2 l Z a0 hw [] o6 p3 cc kc bb kb p0 p1 p2 hsg n0 (Nat.le_trans Z0 Ksg.1) Fw Fc Vc Vb Gb) hZ tw54 tw2 (by decide) (by decide)) q121a q121c (g := (mkF m 70 #[.val (.int p0), .val (.int p1), .val (.int p2), .val (.int p3), .val (.int p4), .val (.int p5), .val (.ref o6), .val (.int (2 : Int32)), .unset, .unset, .unset, .unset] [(.int p3), (.int (2 : Int32)), (.ref o6)])) rfl (by rw [hml]; rfl) (Steps.refl _) (argsL := [(.int (2 : Int32)), (.int p3)]) (rest := []) (lenOf pd_II_V rfl) rfl (Nat.le_of_eq rfl) (hb hby at_70) (fun _ _ => ⟨rfl, esg, (by decide : 4 + 0 ≤ _), (by decide : 24 + 0 ≤ _)⟩)
        dsimp only [Pt.U, Pt.locs, Pt.cells, Pt.slots] at X121 l121 y121 z121 st121 hQ121
        subst l121 y121 z121
        obtain ⟨rfl, Nq121, q121_0, q121_1⟩ := hQ121
        have N121 := Fr.app Nsg Nq121
        refine Goes.step (S' := T121.setTop (mkF m 76 #[.val (.int p0), .val (.int p1), .val (.int p2), .val (.int p3), .val (.int p4), .val (.int p5), .val (.ref o6), .val (.int (2 : Int32)), .unset, .unset, .unset, .unset] [(.int (0 : Int32)), (.ref o6)])) (fun t k => st121.trans (XS.aload X121.here hx rfl (hb hby at_73) rfl rfl (XS.iconst X121.here hx rfl (hb hby at_75) k))) ?_
        obtain ⟨cq122, kq122, q122a, q122b, q122c⟩ := isOf hZ rfl (E6.keep q121_0)
        obtain ⟨_, _, ⟨T122, L122, k122, n122⟩, -, X122, ⟨Lc122, hQ122, l122, y122, z122⟩, st122⟩ := X121.virtualBack hx (y := mth8) (z := mth8) hown (mvT hZ tw55) (mvT hZ tw56) (notFace_of_selects (args := #[]) (mvT hZ tw58)) (mvT hZ tw58) (mvT hZ tw57) (by decide) (backOf (W := 0) (get_c0 l Z a0 hw [] o6 cc kc bb kb p0 p1 p3 T121.heap n0 (Nat.le_trans Z0 (Nat.le_trans Ksg.1 q121_0.1)) (Fw.keep q121_0 (ninS (Exa.neArv E6 Vb tw1) nin0)) (Fc.keep q121_0 (ninS (Exa.neArv E6 Vb tw1) nin0)) (Vc.keep q121_0 (ninS (own_neVV Vc Vb (by decide)) nin0)) q121_1) hZ tw59 tw2 (by decide) (by decide)) q122a q122c (g := (mkF m 76 #[.val (.int p0), .val (.int p1), .val (.int p2), .val (.int p3), .val (.int p4), .val (.int p5), .val (.ref o6), .val (.int (2 : Int32)), .unset, .unset, .unset, .unset] [(.int (0 : Int32)), (.ref o6)])) rfl (by rw [hml]; rfl) (Steps.refl _) (argsL := [(.int (0 : Int32))]) (rest := []) (lenOf pd_I_I rfl) rfl (Nat.le_of_eq rfl) (hb hby at_76) (fun _ _ => ⟨rfl, rfl, (by decide : 4 + 0 ≤ _), (by decide : 24 + 0 ≤ _)⟩)
        dsimp only [Pt.U, Pt.locs, Pt.cells, Pt.slots] at X122 l122 y122 z122 st122 hQ122
        subst l122 y122 z122
        obtain ⟨rfl, Nq122, q122_0⟩ := hQ122
        have N122 := Fr.app N121 Nq122
        refine Goes.step (S' := T122.setTop (mkF m 84 #[.val (.int p0), .val (.int p1), .val (.int p2), .val (.int p3), .val (.int p4), .val (.int p5), .val (.ref o6), .val (.int (2 : Int32)), .val (.int p0), .unset, .unset, .unset] [(.int (1 : Int32)), (.ref o6)])) (fun t k => st122.trans (XS.istore X122.here hx rfl (hb hby at_79) rfl (l' := #[.val (.int p0), .val (.int p1), .val (.int p2), .val (.int p3), .val (.int p4), .val (.int p5), .val (.ref o6), .val (.int (2 : Int32)), .val (.int p0), .unset, .unset, .unset]) rfl (XS.aload X122.here hx rfl (hb hby at_81) rfl rfl (XS.iconst X122.here hx rfl (hb hby at_83) k)))) ?_
        obtain ⟨cq123, kq123, q123a, q123b, q123c⟩ := isOf hZ q122_0 (E6.keep q121_0)
        obtain ⟨_, _, ⟨T123, L123, k123, n123⟩, -, X123, ⟨Lc123, hQ123, l123, y123, z123⟩, st123⟩ := X122.virtualBack hx (y := mth8) (z := mth8) hown (mvT hZ tw55) (mvT hZ tw56) (notFace_of_selects (args := #[]) (mvT hZ tw58)) (mvT hZ tw58) (mvT hZ tw57) (by decide) (backOf (W := 0) (get_c1 l Z a0 hw [] o6 cc kc bb kb p0 p1 p3 T121.heap n0 (Nat.le_trans Z0 (Nat.le_trans Ksg.1 q121_0.1)) (Fw.keep q121_0 (ninS (Exa.neArv E6 Vb tw1) nin0)) (Fc.keep q121_0 (ninS (Exa.neArv E6 Vb tw1) nin0)) (Vc.keep q121_0 (ninS (own_neVV Vc Vb (by decide)) nin0)) q121_1) hZ tw59 tw2 (by decide) (by decide)) q123a q123c (g := (mkF m 84 #[.val (.int p0), .val (.int p1), .val (.int p2), .val (.int p3), .val (.int p4), .val (.int p5), .val (.ref o6), .val (.int (2 : Int32)), .val (.int p0), .unset, .unset, .unset] [(.int (1 : Int32)), (.ref o6)])) rfl (by rw [hml]; rfl) (Steps.refl _) (argsL := [(.int (1 : Int32))]) (rest := []) (lenOf pd_I_I rfl) rfl (Nat.le_of_eq rfl) (hb hby at_84) (fun _ _ => ⟨rfl, q122_0, (by decide : 4 + 0 ≤ _), (by decide : 24 + 0 ≤ _)⟩)
        dsimp only [Pt.U, Pt.locs, Pt.cells, Pt.slots] at X123 l123 y123 z123 st123 hQ123
        subst l123 y123 z123
        obtain ⟨rfl, Nq123, q123_0⟩ := hQ123
        have N123 := Fr.app N122 Nq123
        refine Goes.step (S' := T123.setTop (mkF m 92 #[.val (.int p0), .val (.int p1), .val (.int p2), .val (.int p3), .val (.int p4), .val (.int p5), .val (.ref o6), .val (.int (2 : Int32)), .val (.int p0), .val (.int p1), .unset, .unset] [(.int (2 : Int32)), (.ref o6)])) (fun t k => st123.trans (XS.istore X123.here hx rfl (hb hby at_87) rfl (l' := #[.val (.int p0), .val (.int p1), .val (.int p2), .val (.int p3), .val (.int p4), .val (.int p5), .val (.ref o6), .val (.int (2 : Int32)), .val (.int p0), .val (.int p1), .unset, .unset]) rfl (XS.aload X123.here hx rfl (hb hby at_89) rfl rfl (XS.iconst X123.here hx rfl (hb hby at_91) k)))) ?_
        obtain ⟨cq124, kq124, q124a, q124b, q124c⟩ := isOf hZ q123_0 (E6.keep q121_0)
        obtain ⟨_, _, ⟨T124, L124, k124, n124⟩, -, X124, ⟨Lc124, hQ124, l124, y124, z124⟩, st124⟩ := X123.virtualBack hx (y := mth8) (z := mth8) hown (mvT hZ tw55) (mvT hZ tw56) (notFace_of_selects (args := #[]) (mvT hZ tw58)) (mvT hZ tw58) (mvT hZ tw57) (by decide) (backOf (W := 0) (get_c2 l Z a0 hw [] o6 cc kc bb kb p0 p1 p3 T121.heap n0 (Nat.le_trans Z0 (Nat.le_trans Ksg.1 q121_0.1)) (Fw.keep q121_0 (ninS (Exa.neArv E6 Vb tw1) nin0)) (Fc.keep q121_0 (ninS (Exa.neArv E6 Vb tw1) nin0)) (Vc.keep q121_0 (ninS (own_neVV Vc Vb (by decide)) nin0)) q121_1) hZ tw59 tw2 (by decide) (by decide)) q124a q124c (g := (mkF m 92 #[.val (.int p0), .val (.int p1), .val (.int p2), .val (.int p3), .val (.int p4), .val (.int p5), .val (.ref o6), .val (.int (2 : Int32)), .val (.int p0), .val (.int p1), .unset, .unset] [(.int (2 : Int32)), (.ref o6)])) rfl (by rw [hml]; rfl) (Steps.refl _) (argsL := [(.int (2 : Int32))]) (rest := []) (lenOf pd_I_I rfl) rfl (Nat.le_of_eq rfl) (hb hby at_92) (fun _ _ => ⟨rfl, q123_0, (by decide : 4 + 0 ≤ _), (by decide : 24 + 0 ≤ _)⟩)
        dsimp only [Pt.U, Pt.locs, Pt.cells, Pt.slots] at X124 l124 y124 z124 st124 hQ124
        subst l124 y124 z124
        obtain ⟨rfl, Nq124, q124_0⟩ := hQ124
        have N124 := Fr.app N123 Nq124
        refine Goes.step (S' := T124.setTop (mkF m 99 #[.val (.int p0), .val (.int p1), .val (.int p2), .val (.int p3), .val (.int p4), .val (.int p5), .val (.ref o6), .val (.int (2 : Int32)), .val (.int p0), .val (.int p1), .val (.int p3), .unset] [(.ref o6)])) (fun t k => st124.trans (XS.istore X124.here hx rfl (hb hby at_95) rfl (l' := #[.val (.int p0), .val (.int p1), .val (.int p2), .val (.int p3), .val (.int p4), .val (.int p5), .val (.ref o6), .val (.int (2 : Int32)), .val (.int p0), .val (.int p1), .val (.int p3), .unset]) rfl (XS.aload X124.here hx rfl (hb hby at_97) rfl rfl k))) ?_
        obtain ⟨cq125, kq125, q125a, q125b, q125c⟩ := isOf hZ q124_0 (E6.keep q121_0)
        obtain ⟨_, _, ⟨T125, L125, k125, n125⟩, -, X125, ⟨Lc125, hQ125, l125, y125, z125⟩, st125⟩ := X124.virtualBack hx (y := mth9) (z := mth9) hown (mvT hZ tw60) (mvT hZ tw61) (notFace_of_selects (args := #[]) (mvT hZ tw63)) (mvT hZ tw63) (mvT hZ tw62) (by decide) (backOf (W := 0) (siz l Z a0 hw [] o6 (3 : Int32) T121.heap n0 (Nat.le_trans Z0 (Nat.le_trans Ksg.1 q121_0.1)) (Fs.keep q121_0 (ninS (Exa.neArv E6 Vb tw1) nin0))) hZ tw64 tw2 (by decide) (by decide)) q125a q125c (g := (mkF m 99 #[.val (.int p0), .val (.int p1), .val (.int p2), .val (.int p3), .val (.int p4), .val (.int p5), .val (.ref o6), .val (.int (2 : Int32)), .val (.int p0), .val (.int p1), .val (.int p3), .unset] [(.ref o6)])) rfl (by rw [hml]; rfl) (Steps.refl _) (argsL := []) (rest := []) (lenOf pd_I rfl) rfl (Nat.le_of_eq rfl) (hb hby at_99) (fun _ _ => ⟨rfl, q124_0, (by decide : 4 + 0 ≤ _), (by decide : 24 + 0 ≤ _)⟩)
        dsimp only [Pt.U, Pt.locs, Pt.cells, Pt.slots] at X125 l125 y125 z125 st125 hQ125
        subst l125 y125 z125
        obtain ⟨rfl, Nq125, q125_0⟩ := hQ125
        have N125 := Fr.app N124 Nq125
        refine Goes.step (S' := T125.setTop (mkF m 115 #[.val (.int p0), .val (.int p1), .val (.int p2), .val (.int p3), .val (.int p4), .val (.int p5), .val (.ref o6), .val (.int (2 : Int32)), .val (.int p0), .val (.int p1), .val (.int p3), .val (.int (3 : Int32))] [(.int (2 : Int32)), (.int (0 : Int32)), (.int p0)])) (fun t k => st125.trans (XS.istore X125.here hx rfl (hb hby at_102) rfl (l' := #[.val (.int p0), .val (.int p1), .val (.int p2), .val (.int p3), .val (.int p4), .val (.int p5), .val (.ref o6), .val (.int (2 : Int32)), .val (.int p0), .val (.int p1), .val (.int p3), .val (.int (3 : Int32))]) rfl (XS.iload X125.here hx rfl (hb hby at_104) rfl (XS.iconst X125.here hx rfl (hb hby at_106) (XS.icmpNo X125.here hx rfl (hb hby at_107) rfl (teq ((by decide) : (3 : Int32) = (3 : Int32))).2 (XS.iload X125.here hx rfl (hb hby at_110) rfl (XS.iconst X125.here hx rfl (hb hby at_112) (XS.iload X125.here hx rfl (hb hby at_113) rfl k)))))))) ?_
        refine Goes.step (S' := T125.setTop (mkF m 117 #[.val (.int p0), .val (.int p1), .val (.int p2), .val (.int p3), .val (.int p4), .val (.int p5), .val (.ref o6), .val (.int (2 : Int32)), .val (.int p0), .val (.int p1), .val (.int p3), .val (.int (3 : Int32))] [(.int p0), (.int p3), (.int (2 : Int32)), (.int (0 : Int32)), (.int p0)])) (fun t k => XS.iloadN X125.here hx rfl (hb hby at_115) rfl (XS.iloadN X125.here hx rfl (hb hby at_116) rfl k)) ?_
        obtain ⟨_, _, ⟨T126, L126, k126, n126⟩, -, X126, ⟨Lc126, hQ126, l126, y126, z126⟩, st126⟩ := Jvm.LawKit.callS X125 hx (y := mth10) hown (mvT hZ tw65) (mvT hZ tw66) (mvT hZ tw67) (mvT hZ tw68) (by decide) (backOf (W := 1) (exp_f l Z a0 hw [] (0 : Int32) (2 : Int32) p3 p0 T121.heap n0 (Nat.le_trans Z0 (Nat.le_trans Ksg.1 q121_0.1)) ((by decide) : ¬ ((0 : Int32) = (2 : Int32)))) hZ tw68 tw67 (by decide) (by decide)) (g := (mkF m 117 #[.val (.int p0), .val (.int p1), .val (.int p2), .val (.int p3), .val (.int p4), .val (.int p5), .val (.ref o6), .val (.int (2 : Int32)), .val (.int p0), .val (.int p1), .val (.int p3), .val (.int (3 : Int32))] [(.int p0), (.int p3), (.int (2 : Int32)), (.int (0 : Int32)), (.int p0)])) rfl (by rw [hml]; rfl) (argsL := [(.int (0 : Int32)), (.int (2 : Int32)), (.int p3), (.int p0)]) (rest := [(.int p0)]) (lenOf pd_IIII_I rfl) rfl (Nat.le_of_eq rfl) (hb hby at_117) (fun _ _ => ⟨rfl, q125_0, (by decide : 4 + 0 ≤ _), (by decide : 24 + 0 ≤ _)⟩)
        dsimp only [Pt.U, Pt.locs, Pt.cells, Pt.slots] at X126 l126 y126 z126 st126 hQ126
        subst l126 y126 z126
        obtain ⟨rfl, Nq126, q126_0⟩ := hQ126
        have N126 := Fr.app N125 Nq126
        refine Goes.step (S' := T126.setTop (mkF m 130 #[.val (.int p0), .val (.int p1), .val (.int p2), .val (.int p3), .val (.int p4), .val (.int p5), .val (.ref o6), .val (.int (2 : Int32)), .val (.int p0), .val (.int p1), .val (.int p3), .val (.int (3 : Int32))] [(.int p1), (.int p3), (.int (2 : Int32)), (.int (1 : Int32)), (.int p1)])) (fun t k => st126 _ (XS.icmpNo X126.here hx rfl (hb hby at_120) rfl (teq (rfl : p0 = p0)).2 (XS.iload X126.here hx rfl (hb hby at_123) rfl (XS.iconst X126.here hx rfl (hb hby at_125) (XS.iload X126.here hx rfl (hb hby at_126) rfl (XS.iloadN X126.here hx rfl (hb hby at_128) rfl (XS.iloadN X126.here hx rfl (hb hby at_129) rfl k))))))) ?_
        obtain ⟨_, _, ⟨T127, L127, k127, n127⟩, -, X127, ⟨Lc127, hQ127, l127, y127, z127⟩, st127⟩ := Jvm.LawKit.callS X126 hx (y := mth10) hown (mvT hZ tw65) (mvT hZ tw66) (mvT hZ tw67) (mvT hZ tw68) (by decide) (backOf (W := 1) (exp_f l Z a0 hw [] (1 : Int32) (2 : Int32) p3 p1 T121.heap n0 (Nat.le_trans Z0 (Nat.le_trans Ksg.1 q121_0.1)) ((by decide) : ¬ ((1 : Int32) = (2 : Int32)))) hZ tw68 tw67 (by decide) (by decide)) (g := (mkF m 130 #[.val (.int p0), .val (.int p1), .val (.int p2), .val (.int p3), .val (.int p4), .val (.int p5), .val (.ref o6), .val (.int (2 : Int32)), .val (.int p0), .val (.int p1), .val (.int p3), .val (.int (3 : Int32))] [(.int p1), (.int p3), (.int (2 : Int32)), (.int (1 : Int32)), (.int p1)])) rfl (by rw [hml]; rfl) (argsL := [(.int (1 : Int32)), (.int (2 : Int32)), (.int p3), (.int p1)]) (rest := [(.int p1)]) (lenOf pd_IIII_I rfl) rfl (Nat.le_of_eq rfl) (hb hby at_130) (fun _ _ => ⟨rfl, q126_0, (by decide : 4 + 0 ≤ _), (by decide : 24 + 0 ≤ _)⟩)
        dsimp only [Pt.U, Pt.locs, Pt.cells, Pt.slots] at X127 l127 y127 z127 st127 hQ127
        subst l127 y127 z127
        obtain ⟨rfl, Nq127, q127_0⟩ := hQ127
        have N127 := Fr.app N126 Nq127
        refine Goes.step (S' := T127.setTop (mkF m 143 #[.val (.int p0), .val (.int p1), .val (.int p2), .val (.int p3), .val (.int p4), .val (.int p5), .val (.ref o6), .val (.int (2 : Int32)), .val (.int p0), .val (.int p1), .val (.int p3), .val (.int (3 : Int32))] [(.int p2), (.int p3), (.int (2 : Int32)), (.int (2 : Int32)), (.int p3)])) (fun t k => st127 _ (XS.icmpNo X127.here hx rfl (hb hby at_133) rfl (teq (rfl : p1 = p1)).2 (XS.iload X127.here hx rfl (hb hby at_136) rfl (XS.iconst X127.here hx rfl (hb hby at_138) (XS.iload X127.here hx rfl (hb hby at_139) rfl (XS.iloadN X127.here hx rfl (hb hby at_141) rfl (XS.iloadN X127.here hx rfl (hb hby at_142) rfl k))))))) ?_
        obtain ⟨_, _, ⟨T128, L128, k128, n128⟩, -, X128, ⟨Lc128, hQ128, l128, y128, z128⟩, st128⟩ := Jvm.LawKit.callS X127 hx (y := mth10) hown (mvT hZ tw65) (mvT hZ tw66) (mvT hZ tw67) (mvT hZ tw68) (by decide) (backOf (W := 1) (exp_t l Z a0 hw [] (2 : Int32) (2 : Int32) p3 p2 T121.heap n0 (Nat.le_trans Z0 (Nat.le_trans Ksg.1 q121_0.1)) ((by decide) : (2 : Int32) = (2 : Int32))) hZ tw68 tw67 (by decide) (by decide)) (g := (mkF m 143 #[.val (.int p0), .val (.int p1), .val (.int p2), .val (.int p3), .val (.int p4), .val (.int p5), .val (.ref o6), .val (.int (2 : Int32)), .val (.int p0), .val (.int p1), .val (.int p3), .val (.int (3 : Int32))] [(.int p2), (.int p3), (.int (2 : Int32)), (.int (2 : Int32)), (.int p3)])) rfl (by rw [hml]; rfl) (argsL := [(.int (2 : Int32)), (.int (2 : Int32)), (.int p3), (.int p2)]) (rest := [(.int p3)]) (lenOf pd_IIII_I rfl) rfl (Nat.le_of_eq rfl) (hb hby at_143) (fun _ _ => ⟨rfl, q127_0, (by decide : 4 + 0 ≤ _), (by decide : 24 + 0 ≤ _)⟩)
        dsimp only [Pt.U, Pt.locs, Pt.cells, Pt.slots] at X128 l128 y128 z128 st128 hQ128
        subst l128 y128 z128
        obtain ⟨rfl, Nq128, q128_0⟩ := hQ128
        have N128 := Fr.app N127 Nq128
        refine Goes.step (S' := T128.setTop (mkF m 154 #[.val (.int p0), .val (.int p1), .val (.int p2), .val (.int p3), .val (.int p4), .val (.int p5), .val (.ref o6), .val (.int (2 : Int32)), .val (.int p0), .val (.int p1), .val (.int p3), .val (.int (3 : Int32))] [(.int (1 : Int32))])) (fun t k => st128 _ (XS.icmpNo X128.here hx rfl (hb hby at_146) rfl (teq (rfl : p3 = p3)).2 (XS.iconst X128.here hx rfl (hb hby at_149) (XS.goto X128.here hx rfl (pc0 := 150) (pc' := 154) rfl (hb hby at_150) (by decide) (by decide) k)))) ?_
        refine Goes.leave (g := (mkF m 154 #[.val (.int p0), .val (.int p1), .val (.int p2), .val (.int p3), .val (.int p4), .val (.int p5), .val (.ref o6), .val (.int (2 : Int32)), .val (.int p0), .val (.int p1), .val (.int p3), .val (.int (3 : Int32))] [(.int (1 : Int32))])) X128 Bd.notSynchronized (v := (some (.int (1 : Int32)))) (fun h => by rw [Bd.returns] at h; cases h) (fun fs hr => retN X128 hx (t := .boolean) Bd.returns (by simp) (hb hby at_154) hr) q128_0 ?_ (by decide) (by decide)
        exact ⟨rfl, N128⟩
  refine Goes.step (S' := s₁.setTop (mkF m 4 #[.val (.int p0), .val (.int p1), .val (.int p2), .val (.int p3), .val (.int p4), .val (.int p5), .unset, .unset, .unset, .unset, .unset, .unset] [(.int (p5 &&& (1 : Int32)))])) (fun t k => XS.iload X0.here hx rfl (hb hby at_0) rfl (XS.iconst X0.here hx rfl (hb hby at_2) (XS.iand X0.here hx rfl (hb hby at_3) rfl k))) ?_
  by_cases hc129 : (p5 &&& (1 : Int32)) = (0 : Int32)
  case pos =>
    refine Goes.step (S' := s₁.setTop (mkF m 7 #[.val (.int p0), .val (.int p1), .val (.int p2), .val (.int p3), .val (.int p4), .val (.int p5), .unset, .unset, .unset, .unset, .unset, .unset] [])) (fun t k => XS.ifNo X0.here hx rfl (hb hby at_4) rfl ((if0 _ _).trans (teq hc129).2) k) ?_
    obtain ⟨T130, h130, X130, e130, E130, A130, D130, U130, st130⟩ := newO X0 hx hZ hown tw0 tw1 tw2 eh0 (g := (mkF m 7 #[.val (.int p0), .val (.int p1), .val (.int p2), .val (.int p3), .val (.int p4), .val (.int p5), .unset, .unset, .unset, .unset, .unset, .unset] [])) rfl (hb hby at_7) (by decide) (by decide)
    obtain ⟨b130, g130⟩ : ∃ z, z = h0.size := ⟨_, rfl⟩
    rw [← g130] at A130 D130 U130 st130
    have F130_whole : Fld Z h130 b130 "com/example/lumping/lumping/numbers/ChunkedInts" "whole" "[I" .null := D130 (Or.inl tw11) (ty := (.array .int)) (by decide)
    have F130_filling : Fld Z h130 b130 "com/example/lumping/lumping/numbers/ChunkedInts" "filling" "[I" .null := D130 (Or.inl tw13) (ty := (.array .int)) (by decide)
    have F130_filled : Fld Z h130 b130 "com/example/lumping/lumping/numbers/ChunkedInts" "filled" "I" (.int (0 : Int32)) := D130 (Or.inl tw20) (ty := .int) (by decide)
    have F130_size : Fld Z h130 b130 "com/example/lumping/lumping/numbers/ChunkedInts" "size" "I" (.int (0 : Int32)) := D130 (Or.inl tw22) (ty := .int) (by decide)
    have F130_chunks : Fld Z h130 b130 "com/example/lumping/lumping/numbers/ChunkedInts" "chunks" "[[I" .null := D130 (Or.inl tw31) (ty := (.array (.array .int))) (by decide)
    refine Goes.step (S' := T130.setTop (mkF m 11 #[.val (.int p0), .val (.int p1), .val (.int p2), .val (.int p3), .val (.int p4), .val (.int p5), .unset, .unset, .unset, .unset, .unset, .unset] [(.ref b130), (.ref b130)])) (fun t k => st130 _ (XS.dup X130.here hx rfl (hb hby at_10) rfl rfl k)) ?_
    obtain ⟨_, _, ⟨T131, L131, k131, n131⟩, -, X131, ⟨Lc131, hQ131, l131, y131, z131⟩, st131⟩ := X130.specialBack hx (y := mth3) rfl hown (mvT hZ tw69) (mvT hZ tw70) (mvT hZ tw71) (by decide) (backOf (W := 1) (ci0 l Z a0 hw [] b130 h130 n0 (Nat.le_trans Z0 E130.1) A130 F130_whole F130_chunks F130_filling F130_filled F130_size (Nat.le_trans Z0 (Nat.le_of_eq g130.symm))) hZ tw71 tw2 (by decide) (by decide)) (g := (mkF m 11 #[.val (.int p0), .val (.int p1), .val (.int p2), .val (.int p3), .val (.int p4), .val (.int p5), .unset, .unset, .unset, .unset, .unset, .unset] [(.ref b130), (.ref b130)])) rfl (by rw [hml]; rfl) (Steps.refl _) (a := b130) (argsL := []) (rest := [(.ref b130)]) (lenOf pd_V rfl) rfl (Nat.le_of_eq rfl) (hb hby at_11) (fun _ _ => ⟨rfl, e130, (by decide : 1 + 2 ≤ _), (by decide : 5 + 17 ≤ _)⟩)
    dsimp only [Pt.U, Pt.locs, Pt.cells, Pt.slots] at X131 l131 y131 z131 st131 hQ131
    subst l131 y131 z131
    obtain ⟨c_131, kc_131, b_131, kb_131, rfl, Nq131, q131_0, q131_1, q131_2, q131_3, q131_4, q131_5, q131_6, q131_7, q131_8, q131_9, q131_10⟩ := hQ131
    have N131 := Fr.app N0 Nq131
    refine Goes.step (S' := T131.setTop (mkF m 41 #[.val (.int p0), .val (.int p1), .val (.int p2), .val (.int p3), .val (.int p4), .val (.int p5), .val (.ref b130), .unset, .unset, .unset, .unset, .unset] [(.int p0), (.ref b130)])) (fun t k => st131.trans (XS.astore X131.here hx rfl (hb hby at_14) rfl rfl (l' := #[.val (.int p0), .val (.int p1), .val (.int p2), .val (.int p3), .val (.int p4), .val (.int p5), .val (.ref b130), .unset, .unset, .unset, .unset, .unset]) rfl (XS.goto X131.here hx rfl (pc0 := 16) (pc' := 38) rfl (hb hby at_16) (by decide) (by decide) (XS.aload X131.here hx rfl (hb hby at_38) rfl rfl (XS.iloadN X131.here hx rfl (hb hby at_40) rfl k))))) ?_
    obtain ⟨cq132, kq132, q132a, q132b, q132c⟩ := isOf hZ rfl q131_3
    obtain ⟨_, _, ⟨T132, L132, k132, n132⟩, -, X132, ⟨Lc132, hQ132, l132, y132, z132⟩, st132⟩ := X131.virtualBack hx (y := mth6) (z := mth6) hown (mvT hZ tw14) (mvT hZ tw15) (notFace_of_selects (args := #[]) (mvT hZ tw17)) (mvT hZ tw17) (mvT hZ tw16) (by decide) (backOf (W := 0) (add_16_0 l Z a0 hw [] b130 p0 .null (.ref c_131) b_131 kb_131 T131.heap n0 (Nat.le_trans Z0 (Nat.le_trans E130.1 q131_0.1)) q131_3 q131_4 q131_5 q131_6 q131_7 q131_8 q131_10 (Nat.le_trans Z0 (Nat.le_of_eq g130.symm)) (Nat.le_trans Z0 (Nat.le_trans E130.1 q131_2))) hZ tw18 tw2 (by decide) (by decide)) q132a q132c (g := (mkF m 41 #[.val (.int p0), .val (.int p1), .val (.int p2), .val (.int p3), .val (.int p4), .val (.int p5), .val (.ref b130), .unset, .unset, .unset, .unset, .unset] [(.int p0), (.ref b130)])) rfl (by rw [hml]; rfl) (Steps.refl _) (argsL := [(.int p0)]) (rest := []) (lenOf pd_I_V rfl) rfl (Nat.le_of_eq rfl) (hb hby at_41) (fun _ _ => ⟨rfl, rfl, (by decide : 3 + 0 ≤ _), (by decide : 22 + 0 ≤ _)⟩)
    dsimp only [Pt.U, Pt.locs, Pt.cells, Pt.slots] at X132 l132 y132 z132 st132 hQ132
    subst l132 y132 z132
    obtain ⟨rfl, Nq132, q132_0, q132_1, q132_2, q132_3, q132_4, q132_5, q132_6, q132_7⟩ := hQ132
    have N132 := Fr.app N131 Nq132
    refine Goes.step (S' := T132.setTop (mkF m 47 #[.val (.int p0), .val (.int p1), .val (.int p2), .val (.int p3), .val (.int p4), .val (.int p5), .val (.ref b130), .unset, .unset, .unset, .unset, .unset] [(.int p1), (.ref b130)])) (fun t k => st132.trans (XS.aload X132.here hx rfl (hb hby at_44) rfl rfl (XS.iloadN X132.here hx rfl (hb hby at_46) rfl k))) ?_
    obtain ⟨cq133, kq133, q133a, q133b, q133c⟩ := isOf hZ rfl q132_1
    obtain ⟨_, _, ⟨T133, L133, k133, n133⟩, -, X133, ⟨Lc133, hQ133, l133, y133, z133⟩, st133⟩ := X132.virtualBack hx (y := mth6) (z := mth6) hown (mvT hZ tw14) (mvT hZ tw15) (notFace_of_selects (args := #[]) (mvT hZ tw17)) (mvT hZ tw17) (mvT hZ tw16) (by decide) (backOf (W := 0) (add_16_1 l Z a0 hw [] b130 p1 .null (.ref c_131) b_131 kb_131 p0 T132.heap n0 (Nat.le_trans Z0 (Nat.le_trans (Nat.le_trans E130.1 q131_0.1) q132_0.1)) q132_1 q132_2 q132_3 q132_4 q132_5 q132_6 q132_7 (Nat.le_trans Z0 (Nat.le_of_eq g130.symm)) (Nat.le_trans Z0 (Nat.le_trans E130.1 q131_2))) hZ tw18 tw2 (by decide) (by decide)) q133a q133c (g := (mkF m 47 #[.val (.int p0), .val (.int p1), .val (.int p2), .val (.int p3), .val (.int p4), .val (.int p5), .val (.ref b130), .unset, .unset, .unset, .unset, .unset] [(.int p1), (.ref b130)])) rfl (by rw [hml]; rfl) (Steps.refl _) (argsL := [(.int p1)]) (rest := []) (lenOf pd_I_V rfl) rfl (Nat.le_of_eq rfl) (hb hby at_47) (fun _ _ => ⟨rfl, rfl, (by decide : 3 + 0 ≤ _), (by decide : 22 + 0 ≤ _)⟩)
    dsimp only [Pt.U, Pt.locs, Pt.cells, Pt.slots] at X133 l133 y133 z133 st133 hQ133
    subst l133 y133 z133
    obtain ⟨rfl, Nq133, q133_0, q133_1, q133_2, q133_3, q133_4, q133_5, q133_6, q133_7⟩ := hQ133
    have N133 := Fr.app N132 Nq133
    refine Goes.step (S' := T133.setTop (mkF m 53 #[.val (.int p0), .val (.int p1), .val (.int p2), .val (.int p3), .val (.int p4), .val (.int p5), .val (.ref b130), .unset, .unset, .unset, .unset, .unset] [(.int p2), (.ref b130)])) (fun t k => st133.trans (XS.aload X133.here hx rfl (hb hby at_50) rfl rfl (XS.iloadN X133.here hx rfl (hb hby at_52) rfl k))) ?_
    obtain ⟨cq134, kq134, q134a, q134b, q134c⟩ := isOf hZ rfl q133_1
    obtain ⟨_, _, ⟨T134, L134, k134, n134⟩, -, X134, ⟨Lc134, hQ134, l134, y134, z134⟩, st134⟩ := X133.virtualBack hx (y := mth6) (z := mth6) hown (mvT hZ tw14) (mvT hZ tw15) (notFace_of_selects (args := #[]) (mvT hZ tw17)) (mvT hZ tw17) (mvT hZ tw16) (by decide) (backOf (W := 0) (add_16_2 l Z a0 hw [] b130 p2 .null (.ref c_131) b_131 kb_131 p0 p1 T133.heap n0 (Nat.le_trans Z0 (Nat.le_trans (Nat.le_trans (Nat.le_trans E130.1 q131_0.1) q132_0.1) q133_0.1)) q133_1 q133_2 q133_3 q133_4 q133_5 q133_6 q133_7 (Nat.le_trans Z0 (Nat.le_of_eq g130.symm)) (Nat.le_trans Z0 (Nat.le_trans E130.1 q131_2))) hZ tw18 tw2 (by decide) (by decide)) q134a q134c (g := (mkF m 53 #[.val (.int p0), .val (.int p1), .val (.int p2), .val (.int p3), .val (.int p4), .val (.int p5), .val (.ref b130), .unset, .unset, .unset, .unset, .unset] [(.int p2), (.ref b130)])) rfl (by rw [hml]; rfl) (Steps.refl _) (argsL := [(.int p2)]) (rest := []) (lenOf pd_I_V rfl) rfl (Nat.le_of_eq rfl) (hb hby at_53) (fun _ _ => ⟨rfl, rfl, (by decide : 3 + 0 ≤ _), (by decide : 22 + 0 ≤ _)⟩)
    dsimp only [Pt.U, Pt.locs, Pt.cells, Pt.slots] at X134 l134 y134 z134 st134 hQ134
    subst l134 y134 z134
    obtain ⟨rfl, Nq134, q134_0, q134_1, q134_2, q134_3, q134_4, q134_5, q134_6, q134_7⟩ := hQ134
    have N134 := Fr.app N133 Nq134
    refine Goes.step (S' := T134.setTop (mkF m 56 #[.val (.int p0), .val (.int p1), .val (.int p2), .val (.int p3), .val (.int p4), .val (.int p5), .val (.ref b130), .unset, .unset, .unset, .unset, .unset] [])) (fun t k => st134.trans k) ?_
    exact sg b130 .unset c_131 kc_131 b_131 kb_131 T134 _ T134.heap (X134.more (by decide) (by decide)) rfl N134 ((((((Keep.refl _ []).ext E130).trans q131_0 (allS (Or.inr (Nat.le_of_eq g130.symm)) all0)).trans q132_0 (allS (Or.inr (Nat.le_of_eq g130.symm)) (allS (Or.inr (Nat.le_trans E130.1 q131_2)) all0))).trans q133_0 (allS (Or.inr (Nat.le_of_eq g130.symm)) (allS (Or.inr (Nat.le_trans E130.1 q131_2)) all0))).trans q134_0 (allS (Or.inr (Nat.le_of_eq g130.symm)) (allS (Or.inr (Nat.le_trans E130.1 q131_2)) all0))) One.u q134_1 q134_2 q134_3 q134_4 q134_6 (((q131_9.keep q132_0 (ninS (Ne.symm (Nat.ne_of_lt (Nat.lt_of_lt_of_le A130.lt q131_1))) (ninS (own_neVV q131_9 q131_10 (by decide)) nin0))).keep q133_0 (ninS (Ne.symm (Nat.ne_of_lt (Nat.lt_of_lt_of_le A130.lt q131_1))) (ninS (own_neVV (q131_9.keep q132_0 (ninS (Ne.symm (Nat.ne_of_lt (Nat.lt_of_lt_of_le A130.lt q131_1))) (ninS (own_neVV q131_9 q131_10 (by decide)) nin0))) q132_7 (by decide)) nin0))).keep q134_0 (ninS (Ne.symm (Nat.ne_of_lt (Nat.lt_of_lt_of_le A130.lt q131_1))) (ninS (own_neVV ((q131_9.keep q132_0 (ninS (Ne.symm (Nat.ne_of_lt (Nat.lt_of_lt_of_le A130.lt q131_1))) (ninS (own_neVV q131_9 q131_10 (by decide)) nin0))).keep q133_0 (ninS (Ne.symm (Nat.ne_of_lt (Nat.lt_of_lt_of_le A130.lt q131_1))) (ninS (own_neVV (q131_9.keep q132_0 (ninS (Ne.symm (Nat.ne_of_lt (Nat.lt_of_lt_of_le A130.lt q131_1))) (ninS (own_neVV q131_9 q131_10 (by decide)) nin0))) q132_7 (by decide)) nin0))) q133_7 (by decide)) nin0))) q134_7 (Nat.le_trans Z0 (Nat.le_trans E130.1 q131_2))
  case neg =>
    refine Goes.step (S' := s₁.setTop (mkF m 25 #[.val (.int p0), .val (.int p1), .val (.int p2), .val (.int p3), .val (.int p4), .val (.int p5), .unset, .unset, .unset, .unset, .unset, .unset] [(.int ((p5 >>> ((1 : Int32) &&& 31)) &&& (3 : Int32)))])) (fun t k => XS.ifYes X0.here hx rfl (pc0 := 4) (pc' := 19) rfl (hb hby at_4) rfl ((if0 _ _).trans (feq hc129).2) (by decide) (by decide) (XS.iload X0.here hx rfl (hb hby at_19) rfl (XS.iconst X0.here hx rfl (hb hby at_21) (XS.ishr X0.here hx rfl (hb hby at_22) rfl (XS.iconst X0.here hx rfl (hb hby at_23) (XS.iand X0.here hx rfl (hb hby at_24) rfl k)))))) ?_
    by_cases hc135 : ((p5 >>> ((1 : Int32) &&& 31)) &&& (3 : Int32)) = (0 : Int32)
    case pos =>
      rw [hc135]
      refine Goes.step (S' := s₁.setTop (mkF m 27 #[.val (.int p0), .val (.int p1), .val (.int p2), .val (.int p3), .val (.int p4), .val (.int p5), .unset, .val (.int (0 : Int32)), .unset, .unset, .unset, .unset] [])) (fun t k => XS.istore X0.here hx rfl (hb hby at_25) rfl (l' := #[.val (.int p0), .val (.int p1), .val (.int p2), .val (.int p3), .val (.int p4), .val (.int p5), .unset, .val (.int (0 : Int32)), .unset, .unset, .unset, .unset]) rfl k) ?_
      obtain ⟨T136, h136, X136, e136, E136, A136, D136, U136, st136⟩ := newO X0 hx hZ hown tw0 tw1 tw2 eh0 (g := (mkF m 27 #[.val (.int p0), .val (.int p1), .val (.int p2), .val (.int p3), .val (.int p4), .val (.int p5), .unset, .val (.int (0 : Int32)), .unset, .unset, .unset, .unset] [])) rfl (hb hby at_27) (by decide) (by decide)
      obtain ⟨b136, g136⟩ : ∃ z, z = h0.size := ⟨_, rfl⟩
      rw [← g136] at A136 D136 U136 st136
      have F136_whole : Fld Z h136 b136 "com/example/lumping/lumping/numbers/ChunkedInts" "whole" "[I" .null := D136 (Or.inl tw11) (ty := (.array .int)) (by decide)
      have F136_filling : Fld Z h136 b136 "com/example/lumping/lumping/numbers/ChunkedInts" "filling" "[I" .null := D136 (Or.inl tw13) (ty := (.array .int)) (by decide)
      have F136_filled : Fld Z h136 b136 "com/example/lumping/lumping/numbers/ChunkedInts" "filled" "I" (.int (0 : Int32)) := D136 (Or.inl tw20) (ty := .int) (by decide)
      have F136_size : Fld Z h136 b136 "com/example/lumping/lumping/numbers/ChunkedInts" "size" "I" (.int (0 : Int32)) := D136 (Or.inl tw22) (ty := .int) (by decide)
      have F136_chunks : Fld Z h136 b136 "com/example/lumping/lumping/numbers/ChunkedInts" "chunks" "[[I" .null := D136 (Or.inl tw31) (ty := (.array (.array .int))) (by decide)
      refine Goes.step (S' := T136.setTop (mkF m 33 #[.val (.int p0), .val (.int p1), .val (.int p2), .val (.int p3), .val (.int p4), .val (.int p5), .unset, .val (.int (0 : Int32)), .unset, .unset, .unset, .unset] [(.int (0 : Int32)), (.ref b136), (.ref b136)])) (fun t k => st136 _ (XS.dup X136.here hx rfl (hb hby at_30) rfl rfl (XS.iload X136.here hx rfl (hb hby at_31) rfl k))) ?_
      obtain ⟨_, _, ⟨T137, L137, k137, n137⟩, -, X137, ⟨Lc137, hQ137, l137, y137, z137⟩, st137⟩ := X136.specialBack hx (y := mth4) rfl hown (mvT hZ tw3) (mvT hZ tw4) (mvT hZ tw5) (by decide) (backOf (W := 1) (ci1_0 l Z a0 hw [] b136 h136 n0 (Nat.le_trans Z0 E136.1) A136 F136_whole F136_chunks F136_filling F136_filled F136_size (Nat.le_trans Z0 (Nat.le_of_eq g136.symm))) hZ tw5 tw2 (by decide) (by decide)) (g := (mkF m 33 #[.val (.int p0), .val (.int p1), .val (.int p2), .val (.int p3), .val (.int p4), .val (.int p5), .unset, .val (.int (0 : Int32)), .unset, .unset, .unset, .unset] [(.int (0 : Int32)), (.ref b136), (.ref b136)])) rfl (by rw [hml]; rfl) (Steps.refl _) (a := b136) (argsL := [(.int (0 : Int32))]) (rest := [(.ref b136)]) (lenOf pd_I_V rfl) rfl (Nat.le_of_eq rfl) (hb hby at_33) (fun _ _ => ⟨rfl, e136, (by decide : 1 + 1 ≤ _), (by decide : 5 + 0 ≤ _)⟩)
      dsimp only [Pt.U, Pt.locs, Pt.cells, Pt.slots] at X137 l137 y137 z137 st137 hQ137
      subst l137 y137 z137
      obtain ⟨b_137, kb_137, rfl, Nq137, q137_0, q137_1, q137_2, q137_3, q137_4, q137_5, q137_6, q137_7, q137_8⟩ := hQ137
      have N137 := Fr.app N0 Nq137
      refine Goes.step (S' := T137.setTop (mkF m 41 #[.val (.int p0), .val (.int p1), .val (.int p2), .val (.int p3), .val (.int p4), .val (.int p5), .val (.ref b136), .val (.int (0 : Int32)), .unset, .unset, .unset, .unset] [(.int p0), (.ref b136)])) (fun t k => st137.trans (XS.astore X137.here hx rfl (hb hby at_36) rfl rfl (l' := #[.val (.int p0), .val (.int p1), .val (.int p2), .val (.int p3), .val (.int p4), .val (.int p5), .val (.ref b136), .val (.int (0 : Int32)), .unset, .unset, .unset, .unset]) rfl (XS.aload X137.here hx rfl (hb hby at_38) rfl rfl (XS.iloadN X137.here hx rfl (hb hby at_40) rfl k)))) ?_
      obtain ⟨cq138, kq138, q138a, q138b, q138c⟩ := isOf hZ rfl q137_2
      obtain ⟨_, _, ⟨T138, L138, k138, n138⟩, -, X138, ⟨Lc138, hQ138, l138, y138, z138⟩, st138⟩ := X137.virtualBack hx (y := mth6) (z := mth6) hown (mvT hZ tw14) (mvT hZ tw15) (notFace_of_selects (args := #[]) (mvT hZ tw17)) (mvT hZ tw17) (mvT hZ tw16) (by decide) (backOf (W := 0) (addg0 l Z a0 hw [] b136 p0 b_137 kb_137 T137.heap n0 (Nat.le_trans Z0 (Nat.le_trans E136.1 q137_0.1)) q137_2 q137_3 q137_4 q137_5 q137_6 q137_7 q137_8 (Nat.le_trans Z0 (Nat.le_of_eq g136.symm))) hZ tw18 tw2 (by decide) (by decide)) q138a q138c (g := (mkF m 41 #[.val (.int p0), .val (.int p1), .val (.int p2), .val (.int p3), .val (.int p4), .val (.int p5), .val (.ref b136), .val (.int (0 : Int32)), .unset, .unset, .unset, .unset] [(.int p0), (.ref b136)])) rfl (by rw [hml]; rfl) (Steps.refl _) (argsL := [(.int p0)]) (rest := []) (lenOf pd_I_V rfl) rfl (Nat.le_of_eq rfl) (hb hby at_41) (fun _ _ => ⟨rfl, rfl, (by decide : 2 + 2 ≤ _), (by decide : 5 + 17 ≤ _)⟩)
      dsimp only [Pt.U, Pt.locs, Pt.cells, Pt.slots] at X138 l138 y138 z138 st138 hQ138
      subst l138 y138 z138
      obtain ⟨c_138, kc_138, b_138, kb_138, rfl, Nq138, q138_0, q138_1, q138_2, q138_3, q138_4, q138_5, q138_6, q138_7, q138_8, q138_9, q138_10⟩ := hQ138
      have N138 := Fr.app N137 Nq138
      refine Goes.step (S' := T138.setTop (mkF m 47 #[.val (.int p0), .val (.int p1), .val (.int p2), .val (.int p3), .val (.int p4), .val (.int p5), .val (.ref b136), .val (.int (0 : Int32)), .unset, .unset, .unset, .unset] [(.int p1), (.ref b136)])) (fun t k => st138.trans (XS.aload X138.here hx rfl (hb hby at_44) rfl rfl (XS.iloadN X138.here hx rfl (hb hby at_46) rfl k))) ?_
      obtain ⟨cq139, kq139, q139a, q139b, q139c⟩ := isOf hZ rfl q138_3
      obtain ⟨_, _, ⟨T139, L139, k139, n139⟩, -, X139, ⟨Lc139, hQ139, l139, y139, z139⟩, st139⟩ := X138.virtualBack hx (y := mth6) (z := mth6) hown (mvT hZ tw14) (mvT hZ tw15) (notFace_of_selects (args := #[]) (mvT hZ tw17)) (mvT hZ tw17) (mvT hZ tw16) (by decide) (backOf (W := 0) (add_16_1 l Z a0 hw [] b136 p1 .null (.ref c_138) b_138 kb_138 p0 T138.heap n0 (Nat.le_trans Z0 (Nat.le_trans (Nat.le_trans E136.1 q137_0.1) q138_0.1)) q138_3 q138_4 q138_5 q138_6 q138_7 q138_8 q138_10 (Nat.le_trans Z0 (Nat.le_of_eq g136.symm)) (Nat.le_trans Z0 (Nat.le_trans (Nat.le_trans E136.1 q137_0.1) q138_2))) hZ tw18 tw2 (by decide) (by decide)) q139a q139c (g := (mkF m 47 #[.val (.int p0), .val (.int p1), .val (.int p2), .val (.int p3), .val (.int p4), .val (.int p5), .val (.ref b136), .val (.int (0 : Int32)), .unset, .unset, .unset, .unset] [(.int p1), (.ref b136)])) rfl (by rw [hml]; rfl) (Steps.refl _) (argsL := [(.int p1)]) (rest := []) (lenOf pd_I_V rfl) rfl (Nat.le_of_eq rfl) (hb hby at_47) (fun _ _ => ⟨rfl, rfl, (by decide : 4 + 0 ≤ _), (by decide : 22 + 0 ≤ _)⟩)
      dsimp only [Pt.U, Pt.locs, Pt.cells, Pt.slots] at X139 l139 y139 z139 st139 hQ139
      subst l139 y139 z139
      obtain ⟨rfl, Nq139, q139_0, q139_1, q139_2, q139_3, q139_4, q139_5, q139_6, q139_7⟩ := hQ139
      have N139 := Fr.app N138 Nq139
      refine Goes.step (S' := T139.setTop (mkF m 53 #[.val (.int p0), .val (.int p1), .val (.int p2), .val (.int p3), .val (.int p4), .val (.int p5), .val (.ref b136), .val (.int (0 : Int32)), .unset, .unset, .unset, .unset] [(.int p2), (.ref b136)])) (fun t k => st139.trans (XS.aload X139.here hx rfl (hb hby at_50) rfl rfl (XS.iloadN X139.here hx rfl (hb hby at_52) rfl k))) ?_
      obtain ⟨cq140, kq140, q140a, q140b, q140c⟩ := isOf hZ rfl q139_1
      obtain ⟨_, _, ⟨T140, L140, k140, n140⟩, -, X140, ⟨Lc140, hQ140, l140, y140, z140⟩, st140⟩ := X139.virtualBack hx (y := mth6) (z := mth6) hown (mvT hZ tw14) (mvT hZ tw15) (notFace_of_selects (args := #[]) (mvT hZ tw17)) (mvT hZ tw17) (mvT hZ tw16) (by decide) (backOf (W := 0) (add_16_2 l Z a0 hw [] b136 p2 .null (.ref c_138) b_138 kb_138 p0 p1 T139.heap n0 (Nat.le_trans Z0 (Nat.le_trans (Nat.le_trans (Nat.le_trans E136.1 q137_0.1) q138_0.1) q139_0.1)) q139_1 q139_2 q139_3 q139_4 q139_5 q139_6 q139_7 (Nat.le_trans Z0 (Nat.le_of_eq g136.symm)) (Nat.le_trans Z0 (Nat.le_trans (Nat.le_trans E136.1 q137_0.1) q138_2))) hZ tw18 tw2 (by decide) (by decide)) q140a q140c (g := (mkF m 53 #[.val (.int p0), .val (.int p1), .val (.int p2), .val (.int p3), .val (.int p4), .val (.int p5), .val (.ref b136), .val (.int (0 : Int32)), .unset, .unset, .unset, .unset] [(.int p2), (.ref b136)])) rfl (by rw [hml]; rfl) (Steps.refl _) (argsL := [(.int p2)]) (rest := []) (lenOf pd_I_V rfl) rfl (Nat.le_of_eq rfl) (hb hby at_53) (fun _ _ => ⟨rfl, rfl, (by decide : 4 + 0 ≤ _), (by decide : 22 + 0 ≤ _)⟩)
      dsimp only [Pt.U, Pt.locs, Pt.cells, Pt.slots] at X140 l140 y140 z140 st140 hQ140
      subst l140 y140 z140
      obtain ⟨rfl, Nq140, q140_0, q140_1, q140_2, q140_3, q140_4, q140_5, q140_6, q140_7⟩ := hQ140
      have N140 := Fr.app N139 Nq140
      refine Goes.step (S' := T140.setTop (mkF m 56 #[.val (.int p0), .val (.int p1), .val (.int p2), .val (.int p3), .val (.int p4), .val (.int p5), .val (.ref b136), .val (.int (0 : Int32)), .unset, .unset, .unset, .unset] [])) (fun t k => st140.trans k) ?_
      exact sg b136 (.val (.int (0 : Int32))) c_138 kc_138 b_138 kb_138 T140 _ T140.heap (X140.more (by decide) (by decide)) rfl N140 ((((((Keep.refl _ []).ext E136).trans q137_0 (allS (Or.inr (Nat.le_of_eq g136.symm)) all0)).trans q138_0 (allS (Or.inr (Nat.le_of_eq g136.symm)) all0)).trans q139_0 (allS (Or.inr (Nat.le_of_eq g136.symm)) (allS (Or.inr (Nat.le_trans (Nat.le_trans E136.1 q137_0.1) q138_2)) all0))).trans q140_0 (allS (Or.inr (Nat.le_of_eq g136.symm)) (allS (Or.inr (Nat.le_trans (Nat.le_trans E136.1 q137_0.1) q138_2)) all0))) (One.val rfl) q140_1 q140_2 q140_3 q140_4 q140_6 ((q138_9.keep q139_0 (ninS (Ne.symm (Nat.ne_of_lt (Nat.lt_of_lt_of_le A136.lt (Nat.le_trans q137_0.1 q138_1)))) (ninS (own_neVV q138_9 q138_10 (by decide)) nin0))).keep q140_0 (ninS (Ne.symm (Nat.ne_of_lt (Nat.lt_of_lt_of_le A136.lt (Nat.le_trans q137_0.1 q138_1)))) (ninS (own_neVV (q138_9.keep q139_0 (ninS (Ne.symm (Nat.ne_of_lt (Nat.lt_of_lt_of_le A136.lt (Nat.le_trans q137_0.1 q138_1)))) (ninS (own_neVV q138_9 q138_10 (by decide)) nin0))) q139_7 (by decide)) nin0))) q140_7 (Nat.le_trans Z0 (Nat.le_trans (Nat.le_trans E136.1 q137_0.1) q138_2))
    case neg =>
      by_cases hc141 : ((p5 >>> ((1 : Int32) &&& 31)) &&& (3 : Int32)) = (1 : Int32)
      case pos =>
        rw [hc141]
        refine Goes.step (S' := s₁.setTop (mkF m 27 #[.val (.int p0), .val (.int p1), .val (.int p2), .val (.int p3), .val (.int p4), .val (.int p5), .unset, .val (.int (1 : Int32)), .unset, .unset, .unset, .unset] [])) (fun t k => XS.istore X0.here hx rfl (hb hby at_25) rfl (l' := #[.val (.int p0), .val (.int p1), .val (.int p2), .val (.int p3), .val (.int p4), .val (.int p5), .unset, .val (.int (1 : Int32)), .unset, .unset, .unset, .unset]) rfl k) ?_
        obtain ⟨T142, h142, X142, e142, E142, A142, D142, U142, st142⟩ := newO X0 hx hZ hown tw0 tw1 tw2 eh0 (g := (mkF m 27 #[.val (.int p0), .val (.int p1), .val (.int p2), .val (.int p3), .val (.int p4), .val (.int p5), .unset, .val (.int (1 : Int32)), .unset, .unset, .unset, .unset] [])) rfl (hb hby at_27) (by decide) (by decide)
        obtain ⟨b142, g142⟩ : ∃ z, z = h0.size := ⟨_, rfl⟩
        rw [← g142] at A142 D142 U142 st142
        have F142_whole : Fld Z h142 b142 "com/example/lumping/lumping/numbers/ChunkedInts" "whole" "[I" .null := D142 (Or.inl tw11) (ty := (.array .int)) (by decide)
        have F142_filling : Fld Z h142 b142 "com/example/lumping/lumping/numbers/ChunkedInts" "filling" "[I" .null := D142 (Or.inl tw13) (ty := (.array .int)) (by decide)
        have F142_filled : Fld Z h142 b142 "com/example/lumping/lumping/numbers/ChunkedInts" "filled" "I" (.int (0 : Int32)) := D142 (Or.inl tw20) (ty := .int) (by decide)
        have F142_size : Fld Z h142 b142 "com/example/lumping/lumping/numbers/ChunkedInts" "size" "I" (.int (0 : Int32)) := D142 (Or.inl tw22) (ty := .int) (by decide)
        have F142_chunks : Fld Z h142 b142 "com/example/lumping/lumping/numbers/ChunkedInts" "chunks" "[[I" .null := D142 (Or.inl tw31) (ty := (.array (.array .int))) (by decide)
        refine Goes.step (S' := T142.setTop (mkF m 33 #[.val (.int p0), .val (.int p1), .val (.int p2), .val (.int p3), .val (.int p4), .val (.int p5), .unset, .val (.int (1 : Int32)), .unset, .unset, .unset, .unset] [(.int (1 : Int32)), (.ref b142), (.ref b142)])) (fun t k => st142 _ (XS.dup X142.here hx rfl (hb hby at_30) rfl rfl (XS.iload X142.here hx rfl (hb hby at_31) rfl k))) ?_
        obtain ⟨_, _, ⟨T143, L143, k143, n143⟩, -, X143, ⟨Lc143, hQ143, l143, y143, z143⟩, st143⟩ := X142.specialBack hx (y := mth4) rfl hown (mvT hZ tw3) (mvT hZ tw4) (mvT hZ tw5) (by decide) (backOf (W := 1) (ci1_1 l Z a0 hw [] b142 h142 n0 (Nat.le_trans Z0 E142.1) A142 F142_whole F142_chunks F142_filling F142_filled F142_size (Nat.le_trans Z0 (Nat.le_of_eq g142.symm))) hZ tw5 tw2 (by decide) (by decide)) (g := (mkF m 33 #[.val (.int p0), .val (.int p1), .val (.int p2), .val (.int p3), .val (.int p4), .val (.int p5), .unset, .val (.int (1 : Int32)), .unset, .unset, .unset, .unset] [(.int (1 : Int32)), (.ref b142), (.ref b142)])) rfl (by rw [hml]; rfl) (Steps.refl _) (a := b142) (argsL := [(.int (1 : Int32))]) (rest := [(.ref b142)]) (lenOf pd_I_V rfl) rfl (Nat.le_of_eq rfl) (hb hby at_33) (fun _ _ => ⟨rfl, e142, (by decide : 1 + 1 ≤ _), (by decide : 5 + 1 ≤ _)⟩)
        dsimp only [Pt.U, Pt.locs, Pt.cells, Pt.slots] at X143 l143 y143 z143 st143 hQ143
        subst l143 y143 z143
        obtain ⟨b_143, kb_143, rfl, Nq143, q143_0, q143_1, q143_2, q143_3, q143_4, q143_5, q143_6, q143_7, q143_8⟩ := hQ143
        have N143 := Fr.app N0 Nq143
        refine Goes.step (S' := T143.setTop (mkF m 41 #[.val (.int p0), .val (.int p1), .val (.int p2), .val (.int p3), .val (.int p4), .val (.int p5), .val (.ref b142), .val (.int (1 : Int32)), .unset, .unset, .unset, .unset] [(.int p0), (.ref b142)])) (fun t k => st143.trans (XS.astore X143.here hx rfl (hb hby at_36) rfl rfl (l' := #[.val (.int p0), .val (.int p1), .val (.int p2), .val (.int p3), .val (.int p4), .val (.int p5), .val (.ref b142), .val (.int (1 : Int32)), .unset, .unset, .unset, .unset]) rfl (XS.aload X143.here hx rfl (hb hby at_38) rfl rfl (XS.iloadN X143.here hx rfl (hb hby at_40) rfl k)))) ?_
        obtain ⟨cq144, kq144, q144a, q144b, q144c⟩ := isOf hZ rfl q143_2
        obtain ⟨_, _, ⟨T144, L144, k144, n144⟩, -, X144, ⟨Lc144, hQ144, l144, y144, z144⟩, st144⟩ := X143.virtualBack hx (y := mth6) (z := mth6) hown (mvT hZ tw14) (mvT hZ tw15) (notFace_of_selects (args := #[]) (mvT hZ tw17)) (mvT hZ tw17) (mvT hZ tw16) (by decide) (backOf (W := 0) (add_1_0 l Z a0 hw [] b142 p0 (.ref b_143) .null b_143 kb_143 T143.heap n0 (Nat.le_trans Z0 (Nat.le_trans E142.1 q143_0.1)) q143_2 q143_3 q143_4 q143_5 q143_6 q143_7 q143_8 (Nat.le_trans Z0 (Nat.le_of_eq g142.symm)) (Nat.le_trans Z0 (Nat.le_trans E142.1 q143_1))) hZ tw18 tw2 (by decide) (by decide)) q144a q144c (g := (mkF m 41 #[.val (.int p0), .val (.int p1), .val (.int p2), .val (.int p3), .val (.int p4), .val (.int p5), .val (.ref b142), .val (.int (1 : Int32)), .unset, .unset, .unset, .unset] [(.int p0), (.ref b142)])) rfl (by rw [hml]; rfl) (Steps.refl _) (argsL := [(.int p0)]) (rest := []) (lenOf pd_I_V rfl) rfl (Nat.le_of_eq rfl) (hb hby at_41) (fun _ _ => ⟨rfl, rfl, (by decide : 2 + 0 ≤ _), (by decide : 6 + 0 ≤ _)⟩)
        dsimp only [Pt.U, Pt.locs, Pt.cells, Pt.slots] at X144 l144 y144 z144 st144 hQ144
        subst l144 y144 z144
        obtain ⟨rfl, Nq144, q144_0, q144_1, q144_2, q144_3, q144_4, q144_5, q144_6, q144_7⟩ := hQ144
        have N144 := Fr.app N143 Nq144
        refine Goes.step (S' := T144.setTop (mkF m 47 #[.val (.int p0), .val (.int p1), .val (.int p2), .val (.int p3), .val (.int p4), .val (.int p5), .val (.ref b142), .val (.int (1 : Int32)), .unset, .unset, .unset, .unset] [(.int p1), (.ref b142)])) (fun t k => st144.trans (XS.aload X144.here hx rfl (hb hby at_44) rfl rfl (XS.iloadN X144.here hx rfl (hb hby at_46) rfl k))) ?_
        obtain ⟨cq145, kq145, q145a, q145b, q145c⟩ := isOf hZ rfl q144_1
        obtain ⟨_, _, ⟨T145, L145, k145, n145⟩, -, X145, ⟨Lc145, hQ145, l145, y145, z145⟩, st145⟩ := X144.virtualBack hx (y := mth6) (z := mth6) hown (mvT hZ tw14) (mvT hZ tw15) (notFace_of_selects (args := #[]) (mvT hZ tw17)) (mvT hZ tw17) (mvT hZ tw16) (by decide) (backOf (W := 0) (addg1 l Z a0 hw [] b142 p1 b_143 kb_143 p0 T144.heap n0 (Nat.le_trans Z0 (Nat.le_trans (Nat.le_trans E142.1 q143_0.1) q144_0.1)) q144_1 q144_2 q144_3 q144_4 q144_5 q144_6 q144_7 (Nat.le_trans Z0 (Nat.le_of_eq g142.symm))) hZ tw18 tw2 (by decide) (by decide)) q145a q145c (g := (mkF m 47 #[.val (.int p0), .val (.int p1), .val (.int p2), .val (.int p3), .val (.int p4), .val (.int p5), .val (.ref b142), .val (.int (1 : Int32)), .unset, .unset, .unset, .unset] [(.int p1), (.ref b142)])) rfl (by rw [hml]; rfl) (Steps.refl _) (argsL := [(.int p1)]) (rest := []) (lenOf pd_I_V rfl) rfl (Nat.le_of_eq rfl) (hb hby at_47) (fun _ _ => ⟨rfl, rfl, (by decide : 2 + 2 ≤ _), (by decide : 6 + 17 ≤ _)⟩)
        dsimp only [Pt.U, Pt.locs, Pt.cells, Pt.slots] at X145 l145 y145 z145 st145 hQ145
        subst l145 y145 z145
        obtain ⟨c_145, kc_145, b_145, kb_145, rfl, Nq145, q145_0, q145_1, q145_2, q145_3, q145_4, q145_5, q145_6, q145_7, q145_8, q145_9, q145_10⟩ := hQ145
        have N145 := Fr.app N144 Nq145
        refine Goes.step (S' := T145.setTop (mkF m 53 #[.val (.int p0), .val (.int p1), .val (.int p2), .val (.int p3), .val (.int p4), .val (.int p5), .val (.ref b142), .val (.int (1 : Int32)), .unset, .unset, .unset, .unset] [(.int p2), (.ref b142)])) (fun t k => st145.trans (XS.aload X145.here hx rfl (hb hby at_50) rfl rfl (XS.iloadN X145.here hx rfl (hb hby at_52) rfl k))) ?_
        obtain ⟨cq146, kq146, q146a, q146b, q146c⟩ := isOf hZ rfl q145_3
        obtain ⟨_, _, ⟨T146, L146, k146, n146⟩, -, X146, ⟨Lc146, hQ146, l146, y146, z146⟩, st146⟩ := X145.virtualBack hx (y := mth6) (z := mth6) hown (mvT hZ tw14) (mvT hZ tw15) (notFace_of_selects (args := #[]) (mvT hZ tw17)) (mvT hZ tw17) (mvT hZ tw16) (by decide) (backOf (W := 0) (add_16_2 l Z a0 hw [] b142 p2 .null (.ref c_145) b_145 kb_145 p0 p1 T145.heap n0 (Nat.le_trans Z0 (Nat.le_trans (Nat.le_trans (Nat.le_trans E142.1 q143_0.1) q144_0.1) q145_0.1)) q145_3 q145_4 q145_5 q145_6 q145_7 q145_8 q145_10 (Nat.le_trans Z0 (Nat.le_of_eq g142.symm)) (Nat.le_trans Z0 (Nat.le_trans (Nat.le_trans (Nat.le_trans E142.1 q143_0.1) q144_0.1) q145_2))) hZ tw18 tw2 (by decide) (by decide)) q146a q146c (g := (mkF m 53 #[.val (.int p0), .val (.int p1), .val (.int p2), .val (.int p3), .val (.int p4), .val (.int p5), .val (.ref b142), .val (.int (1 : Int32)), .unset, .unset, .unset, .unset] [(.int p2), (.ref b142)])) rfl (by rw [hml]; rfl) (Steps.refl _) (argsL := [(.int p2)]) (rest := []) (lenOf pd_I_V rfl) rfl (Nat.le_of_eq rfl) (hb hby at_53) (fun _ _ => ⟨rfl, rfl, (by decide : 4 + 0 ≤ _), (by decide : 23 + 0 ≤ _)⟩)
        dsimp only [Pt.U, Pt.locs, Pt.cells, Pt.slots] at X146 l146 y146 z146 st146 hQ146
        subst l146 y146 z146
        obtain ⟨rfl, Nq146, q146_0, q146_1, q146_2, q146_3, q146_4, q146_5, q146_6, q146_7⟩ := hQ146
        have N146 := Fr.app N145 Nq146
        refine Goes.step (S' := T146.setTop (mkF m 56 #[.val (.int p0), .val (.int p1), .val (.int p2), .val (.int p3), .val (.int p4), .val (.int p5), .val (.ref b142), .val (.int (1 : Int32)), .unset, .unset, .unset, .unset] [])) (fun t k => st146.trans k) ?_
        exact sg b142 (.val (.int (1 : Int32))) c_145 kc_145 b_145 kb_145 T146 _ T146.heap (X146.more (by decide) (by decide)) rfl N146 ((((((Keep.refl _ []).ext E142).trans q143_0 (allS (Or.inr (Nat.le_of_eq g142.symm)) all0)).trans q144_0 (allS (Or.inr (Nat.le_of_eq g142.symm)) (allS (Or.inr (Nat.le_trans E142.1 q143_1)) all0))).trans q145_0 (allS (Or.inr (Nat.le_of_eq g142.symm)) all0)).trans q146_0 (allS (Or.inr (Nat.le_of_eq g142.symm)) (allS (Or.inr (Nat.le_trans (Nat.le_trans (Nat.le_trans E142.1 q143_0.1) q144_0.1) q145_2)) all0))) (One.val rfl) q146_1 q146_2 q146_3 q146_4 q146_6 (q145_9.keep q146_0 (ninS (Ne.symm (Nat.ne_of_lt (Nat.lt_of_lt_of_le A142.lt (Nat.le_trans (Nat.le_trans q143_0.1 q144_0.1) q145_1)))) (ninS (own_neVV q145_9 q145_10 (by decide)) nin0))) q146_7 (Nat.le_trans Z0 (Nat.le_trans (Nat.le_trans (Nat.le_trans E142.1 q143_0.1) q144_0.1) q145_2))
      case neg =>
        by_cases hc147 : ((p5 >>> ((1 : Int32) &&& 31)) &&& (3 : Int32)) = (2 : Int32)
        case pos =>
          rw [hc147]
          refine Goes.step (S' := s₁.setTop (mkF m 27 #[.val (.int p0), .val (.int p1), .val (.int p2), .val (.int p3), .val (.int p4), .val (.int p5), .unset, .val (.int (2 : Int32)), .unset, .unset, .unset, .unset] [])) (fun t k => XS.istore X0.here hx rfl (hb hby at_25) rfl (l' := #[.val (.int p0), .val (.int p1), .val (.int p2), .val (.int p3), .val (.int p4), .val (.int p5), .unset, .val (.int (2 : Int32)), .unset, .unset, .unset, .unset]) rfl k) ?_
          obtain ⟨T148, h148, X148, e148, E148, A148, D148, U148, st148⟩ := newO X0 hx hZ hown tw0 tw1 tw2 eh0 (g := (mkF m 27 #[.val (.int p0), .val (.int p1), .val (.int p2), .val (.int p3), .val (.int p4), .val (.int p5), .unset, .val (.int (2 : Int32)), .unset, .unset, .unset, .unset] [])) rfl (hb hby at_27) (by decide) (by decide)
          obtain ⟨b148, g148⟩ : ∃ z, z = h0.size := ⟨_, rfl⟩
          rw [← g148] at A148 D148 U148 st148
          have F148_whole : Fld Z h148 b148 "com/example/lumping/lumping/numbers/ChunkedInts" "whole" "[I" .null := D148 (Or.inl tw11) (ty := (.array .int)) (by decide)
          have F148_filling : Fld Z h148 b148 "com/example/lumping/lumping/numbers/ChunkedInts" "filling" "[I" .null := D148 (Or.inl tw13) (ty := (.array .int)) (by decide)
          have F148_filled : Fld Z h148 b148 "com/example/lumping/lumping/numbers/ChunkedInts" "filled" "I" (.int (0 : Int32)) := D148 (Or.inl tw20) (ty := .int) (by decide)
          have F148_size : Fld Z h148 b148 "com/example/lumping/lumping/numbers/ChunkedInts" "size" "I" (.int (0 : Int32)) := D148 (Or.inl tw22) (ty := .int) (by decide)
          have F148_chunks : Fld Z h148 b148 "com/example/lumping/lumping/numbers/ChunkedInts" "chunks" "[[I" .null := D148 (Or.inl tw31) (ty := (.array (.array .int))) (by decide)
          refine Goes.step (S' := T148.setTop (mkF m 33 #[.val (.int p0), .val (.int p1), .val (.int p2), .val (.int p3), .val (.int p4), .val (.int p5), .unset, .val (.int (2 : Int32)), .unset, .unset, .unset, .unset] [(.int (2 : Int32)), (.ref b148), (.ref b148)])) (fun t k => st148 _ (XS.dup X148.here hx rfl (hb hby at_30) rfl rfl (XS.iload X148.here hx rfl (hb hby at_31) rfl k))) ?_
          obtain ⟨_, _, ⟨T149, L149, k149, n149⟩, -, X149, ⟨Lc149, hQ149, l149, y149, z149⟩, st149⟩ := X148.specialBack hx (y := mth4) rfl hown (mvT hZ tw3) (mvT hZ tw4) (mvT hZ tw5) (by decide) (backOf (W := 1) (ci1_2 l Z a0 hw [] b148 h148 n0 (Nat.le_trans Z0 E148.1) A148 F148_whole F148_chunks F148_filling F148_filled F148_size (Nat.le_trans Z0 (Nat.le_of_eq g148.symm))) hZ tw5 tw2 (by decide) (by decide)) (g := (mkF m 33 #[.val (.int p0), .val (.int p1), .val (.int p2), .val (.int p3), .val (.int p4), .val (.int p5), .unset, .val (.int (2 : Int32)), .unset, .unset, .unset, .unset] [(.int (2 : Int32)), (.ref b148), (.ref b148)])) rfl (by rw [hml]; rfl) (Steps.refl _) (a := b148) (argsL := [(.int (2 : Int32))]) (rest := [(.ref b148)]) (lenOf pd_I_V rfl) rfl (Nat.le_of_eq rfl) (hb hby at_33) (fun _ _ => ⟨rfl, e148, (by decide : 1 + 1 ≤ _), (by decide : 5 + 2 ≤ _)⟩)
          dsimp only [Pt.U, Pt.locs, Pt.cells, Pt.slots] at X149 l149 y149 z149 st149 hQ149
          subst l149 y149 z149
          obtain ⟨b_149, kb_149, rfl, Nq149, q149_0, q149_1, q149_2, q149_3, q149_4, q149_5, q149_6, q149_7, q149_8⟩ := hQ149
          have N149 := Fr.app N0 Nq149
          refine Goes.step (S' := T149.setTop (mkF m 41 #[.val (.int p0), .val (.int p1), .val (.int p2), .val (.int p3), .val (.int p4), .val (.int p5), .val (.ref b148), .val (.int (2 : Int32)), .unset, .unset, .unset, .unset] [(.int p0), (.ref b148)])) (fun t k => st149.trans (XS.astore X149.here hx rfl (hb hby at_36) rfl rfl (l' := #[.val (.int p0), .val (.int p1), .val (.int p2), .val (.int p3), .val (.int p4), .val (.int p5), .val (.ref b148), .val (.int (2 : Int32)), .unset, .unset, .unset, .unset]) rfl (XS.aload X149.here hx rfl (hb hby at_38) rfl rfl (XS.iloadN X149.here hx rfl (hb hby at_40) rfl k)))) ?_
          obtain ⟨cq150, kq150, q150a, q150b, q150c⟩ := isOf hZ rfl q149_2
          obtain ⟨_, _, ⟨T150, L150, k150, n150⟩, -, X150, ⟨Lc150, hQ150, l150, y150, z150⟩, st150⟩ := X149.virtualBack hx (y := mth6) (z := mth6) hown (mvT hZ tw14) (mvT hZ tw15) (notFace_of_selects (args := #[]) (mvT hZ tw17)) (mvT hZ tw17) (mvT hZ tw16) (by decide) (backOf (W := 0) (add_2_0 l Z a0 hw [] b148 p0 (.ref b_149) .null b_149 kb_149 T149.heap n0 (Nat.le_trans Z0 (Nat.le_trans E148.1 q149_0.1)) q149_2 q149_3 q149_4 q149_5 q149_6 q149_7 q149_8 (Nat.le_trans Z0 (Nat.le_of_eq g148.symm)) (Nat.le_trans Z0 (Nat.le_trans E148.1 q149_1))) hZ tw18 tw2 (by decide) (by decide)) q150a q150c (g := (mkF m 41 #[.val (.int p0), .val (.int p1), .val (.int p2), .val (.int p3), .val (.int p4), .val (.int p5), .val (.ref b148), .val (.int (2 : Int32)), .unset, .unset, .unset, .unset] [(.int p0), (.ref b148)])) rfl (by rw [hml]; rfl) (Steps.refl _) (argsL := [(.int p0)]) (rest := []) (lenOf pd_I_V rfl) rfl (Nat.le_of_eq rfl) (hb hby at_41) (fun _ _ => ⟨rfl, rfl, (by decide : 2 + 0 ≤ _), (by decide : 7 + 0 ≤ _)⟩)
          dsimp only [Pt.U, Pt.locs, Pt.cells, Pt.slots] at X150 l150 y150 z150 st150 hQ150
          subst l150 y150 z150
          obtain ⟨rfl, Nq150, q150_0, q150_1, q150_2, q150_3, q150_4, q150_5, q150_6, q150_7⟩ := hQ150
          have N150 := Fr.app N149 Nq150
          refine Goes.step (S' := T150.setTop (mkF m 47 #[.val (.int p0), .val (.int p1), .val (.int p2), .val (.int p3), .val (.int p4), .val (.int p5), .val (.ref b148), .val (.int (2 : Int32)), .unset, .unset, .unset, .unset] [(.int p1), (.ref b148)])) (fun t k => st150.trans (XS.aload X150.here hx rfl (hb hby at_44) rfl rfl (XS.iloadN X150.here hx rfl (hb hby at_46) rfl k))) ?_
          obtain ⟨cq151, kq151, q151a, q151b, q151c⟩ := isOf hZ rfl q150_1
          obtain ⟨_, _, ⟨T151, L151, k151, n151⟩, -, X151, ⟨Lc151, hQ151, l151, y151, z151⟩, st151⟩ := X150.virtualBack hx (y := mth6) (z := mth6) hown (mvT hZ tw14) (mvT hZ tw15) (notFace_of_selects (args := #[]) (mvT hZ tw17)) (mvT hZ tw17) (mvT hZ tw16) (by decide) (backOf (W := 0) (add_2_1 l Z a0 hw [] b148 p1 (.ref b_149) .null b_149 kb_149 p0 T150.heap n0 (Nat.le_trans Z0 (Nat.le_trans (Nat.le_trans E148.1 q149_0.1) q150_0.1)) q150_1 q150_2 q150_3 q150_4 q150_5 q150_6 q150_7 (Nat.le_trans Z0 (Nat.le_of_eq g148.symm)) (Nat.le_trans Z0 (Nat.le_trans E148.1 q149_1))) hZ tw18 tw2 (by decide) (by decide)) q151a q151c (g := (mkF m 47 #[.val (.int p0), .val (.int p1), .val (.int p2), .val (.int p3), .val (.int p4), .val (.int p5), .val (.ref b148), .val (.int (2 : Int32)), .unset, .unset, .unset, .unset] [(.int p1), (.ref b148)])) rfl (by rw [hml]; rfl) (Steps.refl _) (argsL := [(.int p1)]) (rest := []) (lenOf pd_I_V rfl) rfl (Nat.le_of_eq rfl) (hb hby at_47) (fun _ _ => ⟨rfl, rfl, (by decide : 2 + 0 ≤ _), (by decide : 7 + 0 ≤ _)⟩)
          dsimp only [Pt.U, Pt.locs, Pt.cells, Pt.slots] at X151 l151 y151 z151 st151 hQ151
          subst l151 y151 z151
          obtain ⟨rfl, Nq151, q151_0, q151_1, q151_2, q151_3, q151_4, q151_5, q151_6, q151_7⟩ := hQ151
          have N151 := Fr.app N150 Nq151
          refine Goes.step (S' := T151.setTop (mkF m 53 #[.val (.int p0), .val (.int p1), .val (.int p2), .val (.int p3), .val (.int p4), .val (.int p5), .val (.ref b148), .val (.int (2 : Int32)), .unset, .unset, .unset, .unset] [(.int p2), (.ref b148)])) (fun t k => st151.trans (XS.aload X151.here hx rfl (hb hby at_50) rfl rfl (XS.iloadN X151.here hx rfl (hb hby at_52) rfl k))) ?_
          obtain ⟨cq152, kq152, q152a, q152b, q152c⟩ := isOf hZ rfl q151_1
          obtain ⟨_, _, ⟨T152, L152, k152, n152⟩, -, X152, ⟨Lc152, hQ152, l152, y152, z152⟩, st152⟩ := X151.virtualBack hx (y := mth6) (z := mth6) hown (mvT hZ tw14) (mvT hZ tw15) (notFace_of_selects (args := #[]) (mvT hZ tw17)) (mvT hZ tw17) (mvT hZ tw16) (by decide) (backOf (W := 0) (addg2 l Z a0 hw [] b148 p2 b_149 kb_149 p0 p1 T151.heap n0 (Nat.le_trans Z0 (Nat.le_trans (Nat.le_trans (Nat.le_trans E148.1 q149_0.1) q150_0.1) q151_0.1)) q151_1 q151_2 q151_3 q151_4 q151_5 q151_6 q151_7 (Nat.le_trans Z0 (Nat.le_of_eq g148.symm))) hZ tw18 tw2 (by decide) (by decide)) q152a q152c (g := (mkF m 53 #[.val (.int p0), .val (.int p1), .val (.int p2), .val (.int p3), .val (.int p4), .val (.int p5), .val (.ref b148), .val (.int (2 : Int32)), .unset, .unset, .unset, .unset] [(.int p2), (.ref b148)])) rfl (by rw [hml]; rfl) (Steps.refl _) (argsL := [(.int p2)]) (rest := []) (lenOf pd_I_V rfl) rfl (Nat.le_of_eq rfl) (hb hby at_53) (fun _ _ => ⟨rfl, rfl, (by decide : 2 + 2 ≤ _), (by decide : 7 + 17 ≤ _)⟩)
          dsimp only [Pt.U, Pt.locs, Pt.cells, Pt.slots] at X152 l152 y152 z152 st152 hQ152
          subst l152 y152 z152
          obtain ⟨c_152, kc_152, b_152, kb_152, rfl, Nq152, q152_0, q152_1, q152_2, q152_3, q152_4, q152_5, q152_6, q152_7, q152_8, q152_9, q152_10⟩ := hQ152
          have N152 := Fr.app N151 Nq152
          refine Goes.step (S' := T152.setTop (mkF m 56 #[.val (.int p0), .val (.int p1), .val (.int p2), .val (.int p3), .val (.int p4), .val (.int p5), .val (.ref b148), .val (.int (2 : Int32)), .unset, .unset, .unset, .unset] [])) (fun t k => st152.trans k) ?_
          exact sg b148 (.val (.int (2 : Int32))) c_152 kc_152 b_152 kb_152 T152 _ T152.heap X152 rfl N152 ((((((Keep.refl _ []).ext E148).trans q149_0 (allS (Or.inr (Nat.le_of_eq g148.symm)) all0)).trans q150_0 (allS (Or.inr (Nat.le_of_eq g148.symm)) (allS (Or.inr (Nat.le_trans E148.1 q149_1)) all0))).trans q151_0 (allS (Or.inr (Nat.le_of_eq g148.symm)) (allS (Or.inr (Nat.le_trans E148.1 q149_1)) all0))).trans q152_0 (allS (Or.inr (Nat.le_of_eq g148.symm)) all0)) (One.val rfl) q152_3 q152_4 q152_5 q152_6 q152_8 q152_9 q152_10 (Nat.le_trans Z0 (Nat.le_trans (Nat.le_trans (Nat.le_trans (Nat.le_trans E148.1 q149_0.1) q150_0.1) q151_0.1) q152_2))
        case neg =>
          have hc153 : ((p5 >>> ((1 : Int32) &&& 31)) &&& (3 : Int32)) = (3 : Int32) := (by have z154_0 := hc129; have z154_1 := hc135; have z154_2 := hc141; have z154_3 := hc147; have z154_4 := rng32 (p5 &&& (1 : Int32)); have z154_5 := c_mask p5 (1 : Int32) 1 (by decide) (by decide); have z154_6 := rng32 p5; have z154_7 := rng32 ((p5 >>> ((1 : Int32) &&& 31)) &&& (3 : Int32)); have z154_8 := c_mask (p5 >>> ((1 : Int32) &&& 31)) (3 : Int32) 2 (by decide) (by decide); have z154_9 := rng32 (p5 >>> ((1 : Int32) &&& 31)); have z154_10 := c_ishr p5 (1 : Int32) 1 rfl; (try simp only [Int32.lt_iff_toInt_lt, Int64.lt_iff_toInt_lt, ne_eq, ← Int32.toInt_inj, ← Int64.toInt_inj, Int32.reduceToInt, Int64.reduceToInt, Nat.reducePow] at z154_0 z154_1 z154_2 z154_3 z154_4 z154_5 z154_6 z154_7 z154_8 z154_9 z154_10 ⊢); try omega)
          rw [hc153]
          refine Goes.step (S' := s₁.setTop (mkF m 27 #[.val (.int p0), .val (.int p1), .val (.int p2), .val (.int p3), .val (.int p4), .val (.int p5), .unset, .val (.int (3 : Int32)), .unset, .unset, .unset, .unset] [])) (fun t k => XS.istore X0.here hx rfl (hb hby at_25) rfl (l' := #[.val (.int p0), .val (.int p1), .val (.int p2), .val (.int p3), .val (.int p4), .val (.int p5), .unset, .val (.int (3 : Int32)), .unset, .unset, .unset, .unset]) rfl k) ?_
          obtain ⟨T155, h155, X155, e155, E155, A155, D155, U155, st155⟩ := newO X0 hx hZ hown tw0 tw1 tw2 eh0 (g := (mkF m 27 #[.val (.int p0), .val (.int p1), .val (.int p2), .val (.int p3), .val (.int p4), .val (.int p5), .unset, .val (.int (3 : Int32)), .unset, .unset, .unset, .unset] [])) rfl (hb hby at_27) (by decide) (by decide)
          obtain ⟨b155, g155⟩ : ∃ z, z = h0.size := ⟨_, rfl⟩
          rw [← g155] at A155 D155 U155 st155
          have F155_whole : Fld Z h155 b155 "com/example/lumping/lumping/numbers/ChunkedInts" "whole" "[I" .null := D155 (Or.inl tw11) (ty := (.array .int)) (by decide)
          have F155_filling : Fld Z h155 b155 "com/example/lumping/lumping/numbers/ChunkedInts" "filling" "[I" .null := D155 (Or.inl tw13) (ty := (.array .int)) (by decide)
          have F155_filled : Fld Z h155 b155 "com/example/lumping/lumping/numbers/ChunkedInts" "filled" "I" (.int (0 : Int32)) := D155 (Or.inl tw20) (ty := .int) (by decide)
          have F155_size : Fld Z h155 b155 "com/example/lumping/lumping/numbers/ChunkedInts" "size" "I" (.int (0 : Int32)) := D155 (Or.inl tw22) (ty := .int) (by decide)
          have F155_chunks : Fld Z h155 b155 "com/example/lumping/lumping/numbers/ChunkedInts" "chunks" "[[I" .null := D155 (Or.inl tw31) (ty := (.array (.array .int))) (by decide)
          refine Goes.step (S' := T155.setTop (mkF m 33 #[.val (.int p0), .val (.int p1), .val (.int p2), .val (.int p3), .val (.int p4), .val (.int p5), .unset, .val (.int (3 : Int32)), .unset, .unset, .unset, .unset] [(.int (3 : Int32)), (.ref b155), (.ref b155)])) (fun t k => st155 _ (XS.dup X155.here hx rfl (hb hby at_30) rfl rfl (XS.iload X155.here hx rfl (hb hby at_31) rfl k))) ?_
          obtain ⟨_, _, ⟨T156, L156, k156, n156⟩, -, X156, ⟨Lc156, hQ156, l156, y156, z156⟩, st156⟩ := X155.specialBack hx (y := mth4) rfl hown (mvT hZ tw3) (mvT hZ tw4) (mvT hZ tw5) (by decide) (backOf (W := 1) (ci1_3 l Z a0 hw [] b155 h155 n0 (Nat.le_trans Z0 E155.1) A155 F155_whole F155_chunks F155_filling F155_filled F155_size (Nat.le_trans Z0 (Nat.le_of_eq g155.symm))) hZ tw5 tw2 (by decide) (by decide)) (g := (mkF m 33 #[.val (.int p0), .val (.int p1), .val (.int p2), .val (.int p3), .val (.int p4), .val (.int p5), .unset, .val (.int (3 : Int32)), .unset, .unset, .unset, .unset] [(.int (3 : Int32)), (.ref b155), (.ref b155)])) rfl (by rw [hml]; rfl) (Steps.refl _) (a := b155) (argsL := [(.int (3 : Int32))]) (rest := [(.ref b155)]) (lenOf pd_I_V rfl) rfl (Nat.le_of_eq rfl) (hb hby at_33) (fun _ _ => ⟨rfl, e155, (by decide : 1 + 1 ≤ _), (by decide : 5 + 3 ≤ _)⟩)
          dsimp only [Pt.U, Pt.locs, Pt.cells, Pt.slots] at X156 l156 y156 z156 st156 hQ156
          subst l156 y156 z156
          obtain ⟨b_156, kb_156, rfl, Nq156, q156_0, q156_1, q156_2, q156_3, q156_4, q156_5, q156_6, q156_7, q156_8⟩ := hQ156
          have N156 := Fr.app N0 Nq156
          refine Goes.step (S' := T156.setTop (mkF m 41 #[.val (.int p0), .val (.int p1), .val (.int p2), .val (.int p3), .val (.int p4), .val (.int p5), .val (.ref b155), .val (.int (3 : Int32)), .unset, .unset, .unset, .unset] [(.int p0), (.ref b155)])) (fun t k => st156.trans (XS.astore X156.here hx rfl (hb hby at_36) rfl rfl (l' := #[.val (.int p0), .val (.int p1), .val (.int p2), .val (.int p3), .val (.int p4), .val (.int p5), .val (.ref b155), .val (.int (3 : Int32)), .unset, .unset, .unset, .unset]) rfl (XS.aload X156.here hx rfl (hb hby at_38) rfl rfl (XS.iloadN X156.here hx rfl (hb hby at_40) rfl k)))) ?_
          obtain ⟨cq157, kq157, q157a, q157b, q157c⟩ := isOf hZ rfl q156_2
          obtain ⟨_, _, ⟨T157, L157, k157, n157⟩, -, X157, ⟨Lc157, hQ157, l157, y157, z157⟩, st157⟩ := X156.virtualBack hx (y := mth6) (z := mth6) hown (mvT hZ tw14) (mvT hZ tw15) (notFace_of_selects (args := #[]) (mvT hZ tw17)) (mvT hZ tw17) (mvT hZ tw16) (by decide) (backOf (W := 0) (add_3_0 l Z a0 hw [] b155 p0 (.ref b_156) .null b_156 kb_156 T156.heap n0 (Nat.le_trans Z0 (Nat.le_trans E155.1 q156_0.1)) q156_2 q156_3 q156_4 q156_5 q156_6 q156_7 q156_8 (Nat.le_trans Z0 (Nat.le_of_eq g155.symm)) (Nat.le_trans Z0 (Nat.le_trans E155.1 q156_1))) hZ tw18 tw2 (by decide) (by decide)) q157a q157c (g := (mkF m 41 #[.val (.int p0), .val (.int p1), .val (.int p2), .val (.int p3), .val (.int p4), .val (.int p5), .val (.ref b155), .val (.int (3 : Int32)), .unset, .unset, .unset, .unset] [(.int p0), (.ref b155)])) rfl (by rw [hml]; rfl) (Steps.refl _) (argsL := [(.int p0)]) (rest := []) (lenOf pd_I_V rfl) rfl (Nat.le_of_eq rfl) (hb hby at_41) (fun _ _ => ⟨rfl, rfl, (by decide : 2 + 0 ≤ _), (by decide : 8 + 0 ≤ _)⟩)
          dsimp only [Pt.U, Pt.locs, Pt.cells, Pt.slots] at X157 l157 y157 z157 st157 hQ157
          subst l157 y157 z157
          obtain ⟨rfl, Nq157, q157_0, q157_1, q157_2, q157_3, q157_4, q157_5, q157_6, q157_7⟩ := hQ157
          have N157 := Fr.app N156 Nq157
          refine Goes.step (S' := T157.setTop (mkF m 47 #[.val (.int p0), .val (.int p1), .val (.int p2), .val (.int p3), .val (.int p4), .val (.int p5), .val (.ref b155), .val (.int (3 : Int32)), .unset, .unset, .unset, .unset] [(.int p1), (.ref b155)])) (fun t k => st157.trans (XS.aload X157.here hx rfl (hb hby at_44) rfl rfl (XS.iloadN X157.here hx rfl (hb hby at_46) rfl k))) ?_
          obtain ⟨cq158, kq158, q158a, q158b, q158c⟩ := isOf hZ rfl q157_1
          obtain ⟨_, _, ⟨T158, L158, k158, n158⟩, -, X158, ⟨Lc158, hQ158, l158, y158, z158⟩, st158⟩ := X157.virtualBack hx (y := mth6) (z := mth6) hown (mvT hZ tw14) (mvT hZ tw15) (notFace_of_selects (args := #[]) (mvT hZ tw17)) (mvT hZ tw17) (mvT hZ tw16) (by decide) (backOf (W := 0) (add_3_1 l Z a0 hw [] b155 p1 (.ref b_156) .null b_156 kb_156 p0 T157.heap n0 (Nat.le_trans Z0 (Nat.le_trans (Nat.le_trans E155.1 q156_0.1) q157_0.1)) q157_1 q157_2 q157_3 q157_4 q157_5 q157_6 q157_7 (Nat.le_trans Z0 (Nat.le_of_eq g155.symm)) (Nat.le_trans Z0 (Nat.le_trans E155.1 q156_1))) hZ tw18 tw2 (by decide) (by decide)) q158a q158c (g := (mkF m 47 #[.val (.int p0), .val (.int p1), .val (.int p2), .val (.int p3), .val (.int p4), .val (.int p5), .val (.ref b155), .val (.int (3 : Int32)), .unset, .unset, .unset, .unset] [(.int p1), (.ref b155)])) rfl (by rw [hml]; rfl) (Steps.refl _) (argsL := [(.int p1)]) (rest := []) (lenOf pd_I_V rfl) rfl (Nat.le_of_eq rfl) (hb hby at_47) (fun _ _ => ⟨rfl, rfl, (by decide : 2 + 0 ≤ _), (by decide : 8 + 0 ≤ _)⟩)
          dsimp only [Pt.U, Pt.locs, Pt.cells, Pt.slots] at X158 l158 y158 z158 st158 hQ158
          subst l158 y158 z158
          obtain ⟨rfl, Nq158, q158_0, q158_1, q158_2, q158_3, q158_4, q158_5, q158_6, q158_7⟩ := hQ158
          have N158 := Fr.app N157 Nq158
          refine Goes.step (S' := T158.setTop (mkF m 53 #[.val (.int p0), .val (.int p1), .val (.int p2), .val (.int p3), .val (.int p4), .val (.int p5), .val (.ref b155), .val (.int (3 : Int32)), .unset, .unset, .unset, .unset] [(.int p2), (.ref b155)])) (fun t k => st158.trans (XS.aload X158.here hx rfl (hb hby at_50) rfl rfl (XS.iloadN X158.here hx rfl (hb hby at_52) rfl k))) ?_
          obtain ⟨cq159, kq159, q159a, q159b, q159c⟩ := isOf hZ rfl q158_1
          obtain ⟨_, _, ⟨T159, L159, k159, n159⟩, -, X159, ⟨Lc159, hQ159, l159, y159, z159⟩, st159⟩ := X158.virtualBack hx (y := mth6) (z := mth6) hown (mvT hZ tw14) (mvT hZ tw15) (notFace_of_selects (args := #[]) (mvT hZ tw17)) (mvT hZ tw17) (mvT hZ tw16) (by decide) (backOf (W := 0) (add_3_2 l Z a0 hw [] b155 p2 (.ref b_156) .null b_156 kb_156 p0 p1 T158.heap n0 (Nat.le_trans Z0 (Nat.le_trans (Nat.le_trans (Nat.le_trans E155.1 q156_0.1) q157_0.1) q158_0.1)) q158_1 q158_2 q158_3 q158_4 q158_5 q158_6 q158_7 (Nat.le_trans Z0 (Nat.le_of_eq g155.symm)) (Nat.le_trans Z0 (Nat.le_trans E155.1 q156_1))) hZ tw18 tw2 (by decide) (by decide)) q159a q159c (g := (mkF m 53 #[.val (.int p0), .val (.int p1), .val (.int p2), .val (.int p3), .val (.int p4), .val (.int p5), .val (.ref b155), .val (.int (3 : Int32)), .unset, .unset, .unset, .unset] [(.int p2), (.ref b155)])) rfl (by rw [hml]; rfl) (Steps.refl _) (argsL := [(.int p2)]) (rest := []) (lenOf pd_I_V rfl) rfl (Nat.le_of_eq rfl) (hb hby at_53) (fun _ _ => ⟨rfl, rfl, (by decide : 2 + 0 ≤ _), (by decide : 8 + 0 ≤ _)⟩)
          dsimp only [Pt.U, Pt.locs, Pt.cells, Pt.slots] at X159 l159 y159 z159 st159 hQ159
          subst l159 y159 z159
          obtain ⟨rfl, Nq159, q159_0, q159_1, q159_2, q159_3, q159_4, q159_5, q159_6, q159_7⟩ := hQ159
          have N159 := Fr.app N158 Nq159
          refine Goes.step (S' := T159.setTop (mkF m 63 #[.val (.int p0), .val (.int p1), .val (.int p2), .val (.int p3), .val (.int p4), .val (.int p5), .val (.ref b155), .val (.int (3 : Int32)), .unset, .unset, .unset, .unset] [(.int ((p4 &&& (2147483647 : Int32)) % (3 : Int32)))])) (fun t k => st159.trans (XS.iload X159.here hx rfl (hb hby at_56) rfl (X159.ldcInt hx hown (mvT hZ tw49) (g := (mkF m 58 #[.val (.int p0), .val (.int p1), .val (.int p2), .val (.int p3), .val (.int p4), .val (.int p5), .val (.ref b155), .val (.int (3 : Int32)), .unset, .unset, .unset, .unset] [(.int p4)])) rfl (hb hby at_58) _ (XS.iand X159.here hx rfl (hb hby at_60) rfl (XS.iconst X159.here hx rfl (hb hby at_61) (iremM X159 hx rfl (hb hby at_62) rfl (by decide) k)))))) ?_
          by_cases hc160 : ((p4 &&& (2147483647 : Int32)) % (3 : Int32)) = (0 : Int32)
          case pos =>
            rw [hc160]
            refine Goes.step (S' := T159.setTop (mkF m 70 #[.val (.int p0), .val (.int p1), .val (.int p2), .val (.int p3), .val (.int p4), .val (.int p5), .val (.ref b155), .val (.int (0 : Int32)), .unset, .unset, .unset, .unset] [(.int p3), (.int (0 : Int32)), (.ref b155)])) (fun t k => XS.istore X159.here hx rfl (hb hby at_63) rfl (l' := #[.val (.int p0), .val (.int p1), .val (.int p2), .val (.int p3), .val (.int p4), .val (.int p5), .val (.ref b155), .val (.int (0 : Int32)), .unset, .unset, .unset, .unset]) rfl (XS.aload X159.here hx rfl (hb hby at_65) rfl rfl (XS.iload X159.here hx rfl (hb hby at_67) rfl (XS.iloadN X159.here hx rfl (hb hby at_69) rfl k)))) ?_
            obtain ⟨cq161, kq161, q161a, q161b, q161c⟩ := isOf hZ rfl q159_1
            obtain ⟨_, _, ⟨T161, L161, k161, n161⟩, -, X161, ⟨Lc161, hQ161, l161, y161, z161⟩, st161⟩ := X159.virtualBack hx (y := mth7) (z := mth7) hown (mvT hZ tw50) (mvT hZ tw51) (notFace_of_selects (args := #[]) (mvT hZ tw53)) (mvT hZ tw53) (mvT hZ tw52) (by decide) (backOf (W := 0) (set_w0 l Z a0 hw [] b155 p3 b_156 kb_156 p0 p1 p2 T159.heap n0 (Nat.le_trans Z0 (Nat.le_trans (Nat.le_trans (Nat.le_trans (Nat.le_trans E155.1 q156_0.1) q157_0.1) q158_0.1) q159_0.1)) q159_2 q159_7 (Nat.le_trans Z0 (Nat.le_trans E155.1 q156_1))) hZ tw54 tw2 (by decide) (by decide)) q161a q161c (g := (mkF m 70 #[.val (.int p0), .val (.int p1), .val (.int p2), .val (.int p3), .val (.int p4), .val (.int p5), .val (.ref b155), .val (.int (0 : Int32)), .unset, .unset, .unset, .unset] [(.int p3), (.int (0 : Int32)), (.ref b155)])) rfl (by rw [hml]; rfl) (Steps.refl _) (argsL := [(.int (0 : Int32)), (.int p3)]) (rest := []) (lenOf pd_II_V rfl) rfl (Nat.le_of_eq rfl) (hb hby at_70) (fun _ _ => ⟨rfl, rfl, (by decide : 2 + 0 ≤ _), (by decide : 8 + 0 ≤ _)⟩)
            dsimp only [Pt.U, Pt.locs, Pt.cells, Pt.slots] at X161 l161 y161 z161 st161 hQ161
            subst l161 y161 z161
            obtain ⟨rfl, Nq161, q161_0, q161_1⟩ := hQ161
            have N161 := Fr.app N159 Nq161
            refine Goes.step (S' := T161.setTop (mkF m 76 #[.val (.int p0), .val (.int p1), .val (.int p2), .val (.int p3), .val (.int p4), .val (.int p5), .val (.ref b155), .val (.int (0 : Int32)), .unset, .unset, .unset, .unset] [(.int (0 : Int32)), (.ref b155)])) (fun t k => st161.trans (XS.aload X161.here hx rfl (hb hby at_73) rfl rfl (XS.iconst X161.here hx rfl (hb hby at_75) k))) ?_
            obtain ⟨cq162, kq162, q162a, q162b, q162c⟩ := isOf hZ rfl (q159_1.keep q161_0)
            obtain ⟨_, _, ⟨T162, L162, k162, n162⟩, -, X162, ⟨Lc162, hQ162, l162, y162, z162⟩, st162⟩ := X161.virtualBack hx (y := mth8) (z := mth8) hown (mvT hZ tw55) (mvT hZ tw56) (notFace_of_selects (args := #[]) (mvT hZ tw58)) (mvT hZ tw58) (mvT hZ tw57) (by decide) (backOf (W := 0) (get_w0 l Z a0 hw [] b155 b_156 kb_156 p3 p1 p2 T161.heap n0 (Nat.le_trans Z0 (Nat.le_trans (Nat.le_trans (Nat.le_trans (Nat.le_trans (Nat.le_trans E155.1 q156_0.1) q157_0.1) q158_0.1) q159_0.1) q161_0.1)) (q159_2.keep q161_0 (ninS (Nat.ne_of_lt (Nat.lt_of_lt_of_le A155.lt q156_1)) nin0)) q161_1) hZ tw59 tw2 (by decide) (by decide)) q162a q162c (g := (mkF m 76 #[.val (.int p0), .val (.int p1), .val (.int p2), .val (.int p3), .val (.int p4), .val (.int p5), .val (.ref b155), .val (.int (0 : Int32)), .unset, .unset, .unset, .unset] [(.int (0 : Int32)), (.ref b155)])) rfl (by rw [hml]; rfl) (Steps.refl _) (argsL := [(.int (0 : Int32))]) (rest := []) (lenOf pd_I_I rfl) rfl (Nat.le_of_eq rfl) (hb hby at_76) (fun _ _ => ⟨rfl, rfl, (by decide : 2 + 0 ≤ _), (by decide : 8 + 0 ≤ _)⟩)
            dsimp only [Pt.U, Pt.locs, Pt.cells, Pt.slots] at X162 l162 y162 z162 st162 hQ162
            subst l162 y162 z162
            obtain ⟨rfl, Nq162, q162_0⟩ := hQ162
            have N162 := Fr.app N161 Nq162
            refine Goes.step (S' := T162.setTop (mkF m 84 #[.val (.int p0), .val (.int p1), .val (.int p2), .val (.int p3), .val (.int p4), .val (.int p5), .val (.ref b155), .val (.int (0 : Int32)), .val (.int p3), .unset, .unset, .unset] [(.int (1 : Int32)), (.ref b155)])) (fun t k => st162.trans (XS.istore X162.here hx rfl (hb hby at_79) rfl (l' := #[.val (.int p0), .val (.int p1), .val (.int p2), .val (.int p3), .val (.int p4), .val (.int p5), .val (.ref b155), .val (.int (0 : Int32)), .val (.int p3), .unset, .unset, .unset]) rfl (XS.aload X162.here hx rfl (hb hby at_81) rfl rfl (XS.iconst X162.here hx rfl (hb hby at_83) k)))) ?_
            obtain ⟨cq163, kq163, q163a, q163b, q163c⟩ := isOf hZ q162_0 (q159_1.keep q161_0)
            obtain ⟨_, _, ⟨T163, L163, k163, n163⟩, -, X163, ⟨Lc163, hQ163, l163, y163, z163⟩, st163⟩ := X162.virtualBack hx (y := mth8) (z := mth8) hown (mvT hZ tw55) (mvT hZ tw56) (notFace_of_selects (args := #[]) (mvT hZ tw58)) (mvT hZ tw58) (mvT hZ tw57) (by decide) (backOf (W := 0) (get_w1 l Z a0 hw [] b155 b_156 kb_156 p3 p1 p2 T161.heap n0 (Nat.le_trans Z0 (Nat.le_trans (Nat.le_trans (Nat.le_trans (Nat.le_trans (Nat.le_trans E155.1 q156_0.1) q157_0.1) q158_0.1) q159_0.1) q161_0.1)) (q159_2.keep q161_0 (ninS (Nat.ne_of_lt (Nat.lt_of_lt_of_le A155.lt q156_1)) nin0)) q161_1) hZ tw59 tw2 (by decide) (by decide)) q163a q163c (g := (mkF m 84 #[.val (.int p0), .val (.int p1), .val (.int p2), .val (.int p3), .val (.int p4), .val (.int p5), .val (.ref b155), .val (.int (0 : Int32)), .val (.int p3), .unset, .unset, .unset] [(.int (1 : Int32)), (.ref b155)])) rfl (by rw [hml]; rfl) (Steps.refl _) (argsL := [(.int (1 : Int32))]) (rest := []) (lenOf pd_I_I rfl) rfl (Nat.le_of_eq rfl) (hb hby at_84) (fun _ _ => ⟨rfl, q162_0, (by decide : 2 + 0 ≤ _), (by decide : 8 + 0 ≤ _)⟩)
            dsimp only [Pt.U, Pt.locs, Pt.cells, Pt.slots] at X163 l163 y163 z163 st163 hQ163
            subst l163 y163 z163
            obtain ⟨rfl, Nq163, q163_0⟩ := hQ163
            have N163 := Fr.app N162 Nq163
            refine Goes.step (S' := T163.setTop (mkF m 92 #[.val (.int p0), .val (.int p1), .val (.int p2), .val (.int p3), .val (.int p4), .val (.int p5), .val (.ref b155), .val (.int (0 : Int32)), .val (.int p3), .val (.int p1), .unset, .unset] [(.int (2 : Int32)), (.ref b155)])) (fun t k => st163.trans (XS.istore X163.here hx rfl (hb hby at_87) rfl (l' := #[.val (.int p0), .val (.int p1), .val (.int p2), .val (.int p3), .val (.int p4), .val (.int p5), .val (.ref b155), .val (.int (0 : Int32)), .val (.int p3), .val (.int p1), .unset, .unset]) rfl (XS.aload X163.here hx rfl (hb hby at_89) rfl rfl (XS.iconst X163.here hx rfl (hb hby at_91) k)))) ?_
            obtain ⟨cq164, kq164, q164a, q164b, q164c⟩ := isOf hZ q163_0 (q159_1.keep q161_0)
            obtain ⟨_, _, ⟨T164, L164, k164, n164⟩, -, X164, ⟨Lc164, hQ164, l164, y164, z164⟩, st164⟩ := X163.virtualBack hx (y := mth8) (z := mth8) hown (mvT hZ tw55) (mvT hZ tw56) (notFace_of_selects (args := #[]) (mvT hZ tw58)) (mvT hZ tw58) (mvT hZ tw57) (by decide) (backOf (W := 0) (get_w2 l Z a0 hw [] b155 b_156 kb_156 p3 p1 p2 T161.heap n0 (Nat.le_trans Z0 (Nat.le_trans (Nat.le_trans (Nat.le_trans (Nat.le_trans (Nat.le_trans E155.1 q156_0.1) q157_0.1) q158_0.1) q159_0.1) q161_0.1)) (q159_2.keep q161_0 (ninS (Nat.ne_of_lt (Nat.lt_of_lt_of_le A155.lt q156_1)) nin0)) q161_1) hZ tw59 tw2 (by decide) (by decide)) q164a q164c (g := (mkF m 92 #[.val (.int p0), .val (.int p1), .val (.int p2), .val (.int p3), .val (.int p4), .val (.int p5), .val (.ref b155), .val (.int (0 : Int32)), .val (.int p3), .val (.int p1), .unset, .unset] [(.int (2 : Int32)), (.ref b155)])) rfl (by rw [hml]; rfl) (Steps.refl _) (argsL := [(.int (2 : Int32))]) (rest := []) (lenOf pd_I_I rfl) rfl (Nat.le_of_eq rfl) (hb hby at_92) (fun _ _ => ⟨rfl, q163_0, (by decide : 2 + 0 ≤ _), (by decide : 8 + 0 ≤ _)⟩)
            dsimp only [Pt.U, Pt.locs, Pt.cells, Pt.slots] at X164 l164 y164 z164 st164 hQ164
            subst l164 y164 z164
            obtain ⟨rfl, Nq164, q164_0⟩ := hQ164
            have N164 := Fr.app N163 Nq164
            refine Goes.step (S' := T164.setTop (mkF m 99 #[.val (.int p0), .val (.int p1), .val (.int p2), .val (.int p3), .val (.int p4), .val (.int p5), .val (.ref b155), .val (.int (0 : Int32)), .val (.int p3), .val (.int p1), .val (.int p2), .unset] [(.ref b155)])) (fun t k => st164.trans (XS.istore X164.here hx rfl (hb hby at_95) rfl (l' := #[.val (.int p0), .val (.int p1), .val (.int p2), .val (.int p3), .val (.int p4), .val (.int p5), .val (.ref b155), .val (.int (0 : Int32)), .val (.int p3), .val (.int p1), .val (.int p2), .unset]) rfl (XS.aload X164.here hx rfl (hb hby at_97) rfl rfl k))) ?_
            obtain ⟨cq165, kq165, q165a, q165b, q165c⟩ := isOf hZ q164_0 (q159_1.keep q161_0)
            obtain ⟨_, _, ⟨T165, L165, k165, n165⟩, -, X165, ⟨Lc165, hQ165, l165, y165, z165⟩, st165⟩ := X164.virtualBack hx (y := mth9) (z := mth9) hown (mvT hZ tw60) (mvT hZ tw61) (notFace_of_selects (args := #[]) (mvT hZ tw63)) (mvT hZ tw63) (mvT hZ tw62) (by decide) (backOf (W := 0) (siz l Z a0 hw [] b155 (3 : Int32) T161.heap n0 (Nat.le_trans Z0 (Nat.le_trans (Nat.le_trans (Nat.le_trans (Nat.le_trans (Nat.le_trans E155.1 q156_0.1) q157_0.1) q158_0.1) q159_0.1) q161_0.1)) (q159_6.keep q161_0 (ninS (Nat.ne_of_lt (Nat.lt_of_lt_of_le A155.lt q156_1)) nin0))) hZ tw64 tw2 (by decide) (by decide)) q165a q165c (g := (mkF m 99 #[.val (.int p0), .val (.int p1), .val (.int p2), .val (.int p3), .val (.int p4), .val (.int p5), .val (.ref b155), .val (.int (0 : Int32)), .val (.int p3), .val (.int p1), .val (.int p2), .unset] [(.ref b155)])) rfl (by rw [hml]; rfl) (Steps.refl _) (argsL := []) (rest := []) (lenOf pd_I rfl) rfl (Nat.le_of_eq rfl) (hb hby at_99) (fun _ _ => ⟨rfl, q164_0, (by decide : 2 + 0 ≤ _), (by decide : 8 + 0 ≤ _)⟩)
            dsimp only [Pt.U, Pt.locs, Pt.cells, Pt.slots] at X165 l165 y165 z165 st165 hQ165
            subst l165 y165 z165
            obtain ⟨rfl, Nq165, q165_0⟩ := hQ165
            have N165 := Fr.app N164 Nq165
            refine Goes.step (S' := T165.setTop (mkF m 115 #[.val (.int p0), .val (.int p1), .val (.int p2), .val (.int p3), .val (.int p4), .val (.int p5), .val (.ref b155), .val (.int (0 : Int32)), .val (.int p3), .val (.int p1), .val (.int p2), .val (.int (3 : Int32))] [(.int (0 : Int32)), (.int (0 : Int32)), (.int p3)])) (fun t k => st165.trans (XS.istore X165.here hx rfl (hb hby at_102) rfl (l' := #[.val (.int p0), .val (.int p1), .val (.int p2), .val (.int p3), .val (.int p4), .val (.int p5), .val (.ref b155), .val (.int (0 : Int32)), .val (.int p3), .val (.int p1), .val (.int p2), .val (.int (3 : Int32))]) rfl (XS.iload X165.here hx rfl (hb hby at_104) rfl (XS.iconst X165.here hx rfl (hb hby at_106) (XS.icmpNo X165.here hx rfl (hb hby at_107) rfl (teq ((by decide) : (3 : Int32) = (3 : Int32))).2 (XS.iload X165.here hx rfl (hb hby at_110) rfl (XS.iconst X165.here hx rfl (hb hby at_112) (XS.iload X165.here hx rfl (hb hby at_113) rfl k)))))))) ?_
            refine Goes.step (S' := T165.setTop (mkF m 117 #[.val (.int p0), .val (.int p1), .val (.int p2), .val (.int p3), .val (.int p4), .val (.int p5), .val (.ref b155), .val (.int (0 : Int32)), .val (.int p3), .val (.int p1), .val (.int p2), .val (.int (3 : Int32))] [(.int p0), (.int p3), (.int (0 : Int32)), (.int (0 : Int32)), (.int p3)])) (fun t k => XS.iloadN X165.here hx rfl (hb hby at_115) rfl (XS.iloadN X165.here hx rfl (hb hby at_116) rfl k)) ?_
            obtain ⟨_, _, ⟨T166, L166, k166, n166⟩, -, X166, ⟨Lc166, hQ166, l166, y166, z166⟩, st166⟩ := Jvm.LawKit.callS X165 hx (y := mth10) hown (mvT hZ tw65) (mvT hZ tw66) (mvT hZ tw67) (mvT hZ tw68) (by decide) (backOf (W := 1) (exp_t l Z a0 hw [] (0 : Int32) (0 : Int32) p3 p0 T161.heap n0 (Nat.le_trans Z0 (Nat.le_trans (Nat.le_trans (Nat.le_trans (Nat.le_trans (Nat.le_trans E155.1 q156_0.1) q157_0.1) q158_0.1) q159_0.1) q161_0.1)) ((by decide) : (0 : Int32) = (0 : Int32))) hZ tw68 tw67 (by decide) (by decide)) (g := (mkF m 117 #[.val (.int p0), .val (.int p1), .val (.int p2), .val (.int p3), .val (.int p4), .val (.int p5), .val (.ref b155), .val (.int (0 : Int32)), .val (.int p3), .val (.int p1), .val (.int p2), .val (.int (3 : Int32))] [(.int p0), (.int p3), (.int (0 : Int32)), (.int (0 : Int32)), (.int p3)])) rfl (by rw [hml]; rfl) (argsL := [(.int (0 : Int32)), (.int (0 : Int32)), (.int p3), (.int p0)]) (rest := [(.int p3)]) (lenOf pd_IIII_I rfl) rfl (Nat.le_of_eq rfl) (hb hby at_117) (fun _ _ => ⟨rfl, q165_0, (by decide : 2 + 0 ≤ _), (by decide : 8 + 0 ≤ _)⟩)
            dsimp only [Pt.U, Pt.locs, Pt.cells, Pt.slots] at X166 l166 y166 z166 st166 hQ166
            subst l166 y166 z166
            obtain ⟨rfl, Nq166, q166_0⟩ := hQ166
            have N166 := Fr.app N165 Nq166
            refine Goes.step (S' := T166.setTop (mkF m 130 #[.val (.int p0), .val (.int p1), .val (.int p2), .val (.int p3), .val (.int p4), .val (.int p5), .val (.ref b155), .val (.int (0 : Int32)), .val (.int p3), .val (.int p1), .val (.int p2), .val (.int (3 : Int32))] [(.int p1), (.int p3), (.int (0 : Int32)), (.int (1 : Int32)), (.int p1)])) (fun t k => st166 _ (XS.icmpNo X166.here hx rfl (hb hby at_120) rfl (teq (rfl : p3 = p3)).2 (XS.iload X166.here hx rfl (hb hby at_123) rfl (XS.iconst X166.here hx rfl (hb hby at_125) (XS.iload X166.here hx rfl (hb hby at_126) rfl (XS.iloadN X166.here hx rfl (hb hby at_128) rfl (XS.iloadN X166.here hx rfl (hb hby at_129) rfl k))))))) ?_
            obtain ⟨_, _, ⟨T167, L167, k167, n167⟩, -, X167, ⟨Lc167, hQ167, l167, y167, z167⟩, st167⟩ := Jvm.LawKit.callS X166 hx (y := mth10) hown (mvT hZ tw65) (mvT hZ tw66) (mvT hZ tw67) (mvT hZ tw68) (by decide) (backOf (W := 1) (exp_f l Z a0 hw [] (1 : Int32) (0 : Int32) p3 p1 T161.heap n0 (Nat.le_trans Z0 (Nat.le_trans (Nat.le_trans (Nat.le_trans (Nat.le_trans (Nat.le_trans E155.1 q156_0.1) q157_0.1) q158_0.1) q159_0.1) q161_0.1)) ((by decide) : ¬ ((1 : Int32) = (0 : Int32)))) hZ tw68 tw67 (by decide) (by decide)) (g := (mkF m 130 #[.val (.int p0), .val (.int p1), .val (.int p2), .val (.int p3), .val (.int p4), .val (.int p5), .val (.ref b155), .val (.int (0 : Int32)), .val (.int p3), .val (.int p1), .val (.int p2), .val (.int (3 : Int32))] [(.int p1), (.int p3), (.int (0 : Int32)), (.int (1 : Int32)), (.int p1)])) rfl (by rw [hml]; rfl) (argsL := [(.int (1 : Int32)), (.int (0 : Int32)), (.int p3), (.int p1)]) (rest := [(.int p1)]) (lenOf pd_IIII_I rfl) rfl (Nat.le_of_eq rfl) (hb hby at_130) (fun _ _ => ⟨rfl, q166_0, (by decide : 2 + 0 ≤ _), (by decide : 8 + 0 ≤ _)⟩)
            dsimp only [Pt.U, Pt.locs, Pt.cells, Pt.slots] at X167 l167 y167 z167 st167 hQ167
            subst l167 y167 z167
            obtain ⟨rfl, Nq167, q167_0⟩ := hQ167
            have N167 := Fr.app N166 Nq167
            refine Goes.step (S' := T167.setTop (mkF m 143 #[.val (.int p0), .val (.int p1), .val (.int p2), .val (.int p3), .val (.int p4), .val (.int p5), .val (.ref b155), .val (.int (0 : Int32)), .val (.int p3), .val (.int p1), .val (.int p2), .val (.int (3 : Int32))] [(.int p2), (.int p3), (.int (0 : Int32)), (.int (2 : Int32)), (.int p2)])) (fun t k => st167 _ (XS.icmpNo X167.here hx rfl (hb hby at_133) rfl (teq (rfl : p1 = p1)).2 (XS.iload X167.here hx rfl (hb hby at_136) rfl (XS.iconst X167.here hx rfl (hb hby at_138) (XS.iload X167.here hx rfl (hb hby at_139) rfl (XS.iloadN X167.here hx rfl (hb hby at_141) rfl (XS.iloadN X167.here hx rfl (hb hby at_142) rfl k))))))) ?_
            obtain ⟨_, _, ⟨T168, L168, k168, n168⟩, -, X168, ⟨Lc168, hQ168, l168, y168, z168⟩, st168⟩ := Jvm.LawKit.callS X167 hx (y := mth10) hown (mvT hZ tw65) (mvT hZ tw66) (mvT hZ tw67) (mvT hZ tw68) (by decide) (backOf (W := 1) (exp_f l Z a0 hw [] (2 : Int32) (0 : Int32) p3 p2 T161.heap n0 (Nat.le_trans Z0 (Nat.le_trans (Nat.le_trans (Nat.le_trans (Nat.le_trans (Nat.le_trans E155.1 q156_0.1) q157_0.1) q158_0.1) q159_0.1) q161_0.1)) ((by decide) : ¬ ((2 : Int32) = (0 : Int32)))) hZ tw68 tw67 (by decide) (by decide)) (g := (mkF m 143 #[.val (.int p0), .val (.int p1), .val (.int p2), .val (.int p3), .val (.int p4), .val (.int p5), .val (.ref b155), .val (.int (0 : Int32)), .val (.int p3), .val (.int p1), .val (.int p2), .val (.int (3 : Int32))] [(.int p2), (.int p3), (.int (0 : Int32)), (.int (2 : Int32)), (.int p2)])) rfl (by rw [hml]; rfl) (argsL := [(.int (2 : Int32)), (.int (0 : Int32)), (.int p3), (.int p2)]) (rest := [(.int p2)]) (lenOf pd_IIII_I rfl) rfl (Nat.le_of_eq rfl) (hb hby at_143) (fun _ _ => ⟨rfl, q167_0, (by decide : 2 + 0 ≤ _), (by decide : 8 + 0 ≤ _)⟩)
            dsimp only [Pt.U, Pt.locs, Pt.cells, Pt.slots] at X168 l168 y168 z168 st168 hQ168
            subst l168 y168 z168
            obtain ⟨rfl, Nq168, q168_0⟩ := hQ168
            have N168 := Fr.app N167 Nq168
            refine Goes.step (S' := T168.setTop (mkF m 154 #[.val (.int p0), .val (.int p1), .val (.int p2), .val (.int p3), .val (.int p4), .val (.int p5), .val (.ref b155), .val (.int (0 : Int32)), .val (.int p3), .val (.int p1), .val (.int p2), .val (.int (3 : Int32))] [(.int (1 : Int32))])) (fun t k => st168 _ (XS.icmpNo X168.here hx rfl (hb hby at_146) rfl (teq (rfl : p2 = p2)).2 (XS.iconst X168.here hx rfl (hb hby at_149) (XS.goto X168.here hx rfl (pc0 := 150) (pc' := 154) rfl (hb hby at_150) (by decide) (by decide) k)))) ?_
            refine Goes.leave (g := (mkF m 154 #[.val (.int p0), .val (.int p1), .val (.int p2), .val (.int p3), .val (.int p4), .val (.int p5), .val (.ref b155), .val (.int (0 : Int32)), .val (.int p3), .val (.int p1), .val (.int p2), .val (.int (3 : Int32))] [(.int (1 : Int32))])) X168 Bd.notSynchronized (v := (some (.int (1 : Int32)))) (fun h => by rw [Bd.returns] at h; cases h) (fun fs hr => retN X168 hx (t := .boolean) Bd.returns (by simp) (hb hby at_154) hr) q168_0 ?_ (by decide) (by decide)
            exact ⟨rfl, N168⟩
          case neg =>
            by_cases hc169 : ((p4 &&& (2147483647 : Int32)) % (3 : Int32)) = (1 : Int32)
            case pos =>
              rw [hc169]
              refine Goes.step (S' := T159.setTop (mkF m 70 #[.val (.int p0), .val (.int p1), .val (.int p2), .val (.int p3), .val (.int p4), .val (.int p5), .val (.ref b155), .val (.int (1 : Int32)), .unset, .unset, .unset, .unset] [(.int p3), (.int (1 : Int32)), (.ref b155)])) (fun t k => XS.istore X159.here hx rfl (hb hby at_63) rfl (l' := #[.val (.int p0), .val (.int p1), .val (.int p2), .val (.int p3), .val (.int p4), .val (.int p5), .val (.ref b155), .val (.int (1 : Int32)), .unset, .unset, .unset, .unset]) rfl (XS.aload X159.here hx rfl (hb hby at_65) rfl rfl (XS.iload X159.here hx rfl (hb hby at_67) rfl (XS.iloadN X159.here hx rfl (hb hby at_69) rfl k)))) ?_
              obtain ⟨cq170, kq170, q170a, q170b, q170c⟩ := isOf hZ rfl q159_1
              obtain ⟨_, _, ⟨T170, L170, k170, n170⟩, -, X170, ⟨Lc170, hQ170, l170, y170, z170⟩, st170⟩ := X159.virtualBack hx (y := mth7) (z := mth7) hown (mvT hZ tw50) (mvT hZ tw51) (notFace_of_selects (args := #[]) (mvT hZ tw53)) (mvT hZ tw53) (mvT hZ tw52) (by decide) (backOf (W := 0) (set_w1 l Z a0 hw [] b155 p3 b_156 kb_156 p0 p1 p2 T159.heap n0 (Nat.le_trans Z0 (Nat.le_trans (Nat.le_trans (Nat.le_trans (Nat.le_trans E155.1 q156_0.1) q157_0.1) q158_0.1) q159_0.1)) q159_2 q159_7 (Nat.le_trans Z0 (Nat.le_trans E155.1 q156_1))) hZ tw54 tw2 (by decide) (by decide)) q170a q170c (g := (mkF m 70 #[.val (.int p0), .val (.int p1), .val (.int p2), .val (.int p3), .val (.int p4), .val (.int p5), .val (.ref b155), .val (.int (1 : Int32)), .unset, .unset, .unset, .unset] [(.int p3), (.int (1 : Int32)), (.ref b155)])) rfl (by rw [hml]; rfl) (Steps.refl _) (argsL := [(.int (1 : Int32)), (.int p3)]) (rest := []) (lenOf pd_II_V rfl) rfl (Nat.le_of_eq rfl) (hb hby at_70) (fun _ _ => ⟨rfl, rfl, (by decide : 2 + 0 ≤ _), (by decide : 8 + 0 ≤ _)⟩)
              dsimp only [Pt.U, Pt.locs, Pt.cells, Pt.slots] at X170 l170 y170 z170 st170 hQ170
              subst l170 y170 z170
              obtain ⟨rfl, Nq170, q170_0, q170_1⟩ := hQ170
              have N170 := Fr.app N159 Nq170
              refine Goes.step (S' := T170.setTop (mkF m 76 #[.val (.int p0), .val (.int p1), .val (.int p2), .val (.int p3), .val (.int p4), .val (.int p5), .val (.ref b155), .val (.int (1 : Int32)), .unset, .unset, .unset, .unset] [(.int (0 : Int32)), (.ref b155)])) (fun t k => st170.trans (XS.aload X170.here hx rfl (hb hby at_73) rfl rfl (XS.iconst X170.here hx rfl (hb hby at_75) k))) ?_
              obtain ⟨cq171, kq171, q171a, q171b, q171c⟩ := isOf hZ rfl (q159_1.keep q170_0)
              obtain ⟨_, _, ⟨T171, L171, k171, n171⟩, -, X171, ⟨Lc171, hQ171, l171, y171, z171⟩, st171⟩ := X170.virtualBack hx (y := mth8) (z := mth8) hown (mvT hZ tw55) (mvT hZ tw56) (notFace_of_selects (args := #[]) (mvT hZ tw58)) (mvT hZ tw58) (mvT hZ tw57) (by decide) (backOf (W := 0) (get_w0 l Z a0 hw [] b155 b_156 kb_156 p0 p3 p2 T170.heap n0 (Nat.le_trans Z0 (Nat.le_trans (Nat.le_trans (Nat.le_trans (Nat.le_trans (Nat.le_trans E155.1 q156_0.1) q157_0.1) q158_0.1) q159_0.1) q170_0.1)) (q159_2.keep q170_0 (ninS (Nat.ne_of_lt (Nat.lt_of_lt_of_le A155.lt q156_1)) nin0)) q170_1) hZ tw59 tw2 (by decide) (by decide)) q171a q171c (g := (mkF m 76 #[.val (.int p0), .val (.int p1), .val (.int p2), .val (.int p3), .val (.int p4), .val (.int p5), .val (.ref b155), .val (.int (1 : Int32)), .unset, .unset, .unset, .unset] [(.int (0 : Int32)), (.ref b155)])) rfl (by rw [hml]; rfl) (Steps.refl _) (argsL := [(.int (0 : Int32))]) (rest := []) (lenOf pd_I_I rfl) rfl (Nat.le_of_eq rfl) (hb hby at_76) (fun _ _ => ⟨rfl, rfl, (by decide : 2 + 0 ≤ _), (by decide : 8 + 0 ≤ _)⟩)
              dsimp only [Pt.U, Pt.locs, Pt.cells, Pt.slots] at X171 l171 y171 z171 st171 hQ171
              subst l171 y171 z171
              obtain ⟨rfl, Nq171, q171_0⟩ := hQ171
              have N171 := Fr.app N170 Nq171
              refine Goes.step (S' := T171.setTop (mkF m 84 #[.val (.int p0), .val (.int p1), .val (.int p2), .val (.int p3), .val (.int p4), .val (.int p5), .val (.ref b155), .val (.int (1 : Int32)), .val (.int p0), .unset, .unset, .unset] [(.int (1 : Int32)), (.ref b155)])) (fun t k => st171.trans (XS.istore X171.here hx rfl (hb hby at_79) rfl (l' := #[.val (.int p0), .val (.int p1), .val (.int p2), .val (.int p3), .val (.int p4), .val (.int p5), .val (.ref b155), .val (.int (1 : Int32)), .val (.int p0), .unset, .unset, .unset]) rfl (XS.aload X171.here hx rfl (hb hby at_81) rfl rfl (XS.iconst X171.here hx rfl (hb hby at_83) k)))) ?_
              obtain ⟨cq172, kq172, q172a, q172b, q172c⟩ := isOf hZ q171_0 (q159_1.keep q170_0)
              obtain ⟨_, _, ⟨T172, L172, k172, n172⟩, -, X172, ⟨Lc172, hQ172, l172, y172, z172⟩, st172⟩ := X171.virtualBack hx (y := mth8) (z := mth8) hown (mvT hZ tw55) (mvT hZ tw56) (notFace_of_selects (args := #[]) (mvT hZ tw58)) (mvT hZ tw58) (mvT hZ tw57) (by decide) (backOf (W := 0) (get_w1 l Z a0 hw [] b155 b_156 kb_156 p0 p3 p2 T170.heap n0 (Nat.le_trans Z0 (Nat.le_trans (Nat.le_trans (Nat.le_trans (Nat.le_trans (Nat.le_trans E155.1 q156_0.1) q157_0.1) q158_0.1) q159_0.1) q170_0.1)) (q159_2.keep q170_0 (ninS (Nat.ne_of_lt (Nat.lt_of_lt_of_le A155.lt q156_1)) nin0)) q170_1) hZ tw59 tw2 (by decide) (by decide)) q172a q172c (g := (mkF m 84 #[.val (.int p0), .val (.int p1), .val (.int p2), .val (.int p3), .val (.int p4), .val (.int p5), .val (.ref b155), .val (.int (1 : Int32)), .val (.int p0), .unset, .unset, .unset] [(.int (1 : Int32)), (.ref b155)])) rfl (by rw [hml]; rfl) (Steps.refl _) (argsL := [(.int (1 : Int32))]) (rest := []) (lenOf pd_I_I rfl) rfl (Nat.le_of_eq rfl) (hb hby at_84) (fun _ _ => ⟨rfl, q171_0, (by decide : 2 + 0 ≤ _), (by decide : 8 + 0 ≤ _)⟩)
              dsimp only [Pt.U, Pt.locs, Pt.cells, Pt.slots] at X172 l172 y172 z172 st172 hQ172
              subst l172 y172 z172
              obtain ⟨rfl, Nq172, q172_0⟩ := hQ172
              have N172 := Fr.app N171 Nq172
              refine Goes.step (S' := T172.setTop (mkF m 92 #[.val (.int p0), .val (.int p1), .val (.int p2), .val (.int p3), .val (.int p4), .val (.int p5), .val (.ref b155), .val (.int (1 : Int32)), .val (.int p0), .val (.int p3), .unset, .unset] [(.int (2 : Int32)), (.ref b155)])) (fun t k => st172.trans (XS.istore X172.here hx rfl (hb hby at_87) rfl (l' := #[.val (.int p0), .val (.int p1), .val (.int p2), .val (.int p3), .val (.int p4), .val (.int p5), .val (.ref b155), .val (.int (1 : Int32)), .val (.int p0), .val (.int p3), .unset, .unset]) rfl (XS.aload X172.here hx rfl (hb hby at_89) rfl rfl (XS.iconst X172.here hx rfl (hb hby at_91) k)))) ?_
              obtain ⟨cq173, kq173, q173a, q173b, q173c⟩ := isOf hZ q172_0 (q159_1.keep q170_0)
              obtain ⟨_, _, ⟨T173, L173, k173, n173⟩, -, X173, ⟨Lc173, hQ173, l173, y173, z173⟩, st173⟩ := X172.virtualBack hx (y := mth8) (z := mth8) hown (mvT hZ tw55) (mvT hZ tw56) (notFace_of_selects (args := #[]) (mvT hZ tw58)) (mvT hZ tw58) (mvT hZ tw57) (by decide) (backOf (W := 0) (get_w2 l Z a0 hw [] b155 b_156 kb_156 p0 p3 p2 T170.heap n0 (Nat.le_trans Z0 (Nat.le_trans (Nat.le_trans (Nat.le_trans (Nat.le_trans (Nat.le_trans E155.1 q156_0.1) q157_0.1) q158_0.1) q159_0.1) q170_0.1)) (q159_2.keep q170_0 (ninS (Nat.ne_of_lt (Nat.lt_of_lt_of_le A155.lt q156_1)) nin0)) q170_1) hZ tw59 tw2 (by decide) (by decide)) q173a q173c (g := (mkF m 92 #[.val (.int p0), .val (.int p1), .val (.int p2), .val (.int p3), .val (.int p4), .val (.int p5), .val (.ref b155), .val (.int (1 : Int32)), .val (.int p0), .val (.int p3), .unset, .unset] [(.int (2 : Int32)), (.ref b155)])) rfl (by rw [hml]; rfl) (Steps.refl _) (argsL := [(.int (2 : Int32))]) (rest := []) (lenOf pd_I_I rfl) rfl (Nat.le_of_eq rfl) (hb hby at_92) (fun _ _ => ⟨rfl, q172_0, (by decide : 2 + 0 ≤ _), (by decide : 8 + 0 ≤ _)⟩)
              dsimp only [Pt.U, Pt.locs, Pt.cells, Pt.slots] at X173 l173 y173 z173 st173 hQ173
              subst l173 y173 z173
              obtain ⟨rfl, Nq173, q173_0⟩ := hQ173
              have N173 := Fr.app N172 Nq173
              refine Goes.step (S' := T173.setTop (mkF m 99 #[.val (.int p0), .val (.int p1), .val (.int p2), .val (.int p3), .val (.int p4), .val (.int p5), .val (.ref b155), .val (.int (1 : Int32)), .val (.int p0), .val (.int p3), .val (.int p2), .unset] [(.ref b155)])) (fun t k => st173.trans (XS.istore X173.here hx rfl (hb hby at_95) rfl (l' := #[.val (.int p0), .val (.int p1), .val (.int p2), .val (.int p3), .val (.int p4), .val (.int p5), .val (.ref b155), .val (.int (1 : Int32)), .val (.int p0), .val (.int p3), .val (.int p2), .unset]) rfl (XS.aload X173.here hx rfl (hb hby at_97) rfl rfl k))) ?_
              obtain ⟨cq174, kq174, q174a, q174b, q174c⟩ := isOf hZ q173_0 (q159_1.keep q170_0)
              obtain ⟨_, _, ⟨T174, L174, k174, n174⟩, -, X174, ⟨Lc174, hQ174, l174, y174, z174⟩, st174⟩ := X173.virtualBack hx (y := mth9) (z := mth9) hown (mvT hZ tw60) (mvT hZ tw61) (notFace_of_selects (args := #[]) (mvT hZ tw63)) (mvT hZ tw63) (mvT hZ tw62) (by decide) (backOf (W := 0) (siz l Z a0 hw [] b155 (3 : Int32) T170.heap n0 (Nat.le_trans Z0 (Nat.le_trans (Nat.le_trans (Nat.le_trans (Nat.le_trans (Nat.le_trans E155.1 q156_0.1) q157_0.1) q158_0.1) q159_0.1) q170_0.1)) (q159_6.keep q170_0 (ninS (Nat.ne_of_lt (Nat.lt_of_lt_of_le A155.lt q156_1)) nin0))) hZ tw64 tw2 (by decide) (by decide)) q174a q174c (g := (mkF m 99 #[.val (.int p0), .val (.int p1), .val (.int p2), .val (.int p3), .val (.int p4), .val (.int p5), .val (.ref b155), .val (.int (1 : Int32)), .val (.int p0), .val (.int p3), .val (.int p2), .unset] [(.ref b155)])) rfl (by rw [hml]; rfl) (Steps.refl _) (argsL := []) (rest := []) (lenOf pd_I rfl) rfl (Nat.le_of_eq rfl) (hb hby at_99) (fun _ _ => ⟨rfl, q173_0, (by decide : 2 + 0 ≤ _), (by decide : 8 + 0 ≤ _)⟩)
              dsimp only [Pt.U, Pt.locs, Pt.cells, Pt.slots] at X174 l174 y174 z174 st174 hQ174
              subst l174 y174 z174
              obtain ⟨rfl, Nq174, q174_0⟩ := hQ174
              have N174 := Fr.app N173 Nq174
              refine Goes.step (S' := T174.setTop (mkF m 115 #[.val (.int p0), .val (.int p1), .val (.int p2), .val (.int p3), .val (.int p4), .val (.int p5), .val (.ref b155), .val (.int (1 : Int32)), .val (.int p0), .val (.int p3), .val (.int p2), .val (.int (3 : Int32))] [(.int (1 : Int32)), (.int (0 : Int32)), (.int p0)])) (fun t k => st174.trans (XS.istore X174.here hx rfl (hb hby at_102) rfl (l' := #[.val (.int p0), .val (.int p1), .val (.int p2), .val (.int p3), .val (.int p4), .val (.int p5), .val (.ref b155), .val (.int (1 : Int32)), .val (.int p0), .val (.int p3), .val (.int p2), .val (.int (3 : Int32))]) rfl (XS.iload X174.here hx rfl (hb hby at_104) rfl (XS.iconst X174.here hx rfl (hb hby at_106) (XS.icmpNo X174.here hx rfl (hb hby at_107) rfl (teq ((by decide) : (3 : Int32) = (3 : Int32))).2 (XS.iload X174.here hx rfl (hb hby at_110) rfl (XS.iconst X174.here hx rfl (hb hby at_112) (XS.iload X174.here hx rfl (hb hby at_113) rfl k)))))))) ?_
              refine Goes.step (S' := T174.setTop (mkF m 117 #[.val (.int p0), .val (.int p1), .val (.int p2), .val (.int p3), .val (.int p4), .val (.int p5), .val (.ref b155), .val (.int (1 : Int32)), .val (.int p0), .val (.int p3), .val (.int p2), .val (.int (3 : Int32))] [(.int p0), (.int p3), (.int (1 : Int32)), (.int (0 : Int32)), (.int p0)])) (fun t k => XS.iloadN X174.here hx rfl (hb hby at_115) rfl (XS.iloadN X174.here hx rfl (hb hby at_116) rfl k)) ?_
              obtain ⟨_, _, ⟨T175, L175, k175, n175⟩, -, X175, ⟨Lc175, hQ175, l175, y175, z175⟩, st175⟩ := Jvm.LawKit.callS X174 hx (y := mth10) hown (mvT hZ tw65) (mvT hZ tw66) (mvT hZ tw67) (mvT hZ tw68) (by decide) (backOf (W := 1) (exp_f l Z a0 hw [] (0 : Int32) (1 : Int32) p3 p0 T170.heap n0 (Nat.le_trans Z0 (Nat.le_trans (Nat.le_trans (Nat.le_trans (Nat.le_trans (Nat.le_trans E155.1 q156_0.1) q157_0.1) q158_0.1) q159_0.1) q170_0.1)) ((by decide) : ¬ ((0 : Int32) = (1 : Int32)))) hZ tw68 tw67 (by decide) (by decide)) (g := (mkF m 117 #[.val (.int p0), .val (.int p1), .val (.int p2), .val (.int p3), .val (.int p4), .val (.int p5), .val (.ref b155), .val (.int (1 : Int32)), .val (.int p0), .val (.int p3), .val (.int p2), .val (.int (3 : Int32))] [(.int p0), (.int p3), (.int (1 : Int32)), (.int (0 : Int32)), (.int p0)])) rfl (by rw [hml]; rfl) (argsL := [(.int (0 : Int32)), (.int (1 : Int32)), (.int p3), (.int p0)]) (rest := [(.int p0)]) (lenOf pd_IIII_I rfl) rfl (Nat.le_of_eq rfl) (hb hby at_117) (fun _ _ => ⟨rfl, q174_0, (by decide : 2 + 0 ≤ _), (by decide : 8 + 0 ≤ _)⟩)
              dsimp only [Pt.U, Pt.locs, Pt.cells, Pt.slots] at X175 l175 y175 z175 st175 hQ175
              subst l175 y175 z175
              obtain ⟨rfl, Nq175, q175_0⟩ := hQ175
              have N175 := Fr.app N174 Nq175
              refine Goes.step (S' := T175.setTop (mkF m 130 #[.val (.int p0), .val (.int p1), .val (.int p2), .val (.int p3), .val (.int p4), .val (.int p5), .val (.ref b155), .val (.int (1 : Int32)), .val (.int p0), .val (.int p3), .val (.int p2), .val (.int (3 : Int32))] [(.int p1), (.int p3), (.int (1 : Int32)), (.int (1 : Int32)), (.int p3)])) (fun t k => st175 _ (XS.icmpNo X175.here hx rfl (hb hby at_120) rfl (teq (rfl : p0 = p0)).2 (XS.iload X175.here hx rfl (hb hby at_123) rfl (XS.iconst X175.here hx rfl (hb hby at_125) (XS.iload X175.here hx rfl (hb hby at_126) rfl (XS.iloadN X175.here hx rfl (hb hby at_128) rfl (XS.iloadN X175.here hx rfl (hb hby at_129) rfl k))))))) ?_
              obtain ⟨_, _, ⟨T176, L176, k176, n176⟩, -, X176, ⟨Lc176, hQ176, l176, y176, z176⟩, st176⟩ := Jvm.LawKit.callS X175 hx (y := mth10) hown (mvT hZ tw65) (mvT hZ tw66) (mvT hZ tw67) (mvT hZ tw68) (by decide) (backOf (W := 1) (exp_t l Z a0 hw [] (1 : Int32) (1 : Int32) p3 p1 T170.heap n0 (Nat.le_trans Z0 (Nat.le_trans (Nat.le_trans (Nat.le_trans (Nat.le_trans (Nat.le_trans E155.1 q156_0.1) q157_0.1) q158_0.1) q159_0.1) q170_0.1)) ((by decide) : (1 : Int32) = (1 : Int32))) hZ tw68 tw67 (by decide) (by decide)) (g := (mkF m 130 #[.val (.int p0), .val (.int p1), .val (.int p2), .val (.int p3), .val (.int p4), .val (.int p5), .val (.ref b155), .val (.int (1 : Int32)), .val (.int p0), .val (.int p3), .val (.int p2), .val (.int (3 : Int32))] [(.int p1), (.int p3), (.int (1 : Int32)), (.int (1 : Int32)), (.int p3)])) rfl (by rw [hml]; rfl) (argsL := [(.int (1 : Int32)), (.int (1 : Int32)), (.int p3), (.int p1)]) (rest := [(.int p3)]) (lenOf pd_IIII_I rfl) rfl (Nat.le_of_eq rfl) (hb hby at_130) (fun _ _ => ⟨rfl, q175_0, (by decide : 2 + 0 ≤ _), (by decide : 8 + 0 ≤ _)⟩)
              dsimp only [Pt.U, Pt.locs, Pt.cells, Pt.slots] at X176 l176 y176 z176 st176 hQ176
              subst l176 y176 z176
              obtain ⟨rfl, Nq176, q176_0⟩ := hQ176
              have N176 := Fr.app N175 Nq176
              refine Goes.step (S' := T176.setTop (mkF m 143 #[.val (.int p0), .val (.int p1), .val (.int p2), .val (.int p3), .val (.int p4), .val (.int p5), .val (.ref b155), .val (.int (1 : Int32)), .val (.int p0), .val (.int p3), .val (.int p2), .val (.int (3 : Int32))] [(.int p2), (.int p3), (.int (1 : Int32)), (.int (2 : Int32)), (.int p2)])) (fun t k => st176 _ (XS.icmpNo X176.here hx rfl (hb hby at_133) rfl (teq (rfl : p3 = p3)).2 (XS.iload X176.here hx rfl (hb hby at_136) rfl (XS.iconst X176.here hx rfl (hb hby at_138) (XS.iload X176.here hx rfl (hb hby at_139) rfl (XS.iloadN X176.here hx rfl (hb hby at_141) rfl (XS.iloadN X176.here hx rfl (hb hby at_142) rfl k))))))) ?_
              obtain ⟨_, _, ⟨T177, L177, k177, n177⟩, -, X177, ⟨Lc177, hQ177, l177, y177, z177⟩, st177⟩ := Jvm.LawKit.callS X176 hx (y := mth10) hown (mvT hZ tw65) (mvT hZ tw66) (mvT hZ tw67) (mvT hZ tw68) (by decide) (backOf (W := 1) (exp_f l Z a0 hw [] (2 : Int32) (1 : Int32) p3 p2 T170.heap n0 (Nat.le_trans Z0 (Nat.le_trans (Nat.le_trans (Nat.le_trans (Nat.le_trans (Nat.le_trans E155.1 q156_0.1) q157_0.1) q158_0.1) q159_0.1) q170_0.1)) ((by decide) : ¬ ((2 : Int32) = (1 : Int32)))) hZ tw68 tw67 (by decide) (by decide)) (g := (mkF m 143 #[.val (.int p0), .val (.int p1), .val (.int p2), .val (.int p3), .val (.int p4), .val (.int p5), .val (.ref b155), .val (.int (1 : Int32)), .val (.int p0), .val (.int p3), .val (.int p2), .val (.int (3 : Int32))] [(.int p2), (.int p3), (.int (1 : Int32)), (.int (2 : Int32)), (.int p2)])) rfl (by rw [hml]; rfl) (argsL := [(.int (2 : Int32)), (.int (1 : Int32)), (.int p3), (.int p2)]) (rest := [(.int p2)]) (lenOf pd_IIII_I rfl) rfl (Nat.le_of_eq rfl) (hb hby at_143) (fun _ _ => ⟨rfl, q176_0, (by decide : 2 + 0 ≤ _), (by decide : 8 + 0 ≤ _)⟩)
              dsimp only [Pt.U, Pt.locs, Pt.cells, Pt.slots] at X177 l177 y177 z177 st177 hQ177
              subst l177 y177 z177
              obtain ⟨rfl, Nq177, q177_0⟩ := hQ177
              have N177 := Fr.app N176 Nq177
              refine Goes.step (S' := T177.setTop (mkF m 154 #[.val (.int p0), .val (.int p1), .val (.int p2), .val (.int p3), .val (.int p4), .val (.int p5), .val (.ref b155), .val (.int (1 : Int32)), .val (.int p0), .val (.int p3), .val (.int p2), .val (.int (3 : Int32))] [(.int (1 : Int32))])) (fun t k => st177 _ (XS.icmpNo X177.here hx rfl (hb hby at_146) rfl (teq (rfl : p2 = p2)).2 (XS.iconst X177.here hx rfl (hb hby at_149) (XS.goto X177.here hx rfl (pc0 := 150) (pc' := 154) rfl (hb hby at_150) (by decide) (by decide) k)))) ?_
              refine Goes.leave (g := (mkF m 154 #[.val (.int p0), .val (.int p1), .val (.int p2), .val (.int p3), .val (.int p4), .val (.int p5), .val (.ref b155), .val (.int (1 : Int32)), .val (.int p0), .val (.int p3), .val (.int p2), .val (.int (3 : Int32))] [(.int (1 : Int32))])) X177 Bd.notSynchronized (v := (some (.int (1 : Int32)))) (fun h => by rw [Bd.returns] at h; cases h) (fun fs hr => retN X177 hx (t := .boolean) Bd.returns (by simp) (hb hby at_154) hr) q177_0 ?_ (by decide) (by decide)
              exact ⟨rfl, N177⟩
            case neg =>
              have hc178 : ((p4 &&& (2147483647 : Int32)) % (3 : Int32)) = (2 : Int32) := (by have z179_0 := hc129; have z179_1 := hc135; have z179_2 := hc141; have z179_3 := hc147; have z179_4 := hc153; have z179_5 := hc160; have z179_6 := hc169; have z179_7 := rng32 (p5 &&& (1 : Int32)); have z179_8 := c_mask p5 (1 : Int32) 1 (by decide) (by decide); have z179_9 := rng32 p5; have z179_10 := rng32 ((p5 >>> ((1 : Int32) &&& 31)) &&& (3 : Int32)); have z179_11 := c_mask (p5 >>> ((1 : Int32) &&& 31)) (3 : Int32) 2 (by decide) (by decide); have z179_12 := rng32 (p5 >>> ((1 : Int32) &&& 31)); have z179_13 := c_ishr p5 (1 : Int32) 1 rfl; have z179_14 := rng32 ((p4 &&& (2147483647 : Int32)) % (3 : Int32)); have z179_15 := c_irem (p4 &&& (2147483647 : Int32)) (3 : Int32) 3 rfl; have z179_16 := rng32 (p4 &&& (2147483647 : Int32)); have z179_17 := c_mask p4 (2147483647 : Int32) 31 (by decide) (by decide); have z179_18 := rng32 p4; (try simp only [Int32.lt_iff_toInt_lt, Int64.lt_iff_toInt_lt, ne_eq, ← Int32.toInt_inj, ← Int64.toInt_inj, Int32.reduceToInt, Int64.reduceToInt, Nat.reducePow] at z179_0 z179_1 z179_2 z179_3 z179_4 z179_5 z179_6 z179_7 z179_8 z179_9 z179_10 z179_11 z179_12 z179_13 z179_14 z179_15 z179_16 z179_17 z179_18 ⊢); try omega)
              rw [hc178]
              refine Goes.step (S' := T159.setTop (mkF m 70 #[.val (.int p0), .val (.int p1), .val (.int p2), .val (.int p3), .val (.int p4), .val (.int p5), .val (.ref b155), .val (.int (2 : Int32)), .unset, .unset, .unset, .unset] [(.int p3), (.int (2 : Int32)), (.ref b155)])) (fun t k => XS.istore X159.here hx rfl (hb hby at_63) rfl (l' := #[.val (.int p0), .val (.int p1), .val (.int p2), .val (.int p3), .val (.int p4), .val (.int p5), .val (.ref b155), .val (.int (2 : Int32)), .unset, .unset, .unset, .unset]) rfl (XS.aload X159.here hx rfl (hb hby at_65) rfl rfl (XS.iload X159.here hx rfl (hb hby at_67) rfl (XS.iloadN X159.here hx rfl (hb hby at_69) rfl k)))) ?_
              obtain ⟨cq180, kq180, q180a, q180b, q180c⟩ := isOf hZ rfl q159_1
              obtain ⟨_, _, ⟨T180, L180, k180, n180⟩, -, X180, ⟨Lc180, hQ180, l180, y180, z180⟩, st180⟩ := X159.virtualBack hx (y := mth7) (z := mth7) hown (mvT hZ tw50) (mvT hZ tw51) (notFace_of_selects (args := #[]) (mvT hZ tw53)) (mvT hZ tw53) (mvT hZ tw52) (by decide) (backOf (W := 0) (set_w2 l Z a0 hw [] b155 p3 b_156 kb_156 p0 p1 p2 T159.heap n0 (Nat.le_trans Z0 (Nat.le_trans (Nat.le_trans (Nat.le_trans (Nat.le_trans E155.1 q156_0.1) q157_0.1) q158_0.1) q159_0.1)) q159_2 q159_7 (Nat.le_trans Z0 (Nat.le_trans E155.1 q156_1))) hZ tw54 tw2 (by decide) (by decide)) q180a q180c (g := (mkF m 70 #[.val (.int p0), .val (.int p1), .val (.int p2), .val (.int p3), .val (.int p4), .val (.int p5), .val (.ref b155), .val (.int (2 : Int32)), .unset, .unset, .unset, .unset] [(.int p3), (.int (2 : Int32)), (.ref b155)])) rfl (by rw [hml]; rfl) (Steps.refl _) (argsL := [(.int (2 : Int32)), (.int p3)]) (rest := []) (lenOf pd_II_V rfl) rfl (Nat.le_of_eq rfl) (hb hby at_70) (fun _ _ => ⟨rfl, rfl, (by decide : 2 + 0 ≤ _), (by decide : 8 + 0 ≤ _)⟩)
              dsimp only [Pt.U, Pt.locs, Pt.cells, Pt.slots] at X180 l180 y180 z180 st180 hQ180
              subst l180 y180 z180
              obtain ⟨rfl, Nq180, q180_0, q180_1⟩ := hQ180
              have N180 := Fr.app N159 Nq180
              refine Goes.step (S' := T180.setTop (mkF m 76 #[.val (.int p0), .val (.int p1), .val (.int p2), .val (.int p3), .val (.int p4), .val (.int p5), .val (.ref b155), .val (.int (2 : Int32)), .unset, .unset, .unset, .unset] [(.int (0 : Int32)), (.ref b155)])) (fun t k => st180.trans (XS.aload X180.here hx rfl (hb hby at_73) rfl rfl (XS.iconst X180.here hx rfl (hb hby at_75) k))) ?_
              obtain ⟨cq181, kq181, q181a, q181b, q181c⟩ := isOf hZ rfl (q159_1.keep q180_0)
              obtain ⟨_, _, ⟨T181, L181, k181, n181⟩, -, X181, ⟨Lc181, hQ181, l181, y181, z181⟩, st181⟩ := X180.virtualBack hx (y := mth8) (z := mth8) hown (mvT hZ tw55) (mvT hZ tw56) (notFace_of_selects (args := #[]) (mvT hZ tw58)) (mvT hZ tw58) (mvT hZ tw57) (by decide) (backOf (W := 0) (get_w0 l Z a0 hw [] b155 b_156 kb_156 p0 p1 p3 T180.heap n0 (Nat.le_trans Z0 (Nat.le_trans (Nat.le_trans (Nat.le_trans (Nat.le_trans (Nat.le_trans E155.1 q156_0.1) q157_0.1) q158_0.1) q159_0.1) q180_0.1)) (q159_2.keep q180_0 (ninS (Nat.ne_of_lt (Nat.lt_of_lt_of_le A155.lt q156_1)) nin0)) q180_1) hZ tw59 tw2 (by decide) (by decide)) q181a q181c (g := (mkF m 76 #[.val (.int p0), .val (.int p1), .val (.int p2), .val (.int p3), .val (.int p4), .val (.int p5), .val (.ref b155), .val (.int (2 : Int32)), .unset, .unset, .unset, .unset] [(.int (0 : Int32)), (.ref b155)])) rfl (by rw [hml]; rfl) (Steps.refl _) (argsL := [(.int (0 : Int32))]) (rest := []) (lenOf pd_I_I rfl) rfl (Nat.le_of_eq rfl) (hb hby at_76) (fun _ _ => ⟨rfl, rfl, (by decide : 2 + 0 ≤ _), (by decide : 8 + 0 ≤ _)⟩)
              dsimp only [Pt.U, Pt.locs, Pt.cells, Pt.slots] at X181 l181 y181 z181 st181 hQ181
              subst l181 y181 z181
              obtain ⟨rfl, Nq181, q181_0⟩ := hQ181
              have N181 := Fr.app N180 Nq181
              refine Goes.step (S' := T181.setTop (mkF m 84 #[.val (.int p0), .val (.int p1), .val (.int p2), .val (.int p3), .val (.int p4), .val (.int p5), .val (.ref b155), .val (.int (2 : Int32)), .val (.int p0), .unset, .unset, .unset] [(.int (1 : Int32)), (.ref b155)])) (fun t k => st181.trans (XS.istore X181.here hx rfl (hb hby at_79) rfl (l' := #[.val (.int p0), .val (.int p1), .val (.int p2), .val (.int p3), .val (.int p4), .val (.int p5), .val (.ref b155), .val (.int (2 : Int32)), .val (.int p0), .unset, .unset, .unset]) rfl (XS.aload X181.here hx rfl (hb hby at_81) rfl rfl (XS.iconst X181.here hx rfl (hb hby at_83) k)))) ?_
              obtain ⟨cq182, kq182, q182a, q182b, q182c⟩ := isOf hZ q181_0 (q159_1.keep q180_0)
              obtain ⟨_, _, ⟨T182, L182, k182, n182⟩, -, X182, ⟨Lc182, hQ182, l182, y182, z182⟩, st182⟩ := X181.virtualBack hx (y := mth8) (z := mth8) hown (mvT hZ tw55) (mvT hZ tw56) (notFace_of_selects (args := #[]) (mvT hZ tw58)) (mvT hZ tw58) (mvT hZ tw57) (by decide) (backOf (W := 0) (get_w1 l Z a0 hw [] b155 b_156 kb_156 p0 p1 p3 T180.heap n0 (Nat.le_trans Z0 (Nat.le_trans (Nat.le_trans (Nat.le_trans (Nat.le_trans (Nat.le_trans E155.1 q156_0.1) q157_0.1) q158_0.1) q159_0.1) q180_0.1)) (q159_2.keep q180_0 (ninS (Nat.ne_of_lt (Nat.lt_of_lt_of_le A155.lt q156_1)) nin0)) q180_1) hZ tw59 tw2 (by decide) (by decide)) q182a q182c (g := (mkF m 84 #[.val (.int p0), .val (.int p1), .val (.int p2), .val (.int p3), .val (.int p4), .val (.int p5), .val (.ref b155), .val (.int (2 : Int32)), .val (.int p0), .unset, .unset, .unset] [(.int (1 : Int32)), (.ref b155)])) rfl (by rw [hml]; rfl) (Steps.refl _) (argsL := [(.int (1 : Int32))]) (rest := []) (lenOf pd_I_I rfl) rfl (Nat.le_of_eq rfl) (hb hby at_84) (fun _ _ => ⟨rfl, q181_0, (by decide : 2 + 0 ≤ _), (by decide : 8 + 0 ≤ _)⟩)
              dsimp only [Pt.U, Pt.locs, Pt.cells, Pt.slots] at X182 l182 y182 z182 st182 hQ182
              subst l182 y182 z182
              obtain ⟨rfl, Nq182, q182_0⟩ := hQ182
              have N182 := Fr.app N181 Nq182
              refine Goes.step (S' := T182.setTop (mkF m 92 #[.val (.int p0), .val (.int p1), .val (.int p2), .val (.int p3), .val (.int p4), .val (.int p5), .val (.ref b155), .val (.int (2 : Int32)), .val (.int p0), .val (.int p1), .unset, .unset] [(.int (2 : Int32)), (.ref b155)])) (fun t k => st182.trans (XS.istore X182.here hx rfl (hb hby at_87) rfl (l' := #[.val (.int p0), .val (.int p1), .val (.int p2), .val (.int p3), .val (.int p4), .val (.int p5), .val (.ref b155), .val (.int (2 : Int32)), .val (.int p0), .val (.int p1), .unset, .unset]) rfl (XS.aload X182.here hx rfl (hb hby at_89) rfl rfl (XS.iconst X182.here hx rfl (hb hby at_91) k)))) ?_
              obtain ⟨cq183, kq183, q183a, q183b, q183c⟩ := isOf hZ q182_0 (q159_1.keep q180_0)
              obtain ⟨_, _, ⟨T183, L183, k183, n183⟩, -, X183, ⟨Lc183, hQ183, l183, y183, z183⟩, st183⟩ := X182.virtualBack hx (y := mth8) (z := mth8) hown (mvT hZ tw55) (mvT hZ tw56) (notFace_of_selects (args := #[]) (mvT hZ tw58)) (mvT hZ tw58) (mvT hZ tw57) (by decide) (backOf (W := 0) (get_w2 l Z a0 hw [] b155 b_156 kb_156 p0 p1 p3 T180.heap n0 (Nat.le_trans Z0 (Nat.le_trans (Nat.le_trans (Nat.le_trans (Nat.le_trans (Nat.le_trans E155.1 q156_0.1) q157_0.1) q158_0.1) q159_0.1) q180_0.1)) (q159_2.keep q180_0 (ninS (Nat.ne_of_lt (Nat.lt_of_lt_of_le A155.lt q156_1)) nin0)) q180_1) hZ tw59 tw2 (by decide) (by decide)) q183a q183c (g := (mkF m 92 #[.val (.int p0), .val (.int p1), .val (.int p2), .val (.int p3), .val (.int p4), .val (.int p5), .val (.ref b155), .val (.int (2 : Int32)), .val (.int p0), .val (.int p1), .unset, .unset] [(.int (2 : Int32)), (.ref b155)])) rfl (by rw [hml]; rfl) (Steps.refl _) (argsL := [(.int (2 : Int32))]) (rest := []) (lenOf pd_I_I rfl) rfl (Nat.le_of_eq rfl) (hb hby at_92) (fun _ _ => ⟨rfl, q182_0, (by decide : 2 + 0 ≤ _), (by decide : 8 + 0 ≤ _)⟩)
              dsimp only [Pt.U, Pt.locs, Pt.cells, Pt.slots] at X183 l183 y183 z183 st183 hQ183
              subst l183 y183 z183
              obtain ⟨rfl, Nq183, q183_0⟩ := hQ183
              have N183 := Fr.app N182 Nq183
              refine Goes.step (S' := T183.setTop (mkF m 99 #[.val (.int p0), .val (.int p1), .val (.int p2), .val (.int p3), .val (.int p4), .val (.int p5), .val (.ref b155), .val (.int (2 : Int32)), .val (.int p0), .val (.int p1), .val (.int p3), .unset] [(.ref b155)])) (fun t k => st183.trans (XS.istore X183.here hx rfl (hb hby at_95) rfl (l' := #[.val (.int p0), .val (.int p1), .val (.int p2), .val (.int p3), .val (.int p4), .val (.int p5), .val (.ref b155), .val (.int (2 : Int32)), .val (.int p0), .val (.int p1), .val (.int p3), .unset]) rfl (XS.aload X183.here hx rfl (hb hby at_97) rfl rfl k))) ?_
              obtain ⟨cq184, kq184, q184a, q184b, q184c⟩ := isOf hZ q183_0 (q159_1.keep q180_0)
              obtain ⟨_, _, ⟨T184, L184, k184, n184⟩, -, X184, ⟨Lc184, hQ184, l184, y184, z184⟩, st184⟩ := X183.virtualBack hx (y := mth9) (z := mth9) hown (mvT hZ tw60) (mvT hZ tw61) (notFace_of_selects (args := #[]) (mvT hZ tw63)) (mvT hZ tw63) (mvT hZ tw62) (by decide) (backOf (W := 0) (siz l Z a0 hw [] b155 (3 : Int32) T180.heap n0 (Nat.le_trans Z0 (Nat.le_trans (Nat.le_trans (Nat.le_trans (Nat.le_trans (Nat.le_trans E155.1 q156_0.1) q157_0.1) q158_0.1) q159_0.1) q180_0.1)) (q159_6.keep q180_0 (ninS (Nat.ne_of_lt (Nat.lt_of_lt_of_le A155.lt q156_1)) nin0))) hZ tw64 tw2 (by decide) (by decide)) q184a q184c (g := (mkF m 99 #[.val (.int p0), .val (.int p1), .val (.int p2), .val (.int p3), .val (.int p4), .val (.int p5), .val (.ref b155), .val (.int (2 : Int32)), .val (.int p0), .val (.int p1), .val (.int p3), .unset] [(.ref b155)])) rfl (by rw [hml]; rfl) (Steps.refl _) (argsL := []) (rest := []) (lenOf pd_I rfl) rfl (Nat.le_of_eq rfl) (hb hby at_99) (fun _ _ => ⟨rfl, q183_0, (by decide : 2 + 0 ≤ _), (by decide : 8 + 0 ≤ _)⟩)
              dsimp only [Pt.U, Pt.locs, Pt.cells, Pt.slots] at X184 l184 y184 z184 st184 hQ184
              subst l184 y184 z184
              obtain ⟨rfl, Nq184, q184_0⟩ := hQ184
              have N184 := Fr.app N183 Nq184
              refine Goes.step (S' := T184.setTop (mkF m 115 #[.val (.int p0), .val (.int p1), .val (.int p2), .val (.int p3), .val (.int p4), .val (.int p5), .val (.ref b155), .val (.int (2 : Int32)), .val (.int p0), .val (.int p1), .val (.int p3), .val (.int (3 : Int32))] [(.int (2 : Int32)), (.int (0 : Int32)), (.int p0)])) (fun t k => st184.trans (XS.istore X184.here hx rfl (hb hby at_102) rfl (l' := #[.val (.int p0), .val (.int p1), .val (.int p2), .val (.int p3), .val (.int p4), .val (.int p5), .val (.ref b155), .val (.int (2 : Int32)), .val (.int p0), .val (.int p1), .val (.int p3), .val (.int (3 : Int32))]) rfl (XS.iload X184.here hx rfl (hb hby at_104) rfl (XS.iconst X184.here hx rfl (hb hby at_106) (XS.icmpNo X184.here hx rfl (hb hby at_107) rfl (teq ((by decide) : (3 : Int32) = (3 : Int32))).2 (XS.iload X184.here hx rfl (hb hby at_110) rfl (XS.iconst X184.here hx rfl (hb hby at_112) (XS.iload X184.here hx rfl (hb hby at_113) rfl k)))))))) ?_
              refine Goes.step (S' := T184.setTop (mkF m 117 #[.val (.int p0), .val (.int p1), .val (.int p2), .val (.int p3), .val (.int p4), .val (.int p5), .val (.ref b155), .val (.int (2 : Int32)), .val (.int p0), .val (.int p1), .val (.int p3), .val (.int (3 : Int32))] [(.int p0), (.int p3), (.int (2 : Int32)), (.int (0 : Int32)), (.int p0)])) (fun t k => XS.iloadN X184.here hx rfl (hb hby at_115) rfl (XS.iloadN X184.here hx rfl (hb hby at_116) rfl k)) ?_
              obtain ⟨_, _, ⟨T185, L185, k185, n185⟩, -, X185, ⟨Lc185, hQ185, l185, y185, z185⟩, st185⟩ := Jvm.LawKit.callS X184 hx (y := mth10) hown (mvT hZ tw65) (mvT hZ tw66) (mvT hZ tw67) (mvT hZ tw68) (by decide) (backOf (W := 1) (exp_f l Z a0 hw [] (0 : Int32) (2 : Int32) p3 p0 T180.heap n0 (Nat.le_trans Z0 (Nat.le_trans (Nat.le_trans (Nat.le_trans (Nat.le_trans (Nat.le_trans E155.1 q156_0.1) q157_0.1) q158_0.1) q159_0.1) q180_0.1)) ((by decide) : ¬ ((0 : Int32) = (2 : Int32)))) hZ tw68 tw67 (by decide) (by decide)) (g := (mkF m 117 #[.val (.int p0), .val (.int p1), .val (.int p2), .val (.int p3), .val (.int p4), .val (.int p5), .val (.ref b155), .val (.int (2 : Int32)), .val (.int p0), .val (.int p1), .val (.int p3), .val (.int (3 : Int32))] [(.int p0), (.int p3), (.int (2 : Int32)), (.int (0 : Int32)), (.int p0)])) rfl (by rw [hml]; rfl) (argsL := [(.int (0 : Int32)), (.int (2 : Int32)), (.int p3), (.int p0)]) (rest := [(.int p0)]) (lenOf pd_IIII_I rfl) rfl (Nat.le_of_eq rfl) (hb hby at_117) (fun _ _ => ⟨rfl, q184_0, (by decide : 2 + 0 ≤ _), (by decide : 8 + 0 ≤ _)⟩)
              dsimp only [Pt.U, Pt.locs, Pt.cells, Pt.slots] at X185 l185 y185 z185 st185 hQ185
              subst l185 y185 z185
              obtain ⟨rfl, Nq185, q185_0⟩ := hQ185
              have N185 := Fr.app N184 Nq185
              refine Goes.step (S' := T185.setTop (mkF m 130 #[.val (.int p0), .val (.int p1), .val (.int p2), .val (.int p3), .val (.int p4), .val (.int p5), .val (.ref b155), .val (.int (2 : Int32)), .val (.int p0), .val (.int p1), .val (.int p3), .val (.int (3 : Int32))] [(.int p1), (.int p3), (.int (2 : Int32)), (.int (1 : Int32)), (.int p1)])) (fun t k => st185 _ (XS.icmpNo X185.here hx rfl (hb hby at_120) rfl (teq (rfl : p0 = p0)).2 (XS.iload X185.here hx rfl (hb hby at_123) rfl (XS.iconst X185.here hx rfl (hb hby at_125) (XS.iload X185.here hx rfl (hb hby at_126) rfl (XS.iloadN X185.here hx rfl (hb hby at_128) rfl (XS.iloadN X185.here hx rfl (hb hby at_129) rfl k))))))) ?_
              obtain ⟨_, _, ⟨T186, L186, k186, n186⟩, -, X186, ⟨Lc186, hQ186, l186, y186, z186⟩, st186⟩ := Jvm.LawKit.callS X185 hx (y := mth10) hown (mvT hZ tw65) (mvT hZ tw66) (mvT hZ tw67) (mvT hZ tw68) (by decide) (backOf (W := 1) (exp_f l Z a0 hw [] (1 : Int32) (2 : Int32) p3 p1 T180.heap n0 (Nat.le_trans Z0 (Nat.le_trans (Nat.le_trans (Nat.le_trans (Nat.le_trans (Nat.le_trans E155.1 q156_0.1) q157_0.1) q158_0.1) q159_0.1) q180_0.1)) ((by decide) : ¬ ((1 : Int32) = (2 : Int32)))) hZ tw68 tw67 (by decide) (by decide)) (g := (mkF m 130 #[.val (.int p0), .val (.int p1), .val (.int p2), .val (.int p3), .val (.int p4), .val (.int p5), .val (.ref b155), .val (.int (2 : Int32)), .val (.int p0), .val (.int p1), .val (.int p3), .val (.int (3 : Int32))] [(.int p1), (.int p3), (.int (2 : Int32)), (.int (1 : Int32)), (.int p1)])) rfl (by rw [hml]; rfl) (argsL := [(.int (1 : Int32)), (.int (2 : Int32)), (.int p3), (.int p1)]) (rest := [(.int p1)]) (lenOf pd_IIII_I rfl) rfl (Nat.le_of_eq rfl) (hb hby at_130) (fun _ _ => ⟨rfl, q185_0, (by decide : 2 + 0 ≤ _), (by decide : 8 + 0 ≤ _)⟩)
              dsimp only [Pt.U, Pt.locs, Pt.cells, Pt.slots] at X186 l186 y186 z186 st186 hQ186
              subst l186 y186 z186
              obtain ⟨rfl, Nq186, q186_0⟩ := hQ186
              have N186 := Fr.app N185 Nq186
              refine Goes.step (S' := T186.setTop (mkF m 143 #[.val (.int p0), .val (.int p1), .val (.int p2), .val (.int p3), .val (.int p4), .val (.int p5), .val (.ref b155), .val (.int (2 : Int32)), .val (.int p0), .val (.int p1), .val (.int p3), .val (.int (3 : Int32))] [(.int p2), (.int p3), (.int (2 : Int32)), (.int (2 : Int32)), (.int p3)])) (fun t k => st186 _ (XS.icmpNo X186.here hx rfl (hb hby at_133) rfl (teq (rfl : p1 = p1)).2 (XS.iload X186.here hx rfl (hb hby at_136) rfl (XS.iconst X186.here hx rfl (hb hby at_138) (XS.iload X186.here hx rfl (hb hby at_139) rfl (XS.iloadN X186.here hx rfl (hb hby at_141) rfl (XS.iloadN X186.here hx rfl (hb hby at_142) rfl k))))))) ?_
              obtain ⟨_, _, ⟨T187, L187, k187, n187⟩, -, X187, ⟨Lc187, hQ187, l187, y187, z187⟩, st187⟩ := Jvm.LawKit.callS X186 hx (y := mth10) hown (mvT hZ tw65) (mvT hZ tw66) (mvT hZ tw67) (mvT hZ tw68) (by decide) (backOf (W := 1) (exp_t l Z a0 hw [] (2 : Int32) (2 : Int32) p3 p2 T180.heap n0 (Nat.le_trans Z0 (Nat.le_trans (Nat.le_trans (Nat.le_trans (Nat.le_trans (Nat.le_trans E155.1 q156_0.1) q157_0.1) q158_0.1) q159_0.1) q180_0.1)) ((by decide) : (2 : Int32) = (2 : Int32))) hZ tw68 tw67 (by decide) (by decide)) (g := (mkF m 143 #[.val (.int p0), .val (.int p1), .val (.int p2), .val (.int p3), .val (.int p4), .val (.int p5), .val (.ref b155), .val (.int (2 : Int32)), .val (.int p0), .val (.int p1), .val (.int p3), .val (.int (3 : Int32))] [(.int p2), (.int p3), (.int (2 : Int32)), (.int (2 : Int32)), (.int p3)])) rfl (by rw [hml]; rfl) (argsL := [(.int (2 : Int32)), (.int (2 : Int32)), (.int p3), (.int p2)]) (rest := [(.int p3)]) (lenOf pd_IIII_I rfl) rfl (Nat.le_of_eq rfl) (hb hby at_143) (fun _ _ => ⟨rfl, q186_0, (by decide : 2 + 0 ≤ _), (by decide : 8 + 0 ≤ _)⟩)
              dsimp only [Pt.U, Pt.locs, Pt.cells, Pt.slots] at X187 l187 y187 z187 st187 hQ187
              subst l187 y187 z187
              obtain ⟨rfl, Nq187, q187_0⟩ := hQ187
              have N187 := Fr.app N186 Nq187
              refine Goes.step (S' := T187.setTop (mkF m 154 #[.val (.int p0), .val (.int p1), .val (.int p2), .val (.int p3), .val (.int p4), .val (.int p5), .val (.ref b155), .val (.int (2 : Int32)), .val (.int p0), .val (.int p1), .val (.int p3), .val (.int (3 : Int32))] [(.int (1 : Int32))])) (fun t k => st187 _ (XS.icmpNo X187.here hx rfl (hb hby at_146) rfl (teq (rfl : p3 = p3)).2 (XS.iconst X187.here hx rfl (hb hby at_149) (XS.goto X187.here hx rfl (pc0 := 150) (pc' := 154) rfl (hb hby at_150) (by decide) (by decide) k)))) ?_
              refine Goes.leave (g := (mkF m 154 #[.val (.int p0), .val (.int p1), .val (.int p2), .val (.int p3), .val (.int p4), .val (.int p5), .val (.ref b155), .val (.int (2 : Int32)), .val (.int p0), .val (.int p1), .val (.int p3), .val (.int (3 : Int32))] [(.int (1 : Int32))])) X187 Bd.notSynchronized (v := (some (.int (1 : Int32)))) (fun h => by rw [Bd.returns] at h; cases h) (fun fs hr => retN X187 hx (t := .boolean) Bd.returns (by simp) (hb hby at_154) hr) q187_0 ?_ (by decide) (by decide)
              exact ⟨rfl, N187⟩

set_option maxRecDepth 65536 in
set_option maxHeartbeats 40000000 in
theorem comes_1 {Post : Tables → Env → Array Value → State → Outcome → State → Prop} (hpost : ∀ tb e args s v u, (limb_1_1.after args s (.returned v) u = true ∧ limb_1_2.after args s (.returned v) u = true ∧ True) → FrameEnd s (.returned v) u (Jvm.fieldLocs frame_1_writes args s ++ Jvm.arrayLocs frame_1_arrays args s ++ Jvm.staticLocs frame_1_statics s) 16 128 → Post tb e args s (.returned v) u) :
    ArmFor flags0 classFile x code maxLocals ret World_1 tables_1 room_1 Calls_1 rest_1 Pre_1 Post := by
  intro l hfl _ _ p e ha hc hk s m args below hf hA hF happ hP
  obtain ⟨hcalls, hrest, hpre⟩ := hP
  obtain ⟨-, -, -, hnamed, -, -, -, hat⟩ := (Spec.applies_iff hf).mp happ
  obtain ⟨hg, hn⟩ := and_e (Cond.before_iff.mp (show (Jvm.Cond.and given_1 narrow_1).before args s = true from hpre))
  obtain ⟨g1, g2⟩ := and_e hg
  obtain ⟨g3, g4⟩ := and_e g2
  obtain ⟨g5, g6⟩ := and_e g4
  obtain ⟨g7, g8⟩ := and_e g6
  obtain ⟨g9, g10⟩ := and_e g8
  obtain ⟨g11, g12⟩ := and_e g10
  obtain ⟨w0, w1, w2, w3, w4, w5, rfl⟩ : ∃ w0 w1 w2 w3 w4 w5 : Value, args = #[w0, w1, w2, w3, w4, w5] := by
    have hs : args.size = 6 := by simpa [Cond.value, given_1] using g1
    obtain ⟨L⟩ := args
    match L, hs with
    | [w0, w1, w2, w3, w4, w5], _ => exact ⟨w0, w1, w2, w3, w4, w5, rfl⟩
  have hw := fun d (hd : d ∈ tables_1) => atoms_spec (ws := Jvm.Cond.code x code maxLocals ret :: tables_1) hat d (List.mem_cons_of_mem _ hd)
  have hfit : Fit s := fun {y c} hc i hi => by
    obtain ⟨ha, rfl⟩ := Array.getElem?_eq_some_iff.mp hc
    have q := List.all_eq_true.mp ((Array.all_eq_true_iff_forall_mem.mp hF) _ (Array.getElem_mem ha)) i (List.mem_range.mpr hi)
    simpa [Array.getElem?_eq_getElem hi] using q
  obtain ⟨i0, ei0⟩ := is_v g3
  obtain rfl : w0 = (.int i0) := Option.some.inj ei0
  obtain ⟨i1, ei1⟩ := is_v g5
  obtain rfl : w1 = (.int i1) := Option.some.inj ei1
  obtain ⟨i2, ei2⟩ := is_v g7
  obtain rfl : w2 = (.int i2) := Option.some.inj ei2
  obtain ⟨i3, ei3⟩ := is_v g9
  obtain rfl : w3 = (.int i3) := Option.some.inj ei3
  obtain ⟨i4, ei4⟩ := is_v g11
  obtain rfl : w4 = (.int i4) := Option.some.inj ei4
  obtain ⟨i5, ei5⟩ := is_v g12
  obtain rfl : w5 = (.int i5) := Option.some.inj ei5
  -- hn says: Jvm.Cond.tt
  obtain ⟨n, o, h1, h2, h3, _, L, rfl, ⟨rfl, N⟩, hq⟩ := law l s _ hw tables_1 i0 i1 i2 i3 i4 i5 s.heap s.heap.size (Nat.le_refl _)  p e ha hc hk s m _ below hf ((Spec.applies_iff_loose hf).mp happ).1 ⟨rfl, State.Warmed39.refl s, rfl⟩ trivial
  refine ⟨n, _, h1, h2, h3, hpost _ _ _ _ _ _ ⟨Cond.after_iff.mpr rfl, Cond.after_iff.mpr (eq_i res_at (Term.int_eval (1)) rfl), trivial⟩ ⟨hq.1, hq.2.1, (hq.2.2.sift fun y hy => Or.inr (N y hy)).mono (by decide) (by decide)⟩⟩
theorem main_1_1 : Claimed_1_1 := comes_1 fun _ _ _ _ _ _ h hF => ⟨h.1, hF⟩
theorem main_1_2 : Claimed_1_2 := comes_1 fun _ _ _ _ _ _ h hF => ⟨h.2.1, hF⟩
end Jvm.Pilot.@@N@@
namespace Jvm.Pilot.@@N@@
open Jvm Jvm.ClassFile Sem Op Lib Jvm.Free Jvm.Stand Jvm.Pilot.@@N@@.Jvm.D
/-! MADE BY PROGRAM (witnessworld.py) out of the Statement's table words and the real class files: 13 classes; the members and pool entries that the words name. The judged class is class 1, her method 2. -/
namespace start1
open Jvm.ClassFile
def u (s : String) : CpInfo := .utf8 (stringToUtf16 s)
/-- a pool by its gaps: so many unusable entries, then the entry; so many at the end -/
def gap : Nat → List CpInfo → List CpInfo
  | 0, r => r
  | n + 1, r => .unusable :: gap n r
def poolList (es : List (Nat × CpInfo)) (last : Nat) : List CpInfo := es.foldr (fun e r => gap e.1 (e.2 :: r)) (gap last [])
def pool (es : List (Nat × CpInfo)) (last : Nat) : Array CpInfo := ⟨poolList es last⟩
def fileOf (pool : Array CpInfo) (this : Nat) (attrs : Array Attribute := #[]) (ms : Array MethodInfo := #[]) (fl : Nat := 33) (sup : Nat := 0) (ifs : Array Nat := #[]) (fds : Array FieldInfo := #[]) : ClassFile where
  minorVersion := 0
  majorVersion := 65
  constantPool := pool
  accessFlags := fl
  thisClass := this
  superClass := sup
  interfaces := ifs
  fields := fds
  methods := ms
  attributes := attrs
def plain (name : String) (sup : Option ClassId) : Class where
  name := name
  kind := .ordinary
  loader := none
  accessFlags := 33
  super := sup
  interfaces := #[]
  cf := none
  fields := #[]
  methods := #[]
  instanceTypes := #[]
  staticTypes := #[]
  resolved := #[]
  callSites := []
  init := .initialized
  statics := none
  mirror := none

def pool0 : Array CpInfo := pool [(5, u "<init>"), (0, u "()V"), (1, .class_ 10), (1, u "java/lang/Object")] 113

def k0c0 : Code := { maxStack := 0, maxLocals := 1, code := object_method_1_code, exceptionTable := #[], attributes := #[] }
def k0m0 : Method := { name := "<init>", desc := "()V", sig := { parameters := [], returnType := none }, accessFlags := 1, code := some k0c0 }
/-- java/lang/Object -/
def k0 : Class := { plain "java/lang/Object" none with
  accessFlags := 33
  interfaces := #[]
  cf := some (fileOf pool0 8 #[] #[{ accessFlags := 1, nameIndex := 5, descriptorIndex := 6, attributes := #[] }] 33 0 #[] #[])
  fields := #[]
  methods := #[k0m0]
  instanceTypes := #[]
  staticTypes := #[]
  resolved := Array.replicate 124 none
  statics := none }

def pool1 : Array CpInfo := pool [(2, .class_ 4), (0, .nameAndType 5 6), (0, u "java/lang/Object"), (0, u "<init>"), (0, u "()V"), (0, .class_ 8), (0, u "com/example/lumping/lumping/numbers/ChunkedInts"), (0, .methodref 7 3), (0, .methodref 7 11), (0, .nameAndType 5 12), (0, u "(I)V"), (0, .methodref 7 14), (0, .nameAndType 15 12), (0, u "add"), (0, .integer 2147483647), (0, .methodref 7 18), (0, .nameAndType 19 20), (0, u "set"), (0, u "(II)V"), (0, .methodref 7 22), (0, .nameAndType 23 24), (0, u "get"), (0, u "(I)I"), (0, .methodref 7 26), (0, .nameAndType 27 28), (0, u "size"), (0, u "()I"), (0, .methodref 30 31), (0, .class_ 32), (0, .nameAndType 33 34), (0, u "com/example/lumping/lumping/numbers/ChunkedIntsSetPinLaw"), (0, u "expected"), (0, u "(IIII)I"), (3, u "law"), (0, u "(IIIIII)Z")] 2

def k1m0 : Method := { name := "<init>", desc := "()V", sig := { parameters := [], returnType := none }, accessFlags := 2, code := none }
def k1c1 : Code := { maxStack := 2, maxLocals := 4, code := method_2_code, exceptionTable := #[], attributes := #[] }
def k1m1 : Method := { name := "expected", desc := "(IIII)I", sig := { parameters := [.int, .int, .int, .int], returnType := some .int }, accessFlags := 10, code := some k1c1 }
def k1c2 : Code := { maxStack := 5, maxLocals := 12, code := code, exceptionTable := #[], attributes := #[] }
def k1m2 : Method := { name := "law", desc := "(IIIIII)Z", sig := { parameters := [.int, .int, .int, .int, .int, .int], returnType := some .boolean }, accessFlags := 9, code := some k1c2 }
/-- com/example/lumping/lumping/numbers/ChunkedIntsSetPinLaw -/
def k1 : Class := { plain "com/example/lumping/lumping/numbers/ChunkedIntsSetPinLaw" (some 0) with
  accessFlags := 49
  interfaces := #[]
  cf := some (fileOf pool1 30 #[] #[{ accessFlags := 2, nameIndex := 5, descriptorIndex := 6, attributes := #[] }, { accessFlags := 10, nameIndex := 33, descriptorIndex := 34, attributes := #[] }, { accessFlags := 9, nameIndex := 38, descriptorIndex := 39, attributes := #[] }] 49 2 #[] #[])
  fields := #[]
  methods := #[k1m0, k1m1, k1m2]
  instanceTypes := #[]
  staticTypes := #[]
  resolved := Array.replicate 42 none
  statics := none }

def pool2 : Array CpInfo := pool [(1, .methodref 2 3), (0, .class_ 4), (0, .nameAndType 5 6), (0, u "java/lang/Object"), (0, u "<init>"), (0, u "()V"), (0, .class_ 8), (0, u "[I"), (0, .fieldref 10 11), (0, .class_ 12), (0, .nameAndType 13 14), (0, u "com/example/lumping/lumping/numbers/ChunkedInts"), (0, u "chunks"), (0, u "[[I"), (0, .fieldref 10 16), (0, .nameAndType 17 8), (0, u "filling"), (0, .fieldref 10 19), (0, .nameAndType 20 8), (0, u "whole"), (0, .fieldref 10 22), (0, .nameAndType 23 24), (0, u "size"), (0, u "I"), (0, .integer 1048572), (0, .fieldref 10 27), (0, .nameAndType 28 24), (0, u "filled"), (0, .methodref 10 30), (0, .nameAndType 31 6), (0, u "grow"), (0, .methodref 33 34), (0, .class_ 35), (0, .nameAndType 36 37), (0, u "java/util/Arrays"), (0, u "copyOf"), (0, u "([II)[I"), (0, .methodref 39 40), (0, .class_ 41), (0, .nameAndType 42 43), (0, u "java/lang/Math"), (0, u "max"), (0, u "(II)I"), (0, .methodref 39 45), (0, .nameAndType 46 43), (0, u "min"), (10, u "LENGTH"), (3, u "(I)V"), (0, u "()I"), (0, u "get"), (0, u "(I)I"), (1, u "set"), (0, u "(II)V"), (0, u "add")] 3

def k2c0 : Code := { maxStack := 5, maxLocals := 1, code := prog_79_method_1_code, exceptionTable := #[], attributes := #[] }
def k2m0 : Method := { name := "<init>", desc := "()V", sig := { parameters := [], returnType := none }, accessFlags := 1, code := some k2c0 }
def k2c1 : Code := { maxStack := 2, maxLocals := 2, code := prog_79_method_2_code, exceptionTable := #[], attributes := #[] }
def k2m1 : Method := { name := "<init>", desc := "(I)V", sig := { parameters := [.int], returnType := none }, accessFlags := 1, code := some k2c1 }
def k2c2 : Code := { maxStack := 1, maxLocals := 1, code := prog_79_method_3_code, exceptionTable := #[], attributes := #[] }
def k2m2 : Method := { name := "size", desc := "()I", sig := { parameters := [], returnType := some .int }, accessFlags := 1, code := some k2c2 }
def k2c3 : Code := { maxStack := 3, maxLocals := 2, code := prog_79_method_4_code, exceptionTable := #[], attributes := #[] }
def k2m3 : Method := { name := "get", desc := "(I)I", sig := { parameters := [.int], returnType := some .int }, accessFlags := 1, code := some k2c3 }
def k2c4 : Code := { maxStack := 3, maxLocals := 3, code := prog_79_method_5_code, exceptionTable := #[], attributes := #[] }
def k2m4 : Method := { name := "set", desc := "(II)V", sig := { parameters := [.int, .int], returnType := none }, accessFlags := 1, code := some k2c4 }
def k2c5 : Code := { maxStack := 5, maxLocals := 2, code := prog_79_method_6_code, exceptionTable := #[], attributes := #[] }
def k2m5 : Method := { name := "add", desc := "(I)V", sig := { parameters := [.int], returnType := none }, accessFlags := 1, code := some k2c5 }
def k2c6 : Code := { maxStack := 7, maxLocals := 4, code := prog_79_method_8_code, exceptionTable := #[], attributes := #[] }
def k2m6 : Method := { name := "grow", desc := "()V", sig := { parameters := [], returnType := none }, accessFlags := 2, code := some k2c6 }
/-- com/example/lumping/lumping/numbers/ChunkedInts -/
def k2 : Class := { plain "com/example/lumping/lumping/numbers/ChunkedInts" (some 0) with
  accessFlags := 49
  interfaces := #[]
  cf := some (fileOf pool2 10 #[] #[{ accessFlags := 1, nameIndex := 5, descriptorIndex := 6, attributes := #[] }, { accessFlags := 1, nameIndex := 5, descriptorIndex := 61, attributes := #[] }, { accessFlags := 1, nameIndex := 23, descriptorIndex := 62, attributes := #[] }, { accessFlags := 1, nameIndex := 63, descriptorIndex := 64, attributes := #[] }, { accessFlags := 1, nameIndex := 66, descriptorIndex := 67, attributes := #[] }, { accessFlags := 1, nameIndex := 68, descriptorIndex := 61, attributes := #[] }, { accessFlags := 2, nameIndex := 31, descriptorIndex := 6, attributes := #[] }] 49 2 #[] #[{ accessFlags := 26, nameIndex := 57, descriptorIndex := 24, attributes := #[] }, { accessFlags := 2, nameIndex := 20, descriptorIndex := 8, attributes := #[] }, { accessFlags := 2, nameIndex := 13, descriptorIndex := 14, attributes := #[] }, { accessFlags := 2, nameIndex := 23, descriptorIndex := 24, attributes := #[] }, { accessFlags := 2, nameIndex := 17, descriptorIndex := 8, attributes := #[] }, { accessFlags := 2, nameIndex := 28, descriptorIndex := 24, attributes := #[] }])
  fields := #[{ name := "LENGTH", type := .int, accessFlags := 26, slot := 0, constantValue := 0 }, { name := "whole", type := (.array .int), accessFlags := 2, slot := 0, constantValue := 0 }, { name := "chunks", type := (.array (.array .int)), accessFlags := 2, slot := 1, constantValue := 0 }, { name := "size", type := .int, accessFlags := 2, slot := 2, constantValue := 0 }, { name := "filling", type := (.array .int), accessFlags := 2, slot := 3, constantValue := 0 }, { name := "filled", type := .int, accessFlags := 2, slot := 4, constantValue := 0 }]
  methods := #[k2m0, k2m1, k2m2, k2m3, k2m4, k2m5, k2m6]
  instanceTypes := #[(.array .int), (.array (.array .int)), .int, (.array .int), .int]
  staticTypes := #[.int]
  resolved := Array.replicate 72 none
  statics := none }

def pool3 : Array CpInfo := pool [(1, .class_ 2), (0, u "java/lang/Math"), (1, .class_ 6), (1, u "java/lang/Object"), (0, u "<init>"), (0, u "()V"), (89, .class_ 100), (1, u "java/lang/Math$RandomNumberGeneratorHolder"), (71, u "negativeZeroFloatBits"), (0, u "J"), (2, u "negativeZeroDoubleBits"), (21, u "max"), (2, u "min"), (43, u "$assertionsDisabled"), (0, u "Z"), (88, u "(II)I"), (2, u "twoToTheDoubleScaleDown"), (0, u "D"), (4, u "twoToTheDoubleScaleUp"), (9, u "E"), (3, u "PI"), (2, u "TAU"), (2, u "DEGREES_TO_RADIANS"), (0, u "RADIANS_TO_DEGREES")] 94

def k3m0 : Method := { name := "<init>", desc := "()V", sig := { parameters := [], returnType := none }, accessFlags := 2, code := none }
def k3c1 : Code := { maxStack := 2, maxLocals := 2, code := jdk_29_method_65_code, exceptionTable := #[], attributes := #[] }
def k3m1 : Method := { name := "max", desc := "(II)I", sig := { parameters := [.int, .int], returnType := some .int }, accessFlags := 9, code := some k3c1 }
def k3c2 : Code := { maxStack := 2, maxLocals := 2, code := jdk_29_method_69_code, exceptionTable := #[], attributes := #[] }
def k3m2 : Method := { name := "min", desc := "(II)I", sig := { parameters := [.int, .int], returnType := some .int }, accessFlags := 9, code := some k3c2 }
/-- java/lang/Math -/
def k3 : Class := { plain "java/lang/Math" (some 0) with
  accessFlags := 49
  interfaces := #[]
  cf := some (fileOf pool3 1 #[.nestMembers #[98]] #[{ accessFlags := 2, nameIndex := 7, descriptorIndex := 8, attributes := #[] }, { accessFlags := 9, nameIndex := 198, descriptorIndex := 335, attributes := #[] }, { accessFlags := 9, nameIndex := 201, descriptorIndex := 335, attributes := #[] }] 49 4 #[] #[{ accessFlags := 25, nameIndex := 354, descriptorIndex := 339, attributes := #[] }, { accessFlags := 25, nameIndex := 358, descriptorIndex := 339, attributes := #[] }, { accessFlags := 25, nameIndex := 361, descriptorIndex := 339, attributes := #[] }, { accessFlags := 26, nameIndex := 364, descriptorIndex := 339, attributes := #[] }, { accessFlags := 26, nameIndex := 365, descriptorIndex := 339, attributes := #[] }, { accessFlags := 26, nameIndex := 172, descriptorIndex := 173, attributes := #[] }, { accessFlags := 26, nameIndex := 176, descriptorIndex := 173, attributes := #[] }, { accessFlags := 8, nameIndex := 344, descriptorIndex := 339, attributes := #[] }, { accessFlags := 8, nameIndex := 338, descriptorIndex := 339, attributes := #[] }, { accessFlags := 4120, nameIndex := 245, descriptorIndex := 246, attributes := #[] }])
  fields := #[{ name := "E", type := .double, accessFlags := 25, slot := 0, constantValue := 0 }, { name := "PI", type := .double, accessFlags := 25, slot := 1, constantValue := 0 }, { name := "TAU", type := .double, accessFlags := 25, slot := 2, constantValue := 0 }, { name := "DEGREES_TO_RADIANS", type := .double, accessFlags := 26, slot := 3, constantValue := 0 }, { name := "RADIANS_TO_DEGREES", type := .double, accessFlags := 26, slot := 4, constantValue := 0 }, { name := "negativeZeroFloatBits", type := .long, accessFlags := 26, slot := 5, constantValue := 0 }, { name := "negativeZeroDoubleBits", type := .long, accessFlags := 26, slot := 6, constantValue := 0 }, { name := "twoToTheDoubleScaleUp", type := .double, accessFlags := 8, slot := 7, constantValue := 0 }, { name := "twoToTheDoubleScaleDown", type := .double, accessFlags := 8, slot := 8, constantValue := 0 }, { name := "$assertionsDisabled", type := .boolean, accessFlags := 4120, slot := 9, constantValue := 0 }]
  methods := #[k3m0, k3m1, k3m2]
  instanceTypes := #[]
  staticTypes := #[.double, .double, .double, .double, .double, .long, .long, .double, .double, .boolean]
  resolved := Array.replicate 460 none
  statics := none }

def pool4 : Array CpInfo := pool [(2, .class_ 4), (1, u "java/lang/Object"), (0, u "<init>"), (0, u "()V"), (7, .class_ 16), (1, u "java/util/Arrays"), (57, .class_ 76), (1, u "java/util/Arrays$NaturalOrder"), (36, .class_ 115), (1, u "java/util/Arrays$LegacyMergeSort"), (1, u "Z"), (32, .methodref 151 152), (0, .class_ 153), (0, .nameAndType 154 155), (0, u "java/lang/System"), (0, u "arraycopy"), (0, u "(Ljava/lang/Object;ILjava/lang/Object;II)V"), (146, u "copyOf"), (1, .methodref 305 306), (0, .class_ 307), (0, .nameAndType 308 309), (0, u "java/lang/Math"), (0, u "min"), (0, u "(II)I"), (65, .class_ 376), (0, u "java/util/Arrays$ArrayList"), (68, u "$assertionsDisabled"), (269, u "MIN_ARRAY_SORT_GRAN"), (0, u "I"), (2, u "INSERTIONSORT_THRESHOLD"), (151, u "([II)[I"), (103, .class_ 976), (0, u "java/util/Arrays$ArrayItr")] 52

def k4m0 : Method := { name := "<init>", desc := "()V", sig := { parameters := [], returnType := none }, accessFlags := 2, code := none }
def k4c1 : Code := { maxStack := 6, maxLocals := 3, code := jdk_65_method_123_code, exceptionTable := #[], attributes := #[] }
def k4m1 : Method := { name := "copyOf", desc := "([II)[I", sig := { parameters := [(.array .int), .int], returnType := some (.array .int) }, accessFlags := 9, code := some k4c1 }
/-- java/util/Arrays -/
def k4 : Class := { plain "java/util/Arrays" (some 0) with
  accessFlags := 49
  interfaces := #[]
  cf := some (fileOf pool4 14 #[.nestMembers #[975, 375, 113, 74]] #[{ accessFlags := 2, nameIndex := 5, descriptorIndex := 6, attributes := #[] }, { accessFlags := 9, nameIndex := 302, descriptorIndex := 871, attributes := #[] }] 49 2 #[] #[{ accessFlags := 26, nameIndex := 715, descriptorIndex := 716, attributes := #[] }, { accessFlags := 26, nameIndex := 719, descriptorIndex := 716, attributes := #[] }, { accessFlags := 4120, nameIndex := 445, descriptorIndex := 117, attributes := #[] }])
  fields := #[{ name := "MIN_ARRAY_SORT_GRAN", type := .int, accessFlags := 26, slot := 0, constantValue := 0 }, { name := "INSERTIONSORT_THRESHOLD", type := .int, accessFlags := 26, slot := 1, constantValue := 0 }, { name := "$assertionsDisabled", type := .boolean, accessFlags := 4120, slot := 2, constantValue := 0 }]
  methods := #[k4m0, k4m1]
  instanceTypes := #[]
  staticTypes := #[.int, .int, .boolean]
  resolved := Array.replicate 1029 none
  statics := none }

def pool5 : Array CpInfo := pool [(2, .class_ 4), (1, u "java/lang/Object"), (0, u "<init>"), (0, u "()V"), (1, .class_ 10), (1, u "java/lang/System"), (0, u "allowSecurityManager"), (0, u "I"), (16, u "cons"), (0, u "Ljava/io/Console;"), (77, .class_ 110), (1, u "java/lang/System$CallersHolder"), (43, u "initialErrStream"), (0, u "Ljava/io/PrintStream;"), (19, u "security"), (0, u "Ljava/lang/SecurityManager;"), (31, .class_ 209), (0, u "java/lang/System$1"), (7, u "props"), (0, u "Ljava/util/Properties;"), (2, u "lineSeparator"), (0, u "Ljava/lang/String;"), (96, .class_ 321), (1, u "java/lang/System$LoggerFinder"), (5, .class_ 328), (0, u "java/lang/System$Logger"), (67, u "err"), (2, u "out"), (91, u "notSupportedJnuEncoding"), (15, u "in"), (17, u "initialIn"), (0, u "Ljava/io/InputStream;"), (35, u "bootLayer"), (0, u "Ljava/lang/ModuleLayer;"), (99, .class_ 664), (0, u "java/lang/System$2"), (9, u "NEVER"), (2, u "MAYBE"), (49, u "arraycopy"), (0, u "(Ljava/lang/Object;ILjava/lang/Object;II)V"), (72, .class_ 802), (0, u "java/lang/System$Logger$Level")] 31

def k5m0 : Method := { name := "<init>", desc := "()V", sig := { parameters := [], returnType := none }, accessFlags := 2, code := none }
def k5m1 : Method := { name := "arraycopy", desc := "(Ljava/lang/Object;ILjava/lang/Object;II)V", sig := { parameters := [(.object "java/lang/Object"), .int, (.object "java/lang/Object"), .int, .int], returnType := none }, accessFlags := 265, code := none }
/-- java/lang/System -/
def k5 : Class := { plain "java/lang/System" (some 0) with
  accessFlags := 49
  interfaces := #[]
  cf := some (fileOf pool5 8 #[.nestMembers #[319, 327, 801, 108, 663, 208]] #[{ accessFlags := 2, nameIndex := 5, descriptorIndex := 6, attributes := #[] }, { accessFlags := 265, nameIndex := 727, descriptorIndex := 728, attributes := #[] }] 49 2 #[] #[{ accessFlags := 25, nameIndex := 507, descriptorIndex := 526, attributes := #[] }, { accessFlags := 25, nameIndex := 399, descriptorIndex := 155, attributes := #[] }, { accessFlags := 25, nameIndex := 396, descriptorIndex := 155, attributes := #[] }, { accessFlags := 10, nameIndex := 525, descriptorIndex := 526, attributes := #[] }, { accessFlags := 26, nameIndex := 674, descriptorIndex := 12, attributes := #[] }, { accessFlags := 26, nameIndex := 677, descriptorIndex := 12, attributes := #[] }, { accessFlags := 10, nameIndex := 11, descriptorIndex := 12, attributes := #[] }, { accessFlags := 74, nameIndex := 175, descriptorIndex := 176, attributes := #[] }, { accessFlags := 10, nameIndex := 491, descriptorIndex := 222, attributes := #[] }, { accessFlags := 74, nameIndex := 29, descriptorIndex := 30, attributes := #[] }, { accessFlags := 74, nameIndex := 154, descriptorIndex := 155, attributes := #[] }, { accessFlags := 10, nameIndex := 217, descriptorIndex := 218, attributes := #[] }, { accessFlags := 10, nameIndex := 221, descriptorIndex := 222, attributes := #[] }, { accessFlags := 8, nameIndex := 562, descriptorIndex := 563, attributes := #[] }])
  fields := #[{ name := "in", type := (.object "java/io/InputStream"), accessFlags := 25, slot := 0, constantValue := 0 }, { name := "out", type := (.object "java/io/PrintStream"), accessFlags := 25, slot := 1, constantValue := 0 }, { name := "err", type := (.object "java/io/PrintStream"), accessFlags := 25, slot := 2, constantValue := 0 }, { name := "initialIn", type := (.object "java/io/InputStream"), accessFlags := 10, slot := 3, constantValue := 0 }, { name := "NEVER", type := .int, accessFlags := 26, slot := 4, constantValue := 0 }, { name := "MAYBE", type := .int, accessFlags := 26, slot := 5, constantValue := 0 }, { name := "allowSecurityManager", type := .int, accessFlags := 10, slot := 6, constantValue := 0 }, { name := "security", type := (.object "java/lang/SecurityManager"), accessFlags := 74, slot := 7, constantValue := 0 }, { name := "notSupportedJnuEncoding", type := (.object "java/lang/String"), accessFlags := 10, slot := 8, constantValue := 0 }, { name := "cons", type := (.object "java/io/Console"), accessFlags := 74, slot := 9, constantValue := 0 }, { name := "initialErrStream", type := (.object "java/io/PrintStream"), accessFlags := 74, slot := 10, constantValue := 0 }, { name := "props", type := (.object "java/util/Properties"), accessFlags := 10, slot := 11, constantValue := 0 }, { name := "lineSeparator", type := (.object "java/lang/String"), accessFlags := 10, slot := 12, constantValue := 0 }, { name := "bootLayer", type := (.object "java/lang/ModuleLayer"), accessFlags := 8, slot := 13, constantValue := 0 }]
  methods := #[k5m0, k5m1]
  instanceTypes := #[]
  staticTypes := #[(.object "java/io/InputStream"), (.object "java/io/PrintStream"), (.object "java/io/PrintStream"), (.object "java/io/InputStream"), .int, .int, .int, (.object "java/lang/SecurityManager"), (.object "java/lang/String"), (.object "java/io/Console"), (.object "java/io/PrintStream"), (.object "java/util/Properties"), (.object "java/lang/String"), (.object "java/lang/ModuleLayer")]
  resolved := Array.replicate 834 none
  statics := none }

def pool6 : Array CpInfo := pool [(1, u "java/lang/Cloneable"), (0, .class_ 1), (0, u "java/lang/Object"), (0, .class_ 3)] 3

/-- java/lang/Cloneable -/
def k6 : Class := { plain "java/lang/Cloneable" (some 0) with
  accessFlags := 1537
  interfaces := #[]
  cf := some (fileOf pool6 2 #[] #[] 1537 4 #[] #[])
  fields := #[]
  methods := #[]
  instanceTypes := #[]
  staticTypes := #[]
  resolved := Array.replicate 8 none
  statics := none }

def pool7 : Array CpInfo := pool [(1, u "java/io/Serializable"), (0, .class_ 1), (0, u "java/lang/Object"), (0, .class_ 3)] 3

/-- java/io/Serializable -/
def k7 : Class := { plain "java/io/Serializable" (some 0) with
  accessFlags := 1537
  interfaces := #[]
  cf := some (fileOf pool7 2 #[] #[] 1537 4 #[] #[])
  fields := #[]
  methods := #[]
  instanceTypes := #[]
  staticTypes := #[]
  resolved := Array.replicate 8 none
  statics := none }

/-- the primitive byte -/
def k8 : Class := { plain "byte" none with kind := .primitive 'B', accessFlags := 0x411 }
/-- [B -/
def k9 : Class := { plain "[B" (some 0) with kind := .array 8 .byte, interfaces := #[6, 7], accessFlags := 1041 }

/-- the primitive int -/
def k10 : Class := { plain "int" none with kind := .primitive 'I', accessFlags := 0x411 }
/-- [I -/
def k11 : Class := { plain "[I" (some 0) with kind := .array 10 .int, interfaces := #[6, 7], accessFlags := 1041 }

/-- an array of arrays -/
def k12 : Class := { plain "[[I" (some 0) with kind := .array 11 (.array .int), interfaces := #[6, 7], accessFlags := 1041 }

def heap : Heap := #[]
def classes : Array Class := #[k0, k1, k2, k3, k4, k5, k6, k7, k8, k9, k10, k11, k12]
def interned : List (Array UInt16 × Addr) := []
def slotsUsed : Nat := 0
def theMethod : MethodId := ⟨1, 2⟩
def args0 : Array Value := #[.int 0, .int 1, .int 2, .int 3, .int 4, .int 5]
def aboutOver (below : List Frame) : State where
  vm := { classes := classes, interned := interned.toArray }
  heap := heap
  slotsUsed := slotsUsed
  threads := #[{ frames := .invoking theMethod args0 :: below }]
def below0 : List Frame := [.native { method := ⟨0, 0⟩, args := #[] }]
def about1 : State := aboutOver below0
def p0 : Program := .bare "" "" ""
def e0 : Env := launch0.env 0 0 0
theorem w_frames : about1.frames = Frame.invoking theMethod args0 :: below0 := rfl
set_option maxRecDepth 65536 in
theorem w_args : argsFit about1.vm theMethod args0 = true := by decide +kernel
set_option maxRecDepth 65536 in
theorem w_heap : heapFits about1 = true := by decide +kernel
set_option maxRecDepth 65536 in
theorem w_runnable : about1.curStatus? = some .runnable := by decide +kernel
set_option maxRecDepth 65536 in
theorem w_alone : about1.alone = true := by decide +kernel
set_option maxRecDepth 65536 in
theorem w_named : about1.methodNamed? x = some theMethod := by decide +kernel
set_option maxRecDepth 65536 in
theorem w_hears : about1.hears theMethod below0 = true := by decide +kernel
set_option maxRecDepth 65536 in
theorem w_ripe : about1.ripe theMethod args0 below0 = true := by decide +kernel
theorem w_running : about1.status = .running := rfl
set_option maxRecDepth 65536 in
theorem w_room : about1.hasRoom e0.platform room_1 = true :=
  launch0.hasRoom_least _ room_1 (by decide +kernel) (by decide +kernel) (by decide +kernel) (by decide +kernel) (by decide +kernel) (by decide +kernel)
theorem allAtoms_all (ts : List Jvm.Cond) (a : Array Jvm.Value) (st : Jvm.State) : (allAtoms ts).before a st = ts.all (fun c => c.before a st) := by
  induction ts with
  | nil => rfl
  | cons c t ih =>
    show (Jvm.Cond.and c (allAtoms t)).before a st = _
    rw [Jvm.Cond.before_and, ih, List.all_cons]
def words1 : List Jvm.Cond := Jvm.Cond.code x code maxLocals ret :: tables_1
/-- a 'code' word, met by the world's own term for the bytes: nothing is compared byte by byte -/
theorem code_word {y : MethodName} {bytes : ByteArray} {mx : Nat} {rt : Option FieldType} {a : Array Value} {s : State} {m : MethodId} {meth : Method} {c : Code} (h1 : s.methodNamed? y = some m) (h2 : s.vm.method? m = some meth) (h3 : meth.code = some c) (h4 : c.code = bytes)
    (h5 : (c.maxLocals == mx && c.exceptionTable.isEmpty && decide (c.maxStack ≤ mostOperands) && decide (meth.sig.returnType = rt) && !meth.locks && decide (parseMethodDescriptor y.desc = some meth.sig)) = true) : (Jvm.Cond.code y bytes mx rt).before a s = true := by
  simp only [Bool.and_eq_true, beq_iff_eq, Bool.not_eq_true', decide_eq_true_eq] at h5
  obtain ⟨⟨⟨⟨⟨g1, g2⟩, g3⟩, g4⟩, g5⟩, g6⟩ := h5
  simp [Cond.before, Cond.holds, Cond.value, h1, h2, h3, h4, g1, g2, g3, g4, g5, g6]
def isCode : Jvm.Cond → Bool
  | .code _ _ _ _ => true
  | _ => false
theorem all_split {L : List Jvm.Cond} {P : Jvm.Cond → Bool} (h1 : L.all (fun c => isCode c || P c) = true) (h2 : ∀ c ∈ L.filter isCode, P c = true) : L.all P = true := by
  refine List.all_eq_true.mpr fun c hc => ?_
  have h := List.all_eq_true.mp h1 c hc
  rcases Bool.eq_false_or_eq_true (isCode c) with hi | hi
  · exact h2 c (List.mem_filter.mpr ⟨hc, hi⟩)
  · simpa [hi] using h
set_option maxRecDepth 65536 in
theorem w_c0 : (Jvm.Cond.code x code maxLocals ret).before args0 about1 = true := code_word (m := ⟨1, 2⟩) (meth := k1m2) (c := k1c2) (by decide +kernel) rfl rfl rfl (by decide +kernel)
set_option maxRecDepth 65536 in
theorem w_c1 : (Jvm.Cond.code ({ cls := "com/example/lumping/lumping/numbers/ChunkedInts", name := "<init>", desc := "(I)V" } : Jvm.MethodName) prog_79_method_2_code (2 : Nat) (Option.none : Option Jvm.ClassFile.FieldType)).before args0 about1 = true := code_word (m := ⟨2, 1⟩) (meth := k2m1) (c := k2c1) (by decide +kernel) rfl rfl rfl (by decide +kernel)
set_option maxRecDepth 65536 in
theorem w_c2 : (Jvm.Cond.code ({ cls := "java/lang/Object", name := "<init>", desc := "()V" } : Jvm.MethodName) object_method_1_code (1 : Nat) (Option.none : Option Jvm.ClassFile.FieldType)).before args0 about1 = true := code_word (m := ⟨0, 0⟩) (meth := k0m0) (c := k0c0) (by decide +kernel) rfl rfl rfl (by decide +kernel)
set_option maxRecDepth 65536 in
theorem w_c3 : (Jvm.Cond.code ({ cls := "com/example/lumping/lumping/numbers/ChunkedInts", name := "add", desc := "(I)V" } : Jvm.MethodName) prog_79_method_6_code (2 : Nat) (Option.none : Option Jvm.ClassFile.FieldType)).before args0 about1 = true := code_word (m := ⟨2, 5⟩) (meth := k2m5) (c := k2c5) (by decide +kernel) rfl rfl rfl (by decide +kernel)
set_option maxRecDepth 65536 in
theorem w_c4 : (Jvm.Cond.code ({ cls := "com/example/lumping/lumping/numbers/ChunkedInts", name := "grow", desc := "()V" } : Jvm.MethodName) prog_79_method_8_code (4 : Nat) (Option.none : Option Jvm.ClassFile.FieldType)).before args0 about1 = true := code_word (m := ⟨2, 6⟩) (meth := k2m6) (c := k2c6) (by decide +kernel) rfl rfl rfl (by decide +kernel)
set_option maxRecDepth 65536 in
theorem w_c5 : (Jvm.Cond.code ({ cls := "java/lang/Math", name := "max", desc := "(II)I" } : Jvm.MethodName) jdk_29_method_65_code (2 : Nat) (Option.some Jvm.ClassFile.FieldType.int)).before args0 about1 = true := code_word (m := ⟨3, 1⟩) (meth := k3m1) (c := k3c1) (by decide +kernel) rfl rfl rfl (by decide +kernel)
set_option maxRecDepth 65536 in
theorem w_c6 : (Jvm.Cond.code ({ cls := "java/lang/Math", name := "min", desc := "(II)I" } : Jvm.MethodName) jdk_29_method_69_code (2 : Nat) (Option.some Jvm.ClassFile.FieldType.int)).before args0 about1 = true := code_word (m := ⟨3, 2⟩) (meth := k3m2) (c := k3c2) (by decide +kernel) rfl rfl rfl (by decide +kernel)
set_option maxRecDepth 65536 in
theorem w_c7 : (Jvm.Cond.code ({ cls := "java/util/Arrays", name := "copyOf", desc := "([II)[I" } : Jvm.MethodName) jdk_65_method_123_code (3 : Nat) (Option.some (Jvm.ClassFile.FieldType.array Jvm.ClassFile.FieldType.int))).before args0 about1 = true := code_word (m := ⟨4, 1⟩) (meth := k4m1) (c := k4c1) (by decide +kernel) rfl rfl rfl (by decide +kernel)
set_option maxRecDepth 65536 in
theorem w_c8 : (Jvm.Cond.code ({ cls := "com/example/lumping/lumping/numbers/ChunkedInts", name := "set", desc := "(II)V" } : Jvm.MethodName) prog_79_method_5_code (3 : Nat) (Option.none : Option Jvm.ClassFile.FieldType)).before args0 about1 = true := code_word (m := ⟨2, 4⟩) (meth := k2m4) (c := k2c4) (by decide +kernel) rfl rfl rfl (by decide +kernel)
set_option maxRecDepth 65536 in
theorem w_c9 : (Jvm.Cond.code ({ cls := "com/example/lumping/lumping/numbers/ChunkedInts", name := "get", desc := "(I)I" } : Jvm.MethodName) prog_79_method_4_code (2 : Nat) (Option.some Jvm.ClassFile.FieldType.int)).before args0 about1 = true := code_word (m := ⟨2, 3⟩) (meth := k2m3) (c := k2c3) (by decide +kernel) rfl rfl rfl (by decide +kernel)
set_option maxRecDepth 65536 in
theorem w_c10 : (Jvm.Cond.code ({ cls := "com/example/lumping/lumping/numbers/ChunkedInts", name := "size", desc := "()I" } : Jvm.MethodName) prog_79_method_3_code (1 : Nat) (Option.some Jvm.ClassFile.FieldType.int)).before args0 about1 = true := code_word (m := ⟨2, 2⟩) (meth := k2m2) (c := k2c2) (by decide +kernel) rfl rfl rfl (by decide +kernel)
set_option maxRecDepth 65536 in
theorem w_c11 : (Jvm.Cond.code ({ cls := "com/example/lumping/lumping/numbers/ChunkedIntsSetPinLaw", name := "expected", desc := "(IIII)I" } : Jvm.MethodName) method_2_code (4 : Nat) (Option.some Jvm.ClassFile.FieldType.int)).before args0 about1 = true := code_word (m := ⟨1, 1⟩) (meth := k1m1) (c := k1c1) (by decide +kernel) rfl rfl rfl (by decide +kernel)
set_option maxRecDepth 65536 in
theorem w_c12 : (Jvm.Cond.code ({ cls := "com/example/lumping/lumping/numbers/ChunkedInts", name := "<init>", desc := "()V" } : Jvm.MethodName) prog_79_method_1_code (1 : Nat) (Option.none : Option Jvm.ClassFile.FieldType)).before args0 about1 = true := code_word (m := ⟨2, 0⟩) (meth := k2m0) (c := k2c0) (by decide +kernel) rfl rfl rfl (by decide +kernel)
def codes1 : List Jvm.Cond := [Jvm.Cond.code x code maxLocals ret, Jvm.Cond.code ({ cls := "com/example/lumping/lumping/numbers/ChunkedInts", name := "<init>", desc := "(I)V" } : Jvm.MethodName) prog_79_method_2_code (2 : Nat) (Option.none : Option Jvm.ClassFile.FieldType), Jvm.Cond.code ({ cls := "java/lang/Object", name := "<init>", desc := "()V" } : Jvm.MethodName) object_method_1_code (1 : Nat) (Option.none : Option Jvm.ClassFile.FieldType), Jvm.Cond.code ({ cls := "com/example/lumping/lumping/numbers/ChunkedInts", name := "add", desc := "(I)V" } : Jvm.MethodName) prog_79_method_6_code (2 : Nat) (Option.none : Option Jvm.ClassFile.FieldType), Jvm.Cond.code ({ cls := "com/example/lumping/lumping/numbers/ChunkedInts", name := "grow", desc := "()V" } : Jvm.MethodName) prog_79_method_8_code (4 : Nat) (Option.none : Option Jvm.ClassFile.FieldType), Jvm.Cond.code ({ cls := "java/lang/Math", name := "max", desc := "(II)I" } : Jvm.MethodName) jdk_29_method_65_code (2 : Nat) (Option.some Jvm.ClassFile.FieldType.int), Jvm.Cond.code ({ cls := "java/lang/Math", name := "min", desc := "(II)I" } : Jvm.MethodName) jdk_29_method_69_code (2 : Nat) (Option.some Jvm.ClassFile.FieldType.int), Jvm.Cond.code ({ cls := "java/util/Arrays", name := "copyOf", desc := "([II)[I" } : Jvm.MethodName) jdk_65_method_123_code (3 : Nat) (Option.some (Jvm.ClassFile.FieldType.array Jvm.ClassFile.FieldType.int)), Jvm.Cond.code ({ cls := "com/example/lumping/lumping/numbers/ChunkedInts", name := "set", desc := "(II)V" } : Jvm.MethodName) prog_79_method_5_code (3 : Nat) (Option.none : Option Jvm.ClassFile.FieldType), Jvm.Cond.code ({ cls := "com/example/lumping/lumping/numbers/ChunkedInts", name := "get", desc := "(I)I" } : Jvm.MethodName) prog_79_method_4_code (2 : Nat) (Option.some Jvm.ClassFile.FieldType.int), Jvm.Cond.code ({ cls := "com/example/lumping/lumping/numbers/ChunkedInts", name := "size", desc := "()I" } : Jvm.MethodName) prog_79_method_3_code (1 : Nat) (Option.some Jvm.ClassFile.FieldType.int), Jvm.Cond.code ({ cls := "com/example/lumping/lumping/numbers/ChunkedIntsSetPinLaw", name := "expected", desc := "(IIII)I" } : Jvm.MethodName) method_2_code (4 : Nat) (Option.some Jvm.ClassFile.FieldType.int), Jvm.Cond.code ({ cls := "com/example/lumping/lumping/numbers/ChunkedInts", name := "<init>", desc := "()V" } : Jvm.MethodName) prog_79_method_1_code (1 : Nat) (Option.none : Option Jvm.ClassFile.FieldType)]
set_option maxRecDepth 65536 in
theorem codes_eq : words1.filter isCode = codes1 := rfl
theorem w_codes : ∀ c ∈ words1.filter isCode, c.before args0 about1 = true := by
  rw [codes_eq]
  intro c hc
  simp only [codes1, List.mem_cons, List.not_mem_nil, or_false] at hc
  rcases hc with rfl | rfl | rfl | rfl | rfl | rfl | rfl | rfl | rfl | rfl | rfl | rfl | rfl
  · exact w_c0
  · exact w_c1
  · exact w_c2
  · exact w_c3
  · exact w_c4
  · exact w_c5
  · exact w_c6
  · exact w_c7
  · exact w_c8
  · exact w_c9
  · exact w_c10
  · exact w_c11
  · exact w_c12
set_option maxRecDepth 65536 in
theorem w_t1 : (words1.take 24).all (fun c => isCode c || c.before args0 about1) = true := by decide +kernel
set_option maxRecDepth 65536 in
theorem w_t2 : ((words1.drop 24).take 24).all (fun c => isCode c || c.before args0 about1) = true := by decide +kernel
set_option maxRecDepth 65536 in
theorem w_t3 : (((words1.drop 24).drop 24).take 24).all (fun c => isCode c || c.before args0 about1) = true := by decide +kernel
set_option maxRecDepth 65536 in
theorem w_t4 : (((words1.drop 24).drop 24).drop 24).all (fun c => isCode c || c.before args0 about1) = true := by decide +kernel
theorem w_tables : (allAtoms (Jvm.Cond.code x code maxLocals ret :: tables_1)).before args0 about1 = true := by
  rw [allAtoms_all]
  show words1.all (fun c => c.before args0 about1) = true
  refine all_split ?_ w_codes
  rw [← List.take_append_drop 24 words1, List.all_append, w_t1, ← List.take_append_drop 24 (words1.drop 24), List.all_append, w_t2, ← List.take_append_drop 24 ((words1.drop 24).drop 24), List.all_append, w_t3, w_t4]
  rfl
set_option maxRecDepth 65536 in
theorem w_case : (Jvm.Cond.and given_1 narrow_1).before args0 about1 = true := by decide +kernel
theorem w_applies : (headSpec (Jvm.Cond.code x code maxLocals ret :: tables_1) room_1).applies x e0.platform about1 = true :=
  (Spec.applies_iff w_frames).mpr ⟨w_running, w_runnable, w_alone, w_named, w_hears, w_ripe, w_room, w_tables⟩
set_option maxRecDepth 65536 in
theorem atStart : AtStart classFile x code maxLocals ret World_1 tables_1 room_1 Calls_1 rest_1 Pre_1 launch0 p0 e0 about1 theMethod args0 below0 :=
  ⟨lists_1, trivial, launch0.admits_env _ _ _, launch0.least_env, fairChoices_fair.cas, fairChoices_fair.clock, w_frames, w_args, w_heap, w_applies, trivial, trivial, w_case⟩
end start1
theorem witness_1 : WitnessClaimed_1 := ⟨start1.p0, start1.e0, start1.about1, start1.theMethod, start1.args0, start1.below0, start1.atStart⟩
end Jvm.Pilot.@@N@@
