import JvmDerived
import JvmDerived.Pilot.@@N@@Statement
import JvmDerived.Pilot.@@N@@Code
set_option linter.unusedVariables false
set_option linter.unusedSimpArgs false
namespace Jvm.Pilot.@@N@@
open Jvm Jvm.ClassFile Sem Op Lib Jvm.Free Jvm.Stand Jvm.LawKit Jvm.RoadKit Bundle Jvm.Pilot.@@N@@.Jvm.D
section OwnLayer
variable {p : Program} {l : Launch} {e : Env} {R : Room} {s : State} {m : MethodId} {args : Array Value} {below : List Frame} {meth : Method} {c : Code} {T : State} {locs : List Loc} {cells slots : Nat}
/-- what is to be shown from the state S on: the run comes back, Q holds of what it leaves -/
def own_G (p : Program) (e : Env) (below : List Frame) (s : State) (k n : Nat) (Q : Option Value → Heap → List Loc → Prop) (S : State) : Prop :=
  ∃ t o, Steps p.tables e below S t ∧ t.status = .running ∧ Ended t below o ∧ ∃ v L, o = .returned v ∧ Q v t.heap L ∧ FrameEnd s o t L k n
theorem own_to {k n : Nat} {Q : Option Value → Heap → List Loc → Prop} {S S' : State} (h : ∀ t, Steps p.tables e below S' t → Steps p.tables e below S t) (g : own_G p e below s k n Q S') : own_G p e below s k n Q S := by
  obtain ⟨t, o, h1, h2⟩ := g
  exact ⟨t, o, h t h1, h2⟩
theorem own_retI {k n : Nat} {Q : Option Value → Heap → List Loc → Prop} (X : Stand p l e R s m args below meth c T locs cells slots) (hx : p.tables.exec = Jvm.exec) {pc : Nat} {Ls : Array Slot} {z : Int32} (hret : meth.sig.returnType = some .int) (hd : decode c.code pc = .ok (.ireturn, 1)) (hlk : meth.locks = false) (hk : cells ≤ k) (hn : slots ≤ n) (hq : Q (some (.int z)) T.heap locs) :
    own_G p e below s k n Q (T.setTop (mkF m pc Ls [.int z])) := by
  obtain ⟨fs, hr, hrun, hended, hW, hsame⟩ := X.leave (v := some (.int z)) (fun h => by rw [hret] at h; cases h) hlk
  exact ⟨_, _, X.ireturnOut hx hret rfl (Or.inl rfl) hd hr, hrun, hended, _, _, rfl, hq, ⟨_, rfl⟩, hW, hsame.mono hk hn⟩
theorem own_retN {k n : Nat} {Q : Option Value → Heap → List Loc → Prop} (X : Stand p l e R s m args below meth c T locs cells slots) (hx : p.tables.exec = Jvm.exec) {pc : Nat} {Ls : Array Slot} {z : Int32} {t : FieldType} {rest : List Value} (hret : meth.sig.returnType = some t) (ht : t = .boolean ∨ t = .byte ∨ t = .char ∨ t = .short) (hd : decode c.code pc = .ok (.ireturn, 1)) (hlk : meth.locks = false) (hk : cells ≤ k) (hn : slots ≤ n) (hq : Q (some (.int (nar t z))) T.heap locs) :
    own_G p e below s k n Q (T.setTop (mkF m pc Ls (.int z :: rest))) := by
  obtain ⟨fs, hr, hrun, hended, hW, hsame⟩ := X.leave (v := some (.int (nar t z))) (fun h => by rw [hret] at h; cases h) hlk
  exact ⟨_, _, retN X hx hret ht hd hr, hrun, hended, _, _, rfl, hq, ⟨_, rfl⟩, hW, hsame.mono hk hn⟩
theorem own_retJ {k n : Nat} {Q : Option Value → Heap → List Loc → Prop} (X : Stand p l e R s m args below meth c T locs cells slots) (hx : p.tables.exec = Jvm.exec) {pc : Nat} {Ls : Array Slot} {z : Int64} (hret : meth.sig.returnType = some .long) (hd : decode c.code pc = .ok (.lreturn, 1)) (hlk : meth.locks = false) (hk : cells ≤ k) (hn : slots ≤ n) (hq : Q (some (.long z)) T.heap locs) :
    own_G p e below s k n Q (T.setTop (mkF m pc Ls [.long z])) := by
  obtain ⟨fs, hr, hrun, hended, hW, hsame⟩ := X.leave (v := some (.long z)) (fun h => by rw [hret] at h; cases h) hlk
  exact ⟨_, _, X.lreturnOut hx hret hd hr, hrun, hended, _, _, rfl, hq, ⟨_, rfl⟩, hW, hsame.mono hk hn⟩
theorem own_retA {k n : Nat} {Q : Option Value → Heap → List Loc → Prop} (X : Stand p l e R s m args below meth c T locs cells slots) (hx : p.tables.exec = Jvm.exec) {pc : Nat} {Ls : Array Slot} {w : Value} {t : FieldType} (hw : w.isRef = true) (hret : meth.sig.returnType = some t) (ht : t.isReference = true) (hd : decode c.code pc = .ok (.areturn, 1)) (hlk : meth.locks = false) (hk : cells ≤ k) (hn : slots ≤ n) (hq : Q (some w) T.heap locs) :
    own_G p e below s k n Q (T.setTop (mkF m pc Ls [w])) := by
  obtain ⟨fs, hr, hrun, hended, hW, hsame⟩ := X.leave (v := some w) (fun h => by rw [hret] at h; cases h) hlk
  exact ⟨_, _, X.areturnOut hx hw hret ht hd hr, hrun, hended, _, _, rfl, hq, ⟨_, rfl⟩, hW, hsame.mono hk hn⟩
theorem own_retV {k n : Nat} {Q : Option Value → Heap → List Loc → Prop} (X : Stand p l e R s m args below meth c T locs cells slots) (hx : p.tables.exec = Jvm.exec) {pc : Nat} {Ls : Array Slot} (hret : meth.sig.returnType = none) (hd : decode c.code pc = .ok (.return_, 1)) (hlk : meth.locks = false) (hk : cells ≤ k) (hn : slots ≤ n) (hq : Q none T.heap locs) :
    own_G p e below s k n Q (T.setTop (mkF m pc Ls [])) := by
  obtain ⟨fs, hr, hrun, hended, hW, hsame⟩ := X.leave (v := none) (fun _ => rfl) hlk
  exact ⟨_, _, X.returnOut hx hret hd hr, hrun, hended, _, _, rfl, hq, ⟨_, rfl⟩, hW, hsame.mono hk hn⟩
end OwnLayer
/-- a callee that leaves the heap as it was and returns r -/
def own_Qp (r : Option Value) (h0 : Heap) (n0 : Nat) (v : Option Value) (h : Heap) (L : List Loc) : Prop := v = r ∧ Fr n0 L ∧ h = h0
/-- the law itself -/
def own_Ql (n0 : Nat) (v : Option Value) (h : Heap) (L : List Loc) : Prop := v = some (.int 1) ∧ Fr n0 L
/-- a reference's int field, out of the case's words -/
theorem own_ord {args : Array Value} {s : State} {t : Jvm.Term} {C n d : String} {k : Int32} {x : Addr} (ht : t.eval args s none [] s = some (.ref x)) (h : (Jvm.Cond.eq (.field t C n d) (.int k)).value args s none s [] = some true) : s.fieldOf? x C n d = some (.int k) := by
  obtain ⟨u, w, e1, e2, K1, K2⟩ := cmp_v (Or.inl h)
  have e3 : some w = some (.int k) := e2.symm.trans (Term.int_eval k)
  obtain rfl := Option.some.inj e3
  obtain ⟨z, rfl⟩ := K2
  have e4 := gotT (Cond.eq_ints e1 e2) h
  rw [fld_at ht] at e1
  rw [e1, e4]
theorem own_ord_ne {s : State} {C n d : String} {x y : Addr} {k k' : Int32} (h : s.fieldOf? x C n d = some (.int k)) (h' : s.fieldOf? y C n d = some (.int k')) (hk : k ≠ k') : ¬ (x = y) := fun q => by
  subst q
  rw [h] at h'
  exact hk (Value.int.inj (Option.some.inj h'))
theorem own_pn0 : plainName "java/util/Arrays" = true := by first | (simp [plainName, overriddenIn]; done) | decide +kernel
theorem own_pn1 : plainName "com/example/knotweed/knotweed/engine/TransitionList" = true := by first | (simp [plainName, overriddenIn]; done) | decide +kernel
theorem own_pn2 : plainName "java/lang/Integer" = true := by first | (simp [plainName, overriddenIn]; done) | decide +kernel
theorem own_pn3 : plainName "com/example/knotweed/knotweed/engine/TransitionListGetNumberPinLaw" = true := by first | (simp [plainName, overriddenIn]; done) | decide +kernel
theorem own_pd0 : parseMethodDescriptor "([II)V" = some ⟨[.array .int, .int], none⟩ := by decide +kernel
theorem own_pd1 : parseMethodDescriptor "(I)[I" = some ⟨[.int], some (.array .int)⟩ := by decide +kernel
theorem own_pd2 : parseMethodDescriptor "(I)I" = some ⟨[.int], some .int⟩ := by decide +kernel
theorem own_pd3 : parseMethodDescriptor "(J)I" = some ⟨[.long], some .int⟩ := by decide +kernel
theorem own_pd4 : parseMethodDescriptor "(I)V" = some ⟨[.int], none⟩ := by decide +kernel
theorem own_pd5 : parseMethodDescriptor "(D)I" = some ⟨[.double], some .int⟩ := by decide +kernel
theorem own_pd6 : parseMethodDescriptor "()V" = some ⟨[], none⟩ := by decide +kernel
theorem own_pd7 : parseMethodDescriptor "(ID)V" = some ⟨[.int, .double], none⟩ := by decide +kernel
theorem own_pd8 : parseMethodDescriptor "(I)D" = some ⟨[.int], some .double⟩ := by decide +kernel
theorem d_prog_102_method_1_0 : decode prog_102_method_1_code 0 = .ok (.aload_n 0, 1) := by decide +kernel
theorem d_prog_102_method_1_1 : decode prog_102_method_1_code 1 = .ok (.invokespecial 5, 3) := by decide +kernel
theorem d_prog_102_method_1_4 : decode prog_102_method_1_code 4 = .ok (.aload_n 0, 1) := by decide +kernel
theorem d_prog_102_method_1_5 : decode prog_102_method_1_code 5 = .ok (.bipush 16, 2) := by decide +kernel
theorem d_prog_102_method_1_7 : decode prog_102_method_1_code 7 = .ok (.anewarray 11, 3) := by decide +kernel
theorem d_prog_102_method_1_10 : decode prog_102_method_1_code 10 = .ok (.putfield 13, 3) := by decide +kernel
theorem d_prog_102_method_1_13 : decode prog_102_method_1_code 13 = .ok (.aload_n 0, 1) := by decide +kernel
theorem d_prog_102_method_1_14 : decode prog_102_method_1_code 14 = .ok (.bipush 16, 2) := by decide +kernel
theorem d_prog_102_method_1_16 : decode prog_102_method_1_code 16 = .ok (.anewarray 17, 3) := by decide +kernel
theorem d_prog_102_method_1_19 : decode prog_102_method_1_code 19 = .ok (.putfield 19, 3) := by decide +kernel
theorem d_prog_102_method_1_22 : decode prog_102_method_1_code 22 = .ok (.aload_n 0, 1) := by decide +kernel
theorem d_prog_102_method_1_23 : decode prog_102_method_1_code 23 = .ok (.bipush 16, 2) := by decide +kernel
theorem d_prog_102_method_1_25 : decode prog_102_method_1_code 25 = .ok (.newarray .double, 2) := by decide +kernel
theorem d_prog_102_method_1_27 : decode prog_102_method_1_code 27 = .ok (.putfield 23, 3) := by decide +kernel
theorem d_prog_102_method_1_30 : decode prog_102_method_1_code 30 = .ok (.aload_n 0, 1) := by decide +kernel
theorem d_prog_102_method_1_31 : decode prog_102_method_1_code 31 = .ok (.bipush 32, 2) := by decide +kernel
theorem d_prog_102_method_1_33 : decode prog_102_method_1_code 33 = .ok (.newarray .long, 2) := by decide +kernel
theorem d_prog_102_method_1_35 : decode prog_102_method_1_code 35 = .ok (.putfield 27, 3) := by decide +kernel
theorem d_prog_102_method_1_38 : decode prog_102_method_1_code 38 = .ok (.aload_n 0, 1) := by decide +kernel
theorem d_prog_102_method_1_39 : decode prog_102_method_1_code 39 = .ok (.bipush 32, 2) := by decide +kernel
theorem d_prog_102_method_1_41 : decode prog_102_method_1_code 41 = .ok (.invokestatic 31, 3) := by decide +kernel
theorem d_prog_102_method_1_44 : decode prog_102_method_1_code 44 = .ok (.putfield 35, 3) := by decide +kernel
theorem d_prog_102_method_1_47 : decode prog_102_method_1_code 47 = .ok (.return_, 1) := by decide +kernel
theorem d_prog_102_method_15_0 : decode prog_102_method_15_code 0 = .ok (.iload_n 0, 1) := by decide +kernel
theorem d_prog_102_method_15_1 : decode prog_102_method_15_code 1 = .ok (.newarray .int, 2) := by decide +kernel
theorem d_prog_102_method_15_3 : decode prog_102_method_15_code 3 = .ok (.astore_n 1, 1) := by decide +kernel
theorem d_prog_102_method_15_4 : decode prog_102_method_15_code 4 = .ok (.aload_n 1, 1) := by decide +kernel
theorem d_prog_102_method_15_5 : decode prog_102_method_15_code 5 = .ok (.iconst (-1), 1) := by decide +kernel
theorem d_prog_102_method_15_6 : decode prog_102_method_15_code 6 = .ok (.invokestatic 113, 3) := by decide +kernel
theorem d_prog_102_method_15_9 : decode prog_102_method_15_code 9 = .ok (.aload_n 1, 1) := by decide +kernel
theorem d_prog_102_method_15_10 : decode prog_102_method_15_code 10 = .ok (.areturn, 1) := by decide +kernel
theorem d_jdk_65_method_103_0 : decode jdk_65_method_103_code 0 = .ok (.iconst 0, 1) := by decide +kernel
theorem d_jdk_65_method_103_1 : decode jdk_65_method_103_code 1 = .ok (.istore_n 2, 1) := by decide +kernel
theorem d_jdk_65_method_103_2 : decode jdk_65_method_103_code 2 = .ok (.aload_n 0, 1) := by decide +kernel
theorem d_jdk_65_method_103_3 : decode jdk_65_method_103_code 3 = .ok (.arraylength, 1) := by decide +kernel
theorem d_jdk_65_method_103_4 : decode jdk_65_method_103_code 4 = .ok (.istore_n 3, 1) := by decide +kernel
theorem d_jdk_65_method_103_5 : decode jdk_65_method_103_code 5 = .ok (.iload_n 2, 1) := by decide +kernel
theorem d_jdk_65_method_103_6 : decode jdk_65_method_103_code 6 = .ok (.iload_n 3, 1) := by decide +kernel
theorem d_jdk_65_method_103_7 : decode jdk_65_method_103_code 7 = .ok (.if_icmp .ge 13, 3) := by decide +kernel
theorem d_jdk_65_method_103_10 : decode jdk_65_method_103_code 10 = .ok (.aload_n 0, 1) := by decide +kernel
theorem d_jdk_65_method_103_11 : decode jdk_65_method_103_code 11 = .ok (.iload_n 2, 1) := by decide +kernel
theorem d_jdk_65_method_103_12 : decode jdk_65_method_103_code 12 = .ok (.iload_n 1, 1) := by decide +kernel
theorem d_jdk_65_method_103_13 : decode jdk_65_method_103_code 13 = .ok (.iastore, 1) := by decide +kernel
theorem d_jdk_65_method_103_14 : decode jdk_65_method_103_code 14 = .ok (.iinc 2 1, 3) := by decide +kernel
theorem d_jdk_65_method_103_17 : decode jdk_65_method_103_code 17 = .ok (.goto (-12), 3) := by decide +kernel
theorem d_jdk_65_method_103_20 : decode jdk_65_method_103_code 20 = .ok (.return_, 1) := by decide +kernel
theorem d_prog_102_method_3_0 : decode prog_102_method_3_code 0 = .ok (.aload_n 0, 1) := by decide +kernel
theorem d_prog_102_method_3_1 : decode prog_102_method_3_code 1 = .ok (.getfield 38, 3) := by decide +kernel
theorem d_prog_102_method_3_4 : decode prog_102_method_3_code 4 = .ok (.bipush 15, 2) := by decide +kernel
theorem d_prog_102_method_3_6 : decode prog_102_method_3_code 6 = .ok (.iushr, 1) := by decide +kernel
theorem d_prog_102_method_3_7 : decode prog_102_method_3_code 7 = .ok (.istore 4, 2) := by decide +kernel
theorem d_prog_102_method_3_9 : decode prog_102_method_3_code 9 = .ok (.aload_n 0, 1) := by decide +kernel
theorem d_prog_102_method_3_10 : decode prog_102_method_3_code 10 = .ok (.getfield 38, 3) := by decide +kernel
theorem d_prog_102_method_3_13 : decode prog_102_method_3_code 13 = .ok (.sipush 32767, 3) := by decide +kernel
theorem d_prog_102_method_3_16 : decode prog_102_method_3_code 16 = .ok (.iand, 1) := by decide +kernel
theorem d_prog_102_method_3_17 : decode prog_102_method_3_code 17 = .ok (.istore 5, 2) := by decide +kernel
theorem d_prog_102_method_3_19 : decode prog_102_method_3_code 19 = .ok (.iload 5, 2) := by decide +kernel
theorem d_prog_102_method_3_21 : decode prog_102_method_3_code 21 = .ok (.ifCond .ne 9, 3) := by decide +kernel
theorem d_prog_102_method_3_24 : decode prog_102_method_3_code 24 = .ok (.aload_n 0, 1) := by decide +kernel
theorem d_prog_102_method_3_25 : decode prog_102_method_3_code 25 = .ok (.iload 4, 2) := by decide +kernel
theorem d_prog_102_method_3_27 : decode prog_102_method_3_code 27 = .ok (.invokevirtual 42, 3) := by decide +kernel
theorem d_prog_102_method_3_30 : decode prog_102_method_3_code 30 = .ok (.aload_n 0, 1) := by decide +kernel
theorem d_prog_102_method_3_31 : decode prog_102_method_3_code 31 = .ok (.getfield 13, 3) := by decide +kernel
theorem d_prog_102_method_3_34 : decode prog_102_method_3_code 34 = .ok (.iload 4, 2) := by decide +kernel
theorem d_prog_102_method_3_36 : decode prog_102_method_3_code 36 = .ok (.aaload, 1) := by decide +kernel
theorem d_prog_102_method_3_37 : decode prog_102_method_3_code 37 = .ok (.iload 5, 2) := by decide +kernel
theorem d_prog_102_method_3_39 : decode prog_102_method_3_code 39 = .ok (.iload_n 1, 1) := by decide +kernel
theorem d_prog_102_method_3_40 : decode prog_102_method_3_code 40 = .ok (.iastore, 1) := by decide +kernel
theorem d_prog_102_method_3_41 : decode prog_102_method_3_code 41 = .ok (.aload_n 0, 1) := by decide +kernel
theorem d_prog_102_method_3_42 : decode prog_102_method_3_code 42 = .ok (.getfield 46, 3) := by decide +kernel
theorem d_prog_102_method_3_45 : decode prog_102_method_3_code 45 = .ok (.ifnonnull 36, 3) := by decide +kernel
theorem d_prog_102_method_3_48 : decode prog_102_method_3_code 48 = .ok (.aload_n 0, 1) := by decide +kernel
theorem d_prog_102_method_3_49 : decode prog_102_method_3_code 49 = .ok (.dload_n 2, 1) := by decide +kernel
theorem d_prog_102_method_3_50 : decode prog_102_method_3_code 50 = .ok (.invokevirtual 50, 3) := by decide +kernel
theorem d_prog_102_method_3_53 : decode prog_102_method_3_code 53 = .ok (.istore 6, 2) := by decide +kernel
theorem d_prog_102_method_3_55 : decode prog_102_method_3_code 55 = .ok (.iload 6, 2) := by decide +kernel
theorem d_prog_102_method_3_57 : decode prog_102_method_3_code 57 = .ok (.iconst (-1), 1) := by decide +kernel
theorem d_prog_102_method_3_58 : decode prog_102_method_3_code 58 = .ok (.if_icmp .ne 10, 3) := by decide +kernel
theorem d_prog_102_method_3_68 : decode prog_102_method_3_code 68 = .ok (.aload_n 0, 1) := by decide +kernel
theorem d_prog_102_method_3_69 : decode prog_102_method_3_code 69 = .ok (.getfield 19, 3) := by decide +kernel
theorem d_prog_102_method_3_72 : decode prog_102_method_3_code 72 = .ok (.iload 4, 2) := by decide +kernel
theorem d_prog_102_method_3_74 : decode prog_102_method_3_code 74 = .ok (.aaload, 1) := by decide +kernel
theorem d_prog_102_method_3_75 : decode prog_102_method_3_code 75 = .ok (.iload 5, 2) := by decide +kernel
theorem d_prog_102_method_3_77 : decode prog_102_method_3_code 77 = .ok (.iload 6, 2) := by decide +kernel
theorem d_prog_102_method_3_79 : decode prog_102_method_3_code 79 = .ok (.i2c, 1) := by decide +kernel
theorem d_prog_102_method_3_80 : decode prog_102_method_3_code 80 = .ok (.castore, 1) := by decide +kernel
theorem d_prog_102_method_3_81 : decode prog_102_method_3_code 81 = .ok (.aload_n 0, 1) := by decide +kernel
theorem d_prog_102_method_3_82 : decode prog_102_method_3_code 82 = .ok (.getfield 46, 3) := by decide +kernel
theorem d_prog_102_method_3_85 : decode prog_102_method_3_code 85 = .ok (.ifnull 14, 3) := by decide +kernel
theorem d_prog_102_method_3_99 : decode prog_102_method_3_code 99 = .ok (.aload_n 0, 1) := by decide +kernel
theorem d_prog_102_method_3_100 : decode prog_102_method_3_code 100 = .ok (.dup, 1) := by decide +kernel
theorem d_prog_102_method_3_101 : decode prog_102_method_3_code 101 = .ok (.getfield 38, 3) := by decide +kernel
theorem d_prog_102_method_3_104 : decode prog_102_method_3_code 104 = .ok (.iconst 1, 1) := by decide +kernel
theorem d_prog_102_method_3_105 : decode prog_102_method_3_code 105 = .ok (.iadd, 1) := by decide +kernel
theorem d_prog_102_method_3_106 : decode prog_102_method_3_code 106 = .ok (.putfield 38, 3) := by decide +kernel
theorem d_prog_102_method_3_109 : decode prog_102_method_3_code 109 = .ok (.return_, 1) := by decide +kernel
theorem d_prog_102_method_11_0 : decode prog_102_method_11_code 0 = .ok (.iload_n 1, 1) := by decide +kernel
theorem d_prog_102_method_11_1 : decode prog_102_method_11_code 1 = .ok (.aload_n 0, 1) := by decide +kernel
theorem d_prog_102_method_11_2 : decode prog_102_method_11_code 2 = .ok (.getfield 13, 3) := by decide +kernel
theorem d_prog_102_method_11_5 : decode prog_102_method_11_code 5 = .ok (.arraylength, 1) := by decide +kernel
theorem d_prog_102_method_11_6 : decode prog_102_method_11_code 6 = .ok (.if_icmp .ne 76, 3) := by decide +kernel
theorem d_prog_102_method_11_82 : decode prog_102_method_11_code 82 = .ok (.aload_n 0, 1) := by decide +kernel
theorem d_prog_102_method_11_83 : decode prog_102_method_11_code 83 = .ok (.getfield 13, 3) := by decide +kernel
theorem d_prog_102_method_11_86 : decode prog_102_method_11_code 86 = .ok (.iload_n 1, 1) := by decide +kernel
theorem d_prog_102_method_11_87 : decode prog_102_method_11_code 87 = .ok (.aaload, 1) := by decide +kernel
theorem d_prog_102_method_11_88 : decode prog_102_method_11_code 88 = .ok (.ifnonnull 13, 3) := by decide +kernel
theorem d_prog_102_method_11_91 : decode prog_102_method_11_code 91 = .ok (.aload_n 0, 1) := by decide +kernel
theorem d_prog_102_method_11_92 : decode prog_102_method_11_code 92 = .ok (.getfield 13, 3) := by decide +kernel
theorem d_prog_102_method_11_95 : decode prog_102_method_11_code 95 = .ok (.iload_n 1, 1) := by decide +kernel
theorem d_prog_102_method_11_96 : decode prog_102_method_11_code 96 = .ok (.ldc 70, 2) := by decide +kernel
theorem d_prog_102_method_11_98 : decode prog_102_method_11_code 98 = .ok (.newarray .int, 2) := by decide +kernel
theorem d_prog_102_method_11_100 : decode prog_102_method_11_code 100 = .ok (.aastore, 1) := by decide +kernel
theorem d_prog_102_method_11_101 : decode prog_102_method_11_code 101 = .ok (.aload_n 0, 1) := by decide +kernel
theorem d_prog_102_method_11_102 : decode prog_102_method_11_code 102 = .ok (.getfield 46, 3) := by decide +kernel
theorem d_prog_102_method_11_105 : decode prog_102_method_11_code 105 = .ok (.ifnonnull 22, 3) := by decide +kernel
theorem d_prog_102_method_11_108 : decode prog_102_method_11_code 108 = .ok (.aload_n 0, 1) := by decide +kernel
theorem d_prog_102_method_11_109 : decode prog_102_method_11_code 109 = .ok (.getfield 19, 3) := by decide +kernel
theorem d_prog_102_method_11_112 : decode prog_102_method_11_code 112 = .ok (.iload_n 1, 1) := by decide +kernel
theorem d_prog_102_method_11_113 : decode prog_102_method_11_code 113 = .ok (.aaload, 1) := by decide +kernel
theorem d_prog_102_method_11_114 : decode prog_102_method_11_code 114 = .ok (.ifnonnull 13, 3) := by decide +kernel
theorem d_prog_102_method_11_117 : decode prog_102_method_11_code 117 = .ok (.aload_n 0, 1) := by decide +kernel
theorem d_prog_102_method_11_118 : decode prog_102_method_11_code 118 = .ok (.getfield 19, 3) := by decide +kernel
theorem d_prog_102_method_11_121 : decode prog_102_method_11_code 121 = .ok (.iload_n 1, 1) := by decide +kernel
theorem d_prog_102_method_11_122 : decode prog_102_method_11_code 122 = .ok (.ldc 70, 2) := by decide +kernel
theorem d_prog_102_method_11_124 : decode prog_102_method_11_code 124 = .ok (.newarray .char, 2) := by decide +kernel
theorem d_prog_102_method_11_126 : decode prog_102_method_11_code 126 = .ok (.aastore, 1) := by decide +kernel
theorem d_prog_102_method_11_127 : decode prog_102_method_11_code 127 = .ok (.aload_n 0, 1) := by decide +kernel
theorem d_prog_102_method_11_128 : decode prog_102_method_11_code 128 = .ok (.getfield 46, 3) := by decide +kernel
theorem d_prog_102_method_11_131 : decode prog_102_method_11_code 131 = .ok (.ifnull 22, 3) := by decide +kernel
theorem d_prog_102_method_11_153 : decode prog_102_method_11_code 153 = .ok (.return_, 1) := by decide +kernel
theorem d_prog_102_method_12_0 : decode prog_102_method_12_code 0 = .ok (.dload_n 1, 1) := by decide +kernel
theorem d_prog_102_method_12_1 : decode prog_102_method_12_code 1 = .ok (.invokestatic 89, 3) := by decide +kernel
theorem d_prog_102_method_12_4 : decode prog_102_method_12_code 4 = .ok (.lstore_n 3, 1) := by decide +kernel
theorem d_prog_102_method_12_5 : decode prog_102_method_12_code 5 = .ok (.aload_n 0, 1) := by decide +kernel
theorem d_prog_102_method_12_6 : decode prog_102_method_12_code 6 = .ok (.getfield 27, 3) := by decide +kernel
theorem d_prog_102_method_12_9 : decode prog_102_method_12_code 9 = .ok (.arraylength, 1) := by decide +kernel
theorem d_prog_102_method_12_10 : decode prog_102_method_12_code 10 = .ok (.iconst 1, 1) := by decide +kernel
theorem d_prog_102_method_12_11 : decode prog_102_method_12_code 11 = .ok (.isub, 1) := by decide +kernel
theorem d_prog_102_method_12_12 : decode prog_102_method_12_code 12 = .ok (.istore 5, 2) := by decide +kernel
theorem d_prog_102_method_12_14 : decode prog_102_method_12_code 14 = .ok (.aload_n 0, 1) := by decide +kernel
theorem d_prog_102_method_12_15 : decode prog_102_method_12_code 15 = .ok (.lload_n 3, 1) := by decide +kernel
theorem d_prog_102_method_12_16 : decode prog_102_method_12_code 16 = .ok (.invokevirtual 95, 3) := by decide +kernel
theorem d_prog_102_method_12_19 : decode prog_102_method_12_code 19 = .ok (.istore 6, 2) := by decide +kernel
theorem d_prog_102_method_12_21 : decode prog_102_method_12_code 21 = .ok (.aload_n 0, 1) := by decide +kernel
theorem d_prog_102_method_12_22 : decode prog_102_method_12_code 22 = .ok (.getfield 35, 3) := by decide +kernel
theorem d_prog_102_method_12_25 : decode prog_102_method_12_code 25 = .ok (.iload 6, 2) := by decide +kernel
theorem d_prog_102_method_12_27 : decode prog_102_method_12_code 27 = .ok (.iaload, 1) := by decide +kernel
theorem d_prog_102_method_12_28 : decode prog_102_method_12_code 28 = .ok (.iconst (-1), 1) := by decide +kernel
theorem d_prog_102_method_12_29 : decode prog_102_method_12_code 29 = .ok (.if_icmp .eq 27, 3) := by decide +kernel
theorem d_prog_102_method_12_32 : decode prog_102_method_12_code 32 = .ok (.aload_n 0, 1) := by decide +kernel
theorem d_prog_102_method_12_33 : decode prog_102_method_12_code 33 = .ok (.getfield 27, 3) := by decide +kernel
theorem d_prog_102_method_12_36 : decode prog_102_method_12_code 36 = .ok (.iload 6, 2) := by decide +kernel
theorem d_prog_102_method_12_38 : decode prog_102_method_12_code 38 = .ok (.laload, 1) := by decide +kernel
theorem d_prog_102_method_12_39 : decode prog_102_method_12_code 39 = .ok (.lload_n 3, 1) := by decide +kernel
theorem d_prog_102_method_12_40 : decode prog_102_method_12_code 40 = .ok (.lcmp, 1) := by decide +kernel
theorem d_prog_102_method_12_41 : decode prog_102_method_12_code 41 = .ok (.ifCond .eq 15, 3) := by decide +kernel
theorem d_prog_102_method_12_44 : decode prog_102_method_12_code 44 = .ok (.iload 6, 2) := by decide +kernel
theorem d_prog_102_method_12_46 : decode prog_102_method_12_code 46 = .ok (.iconst 1, 1) := by decide +kernel
theorem d_prog_102_method_12_47 : decode prog_102_method_12_code 47 = .ok (.iadd, 1) := by decide +kernel
theorem d_prog_102_method_12_48 : decode prog_102_method_12_code 48 = .ok (.iload 5, 2) := by decide +kernel
theorem d_prog_102_method_12_50 : decode prog_102_method_12_code 50 = .ok (.iand, 1) := by decide +kernel
theorem d_prog_102_method_12_51 : decode prog_102_method_12_code 51 = .ok (.istore 6, 2) := by decide +kernel
theorem d_prog_102_method_12_53 : decode prog_102_method_12_code 53 = .ok (.goto (-32), 3) := by decide +kernel
theorem d_prog_102_method_12_56 : decode prog_102_method_12_code 56 = .ok (.aload_n 0, 1) := by decide +kernel
theorem d_prog_102_method_12_57 : decode prog_102_method_12_code 57 = .ok (.getfield 35, 3) := by decide +kernel
theorem d_prog_102_method_12_60 : decode prog_102_method_12_code 60 = .ok (.iload 6, 2) := by decide +kernel
theorem d_prog_102_method_12_62 : decode prog_102_method_12_code 62 = .ok (.iaload, 1) := by decide +kernel
theorem d_prog_102_method_12_63 : decode prog_102_method_12_code 63 = .ok (.istore 7, 2) := by decide +kernel
theorem d_prog_102_method_12_65 : decode prog_102_method_12_code 65 = .ok (.iload 7, 2) := by decide +kernel
theorem d_prog_102_method_12_67 : decode prog_102_method_12_code 67 = .ok (.iconst (-1), 1) := by decide +kernel
theorem d_prog_102_method_12_68 : decode prog_102_method_12_code 68 = .ok (.if_icmp .ne 93, 3) := by decide +kernel
theorem d_prog_102_method_12_71 : decode prog_102_method_12_code 71 = .ok (.aload_n 0, 1) := by decide +kernel
theorem d_prog_102_method_12_72 : decode prog_102_method_12_code 72 = .ok (.getfield 61, 3) := by decide +kernel
theorem d_prog_102_method_12_75 : decode prog_102_method_12_code 75 = .ok (.ldc 99, 2) := by decide +kernel
theorem d_prog_102_method_12_77 : decode prog_102_method_12_code 77 = .ok (.if_icmp .ge 84, 3) := by decide +kernel
theorem d_prog_102_method_12_80 : decode prog_102_method_12_code 80 = .ok (.aload_n 0, 1) := by decide +kernel
theorem d_prog_102_method_12_81 : decode prog_102_method_12_code 81 = .ok (.dup, 1) := by decide +kernel
theorem d_prog_102_method_12_82 : decode prog_102_method_12_code 82 = .ok (.getfield 61, 3) := by decide +kernel
theorem d_prog_102_method_12_85 : decode prog_102_method_12_code 85 = .ok (.dup_x1, 1) := by decide +kernel
theorem d_prog_102_method_12_86 : decode prog_102_method_12_code 86 = .ok (.iconst 1, 1) := by decide +kernel
theorem d_prog_102_method_12_87 : decode prog_102_method_12_code 87 = .ok (.iadd, 1) := by decide +kernel
theorem d_prog_102_method_12_88 : decode prog_102_method_12_code 88 = .ok (.putfield 61, 3) := by decide +kernel
theorem d_prog_102_method_12_91 : decode prog_102_method_12_code 91 = .ok (.istore 7, 2) := by decide +kernel
theorem d_prog_102_method_12_93 : decode prog_102_method_12_code 93 = .ok (.iload 7, 2) := by decide +kernel
theorem d_prog_102_method_12_95 : decode prog_102_method_12_code 95 = .ok (.aload_n 0, 1) := by decide +kernel
theorem d_prog_102_method_12_96 : decode prog_102_method_12_code 96 = .ok (.getfield 23, 3) := by decide +kernel
theorem d_prog_102_method_12_99 : decode prog_102_method_12_code 99 = .ok (.arraylength, 1) := by decide +kernel
theorem d_prog_102_method_12_100 : decode prog_102_method_12_code 100 = .ok (.if_icmp .ne 18, 3) := by decide +kernel
theorem d_prog_102_method_12_118 : decode prog_102_method_12_code 118 = .ok (.aload_n 0, 1) := by decide +kernel
theorem d_prog_102_method_12_119 : decode prog_102_method_12_code 119 = .ok (.getfield 23, 3) := by decide +kernel
theorem d_prog_102_method_12_122 : decode prog_102_method_12_code 122 = .ok (.iload 7, 2) := by decide +kernel
theorem d_prog_102_method_12_124 : decode prog_102_method_12_code 124 = .ok (.dload_n 1, 1) := by decide +kernel
theorem d_prog_102_method_12_125 : decode prog_102_method_12_code 125 = .ok (.dastore, 1) := by decide +kernel
theorem d_prog_102_method_12_126 : decode prog_102_method_12_code 126 = .ok (.aload_n 0, 1) := by decide +kernel
theorem d_prog_102_method_12_127 : decode prog_102_method_12_code 127 = .ok (.getfield 27, 3) := by decide +kernel
theorem d_prog_102_method_12_130 : decode prog_102_method_12_code 130 = .ok (.iload 6, 2) := by decide +kernel
theorem d_prog_102_method_12_132 : decode prog_102_method_12_code 132 = .ok (.lload_n 3, 1) := by decide +kernel
theorem d_prog_102_method_12_133 : decode prog_102_method_12_code 133 = .ok (.lastore, 1) := by decide +kernel
theorem d_prog_102_method_12_134 : decode prog_102_method_12_code 134 = .ok (.aload_n 0, 1) := by decide +kernel
theorem d_prog_102_method_12_135 : decode prog_102_method_12_code 135 = .ok (.getfield 35, 3) := by decide +kernel
theorem d_prog_102_method_12_138 : decode prog_102_method_12_code 138 = .ok (.iload 6, 2) := by decide +kernel
theorem d_prog_102_method_12_140 : decode prog_102_method_12_code 140 = .ok (.iload 7, 2) := by decide +kernel
theorem d_prog_102_method_12_142 : decode prog_102_method_12_code 142 = .ok (.iastore, 1) := by decide +kernel
theorem d_prog_102_method_12_143 : decode prog_102_method_12_code 143 = .ok (.iconst 2, 1) := by decide +kernel
theorem d_prog_102_method_12_144 : decode prog_102_method_12_code 144 = .ok (.aload_n 0, 1) := by decide +kernel
theorem d_prog_102_method_12_145 : decode prog_102_method_12_code 145 = .ok (.getfield 61, 3) := by decide +kernel
theorem d_prog_102_method_12_148 : decode prog_102_method_12_code 148 = .ok (.imul, 1) := by decide +kernel
theorem d_prog_102_method_12_149 : decode prog_102_method_12_code 149 = .ok (.aload_n 0, 1) := by decide +kernel
theorem d_prog_102_method_12_150 : decode prog_102_method_12_code 150 = .ok (.getfield 27, 3) := by decide +kernel
theorem d_prog_102_method_12_153 : decode prog_102_method_12_code 153 = .ok (.arraylength, 1) := by decide +kernel
theorem d_prog_102_method_12_154 : decode prog_102_method_12_code 154 = .ok (.if_icmp .le 7, 3) := by decide +kernel
theorem d_prog_102_method_12_161 : decode prog_102_method_12_code 161 = .ok (.iload 7, 2) := by decide +kernel
theorem d_prog_102_method_12_163 : decode prog_102_method_12_code 163 = .ok (.ireturn, 1) := by decide +kernel
theorem d_prog_102_method_13_0 : decode prog_102_method_13_code 0 = .ok (.lload_n 1, 1) := by decide +kernel
theorem d_prog_102_method_13_1 : decode prog_102_method_13_code 1 = .ok (.ldc2_w 103, 3) := by decide +kernel
theorem d_prog_102_method_13_4 : decode prog_102_method_13_code 4 = .ok (.lmul, 1) := by decide +kernel
theorem d_prog_102_method_13_5 : decode prog_102_method_13_code 5 = .ok (.bipush 64, 2) := by decide +kernel
theorem d_prog_102_method_13_7 : decode prog_102_method_13_code 7 = .ok (.aload_n 0, 1) := by decide +kernel
theorem d_prog_102_method_13_8 : decode prog_102_method_13_code 8 = .ok (.getfield 27, 3) := by decide +kernel
theorem d_prog_102_method_13_11 : decode prog_102_method_13_code 11 = .ok (.arraylength, 1) := by decide +kernel
theorem d_prog_102_method_13_12 : decode prog_102_method_13_code 12 = .ok (.invokestatic 107, 3) := by decide +kernel
theorem d_prog_102_method_13_15 : decode prog_102_method_13_code 15 = .ok (.isub, 1) := by decide +kernel
theorem d_prog_102_method_13_16 : decode prog_102_method_13_code 16 = .ok (.lushr, 1) := by decide +kernel
theorem d_prog_102_method_13_17 : decode prog_102_method_13_code 17 = .ok (.l2i, 1) := by decide +kernel
theorem d_prog_102_method_13_18 : decode prog_102_method_13_code 18 = .ok (.ireturn, 1) := by decide +kernel
theorem d_jdk_33_method_48_0 : decode jdk_33_method_48_code 0 = .ok (.iload_n 0, 1) := by decide +kernel
theorem d_jdk_33_method_48_1 : decode jdk_33_method_48_code 1 = .ok (.iconst (-1), 1) := by decide +kernel
theorem d_jdk_33_method_48_2 : decode jdk_33_method_48_code 2 = .ok (.ixor, 1) := by decide +kernel
theorem d_jdk_33_method_48_3 : decode jdk_33_method_48_code 3 = .ok (.iload_n 0, 1) := by decide +kernel
theorem d_jdk_33_method_48_4 : decode jdk_33_method_48_code 4 = .ok (.iconst 1, 1) := by decide +kernel
theorem d_jdk_33_method_48_5 : decode jdk_33_method_48_code 5 = .ok (.isub, 1) := by decide +kernel
theorem d_jdk_33_method_48_6 : decode jdk_33_method_48_code 6 = .ok (.iand, 1) := by decide +kernel
theorem d_jdk_33_method_48_7 : decode jdk_33_method_48_code 7 = .ok (.istore_n 0, 1) := by decide +kernel
theorem d_jdk_33_method_48_8 : decode jdk_33_method_48_code 8 = .ok (.iload_n 0, 1) := by decide +kernel
theorem d_jdk_33_method_48_9 : decode jdk_33_method_48_code 9 = .ok (.ifCond .gt 8, 3) := by decide +kernel
theorem d_jdk_33_method_48_17 : decode jdk_33_method_48_code 17 = .ok (.iconst 1, 1) := by decide +kernel
theorem d_jdk_33_method_48_18 : decode jdk_33_method_48_code 18 = .ok (.istore_n 1, 1) := by decide +kernel
theorem d_jdk_33_method_48_19 : decode jdk_33_method_48_code 19 = .ok (.iload_n 0, 1) := by decide +kernel
theorem d_jdk_33_method_48_20 : decode jdk_33_method_48_code 20 = .ok (.ldc_w 264, 3) := by decide +kernel
theorem d_jdk_33_method_48_23 : decode jdk_33_method_48_code 23 = .ok (.if_icmp .le 11, 3) := by decide +kernel
theorem d_jdk_33_method_48_34 : decode jdk_33_method_48_code 34 = .ok (.iload_n 0, 1) := by decide +kernel
theorem d_jdk_33_method_48_35 : decode jdk_33_method_48_code 35 = .ok (.sipush 256, 3) := by decide +kernel
theorem d_jdk_33_method_48_38 : decode jdk_33_method_48_code 38 = .ok (.if_icmp .le 11, 3) := by decide +kernel
theorem d_jdk_33_method_48_49 : decode jdk_33_method_48_code 49 = .ok (.iload_n 0, 1) := by decide +kernel
theorem d_jdk_33_method_48_50 : decode jdk_33_method_48_code 50 = .ok (.bipush 16, 2) := by decide +kernel
theorem d_jdk_33_method_48_52 : decode jdk_33_method_48_code 52 = .ok (.if_icmp .le 10, 3) := by decide +kernel
theorem d_jdk_33_method_48_55 : decode jdk_33_method_48_code 55 = .ok (.iinc 1 4, 3) := by decide +kernel
theorem d_jdk_33_method_48_58 : decode jdk_33_method_48_code 58 = .ok (.iload_n 0, 1) := by decide +kernel
theorem d_jdk_33_method_48_59 : decode jdk_33_method_48_code 59 = .ok (.iconst 4, 1) := by decide +kernel
theorem d_jdk_33_method_48_60 : decode jdk_33_method_48_code 60 = .ok (.iushr, 1) := by decide +kernel
theorem d_jdk_33_method_48_61 : decode jdk_33_method_48_code 61 = .ok (.istore_n 0, 1) := by decide +kernel
theorem d_jdk_33_method_48_62 : decode jdk_33_method_48_code 62 = .ok (.iload_n 0, 1) := by decide +kernel
theorem d_jdk_33_method_48_63 : decode jdk_33_method_48_code 63 = .ok (.iconst 4, 1) := by decide +kernel
theorem d_jdk_33_method_48_64 : decode jdk_33_method_48_code 64 = .ok (.if_icmp .le 10, 3) := by decide +kernel
theorem d_jdk_33_method_48_74 : decode jdk_33_method_48_code 74 = .ok (.iload_n 1, 1) := by decide +kernel
theorem d_jdk_33_method_48_75 : decode jdk_33_method_48_code 75 = .ok (.iload_n 0, 1) := by decide +kernel
theorem d_jdk_33_method_48_76 : decode jdk_33_method_48_code 76 = .ok (.iconst 1, 1) := by decide +kernel
theorem d_jdk_33_method_48_77 : decode jdk_33_method_48_code 77 = .ok (.iushr, 1) := by decide +kernel
theorem d_jdk_33_method_48_78 : decode jdk_33_method_48_code 78 = .ok (.iadd, 1) := by decide +kernel
theorem d_jdk_33_method_48_79 : decode jdk_33_method_48_code 79 = .ok (.ireturn, 1) := by decide +kernel
theorem d_prog_102_method_5_0 : decode prog_102_method_5_code 0 = .ok (.iload_n 1, 1) := by decide +kernel
theorem d_prog_102_method_5_1 : decode prog_102_method_5_code 1 = .ok (.bipush 15, 2) := by decide +kernel
theorem d_prog_102_method_5_3 : decode prog_102_method_5_code 3 = .ok (.iushr, 1) := by decide +kernel
theorem d_prog_102_method_5_4 : decode prog_102_method_5_code 4 = .ok (.istore_n 2, 1) := by decide +kernel
theorem d_prog_102_method_5_5 : decode prog_102_method_5_code 5 = .ok (.iload_n 1, 1) := by decide +kernel
theorem d_prog_102_method_5_6 : decode prog_102_method_5_code 6 = .ok (.sipush 32767, 3) := by decide +kernel
theorem d_prog_102_method_5_9 : decode prog_102_method_5_code 9 = .ok (.iand, 1) := by decide +kernel
theorem d_prog_102_method_5_10 : decode prog_102_method_5_code 10 = .ok (.istore_n 3, 1) := by decide +kernel
theorem d_prog_102_method_5_11 : decode prog_102_method_5_code 11 = .ok (.aload_n 0, 1) := by decide +kernel
theorem d_prog_102_method_5_12 : decode prog_102_method_5_code 12 = .ok (.getfield 46, 3) := by decide +kernel
theorem d_prog_102_method_5_15 : decode prog_102_method_5_code 15 = .ok (.ifnonnull 19, 3) := by decide +kernel
theorem d_prog_102_method_5_18 : decode prog_102_method_5_code 18 = .ok (.aload_n 0, 1) := by decide +kernel
theorem d_prog_102_method_5_19 : decode prog_102_method_5_code 19 = .ok (.getfield 23, 3) := by decide +kernel
theorem d_prog_102_method_5_22 : decode prog_102_method_5_code 22 = .ok (.aload_n 0, 1) := by decide +kernel
theorem d_prog_102_method_5_23 : decode prog_102_method_5_code 23 = .ok (.getfield 19, 3) := by decide +kernel
theorem d_prog_102_method_5_26 : decode prog_102_method_5_code 26 = .ok (.iload_n 2, 1) := by decide +kernel
theorem d_prog_102_method_5_27 : decode prog_102_method_5_code 27 = .ok (.aaload, 1) := by decide +kernel
theorem d_prog_102_method_5_28 : decode prog_102_method_5_code 28 = .ok (.iload_n 3, 1) := by decide +kernel
theorem d_prog_102_method_5_29 : decode prog_102_method_5_code 29 = .ok (.caload, 1) := by decide +kernel
theorem d_prog_102_method_5_30 : decode prog_102_method_5_code 30 = .ok (.daload, 1) := by decide +kernel
theorem d_prog_102_method_5_31 : decode prog_102_method_5_code 31 = .ok (.goto 11, 3) := by decide +kernel
theorem d_prog_102_method_5_42 : decode prog_102_method_5_code 42 = .ok (.dreturn, 1) := by decide +kernel
section OwnArr
variable {Z : State} {h h' : Heap} {a b : Addr} {ty : FieldType} {vs : List Value} {xs : List Int32} {ys : List Int64}
/-- the array at a holds just the values vs -/
def own_V (Z : State) (h : Heap) (a : Addr) (ty : FieldType) (vs : List Value) : Prop := ∃ c : Cell, Arr Z h a c ty ∧ c.slots.toList = vs ∧ vs.length < 2 ^ 31
theorem own_V_lt (F : own_V Z h a ty vs) : a < h.size := by obtain ⟨c, A, -⟩ := F; exact A.lt
theorem own_V_ext (F : own_V Z h a ty vs) (E : Ext h h') : own_V Z h' a ty vs := by obtain ⟨c, A, r⟩ := F; exact ⟨c, A.ext E, r⟩
theorem own_V_other {sl : Nat} {v : Value} (F : own_V Z h b ty vs) (W : Wr h h' a sl v) (q : b ≠ a) : own_V Z h' b ty vs := by obtain ⟨c, A, r⟩ := F; exact ⟨c, A.other W q, r⟩
theorem own_V_keep {ws : List Addr} (F : own_V Z h a ty vs) (K : Keep h h' ws) (q : a ∉ ws) : own_V Z h' a ty vs := by
  obtain ⟨c, A, r⟩ := F
  exact ⟨c, ⟨K.2.1 a c A.1 q, A.2⟩, r⟩
theorem own_V_set {j : Int32} {k : Nat} {v : Value} (F : own_V Z h a ty vs) (W : Wr h h' a j.toNatClampNeg v) (hj : j.toNatClampNeg = k) : own_V Z h' a ty (vs.set k v) := by
  obtain ⟨c, A, r, q⟩ := F
  subst hj r
  refine ⟨_, A.same W, ?_, ?_⟩
  · simp [Cell.setSlot]
  · rw [List.length_set]; exact q
theorem own_V_new {k : ClassId} {n : Int32} {m : Nat} (A : Arr Z h a (newA k ty n) ty) (hm : n.toNatClampNeg = m) (hn : m < 2 ^ 31) : own_V Z h a ty (List.replicate m (defaultValue ty)) := by
  subst hm
  refine ⟨_, A, by simp [newA], ?_⟩
  rw [List.length_replicate]; exact hn
theorem own_tn {j : Int32} (h0 : 0 ≤ j.toInt) : (j.toNatClampNeg : Int) = j.toInt := by
  show ((j.toInt.toNat : Nat) : Int) = j.toInt
  omega
theorem own_neg {j : Int32} (h0 : 0 ≤ j.toInt) : ¬ j < 0 := by
  rw [Int32.lt_iff_toInt_lt, show (0 : Int32).toInt = 0 from rfl]; omega
theorem own_hin {c : Cell} {j : Int32} (S : c.slots.toList = vs) (h0 : 0 ≤ j.toInt) (h1 : j.toInt < vs.length) : ¬ (j < 0 ∨ c.slots.size ≤ j.toNatClampNeg) := by
  have e := own_tn h0
  have e2 : c.slots.size = vs.length := by rw [← S]; simp
  intro q
  rcases q with q | q
  · exact own_neg h0 q
  · omega
theorem own_hink {c : Cell} {j : Int32} {k : Nat} (S : c.slots.toList = vs) (h0 : ¬ j < 0) (hj : j.toNatClampNeg = k) (hk : k < vs.length) : ¬ (j < 0 ∨ c.slots.size ≤ j.toNatClampNeg) := by
  have e2 : c.slots.size = vs.length := by rw [← S]; simp
  intro q
  rcases q with q | q
  · exact h0 q
  · omega
theorem own_hatk {c : Cell} {j : Int32} {k : Nat} {v : Value} (S : c.slots.toList = vs) (hj : j.toNatClampNeg = k) (hv : vs[k]? = some v) : c.slots[j.toNatClampNeg]? = some v := by
  rw [hj, ← hv, ← S]; simp
theorem own_hatkD {c : Cell} {j : Int32} {v : Value} (S : c.slots.toList = vs) (hv : vs[j.toNatClampNeg]? = some v) : c.slots[j.toNatClampNeg]? = some v := own_hatk S rfl hv
theorem own_hatI {c : Cell} {j : Int32} (S : c.slots.toList = xs.map Value.int) (h0 : 0 ≤ j.toInt) (h1 : j.toInt < xs.length) : c.slots[j.toNatClampNeg]? = some (.int (xs.getD j.toNatClampNeg 0)) := by
  have e := own_tn h0
  have hl : j.toNatClampNeg < xs.length := by omega
  refine own_hatk S rfl ?_
  simp [hl]
theorem own_hatJ {c : Cell} {j : Int32} (S : c.slots.toList = ys.map Value.long) (h0 : 0 ≤ j.toInt) (h1 : j.toInt < ys.length) : c.slots[j.toNatClampNeg]? = some (.long (ys.getD j.toNatClampNeg 0)) := by
  have e := own_tn h0
  have hl : j.toNatClampNeg < ys.length := by omega
  refine own_hatk S rfl ?_
  simp [hl]
theorem own_len {c : Cell} {n : Int32} (S : c.slots.toList = vs) (hn : n.toInt = vs.length) : c.slots.size.toInt32 = n := by
  have e2 : c.slots.size = vs.length := by rw [← S]; simp
  have e := own_tn (j := n) (by omega)
  refine len_of ?_ (own_neg (by omega))
  omega
end OwnArr
theorem own_ofN {d : Nat} (h : d < 2147483648) : (Int32.ofNat d).toInt = d := Int32.toInt_ofNat_of_lt (by omega)
theorem own_tnO {d : Nat} (h : d < 2147483648) : (Int32.ofNat d).toNatClampNeg = d := by
  have := own_tn (j := Int32.ofNat d) (by rw [own_ofN h]; omega)
  rw [own_ofN h] at this; omega
theorem own_ltO {d k : Nat} (h : d < 2147483648) (hk : k < 2147483648) : Int32.ofNat d < Int32.ofNat k ↔ d < k := by
  rw [Int32.lt_iff_toInt_lt, own_ofN h, own_ofN hk]; omega
theorem own_eqO {d k : Nat} (h : d < 2147483648) (hk : k < 2147483648) : Int32.ofNat d = Int32.ofNat k ↔ d = k := by
  rw [← Int32.toInt_inj, own_ofN h, own_ofN hk]; omega
theorem own_pred {d : Nat} (h1 : 1 ≤ d) : Int32.ofNat d - (1 : Int32) = Int32.ofNat (d - 1) := by
  have e : Int32.ofNat d = Int32.ofNat (d - 1) + (1 : Int32) := by
    rw [show (1 : Int32) = Int32.ofNat 1 from rfl, ← Int32.ofNat_add]; congr 1; omega
  rw [e, Int32.add_sub_cancel]
theorem own_addk (p k : Nat) : Int32.ofNat p + Int32.ofNat k = Int32.ofNat (p + k) := (Int32.ofNat_add p k).symm
theorem own_subk {p k : Nat} (h : k ≤ p) : Int32.ofNat p - Int32.ofNat k = Int32.ofNat (p - k) := by
  have e : Int32.ofNat p = Int32.ofNat (p - k) + Int32.ofNat k := by
    rw [own_addk]; congr 1; omega
  rw [e, Int32.add_sub_cancel]
theorem own_atI {xs : List Int32} {k : Nat} (h : k < xs.length) : (xs.map Value.int)[k]? = some (.int (xs.getD k 0)) := by simp [h]
theorem own_atJ {xs : List Int64} {k : Nat} (h : k < xs.length) : (xs.map Value.long)[k]? = some (.long (xs.getD k 0)) := by simp [h]
theorem own_toN {x : Int32} (h : 0 ≤ x.toInt) : x = Int32.ofNat x.toInt.toNat := by
  apply Int32.toInt_inj.mp
  have := x.toInt_lt
  rw [own_ofN (by omega)]; omega
theorem own_ni_0 {a : Addr} : a ∉ ([] : List Addr) := List.not_mem_nil
theorem own_ni_1 {a x : Addr} (h : a ≠ x) : a ∉ [x] := by simp [h]
theorem own_ni_2 {a x y : Addr} (h : a ≠ x) (h' : a ≠ y) : a ∉ [x, y] := by simp [h, h']
theorem own_ni_3 {a x y z : Addr} (h : a ≠ x) (h' : a ≠ y) (h'' : a ≠ z) : a ∉ [x, y, z] := by simp [h, h', h'']
theorem own_sub_0 {P : Addr → Prop} : ∀ x ∈ ([] : List Addr), P x := fun x h => absurd h List.not_mem_nil
theorem own_sub_1 {P : Addr → Prop} {a : Addr} (h : P a) : ∀ x ∈ [a], P x := fun x q => by
  obtain rfl : x = a := by simpa using q
  exact h
theorem own_rep {n j : Nat} {x : Int32} (h : j < n) : (List.replicate n x).getD j 0 = x := by simp [h]
theorem own_ni_4 {a x y z w : Addr} (h1 : a ≠ x) (h2 : a ≠ y) (h3 : a ≠ z) (h4 : a ≠ w) : a ∉ [x, y, z, w] := by simp [h1, h2, h3, h4]
section OwnDbl
variable {p : Program} {l : Launch} {e : Env} {R : Room} {s : State} {m : MethodId} {args : Array Value} {below : List Frame} {meth : Method} {c : Code} {T : State} {locs : List Loc} {cells slots : Nat}
theorem own_retD {k n : Nat} {Q : Option Value → Heap → List Loc → Prop} (X : Stand p l e R s m args below meth c T locs cells slots) (hx : p.tables.exec = Jvm.exec) {pc : Nat} {Ls : Array Slot} {z : UInt64} (hret : meth.sig.returnType = some .double) (hd : decode c.code pc = .ok (.dreturn, 1)) (hlk : meth.locks = false) (hk : cells ≤ k) (hn : slots ≤ n) (hq : Q (some (.double z)) T.heap locs) :
    own_G p e below s k n Q (T.setTop (mkF m pc Ls [.double z])) := by
  obtain ⟨fs, hr, hrun, hended, hW, hsame⟩ := X.leave (v := some (.double z)) (fun h => by rw [hret] at h; cases h) hlk
  refine ⟨T.setFrames fs, _, ?_, hrun, hended, _, _, rfl, hq, ⟨_, rfl⟩, hW, hsame.mono hk hn⟩
  have hm' : T.vm.method? m = some meth := X.method'
  show Steps p.tables e below (T.setTop { method := m, pc := pc, locals := Ls, stack := [.double z], locked := none }) _
  jvm_step X.here [X.here.top, hx, hd, hm', hret, narrow]
  first | (intro acts; rw [hr _ acts rfl rfl rfl]) | rw [hr _ _ rfl rfl rfl] | (refine ⟨meth, hm', ⟨_, hret, rfl⟩, fun acts => ?_⟩; rw [hr _ acts rfl rfl rfl])
  exact Steps.refl _
end OwnDbl

section OwnTL
variable {Z : State} {h h' : Heap} {a b : Addr} {ty : FieldType} {vs : List Value} {K : String}
/-- an array of arrays -/
def own_RA (Z : State) (h : Heap) (a : Addr) (ty : FieldType) (K : String) (vs : List Value) : Prop := ∃ c : Cell, Arr Z h a c (.array ty) ∧ OvrA Z c.cls ty K ∧ c.slots.toList = vs ∧ vs.length < 2 ^ 31
theorem own_RA_lt (F : own_RA Z h a ty K vs) : a < h.size := by obtain ⟨c, A, -⟩ := F; exact A.lt
theorem own_RA_ext (F : own_RA Z h a ty K vs) (E : Ext h h') : own_RA Z h' a ty K vs := by obtain ⟨c, A, r⟩ := F; exact ⟨c, A.ext E, r⟩
theorem own_RA_other {sl : Nat} {v : Value} (F : own_RA Z h b ty K vs) (W : Wr h h' a sl v) (q : b ≠ a) : own_RA Z h' b ty K vs := by obtain ⟨c, A, r⟩ := F; exact ⟨c, A.other W q, r⟩
theorem own_RA_keep {ws : List Addr} (F : own_RA Z h a ty K vs) (Kp : Keep h h' ws) (q : a ∉ ws) : own_RA Z h' a ty K vs := by
  obtain ⟨c, A, r⟩ := F
  exact ⟨c, ⟨Kp.2.1 a c A.1 q, A.2⟩, r⟩
theorem own_RA_set {j : Int32} {k : Nat} {v : Value} (F : own_RA Z h a ty K vs) (W : Wr h h' a j.toNatClampNeg v) (hj : j.toNatClampNeg = k) : own_RA Z h' a ty K (vs.set k v) := by
  obtain ⟨c, A, O, r, q⟩ := F
  subst hj r
  refine ⟨_, A.same W, O, ?_, ?_⟩
  · simp [Cell.setSlot]
  · rw [List.length_set]; exact q
theorem own_RA_new {k : ClassId} {n : Int32} {m : Nat} (A : Arr Z h a (newA k (.array ty) n) (.array ty)) (O : OvrA Z k ty K) (hm : n.toNatClampNeg = m) (hn : m < 2 ^ 31) : own_RA Z h a ty K (List.replicate m .null) := by
  subst hm
  refine ⟨_, A, O, by simp [newA, defaultValue], ?_⟩
  rw [List.length_replicate]; exact hn
/-- the list's own object -/
def own_O (Z : State) (h : Heap) (a : Addr) (k m : Nat) (tg ix tb ks ps : Addr) : Prop := Exa Z h a "com/example/knotweed/knotweed/engine/TransitionList" ∧ Fld Z h a "com/example/knotweed/knotweed/engine/TransitionList" "size" "I" (.int (Int32.ofNat k)) ∧ Fld Z h a "com/example/knotweed/knotweed/engine/TransitionList" "targets" "[[I" (.ref tg) ∧ Fld Z h a "com/example/knotweed/knotweed/engine/TransitionList" "indices" "[[C" (.ref ix) ∧ Fld Z h a "com/example/knotweed/knotweed/engine/TransitionList" "table" "[D" (.ref tb) ∧ Fld Z h a "com/example/knotweed/knotweed/engine/TransitionList" "keys" "[J" (.ref ks) ∧ Fld Z h a "com/example/knotweed/knotweed/engine/TransitionList" "places" "[I" (.ref ps) ∧ Fld Z h a "com/example/knotweed/knotweed/engine/TransitionList" "numbers" "[[D" .null ∧ Fld Z h a "com/example/knotweed/knotweed/engine/TransitionList" "distinct" "I" (.int (Int32.ofNat m))
theorem own_O_ext {k m : Nat} {tg ix tb ks ps : Addr} (O : own_O Z h a k m tg ix tb ks ps) (E : Ext h h') : own_O Z h' a k m tg ix tb ks ps := ⟨O.1.ext E, O.2.1.ext E, O.2.2.1.ext E, O.2.2.2.1.ext E, O.2.2.2.2.1.ext E, O.2.2.2.2.2.1.ext E, O.2.2.2.2.2.2.1.ext E, O.2.2.2.2.2.2.2.1.ext E, O.2.2.2.2.2.2.2.2.ext E⟩
theorem own_O_other {k m : Nat} {tg ix tb ks ps : Addr} {sl : Nat} {v : Value} (O : own_O Z h a k m tg ix tb ks ps) (W : Wr h h' b sl v) (q : a ≠ b) : own_O Z h' a k m tg ix tb ks ps := ⟨O.1.wr W, O.2.1.other W (Or.inl q), O.2.2.1.other W (Or.inl q), O.2.2.2.1.other W (Or.inl q), O.2.2.2.2.1.other W (Or.inl q), O.2.2.2.2.2.1.other W (Or.inl q), O.2.2.2.2.2.2.1.other W (Or.inl q), O.2.2.2.2.2.2.2.1.other W (Or.inl q), O.2.2.2.2.2.2.2.2.other W (Or.inl q)⟩
theorem own_O_keep {k m : Nat} {tg ix tb ks ps : Addr} {ws : List Addr} (O : own_O Z h a k m tg ix tb ks ps) (Kp : Keep h h' ws) (q : a ∉ ws) : own_O Z h' a k m tg ix tb ks ps := ⟨O.1.keep Kp, O.2.1.keep Kp q, O.2.2.1.keep Kp q, O.2.2.2.1.keep Kp q, O.2.2.2.2.1.keep Kp q, O.2.2.2.2.2.1.keep Kp q, O.2.2.2.2.2.2.1.keep Kp q, O.2.2.2.2.2.2.2.1.keep Kp q, O.2.2.2.2.2.2.2.2.keep Kp q⟩
end OwnTL
theorem own_O_size {Z : State} {h h' : Heap} {a : Addr} {a0 : Array Value} {k' : Nat} {k m : Nat} {tg ix tb ks ps : Addr} (hw : ∀ d ∈ tables_1, d.before a0 Z = true) (O : own_O Z h a k m tg ix tb ks ps) (W : Wr h h' a (Jvm.RoadKit.slotOf Z "com/example/knotweed/knotweed/engine/TransitionList" "size" "I") (.int (Int32.ofNat k'))) : own_O Z h' a k' m tg ix tb ks ps := ⟨O.1.wr W, O.2.1.same W, O.2.2.1.other W (Or.inr (slot_ne (t := (.array (.array .int))) (t' := .int) (Or.inl (hw _ (List.mem_of_getElem? (i := 12) rfl))) (Or.inl (hw _ (List.mem_of_getElem? (i := 39) rfl))) (by decide) (by decide) (by decide))), O.2.2.2.1.other W (Or.inr (slot_ne (t := (.array (.array .char))) (t' := .int) (Or.inl (hw _ (List.mem_of_getElem? (i := 16) rfl))) (Or.inl (hw _ (List.mem_of_getElem? (i := 39) rfl))) (by decide) (by decide) (by decide))), O.2.2.2.2.1.other W (Or.inr (slot_ne (t := (.array .double)) (t' := .int) (Or.inl (hw _ (List.mem_of_getElem? (i := 19) rfl))) (Or.inl (hw _ (List.mem_of_getElem? (i := 39) rfl))) (by decide) (by decide) (by decide))), O.2.2.2.2.2.1.other W (Or.inr (slot_ne (t := (.array .long)) (t' := .int) (Or.inl (hw _ (List.mem_of_getElem? (i := 22) rfl))) (Or.inl (hw _ (List.mem_of_getElem? (i := 39) rfl))) (by decide) (by decide) (by decide))), O.2.2.2.2.2.2.1.other W (Or.inr (slot_ne (t := (.array .int)) (t' := .int) (Or.inl (hw _ (List.mem_of_getElem? (i := 32) rfl))) (Or.inl (hw _ (List.mem_of_getElem? (i := 39) rfl))) (by decide) (by decide) (by decide))), O.2.2.2.2.2.2.2.1.other W (Or.inr (slot_ne (t := (.array (.array .double))) (t' := .int) (Or.inl (hw _ (List.mem_of_getElem? (i := 47) rfl))) (Or.inl (hw _ (List.mem_of_getElem? (i := 39) rfl))) (by decide) (by decide) (by decide))), O.2.2.2.2.2.2.2.2.other W (Or.inr (slot_ne (t := .int) (t' := .int) (Or.inl (hw _ (List.mem_of_getElem? (i := 69) rfl))) (Or.inl (hw _ (List.mem_of_getElem? (i := 39) rfl))) (by decide) (by decide) (by decide)))⟩
theorem own_O_distinct {Z : State} {h h' : Heap} {a : Addr} {a0 : Array Value} {m' : Nat} {k m : Nat} {tg ix tb ks ps : Addr} (hw : ∀ d ∈ tables_1, d.before a0 Z = true) (O : own_O Z h a k m tg ix tb ks ps) (W : Wr h h' a (Jvm.RoadKit.slotOf Z "com/example/knotweed/knotweed/engine/TransitionList" "distinct" "I") (.int (Int32.ofNat m'))) : own_O Z h' a k m' tg ix tb ks ps := ⟨O.1.wr W, O.2.1.other W (Or.inr (slot_ne (t := .int) (t' := .int) (Or.inl (hw _ (List.mem_of_getElem? (i := 39) rfl))) (Or.inl (hw _ (List.mem_of_getElem? (i := 69) rfl))) (by decide) (by decide) (by decide))), O.2.2.1.other W (Or.inr (slot_ne (t := (.array (.array .int))) (t' := .int) (Or.inl (hw _ (List.mem_of_getElem? (i := 12) rfl))) (Or.inl (hw _ (List.mem_of_getElem? (i := 69) rfl))) (by decide) (by decide) (by decide))), O.2.2.2.1.other W (Or.inr (slot_ne (t := (.array (.array .char))) (t' := .int) (Or.inl (hw _ (List.mem_of_getElem? (i := 16) rfl))) (Or.inl (hw _ (List.mem_of_getElem? (i := 69) rfl))) (by decide) (by decide) (by decide))), O.2.2.2.2.1.other W (Or.inr (slot_ne (t := (.array .double)) (t' := .int) (Or.inl (hw _ (List.mem_of_getElem? (i := 19) rfl))) (Or.inl (hw _ (List.mem_of_getElem? (i := 69) rfl))) (by decide) (by decide) (by decide))), O.2.2.2.2.2.1.other W (Or.inr (slot_ne (t := (.array .long)) (t' := .int) (Or.inl (hw _ (List.mem_of_getElem? (i := 22) rfl))) (Or.inl (hw _ (List.mem_of_getElem? (i := 69) rfl))) (by decide) (by decide) (by decide))), O.2.2.2.2.2.2.1.other W (Or.inr (slot_ne (t := (.array .int)) (t' := .int) (Or.inl (hw _ (List.mem_of_getElem? (i := 32) rfl))) (Or.inl (hw _ (List.mem_of_getElem? (i := 69) rfl))) (by decide) (by decide) (by decide))), O.2.2.2.2.2.2.2.1.other W (Or.inr (slot_ne (t := (.array (.array .double))) (t' := .int) (Or.inl (hw _ (List.mem_of_getElem? (i := 47) rfl))) (Or.inl (hw _ (List.mem_of_getElem? (i := 69) rfl))) (by decide) (by decide) (by decide))), O.2.2.2.2.2.2.2.2.same W⟩
theorem own_selP {Z s : State} {a0 args : Array Value} {y z : MethodName} (hZ : Z.Warmed39 s.vm) (wsel : (Jvm.Cond.selects y.cls z z).before a0 Z = true) (hzc : z.cls = y.cls) (hpriv : s.PrivateAt y) (hinst : (Jvm.Cond.instanceMethod y).before args s = true) (hy : y.cls ≠ "java/lang/invoke/MethodHandle" ∧ y.cls ≠ "java/lang/invoke/VarHandle") : (Jvm.Cond.selects y.cls y y).before args s = true := by
  obtain ⟨c, r, m, h1, h2, h3, h4, mk, h5, h6⟩ := Cond.selects_spec (mvT (args := args) hZ wsel)
  have h7 := findClass_of_methodNamed h3
  rw [hzc] at h7
  exact selects_self_of_private h7 h5 h6 hpriv hinst hy

theorem own_V_getsetI {xs : List Int32} {i j : Nat} {v : Int32} (h : i < xs.length) : (xs.set i v).getD j 0 = if j = i then v else xs.getD j 0 := by
  by_cases hj : j = i
  · subst hj; simp [h]
  · simp [hj, Ne.symm hj]
theorem own_V_getsetJ {xs : List Int64} {i j : Nat} {v : Int64} (h : i < xs.length) : (xs.set i v).getD j 0 = if j = i then v else xs.getD j 0 := by
  by_cases hj : j = i
  · subst hj; simp [h]
  · simp [hj, Ne.symm hj]
theorem own_V_getsetD {xs : List UInt64} {i j : Nat} {v : UInt64} (h : i < xs.length) : (xs.set i v).getD j 0 = if j = i then v else xs.getD j 0 := by
  by_cases hj : j = i
  · subst hj; simp [h]
  · simp [hj, Ne.symm hj]
theorem own_atD {xs : List UInt64} {k : Nat} (h : k < xs.length) : (xs.map Value.double)[k]? = some (.double (xs.getD k 0)) := by simp [h]
/-- the table of numbers: m of them; each taken slot holds one's place and bits; few slots are taken -/
def own_inv (m : Nat) (ds : List UInt64) (kv : List Int64) (pv : List Int32) : Prop :=
  ds.length = 16 ∧ kv.length = 32 ∧ pv.length = 32 ∧
  (∀ s, s < 32 → pv.getD s 0 = (-1 : Int32) ∨ ∃ j, j < m ∧ pv.getD s 0 = Int32.ofNat j ∧ kv.getD s 0 = (ds.getD j 0).toInt64) ∧
  ∃ occ : List Nat, occ.length ≤ m ∧ ∀ s, s < 32 → pv.getD s 0 ≠ (-1 : Int32) → s ∈ occ
theorem own_inv0 : own_inv 0 (List.replicate 16 0) (List.replicate 32 0) (List.replicate 32 (-1)) := by
  refine ⟨by simp, by simp, by simp, fun s hs => Or.inl (own_rep hs), [], by simp, fun s hs q => absurd (own_rep hs) q⟩
theorem own_free3 {occ : List Nat} (h : occ.length ≤ 3) (x : Nat) : ∃ t, t ≤ 3 ∧ (x + t) % 32 ∉ occ := by
  apply Classical.byContradiction
  intro hn
  have h0 : (x + 0) % 32 ∈ occ := Classical.byContradiction fun q => hn ⟨0, by omega, q⟩
  have h1 : (x + 1) % 32 ∈ occ := Classical.byContradiction fun q => hn ⟨1, by omega, q⟩
  have h2 : (x + 2) % 32 ∈ occ := Classical.byContradiction fun q => hn ⟨2, by omega, q⟩
  have h3 : (x + 3) % 32 ∈ occ := Classical.byContradiction fun q => hn ⟨3, by omega, q⟩
  match occ, h with
  | [], _ => exact absurd h0 List.not_mem_nil
  | [p], _ => simp at h0 h1; omega
  | [p, q], _ => simp at h0 h1 h2; omega
  | [p, q, r], _ => simp at h0 h1 h2 h3; omega
theorem own_free {m : Nat} {ds : List UInt64} {kv : List Int64} {pv : List Int32} (I : own_inv m ds kv pv) (hm : m ≤ 3) (x : Nat) : ∃ t, t ≤ 3 ∧ pv.getD ((x + t) % 32) 0 = (-1 : Int32) := by
  obtain ⟨-, -, -, -, occ, h1, h2⟩ := I
  obtain ⟨t, ht, q⟩ := own_free3 (occ := occ) (by omega) x
  exact ⟨t, ht, Classical.byContradiction fun z => q (h2 _ (Nat.mod_lt _ (by decide)) z)⟩
theorem own_inv_add {m x : Nat} {ds : List UInt64} {kv : List Int64} {pv : List Int32} {num : UInt64} (I : own_inv m ds kv pv) (hm : m ≤ 3) (hx : x < 32) : own_inv (m + 1) (ds.set m num) (kv.set x num.toInt64) (pv.set x (Int32.ofNat m)) := by
  obtain ⟨h1, h2, h3, h4, occ, h5, h6⟩ := I
  refine ⟨by simp [h1], by simp [h2], by simp [h3], fun s hs => ?_, x :: occ, by simp; omega, fun s hs q => ?_⟩
  · rw [own_V_getsetI (by omega), own_V_getsetJ (by omega)]
    by_cases hsx : s = x
    · rw [if_pos hsx, if_pos hsx]
      exact Or.inr ⟨m, by omega, rfl, by rw [own_V_getsetD (by omega), if_pos rfl]⟩
    · rw [if_neg hsx, if_neg hsx]
      rcases h4 s hs with q | ⟨j, q1, q2, q3⟩
      · exact Or.inl q
      · exact Or.inr ⟨j, by omega, q2, by rw [own_V_getsetD (by omega), if_neg (by omega)]; exact q3⟩
  · by_cases hsx : s = x
    · rw [hsx]; exact List.mem_cons_self
    · rw [own_V_getsetI (by omega), if_neg hsx] at q
      exact List.mem_cons_of_mem _ (h6 s hs q)
/-- the numbers so far, by their places -/
def own_C (k m : Nat) (ys : List Int32) (ds xs : List UInt64) : Prop := ∀ i, i < k → ∃ j, j < m ∧ ys.getD i 0 = Int32.ofNat j ∧ ds.getD j 0 = xs.getD i 0
theorem own_bits {x y : UInt64} (h : x.toInt64 = y.toInt64) : x = y := by
  have := congrArg Int64.toUInt64 h
  simpa using this
theorem own_nxt : ∀ x, x < 32 → ((Int32.ofNat x + (1 : Int32)) &&& ((32 : Int32) - (1 : Int32))) = Int32.ofNat ((x + 1) % 32) := by decide +kernel
theorem own_slot (key : Int64) : ∃ x : Nat, x < 32 ∧ (((key * (-7046029254386353131 : Int64)).toUInt64 >>> (((64 : Int32) - (5 : Int32)) &&& 0x3f).toInt64.toUInt64).toInt64).toInt32 = Int32.ofNat x := by
  have h1 := c_lushr (key * (-7046029254386353131 : Int64)) ((64 : Int32) - (5 : Int32)) 59 (by decide) (by decide)
  generalize (((key * (-7046029254386353131 : Int64)).toUInt64 >>> (((64 : Int32) - (5 : Int32)) &&& 0x3f).toInt64.toUInt64).toInt64) = y at *
  have h2 := c_l2i y
  have h3 := rng32 y.toInt32
  have h4 : 0 ≤ y.toInt ∧ y.toInt < 32 := by
    have e : ((2 ^ 59 : Nat) : Int) = 576460752303423488 := by decide
    rw [e] at h1
    omega
  exact ⟨y.toInt32.toInt.toNat, by omega, own_toN (by omega)⟩
/-- the whole list, with k numbers in it (1 ≤ k) -/
def own_LL (Z : State) (h : Heap) (n0 : Nat) (a : Addr) (k : Nat) (xs : List UInt64) : Prop :=
  ∃ (m : Nat) (tg ix tb ks ps t0 i0 : Addr) (zs : List Value) (ys : List Int32) (ds : List UInt64) (kv : List Int64) (pv : List Int32),
    own_O Z h a k m tg ix tb ks ps ∧ own_RA Z h tg .int "[I" (.ref t0 :: List.replicate 15 .null) ∧ own_RA Z h ix .char "[C" (.ref i0 :: List.replicate 15 .null) ∧
    own_V Z h t0 .int zs ∧ own_V Z h i0 .char (ys.map Value.int) ∧ own_V Z h tb .double (ds.map Value.double) ∧ own_V Z h ks .long (kv.map Value.long) ∧ own_V Z h ps .int (pv.map Value.int) ∧
    zs.length = 32768 ∧ ys.length = 32768 ∧ own_inv m ds kv pv ∧ m ≤ k ∧ own_C k m ys ds xs ∧
    n0 ≤ a ∧ a < tg ∧ tg < ix ∧ ix < tb ∧ tb < ks ∧ ks < ps ∧ ps < t0 ∧ t0 < i0
theorem own_C_add {k m m' j : Nat} {ys : List Int32} {ds ds' xs : List UInt64} (H : own_C k m ys ds xs) (hm : m ≤ m') (hk : k < ys.length) (hd : ∀ i, i < m → ds'.getD i 0 = ds.getD i 0) (hj : j < m') (hx : ds'.getD j 0 = xs.getD k 0) : own_C (k + 1) m' (ys.set k (Int32.ofNat j)) ds' xs := by
  intro i hi
  rw [own_V_getsetI hk]
  by_cases q : i = k
  · rw [if_pos q, q]; exact ⟨j, hj, rfl, hx⟩
  · rw [if_neg q]
    obtain ⟨j', h1, h2, h3⟩ := H i (by omega)
    exact ⟨j', by omega, h2, by rw [hd j' h1]; exact h3⟩

theorem own_fill {ys : List Int32} {i : Nat} {x : Int32} (h : i < ys.length) : (List.replicate i x ++ ys.drop i).set i x = List.replicate (i + 1) x ++ ys.drop (i + 1) := by
  have e : ys.drop i = ys[i] :: ys.drop (i + 1) := List.drop_eq_getElem_cons h
  rw [e, List.set_append_right _ _ (by simp), List.length_replicate, Nat.sub_self, List.set_cons_zero, List.replicate_succ', List.append_assoc]
  rfl
theorem own_fill_end {Z : State} {h : Heap} {d : Addr} {ys : List Int32} {i nn : Nat} {x : Int32} (hi : i = nn) (hl : ys.length = nn) (V : own_V Z h d .int ((List.replicate i x ++ ys.drop i).map Value.int)) : own_V Z h d .int ((List.replicate nn x).map Value.int) := by
  rw [hi, List.drop_eq_nil_of_le (by omega), List.append_nil] at V; exact V

theorem own_t31 : ((32 : Int32) ^^^ (-1 : Int32)) &&& ((32 : Int32) - (1 : Int32)) = (31 : Int32) := by decide

theorem own_sh15 : ∀ k, k < 4 → ((Int32.ofNat k).toUInt32 >>> ((15 : Int32) &&& 31).toUInt32).toInt32 = (0 : Int32) := by decide +kernel
theorem own_an15 : ∀ k, k < 4 → (Int32.ofNat k &&& (32767 : Int32)) = Int32.ofNat k := by decide +kernel
theorem own_i2c' : ∀ j, j < 5 → (Int32.ofNat j).toUInt32.toUInt16.toUInt32.toInt32 = Int32.ofNat j := by decide +kernel
theorem own_narC' : ∀ j, j < 5 → nar .char (Int32.ofNat j) = Int32.ofNat j := by decide +kernel

theorem own_nn (x : Int32) : Jvm.Free.Fl.NoNaN64 (FP.i2d x) := nn_w (i2d_w x)

theorem own_ef_own_rm_fill (m : MethodId) (x0 : Addr) (x1 : Int32) : entryFrame m #[(.ref x0), (.int x1)] 4 = mkF m 0 #[.val (.ref x0), .val (.int x1), .unset, .unset] [] := by first | (simp [entryFrame, mkF, argsToLocals, Value.category]; done) | rfl
def own_Q_fill (Z : State) (h0 : Heap) (n0 : Nat) (d : Addr) (x : Int32) (nn : Nat) (v : Option Value) (h : Heap) (L : List Loc) : Prop := v = none ∧ Fr n0 L ∧ Keep h0 h [d] ∧ own_V Z h d .int ((List.replicate nn x).map Value.int)
set_option maxRecDepth 65536 in
set_option maxHeartbeats 40000000 in
theorem own_rm_fill (l : Launch) (Z : State) (a0 : Array Value) (hw : ∀ d ∈ tables_1, d.before a0 Z = true) (ws : List Jvm.Cond) (d : Addr) (x : Int32) (h0 : Heap) (n0 : Nat) (Z0 : n0 ≤ h0.size) (ys : List Int32) (nn : Nat) (hnn : ys.length = nn) (hnb : nn < 2147483648) (V : own_V Z h0 d .int (ys.map Value.int)) (ga : n0 ≤ d) :
    MetFree l (⟨"java/util/Arrays", "fill", "([II)V"⟩ : MethodName) (head1 (Jvm.Cond.code (⟨"java/util/Arrays", "fill", "([II)V"⟩ : MethodName) jdk_65_method_103_code 4 none :: ws) ({ frames := 0, cells := 0, slots := 0, locals := 0 } : Room)) (fun aq Uq => aq = #[(.ref d), (.int x)] ∧ Z.Warmed39 Uq.vm ∧ Uq.heap = h0) (fun _ _ _ _ _ => True) (fun _ Uq oq Uq' => ∃ vq Lq, oq = .returned vq ∧ (own_Q_fill Z h0 n0 d x nn) vq Uq'.heap Lq ∧ FrameEnd Uq oq Uq' Lq ({ frames := 0, cells := 0, slots := 0, locals := 0 } : Room).cells ({ frames := 0, cells := 0, slots := 0, locals := 0 } : Room).slots) := by
  refine MetFree.of_bodySF (plainFor_of_name own_pn0) hisR ?_
  intro p e s m args below meth c s₁ Bd hml0 hP hK
  obtain ⟨rfl, hZ, hh⟩ := hP
  have hx := Bd.exec
  have hby := Bd.bytes
  have hml : c.maxLocals = 4 := hml0
  have hown : s.vm.findClass "java/util/Arrays" = some m.cls := findClass_of_methodNamed Bd.named
  have hnm := (name_of_methodNamed Bd.named Bd.method).1
  have X0 : Stand p l e ({ frames := 0, cells := 0, slots := 0, locals := 0 } : Room) s m #[(.ref d), (.int x)] below meth c s₁ [] 0 0 := Stand.of_body Bd
  have e0 : s₁.heap = h0 := by rw [← hh, Bd.state]; rfl
  have N0 := Fr.nil n0
  have hlk : meth.locks = false := by first | exact BodyLoose.notSynchronized Bd | exact Body.notSynchronized Bd
  obtain ⟨G, hG⟩ : ∃ G : State → Prop, G = own_G p e below s ({ frames := 0, cells := 0, slots := 0, locals := 0 } : Room).cells ({ frames := 0, cells := 0, slots := 0, locals := 0 } : Room).slots ((own_Q_fill Z h0 n0 d x nn)) := ⟨_, rfl⟩
  have go : ∀ {S S' : State}, (∀ t, Steps p.tables e below S' t → Steps p.tables e below S t) → G S' → G S := by rw [hG]; exact own_to
  suffices hs : G (s₁.setTop (mkF m 0 #[.val (.ref d), .val (.int x), .unset, .unset] [])) by
    rw [hG] at hs
    exact own_to (fun _ kont => castTop (own_ef_own_rm_fill m d x) kont) hs
  have hlp : ∀ (k i : Nat), nn - i < k → i ≤ nn → ∀ (T' : State) (h' : Heap) (ls : List Loc), own_V Z h' d .int ((List.replicate i x ++ ys.drop i).map Value.int) → Keep h0 h' [d] → Fr n0 ls → Stand p l e ({ frames := 0, cells := 0, slots := 0, locals := 0 } : Room) s m #[(.ref d), (.int x)] below meth c T' ls 0 0 → T'.heap = h' → G (T'.setTop (mkF m 5 #[.val (.ref d), .val (.int x), .val (.int (Int32.ofNat i)), .val (.int (Int32.ofNat nn))] [])) := by
    intro k
    induction k with
    | zero => intro i hk; omega
    | succ k ih =>
      intro i hk hi T' h' ls Vz K' N' X' e'
      have hll : (List.replicate i x ++ ys.drop i).length = nn := by simp; omega
      show G (T'.setTop (mkF m 5 #[.val (.ref d), .val (.int x), .val (.int (Int32.ofNat i)), .val (.int (Int32.ofNat nn))] []))
      refine go (fun _ kont => XS.iloadN X'.here hx rfl (hb hby d_jdk_65_method_103_5) rfl  kont) ?_
      show G (T'.setTop (mkF m 6 #[.val (.ref d), .val (.int x), .val (.int (Int32.ofNat i)), .val (.int (Int32.ofNat nn))] [(.int (Int32.ofNat i))]))
      refine go (fun _ kont => XS.iloadN X'.here hx rfl (hb hby d_jdk_65_method_103_6) rfl  kont) ?_
      show G (T'.setTop (mkF m 7 #[.val (.ref d), .val (.int x), .val (.int (Int32.ofNat i)), .val (.int (Int32.ofNat nn))] [(.int (Int32.ofNat nn)), (.int (Int32.ofNat i))]))
      by_cases hc7 : (Int32.ofNat i) < (Int32.ofNat nn)
      · refine go (fun _ kont => XS.icmpNo X'.here hx rfl (hb hby d_jdk_65_method_103_7) rfl (tlt hc7).2.1 kont) ?_
        show G (T'.setTop (mkF m 10 #[.val (.ref d), .val (.int x), .val (.int (Int32.ofNat i)), .val (.int (Int32.ofNat nn))] []))
        rw [own_ltO (by omega) (by omega)] at hc7
        refine go (fun _ kont => XS.aloadN X'.here hx rfl (hb hby d_jdk_65_method_103_10) rfl rfl kont) ?_
        show G (T'.setTop (mkF m 11 #[.val (.ref d), .val (.int x), .val (.int (Int32.ofNat i)), .val (.int (Int32.ofNat nn))] [(.ref d)]))
        refine go (fun _ kont => XS.iloadN X'.here hx rfl (hb hby d_jdk_65_method_103_11) rfl  kont) ?_
        show G (T'.setTop (mkF m 12 #[.val (.ref d), .val (.int x), .val (.int (Int32.ofNat i)), .val (.int (Int32.ofNat nn))] [(.int (Int32.ofNat i)), (.ref d)]))
        refine go (fun _ kont => XS.iloadN X'.here hx rfl (hb hby d_jdk_65_method_103_12) rfl  kont) ?_
        show G (T'.setTop (mkF m 13 #[.val (.ref d), .val (.int x), .val (.int (Int32.ofNat i)), .val (.int (Int32.ofNat nn))] [(.int x), (.int (Int32.ofNat i)), (.ref d)]))
        obtain ⟨cl, Ar, Sl, Ml⟩ := id Vz
        obtain ⟨T1, h1, X1, e1, W1, st1⟩ := stI X' hx hZ e' Ar (j := (Int32.ofNat i)) (own_hink Sl (own_neg (by rw [own_ofN (by omega)]; omega)) (k := i) (own_tnO (by omega)) (by rw [List.length_map]; omega)) (g := (mkF m 13 #[.val (.ref d), .val (.int x), .val (.int (Int32.ofNat i)), .val (.int (Int32.ofNat nn))] [(.int x), (.int (Int32.ofNat i)), (.ref d)])) rfl rfl (hb hby d_jdk_65_method_103_13)
        refine go st1 ?_
        show G (T1.setTop (mkF m 14 #[.val (.ref d), .val (.int x), .val (.int (Int32.ofNat i)), .val (.int (Int32.ofNat nn))] []))
        have V1 : own_V Z h1 d .int ((List.replicate (i + 1) x ++ ys.drop (i + 1)).map Value.int) := by rw [← own_fill (by omega), List.map_set]; exact own_V_set Vz W1 (own_tnO (by omega))
        have K1 := K'.wr W1 (Or.inl (List.mem_of_getElem? (i := 0) rfl))
        have N1 := Fr.snoc X1 N' ga
        refine go (fun _ kont => XS.iinc X1.here hx rfl (hb hby d_jdk_65_method_103_14) rfl (l' := #[.val (.ref d), .val (.int x), .val (.int ((Int32.ofNat i) + (1 : Int32))), .val (.int (Int32.ofNat nn))]) rfl kont) ?_
        show G (T1.setTop (mkF m 17 #[.val (.ref d), .val (.int x), .val (.int ((Int32.ofNat i) + (1 : Int32))), .val (.int (Int32.ofNat nn))] []))
        refine go (fun _ kont => XS.goto X1.here hx rfl (pc0 := 17) (pc' := 5) rfl (hb hby d_jdk_65_method_103_17) (by decide) (by decide) kont) ?_
        show G (T1.setTop (mkF m 5 #[.val (.ref d), .val (.int x), .val (.int ((Int32.ofNat i) + (1 : Int32))), .val (.int (Int32.ofNat nn))] []))
        rw [show Int32.ofNat i + (1 : Int32) = Int32.ofNat (i + 1) from own_addk i 1]
        exact ih (i + 1) (by omega) (by omega) _ _ _ V1 K1 N1 X1 e1
      · refine go (fun _ kont => XS.icmpYes X'.here hx rfl (pc0 := 7) (pc' := 20) rfl (hb hby d_jdk_65_method_103_7) rfl (flt hc7).2.1 (by decide) (by decide) kont) ?_
        show G (T'.setTop (mkF m 20 #[.val (.ref d), .val (.int x), .val (.int (Int32.ofNat i)), .val (.int (Int32.ofNat nn))] []))
        rw [own_ltO (by omega) (by omega)] at hc7
        rw [hG]
        exact own_retV X' hx Bd.returns (hb hby d_jdk_65_method_103_20) hlk (by decide) (by decide) (by rw [e']; exact ⟨rfl, N', K', own_fill_end (by omega) hnn Vz⟩)
  refine go (fun _ kont => XS.iconst X0.here hx rfl (hb hby d_jdk_65_method_103_0) kont) ?_
  show G (s₁.setTop (mkF m 1 #[.val (.ref d), .val (.int x), .unset, .unset] [(.int (0 : Int32))]))
  refine go (fun _ kont => XS.istoreN X0.here hx rfl (hb hby d_jdk_65_method_103_1) rfl (l' := #[.val (.ref d), .val (.int x), .val (.int (0 : Int32)), .unset]) rfl kont) ?_
  show G (s₁.setTop (mkF m 2 #[.val (.ref d), .val (.int x), .val (.int (0 : Int32)), .unset] []))
  refine go (fun _ kont => XS.aloadN X0.here hx rfl (hb hby d_jdk_65_method_103_2) rfl rfl kont) ?_
  show G (s₁.setTop (mkF m 3 #[.val (.ref d), .val (.int x), .val (.int (0 : Int32)), .unset] [(.ref d)]))
  obtain ⟨cl, Ar, Sl, Ml⟩ := id V
  refine go (fun _ kont => X0.arraylength hx (by rw [e0]; exact Ar.1) (State.isArrayOf_alike hZ.alike Ar.2.1) (g := (mkF m 3 #[.val (.ref d), .val (.int x), .val (.int (0 : Int32)), .unset] [(.ref d)])) rfl (rest := []) rfl (hb hby d_jdk_65_method_103_3) _ kont) ?_
  rw [own_len (n := Int32.ofNat nn) Sl (by rw [own_ofN (by omega), List.length_map]; omega)]
  show G (s₁.setTop (mkF m 4 #[.val (.ref d), .val (.int x), .val (.int (0 : Int32)), .unset] [(.int (Int32.ofNat nn))]))
  refine go (fun _ kont => XS.istoreN X0.here hx rfl (hb hby d_jdk_65_method_103_4) rfl (l' := #[.val (.ref d), .val (.int x), .val (.int (0 : Int32)), .val (.int (Int32.ofNat nn))]) rfl kont) ?_
  show G (s₁.setTop (mkF m 5 #[.val (.ref d), .val (.int x), .val (.int (0 : Int32)), .val (.int (Int32.ofNat nn))] []))
  exact hlp (nn + 1) 0 (by omega) (by omega) _ _ _ V (Keep.refl _ _) N0 X0 e0
theorem own_ef_own_rm_empty (m : MethodId) (x0 : Int32) : entryFrame m #[(.int x0)] 2 = mkF m 0 #[.val (.int x0), .unset] [] := by first | (simp [entryFrame, mkF, argsToLocals, Value.category]; done) | rfl
def own_Q_empty (Z : State) (h0 : Heap) (n0 : Nat)   (v : Option Value) (h : Heap) (L : List Loc) : Prop := ∃ b : Addr, v = some (.ref b) ∧ Fr n0 L ∧ Keep h0 h [] ∧ own_V Z h b .int ((List.replicate 32 (-1 : Int32)).map Value.int) ∧ h0.size ≤ b
set_option maxRecDepth 65536 in
set_option maxHeartbeats 40000000 in
theorem own_rm_empty (l : Launch) (Z : State) (a0 : Array Value) (hw : ∀ d ∈ tables_1, d.before a0 Z = true) (ws : List Jvm.Cond)  (h0 : Heap) (n0 : Nat) (Z0 : n0 ≤ h0.size)  :
    MetFree l (⟨"com/example/knotweed/knotweed/engine/TransitionList", "emptyPlaces", "(I)[I"⟩ : MethodName) (head1 (Jvm.Cond.code (⟨"com/example/knotweed/knotweed/engine/TransitionList", "emptyPlaces", "(I)[I"⟩ : MethodName) prog_102_method_15_code 2 (some (.array .int)) :: ws) ({ frames := 1, cells := 1, slots := 32, locals := 15 } : Room)) (fun aq Uq => aq = #[(.int (32 : Int32))] ∧ Z.Warmed39 Uq.vm ∧ Uq.heap = h0) (fun _ _ _ _ _ => True) (fun _ Uq oq Uq' => ∃ vq Lq, oq = .returned vq ∧ (own_Q_empty Z h0 n0 ) vq Uq'.heap Lq ∧ FrameEnd Uq oq Uq' Lq ({ frames := 1, cells := 1, slots := 32, locals := 15 } : Room).cells ({ frames := 1, cells := 1, slots := 32, locals := 15 } : Room).slots) := by
  refine MetFree.of_bodySF (plainFor_of_name own_pn1) hisR ?_
  intro p e s m args below meth c s₁ Bd hml0 hP hK
  obtain ⟨rfl, hZ, hh⟩ := hP
  have hx := Bd.exec
  have hby := Bd.bytes
  have hml : c.maxLocals = 2 := hml0
  have hown : s.vm.findClass "com/example/knotweed/knotweed/engine/TransitionList" = some m.cls := findClass_of_methodNamed Bd.named
  have hnm := (name_of_methodNamed Bd.named Bd.method).1
  have X0 : Stand p l e ({ frames := 1, cells := 1, slots := 32, locals := 15 } : Room) s m #[(.int (32 : Int32))] below meth c s₁ [] 0 0 := Stand.of_body Bd
  have e0 : s₁.heap = h0 := by rw [← hh, Bd.state]; rfl
  have N0 := Fr.nil n0
  have hlk : meth.locks = false := by first | exact BodyLoose.notSynchronized Bd | exact Body.notSynchronized Bd
  obtain ⟨G, hG⟩ : ∃ G : State → Prop, G = own_G p e below s ({ frames := 1, cells := 1, slots := 32, locals := 15 } : Room).cells ({ frames := 1, cells := 1, slots := 32, locals := 15 } : Room).slots ((own_Q_empty Z h0 n0 )) := ⟨_, rfl⟩
  have go : ∀ {S S' : State}, (∀ t, Steps p.tables e below S' t → Steps p.tables e below S t) → G S' → G S := by rw [hG]; exact own_to
  suffices hs : G (s₁.setTop (mkF m 0 #[.val (.int (32 : Int32)), .unset] [])) by
    rw [hG] at hs
    exact own_to (fun _ kont => castTop (own_ef_own_rm_empty m (32 : Int32)) kont) hs
  refine go (fun _ kont => XS.iloadN X0.here hx rfl (hb hby d_prog_102_method_15_0) rfl  kont) ?_
  show G (s₁.setTop (mkF m 1 #[.val (.int (32 : Int32)), .unset] [(.int (32 : Int32))]))
  obtain ⟨T1, h1, k1, X1, e1, E1, A1, st1⟩ := newP X0 hx hZ (hw _ (List.mem_of_getElem? (i := 26) rfl)) e0 (g := (mkF m 1 #[.val (.int (32 : Int32)), .unset] [(.int (32 : Int32))])) rfl (hb hby d_prog_102_method_15_1) rfl (by decide) (cap := 32) (by decide) (by decide) (by decide) (by decide)
  obtain ⟨b1, g1⟩ : ∃ z, z = h0.size := ⟨_, rfl⟩
  rw [← g1] at A1 st1
  refine go st1 ?_
  show G (T1.setTop (mkF m 3 #[.val (.int (32 : Int32)), .unset] [(.ref b1)]))
  have V1 : own_V Z h1 b1 .int ((List.replicate 32 (0 : Int32)).map Value.int) := own_V_new A1 (m := 32) (by decide) (by decide)
  have K1 : Keep h0 h1 [] := (Keep.refl h0 []).ext E1
  have Z1 : n0 ≤ h1.size := Nat.le_trans Z0 E1.1
  refine go (fun _ kont => XS.astoreN X1.here hx rfl (hb hby d_prog_102_method_15_3) rfl rfl (l' := #[.val (.int (32 : Int32)), .val (.ref b1)]) rfl kont) ?_
  show G (T1.setTop (mkF m 4 #[.val (.int (32 : Int32)), .val (.ref b1)] []))
  refine go (fun _ kont => XS.aloadN X1.here hx rfl (hb hby d_prog_102_method_15_4) rfl rfl kont) ?_
  show G (T1.setTop (mkF m 5 #[.val (.int (32 : Int32)), .val (.ref b1)] [(.ref b1)]))
  refine go (fun _ kont => XS.iconst X1.here hx rfl (hb hby d_prog_102_method_15_5) kont) ?_
  show G (T1.setTop (mkF m 6 #[.val (.int (32 : Int32)), .val (.ref b1)] [(.int (-1 : Int32)), (.ref b1)]))
  obtain ⟨_, _, ⟨T2, L2, k2, n2⟩, -, X2, ⟨Lc2, hQ2, l2, y2, z2⟩, st2⟩ := Jvm.LawKit.callS X1 hx (y := (⟨"java/util/Arrays", "fill", "([II)V"⟩ : MethodName)) hown (mvT hZ (hw _ (List.mem_of_getElem? (i := 27) rfl))) (mvT hZ (hw _ (List.mem_of_getElem? (i := 28) rfl))) (mvT hZ (hw _ (List.mem_of_getElem? (i := 29) rfl))) (mvT hZ (hw _ (List.mem_of_getElem? (i := 30) rfl))) (by decide) (backOf (W := 0) (own_rm_fill l Z a0 hw [] b1 (-1 : Int32) h1 n0 Z1 (List.replicate 32 0) 32 (by simp) (by decide) V1 (by omega)) hZ (hw _ (List.mem_of_getElem? (i := 30) rfl)) (hw _ (List.mem_of_getElem? (i := 29) rfl)) (by decide) (by decide)) (g := (mkF m 6 #[.val (.int (32 : Int32)), .val (.ref b1)] [(.int (-1 : Int32)), (.ref b1)])) rfl (by rw [hml]; rfl) (argsL := [(.ref b1), (.int (-1 : Int32))]) (rest := []) (lenOf own_pd0 rfl) rfl (by show 2 * 0 + _ ≤ _; exact Nat.le_of_eq rfl) (hb hby d_prog_102_method_15_6) (fun _ _ => ⟨rfl, e1, (by decide : 1 + 0 ≤ _), (by decide : 32 + 0 ≤ _)⟩)
  dsimp only [Pt.U, Pt.locs, Pt.cells, Pt.slots] at X2 l2 y2 z2 st2 hQ2
  subst l2 y2 z2
  obtain ⟨rfl, N2q, K2, V2⟩ := hQ2
  have N2 := Fr.app N0 N2q
  have e2 : T2.heap = T2.heap := rfl
  refine go st2 ?_
  show G (T2.setTop (mkF m 9 #[.val (.int (32 : Int32)), .val (.ref b1)] []))
  have KK : Keep h0 T2.heap [] := K1.trans K2 (own_sub_1 (Or.inr (by omega)))
  refine go (fun _ kont => XS.aloadN X2.here hx rfl (hb hby d_prog_102_method_15_9) rfl rfl kont) ?_
  show G (T2.setTop (mkF m 10 #[.val (.int (32 : Int32)), .val (.ref b1)] [(.ref b1)]))
  rw [hG]
  exact own_retA X2 hx rfl Bd.returns rfl (hb hby d_prog_102_method_15_10) hlk (by decide) (by decide) ⟨_, rfl, N2, KK, V2, by omega⟩
theorem own_ef_own_rm_ctor (m : MethodId) (x0 : Addr) : entryFrame m #[(.ref x0)] 1 = mkF m 0 #[.val (.ref x0)] [] := by first | (simp [entryFrame, mkF, argsToLocals, Value.category]; done) | rfl
def own_Q_ctor (Z : State) (h0 : Heap) (n0 : Nat) (a : Addr)  (v : Option Value) (h : Heap) (L : List Loc) : Prop := v = none ∧ Fr n0 L ∧ n0 ≤ h.size ∧ ∃ tg ix tb ks ps : Addr, own_O Z h a 0 0 tg ix tb ks ps ∧ own_RA Z h tg .int "[I" (List.replicate 16 .null) ∧ own_RA Z h ix .char "[C" (List.replicate 16 .null) ∧ own_V Z h tb .double ((List.replicate 16 (0 : UInt64)).map Value.double) ∧ own_V Z h ks .long ((List.replicate 32 (0 : Int64)).map Value.long) ∧ own_V Z h ps .int ((List.replicate 32 (-1 : Int32)).map Value.int) ∧ n0 ≤ a ∧ a < tg ∧ tg < ix ∧ ix < tb ∧ tb < ks ∧ ks < ps
set_option maxRecDepth 65536 in
set_option maxHeartbeats 40000000 in
theorem own_rm_ctor (l : Launch) (Z : State) (a0 : Array Value) (hw : ∀ d ∈ tables_1, d.before a0 Z = true) (ws : List Jvm.Cond) (a : Addr) (h0 : Heap) (n0 : Nat) (Z0 : n0 ≤ h0.size) (F0 : Fld Z h0 a "com/example/knotweed/knotweed/engine/TransitionList" "size" "I" (.int (0 : Int32))) (F1 : Fld Z h0 a "com/example/knotweed/knotweed/engine/TransitionList" "targets" "[[I" .null) (F2 : Fld Z h0 a "com/example/knotweed/knotweed/engine/TransitionList" "indices" "[[C" .null) (F3 : Fld Z h0 a "com/example/knotweed/knotweed/engine/TransitionList" "table" "[D" .null) (F4 : Fld Z h0 a "com/example/knotweed/knotweed/engine/TransitionList" "keys" "[J" .null) (F5 : Fld Z h0 a "com/example/knotweed/knotweed/engine/TransitionList" "places" "[I" .null) (F6 : Fld Z h0 a "com/example/knotweed/knotweed/engine/TransitionList" "numbers" "[[D" .null) (F7 : Fld Z h0 a "com/example/knotweed/knotweed/engine/TransitionList" "distinct" "I" (.int (0 : Int32))) (E0 : Exa Z h0 a "com/example/knotweed/knotweed/engine/TransitionList") (ga : n0 ≤ a) (hax : a < h0.size) :
    MetFree l (⟨"com/example/knotweed/knotweed/engine/TransitionList", "<init>", "()V"⟩ : MethodName) (head1 (Jvm.Cond.code (⟨"com/example/knotweed/knotweed/engine/TransitionList", "<init>", "()V"⟩ : MethodName) prog_102_method_1_code 1 none :: ws) ({ frames := 2, cells := 5, slots := 112, locals := 29 } : Room)) (fun aq Uq => aq = #[(.ref a)] ∧ Z.Warmed39 Uq.vm ∧ Uq.heap = h0) (fun _ _ _ _ _ => True) (fun _ Uq oq Uq' => ∃ vq Lq, oq = .returned vq ∧ (own_Q_ctor Z h0 n0 a) vq Uq'.heap Lq ∧ FrameEnd Uq oq Uq' Lq ({ frames := 2, cells := 5, slots := 112, locals := 29 } : Room).cells ({ frames := 2, cells := 5, slots := 112, locals := 29 } : Room).slots) := by
  refine MetFree.of_bodySF (plainFor_of_name own_pn1) hisR ?_
  intro p e s m args below meth c s₁ Bd hml0 hP hK
  obtain ⟨rfl, hZ, hh⟩ := hP
  have hx := Bd.exec
  have hby := Bd.bytes
  have hml : c.maxLocals = 1 := hml0
  have hown : s.vm.findClass "com/example/knotweed/knotweed/engine/TransitionList" = some m.cls := findClass_of_methodNamed Bd.named
  have hnm := (name_of_methodNamed Bd.named Bd.method).1
  have X0 : Stand p l e ({ frames := 2, cells := 5, slots := 112, locals := 29 } : Room) s m #[(.ref a)] below meth c s₁ [] 0 0 := Stand.of_body Bd
  have e0 : s₁.heap = h0 := by rw [← hh, Bd.state]; rfl
  have N0 := Fr.nil n0
  have hlk : meth.locks = false := by first | exact BodyLoose.notSynchronized Bd | exact Body.notSynchronized Bd
  obtain ⟨G, hG⟩ : ∃ G : State → Prop, G = own_G p e below s ({ frames := 2, cells := 5, slots := 112, locals := 29 } : Room).cells ({ frames := 2, cells := 5, slots := 112, locals := 29 } : Room).slots ((own_Q_ctor Z h0 n0 a)) := ⟨_, rfl⟩
  have go : ∀ {S S' : State}, (∀ t, Steps p.tables e below S' t → Steps p.tables e below S t) → G S' → G S := by rw [hG]; exact own_to
  suffices hs : G (s₁.setTop (mkF m 0 #[.val (.ref a)] [])) by
    rw [hG] at hs
    exact own_to (fun _ kont => castTop (own_ef_own_rm_ctor m a) kont) hs
  refine go (fun _ kont => XS.aloadN X0.here hx rfl (hb hby d_prog_102_method_1_0) rfl rfl kont) ?_
  show G (s₁.setTop (mkF m 1 #[.val (.ref a)] [(.ref a)]))
  obtain ⟨T1, X1, e1, st1⟩ := initO X0 hx hZ hown (hw _ (List.mem_of_getElem? (i := 6) rfl)) (hw _ (List.mem_of_getElem? (i := 7) rfl)) (hw _ (List.mem_of_getElem? (i := 8) rfl)) e0 (g := (mkF m 1 #[.val (.ref a)] [(.ref a)])) rfl (by rw [hml]; rfl) rfl (hb hby d_prog_102_method_1_1) (by decide) (W := 0) (by show 2 * 0 + _ ≤ _; exact Nat.le_of_eq rfl) (by decide)
  refine go st1 ?_
  show G (T1.setTop (mkF m 4 #[.val (.ref a)] []))
  refine go (fun _ kont => XS.aloadN X1.here hx rfl (hb hby d_prog_102_method_1_4) rfl rfl kont) ?_
  show G (T1.setTop (mkF m 5 #[.val (.ref a)] [(.ref a)]))
  refine go (fun _ kont => XS.bipush X1.here hx rfl (hb hby d_prog_102_method_1_5) kont) ?_
  show G (T1.setTop (mkF m 7 #[.val (.ref a)] [(.int (16 : Int32)), (.ref a)]))
  obtain ⟨T2, h2, k2, X2, e2, E2, A2, -, O2, st2⟩ := newRA X1 hx hZ hown (ty := .int) (C := "[I") (by decide +kernel) (hw _ (List.mem_of_getElem? (i := 9) rfl)) (hw _ (List.mem_of_getElem? (i := 10) rfl)) e1 (g := (mkF m 7 #[.val (.ref a)] [(.int (16 : Int32)), (.ref a)])) rfl (hb hby d_prog_102_method_1_7) rfl (by decide) (cap := 16) (by decide) (by decide) (by decide) (by decide) (ad := "[[I") (by decide +kernel)
  obtain ⟨b2, g2⟩ : ∃ z, z = h0.size := ⟨_, rfl⟩
  rw [← g2] at A2 st2
  have o_a_2 : a < b2 := by rw [g2]; exact F0.lt
  have F0_2 := F0.ext E2
  have F1_2 := F1.ext E2
  have F2_2 := F2.ext E2
  have F3_2 := F3.ext E2
  have F4_2 := F4.ext E2
  have F5_2 := F5.ext E2
  have F6_2 := F6.ext E2
  have F7_2 := F7.ext E2
  have E0_2 := E0.ext E2
  have Z2 : n0 ≤ h2.size := Nat.le_trans Z0 E2.1
  have R2 := own_RA_new A2 O2 (m := 16) (by decide) (by decide)
  refine go st2 ?_
  show G (T2.setTop (mkF m 10 #[.val (.ref a)] [(.ref b2), (.ref a)]))
  obtain ⟨T3, h3, X3, e3, W3, st3⟩ := putF X2 hx hZ hown (host := "") (Or.inl (hw _ (List.mem_of_getElem? (i := 11) rfl))) Via.refl e2 F1_2 E0_2 (Or.inl (hw _ (List.mem_of_getElem? (i := 12) rfl))) (hw _ (List.mem_of_getElem? (i := 1) rfl)) (ty := (.array (.array .int))) (by decide) rfl rfl (g := (mkF m 10 #[.val (.ref a)] [(.ref b2), (.ref a)])) rfl rfl (hb hby d_prog_102_method_1_10)
  refine go st3 ?_
  show G (T3.setTop (mkF m 13 #[.val (.ref a)] []))
  have N3 := Fr.snoc X3 N0 ga
  have Z3 : n0 ≤ h3.size := by rw [W3.size]; exact Z2
  have F0_3 := F0_2.other W3 (Or.inr (slot_ne (t := .int) (t' := (.array (.array .int))) (Or.inl (hw _ (List.mem_of_getElem? (i := 39) rfl))) (Or.inl (hw _ (List.mem_of_getElem? (i := 12) rfl))) (by decide) (by decide) (by decide)))
  have F2_3 := F2_2.other W3 (Or.inr (slot_ne (t := (.array (.array .char))) (t' := (.array (.array .int))) (Or.inl (hw _ (List.mem_of_getElem? (i := 16) rfl))) (Or.inl (hw _ (List.mem_of_getElem? (i := 12) rfl))) (by decide) (by decide) (by decide)))
  have F3_3 := F3_2.other W3 (Or.inr (slot_ne (t := (.array .double)) (t' := (.array (.array .int))) (Or.inl (hw _ (List.mem_of_getElem? (i := 19) rfl))) (Or.inl (hw _ (List.mem_of_getElem? (i := 12) rfl))) (by decide) (by decide) (by decide)))
  have F4_3 := F4_2.other W3 (Or.inr (slot_ne (t := (.array .long)) (t' := (.array (.array .int))) (Or.inl (hw _ (List.mem_of_getElem? (i := 22) rfl))) (Or.inl (hw _ (List.mem_of_getElem? (i := 12) rfl))) (by decide) (by decide) (by decide)))
  have F5_3 := F5_2.other W3 (Or.inr (slot_ne (t := (.array .int)) (t' := (.array (.array .int))) (Or.inl (hw _ (List.mem_of_getElem? (i := 32) rfl))) (Or.inl (hw _ (List.mem_of_getElem? (i := 12) rfl))) (by decide) (by decide) (by decide)))
  have F6_3 := F6_2.other W3 (Or.inr (slot_ne (t := (.array (.array .double))) (t' := (.array (.array .int))) (Or.inl (hw _ (List.mem_of_getElem? (i := 47) rfl))) (Or.inl (hw _ (List.mem_of_getElem? (i := 12) rfl))) (by decide) (by decide) (by decide)))
  have F7_3 := F7_2.other W3 (Or.inr (slot_ne (t := .int) (t' := (.array (.array .int))) (Or.inl (hw _ (List.mem_of_getElem? (i := 69) rfl))) (Or.inl (hw _ (List.mem_of_getElem? (i := 12) rfl))) (by decide) (by decide) (by decide)))
  have E0_3 := E0_2.wr W3
  have R2_3 := own_RA_other R2 W3 (Nat.ne_of_gt o_a_2)
  have Ftargets_3 := F1_2.same W3
  refine go (fun _ kont => XS.aloadN X3.here hx rfl (hb hby d_prog_102_method_1_13) rfl rfl kont) ?_
  show G (T3.setTop (mkF m 14 #[.val (.ref a)] [(.ref a)]))
  refine go (fun _ kont => XS.bipush X3.here hx rfl (hb hby d_prog_102_method_1_14) kont) ?_
  show G (T3.setTop (mkF m 16 #[.val (.ref a)] [(.int (16 : Int32)), (.ref a)]))
  obtain ⟨T4, h4, k4, X4, e4, E4, A4, -, O4, st4⟩ := newRA X3 hx hZ hown (ty := .char) (C := "[C") (by decide +kernel) (hw _ (List.mem_of_getElem? (i := 13) rfl)) (hw _ (List.mem_of_getElem? (i := 14) rfl)) e3 (g := (mkF m 16 #[.val (.ref a)] [(.int (16 : Int32)), (.ref a)])) rfl (hb hby d_prog_102_method_1_16) rfl (by decide) (cap := 16) (by decide) (by decide) (by decide) (by decide) (ad := "[[C") (by decide +kernel)
  obtain ⟨b4, g4⟩ : ∃ z, z = h3.size := ⟨_, rfl⟩
  rw [← g4] at A4 st4
  have o_a_4 : a < b4 := by rw [g4]; exact F0_3.lt
  have o_b2_4 : b2 < b4 := by rw [g4]; exact (own_RA_lt R2_3)
  have F0_4 := F0_3.ext E4
  have Ftargets_3_4 := Ftargets_3.ext E4
  have F2_4 := F2_3.ext E4
  have F3_4 := F3_3.ext E4
  have F4_4 := F4_3.ext E4
  have F5_4 := F5_3.ext E4
  have F6_4 := F6_3.ext E4
  have F7_4 := F7_3.ext E4
  have E0_4 := E0_3.ext E4
  have R2_4 := own_RA_ext R2_3 E4
  have Z4 : n0 ≤ h4.size := Nat.le_trans Z3 E4.1
  have R4 := own_RA_new A4 O4 (m := 16) (by decide) (by decide)
  refine go st4 ?_
  show G (T4.setTop (mkF m 19 #[.val (.ref a)] [(.ref b4), (.ref a)]))
  obtain ⟨T5, h5, X5, e5, W5, st5⟩ := putF X4 hx hZ hown (host := "") (Or.inl (hw _ (List.mem_of_getElem? (i := 15) rfl))) Via.refl e4 F2_4 E0_4 (Or.inl (hw _ (List.mem_of_getElem? (i := 16) rfl))) (hw _ (List.mem_of_getElem? (i := 1) rfl)) (ty := (.array (.array .char))) (by decide) rfl rfl (g := (mkF m 19 #[.val (.ref a)] [(.ref b4), (.ref a)])) rfl rfl (hb hby d_prog_102_method_1_19)
  refine go st5 ?_
  show G (T5.setTop (mkF m 22 #[.val (.ref a)] []))
  have N5 := Fr.snoc X5 N3 ga
  have Z5 : n0 ≤ h5.size := by rw [W5.size]; exact Z4
  have F0_5 := F0_4.other W5 (Or.inr (slot_ne (t := .int) (t' := (.array (.array .char))) (Or.inl (hw _ (List.mem_of_getElem? (i := 39) rfl))) (Or.inl (hw _ (List.mem_of_getElem? (i := 16) rfl))) (by decide) (by decide) (by decide)))
  have Ftargets_3_5 := Ftargets_3_4.other W5 (Or.inr (slot_ne (t := (.array (.array .int))) (t' := (.array (.array .char))) (Or.inl (hw _ (List.mem_of_getElem? (i := 12) rfl))) (Or.inl (hw _ (List.mem_of_getElem? (i := 16) rfl))) (by decide) (by decide) (by decide)))
  have F3_5 := F3_4.other W5 (Or.inr (slot_ne (t := (.array .double)) (t' := (.array (.array .char))) (Or.inl (hw _ (List.mem_of_getElem? (i := 19) rfl))) (Or.inl (hw _ (List.mem_of_getElem? (i := 16) rfl))) (by decide) (by decide) (by decide)))
  have F4_5 := F4_4.other W5 (Or.inr (slot_ne (t := (.array .long)) (t' := (.array (.array .char))) (Or.inl (hw _ (List.mem_of_getElem? (i := 22) rfl))) (Or.inl (hw _ (List.mem_of_getElem? (i := 16) rfl))) (by decide) (by decide) (by decide)))
  have F5_5 := F5_4.other W5 (Or.inr (slot_ne (t := (.array .int)) (t' := (.array (.array .char))) (Or.inl (hw _ (List.mem_of_getElem? (i := 32) rfl))) (Or.inl (hw _ (List.mem_of_getElem? (i := 16) rfl))) (by decide) (by decide) (by decide)))
  have F6_5 := F6_4.other W5 (Or.inr (slot_ne (t := (.array (.array .double))) (t' := (.array (.array .char))) (Or.inl (hw _ (List.mem_of_getElem? (i := 47) rfl))) (Or.inl (hw _ (List.mem_of_getElem? (i := 16) rfl))) (by decide) (by decide) (by decide)))
  have F7_5 := F7_4.other W5 (Or.inr (slot_ne (t := .int) (t' := (.array (.array .char))) (Or.inl (hw _ (List.mem_of_getElem? (i := 69) rfl))) (Or.inl (hw _ (List.mem_of_getElem? (i := 16) rfl))) (by decide) (by decide) (by decide)))
  have E0_5 := E0_4.wr W5
  have R2_5 := own_RA_other R2_4 W5 (Nat.ne_of_gt o_a_2)
  have R4_5 := own_RA_other R4 W5 (Nat.ne_of_gt o_a_4)
  have Findices_5 := F2_4.same W5
  refine go (fun _ kont => XS.aloadN X5.here hx rfl (hb hby d_prog_102_method_1_22) rfl rfl kont) ?_
  show G (T5.setTop (mkF m 23 #[.val (.ref a)] [(.ref a)]))
  refine go (fun _ kont => XS.bipush X5.here hx rfl (hb hby d_prog_102_method_1_23) kont) ?_
  show G (T5.setTop (mkF m 25 #[.val (.ref a)] [(.int (16 : Int32)), (.ref a)]))
  obtain ⟨T6, h6, k6, X6, e6, E6, A6, st6⟩ := newP X5 hx hZ (hw _ (List.mem_of_getElem? (i := 17) rfl)) e5 (g := (mkF m 25 #[.val (.ref a)] [(.int (16 : Int32)), (.ref a)])) rfl (hb hby d_prog_102_method_1_25) rfl (by decide) (cap := 16) (by decide) (by decide) (by decide) (by decide)
  obtain ⟨b6, g6⟩ : ∃ z, z = h5.size := ⟨_, rfl⟩
  rw [← g6] at A6 st6
  have o_a_6 : a < b6 := by rw [g6]; exact F0_5.lt
  have o_b2_6 : b2 < b6 := by rw [g6]; exact (own_RA_lt R2_5)
  have o_b4_6 : b4 < b6 := by rw [g6]; exact (own_RA_lt R4_5)
  have F0_6 := F0_5.ext E6
  have Ftargets_3_6 := Ftargets_3_5.ext E6
  have Findices_5_6 := Findices_5.ext E6
  have F3_6 := F3_5.ext E6
  have F4_6 := F4_5.ext E6
  have F5_6 := F5_5.ext E6
  have F6_6 := F6_5.ext E6
  have F7_6 := F7_5.ext E6
  have E0_6 := E0_5.ext E6
  have R2_6 := own_RA_ext R2_5 E6
  have R4_6 := own_RA_ext R4_5 E6
  have Z6 : n0 ≤ h6.size := Nat.le_trans Z5 E6.1
  have V6 : own_V Z h6 b6 .double ((List.replicate 16 (0 : UInt64)).map Value.double) := own_V_new A6 (m := 16) (by decide) (by decide)
  refine go st6 ?_
  show G (T6.setTop (mkF m 27 #[.val (.ref a)] [(.ref b6), (.ref a)]))
  obtain ⟨T7, h7, X7, e7, W7, st7⟩ := putF X6 hx hZ hown (host := "") (Or.inl (hw _ (List.mem_of_getElem? (i := 18) rfl))) Via.refl e6 F3_6 E0_6 (Or.inl (hw _ (List.mem_of_getElem? (i := 19) rfl))) (hw _ (List.mem_of_getElem? (i := 1) rfl)) (ty := (.array .double)) (by decide) rfl rfl (g := (mkF m 27 #[.val (.ref a)] [(.ref b6), (.ref a)])) rfl rfl (hb hby d_prog_102_method_1_27)
  refine go st7 ?_
  show G (T7.setTop (mkF m 30 #[.val (.ref a)] []))
  have N7 := Fr.snoc X7 N5 ga
  have Z7 : n0 ≤ h7.size := by rw [W7.size]; exact Z6
  have F0_7 := F0_6.other W7 (Or.inr (slot_ne (t := .int) (t' := (.array .double)) (Or.inl (hw _ (List.mem_of_getElem? (i := 39) rfl))) (Or.inl (hw _ (List.mem_of_getElem? (i := 19) rfl))) (by decide) (by decide) (by decide)))
  have Ftargets_3_7 := Ftargets_3_6.other W7 (Or.inr (slot_ne (t := (.array (.array .int))) (t' := (.array .double)) (Or.inl (hw _ (List.mem_of_getElem? (i := 12) rfl))) (Or.inl (hw _ (List.mem_of_getElem? (i := 19) rfl))) (by decide) (by decide) (by decide)))
  have Findices_5_7 := Findices_5_6.other W7 (Or.inr (slot_ne (t := (.array (.array .char))) (t' := (.array .double)) (Or.inl (hw _ (List.mem_of_getElem? (i := 16) rfl))) (Or.inl (hw _ (List.mem_of_getElem? (i := 19) rfl))) (by decide) (by decide) (by decide)))
  have F4_7 := F4_6.other W7 (Or.inr (slot_ne (t := (.array .long)) (t' := (.array .double)) (Or.inl (hw _ (List.mem_of_getElem? (i := 22) rfl))) (Or.inl (hw _ (List.mem_of_getElem? (i := 19) rfl))) (by decide) (by decide) (by decide)))
  have F5_7 := F5_6.other W7 (Or.inr (slot_ne (t := (.array .int)) (t' := (.array .double)) (Or.inl (hw _ (List.mem_of_getElem? (i := 32) rfl))) (Or.inl (hw _ (List.mem_of_getElem? (i := 19) rfl))) (by decide) (by decide) (by decide)))
  have F6_7 := F6_6.other W7 (Or.inr (slot_ne (t := (.array (.array .double))) (t' := (.array .double)) (Or.inl (hw _ (List.mem_of_getElem? (i := 47) rfl))) (Or.inl (hw _ (List.mem_of_getElem? (i := 19) rfl))) (by decide) (by decide) (by decide)))
  have F7_7 := F7_6.other W7 (Or.inr (slot_ne (t := .int) (t' := (.array .double)) (Or.inl (hw _ (List.mem_of_getElem? (i := 69) rfl))) (Or.inl (hw _ (List.mem_of_getElem? (i := 19) rfl))) (by decide) (by decide) (by decide)))
  have E0_7 := E0_6.wr W7
  have R2_7 := own_RA_other R2_6 W7 (Nat.ne_of_gt o_a_2)
  have R4_7 := own_RA_other R4_6 W7 (Nat.ne_of_gt o_a_4)
  have V6_7 := own_V_other V6 W7 (Nat.ne_of_gt o_a_6)
  have Ftable_7 := F3_6.same W7
  refine go (fun _ kont => XS.aloadN X7.here hx rfl (hb hby d_prog_102_method_1_30) rfl rfl kont) ?_
  show G (T7.setTop (mkF m 31 #[.val (.ref a)] [(.ref a)]))
  refine go (fun _ kont => XS.bipush X7.here hx rfl (hb hby d_prog_102_method_1_31) kont) ?_
  show G (T7.setTop (mkF m 33 #[.val (.ref a)] [(.int (32 : Int32)), (.ref a)]))
  obtain ⟨T8, h8, k8, X8, e8, E8, A8, st8⟩ := newP X7 hx hZ (hw _ (List.mem_of_getElem? (i := 20) rfl)) e7 (g := (mkF m 33 #[.val (.ref a)] [(.int (32 : Int32)), (.ref a)])) rfl (hb hby d_prog_102_method_1_33) rfl (by decide) (cap := 32) (by decide) (by decide) (by decide) (by decide)
  obtain ⟨b8, g8⟩ : ∃ z, z = h7.size := ⟨_, rfl⟩
  rw [← g8] at A8 st8
  have o_a_8 : a < b8 := by rw [g8]; exact F0_7.lt
  have o_b2_8 : b2 < b8 := by rw [g8]; exact (own_RA_lt R2_7)
  have o_b4_8 : b4 < b8 := by rw [g8]; exact (own_RA_lt R4_7)
  have o_b6_8 : b6 < b8 := by rw [g8]; exact (own_V_lt V6_7)
  have F0_8 := F0_7.ext E8
  have Ftargets_3_8 := Ftargets_3_7.ext E8
  have Findices_5_8 := Findices_5_7.ext E8
  have Ftable_7_8 := Ftable_7.ext E8
  have F4_8 := F4_7.ext E8
  have F5_8 := F5_7.ext E8
  have F6_8 := F6_7.ext E8
  have F7_8 := F7_7.ext E8
  have E0_8 := E0_7.ext E8
  have R2_8 := own_RA_ext R2_7 E8
  have R4_8 := own_RA_ext R4_7 E8
  have V6_8 := own_V_ext V6_7 E8
  have Z8 : n0 ≤ h8.size := Nat.le_trans Z7 E8.1
  have V8 : own_V Z h8 b8 .long ((List.replicate 32 (0 : Int64)).map Value.long) := own_V_new A8 (m := 32) (by decide) (by decide)
  refine go st8 ?_
  show G (T8.setTop (mkF m 35 #[.val (.ref a)] [(.ref b8), (.ref a)]))
  obtain ⟨T9, h9, X9, e9, W9, st9⟩ := putF X8 hx hZ hown (host := "") (Or.inl (hw _ (List.mem_of_getElem? (i := 21) rfl))) Via.refl e8 F4_8 E0_8 (Or.inl (hw _ (List.mem_of_getElem? (i := 22) rfl))) (hw _ (List.mem_of_getElem? (i := 1) rfl)) (ty := (.array .long)) (by decide) rfl rfl (g := (mkF m 35 #[.val (.ref a)] [(.ref b8), (.ref a)])) rfl rfl (hb hby d_prog_102_method_1_35)
  refine go st9 ?_
  show G (T9.setTop (mkF m 38 #[.val (.ref a)] []))
  have N9 := Fr.snoc X9 N7 ga
  have Z9 : n0 ≤ h9.size := by rw [W9.size]; exact Z8
  have F0_9 := F0_8.other W9 (Or.inr (slot_ne (t := .int) (t' := (.array .long)) (Or.inl (hw _ (List.mem_of_getElem? (i := 39) rfl))) (Or.inl (hw _ (List.mem_of_getElem? (i := 22) rfl))) (by decide) (by decide) (by decide)))
  have Ftargets_3_9 := Ftargets_3_8.other W9 (Or.inr (slot_ne (t := (.array (.array .int))) (t' := (.array .long)) (Or.inl (hw _ (List.mem_of_getElem? (i := 12) rfl))) (Or.inl (hw _ (List.mem_of_getElem? (i := 22) rfl))) (by decide) (by decide) (by decide)))
  have Findices_5_9 := Findices_5_8.other W9 (Or.inr (slot_ne (t := (.array (.array .char))) (t' := (.array .long)) (Or.inl (hw _ (List.mem_of_getElem? (i := 16) rfl))) (Or.inl (hw _ (List.mem_of_getElem? (i := 22) rfl))) (by decide) (by decide) (by decide)))
  have Ftable_7_9 := Ftable_7_8.other W9 (Or.inr (slot_ne (t := (.array .double)) (t' := (.array .long)) (Or.inl (hw _ (List.mem_of_getElem? (i := 19) rfl))) (Or.inl (hw _ (List.mem_of_getElem? (i := 22) rfl))) (by decide) (by decide) (by decide)))
  have F5_9 := F5_8.other W9 (Or.inr (slot_ne (t := (.array .int)) (t' := (.array .long)) (Or.inl (hw _ (List.mem_of_getElem? (i := 32) rfl))) (Or.inl (hw _ (List.mem_of_getElem? (i := 22) rfl))) (by decide) (by decide) (by decide)))
  have F6_9 := F6_8.other W9 (Or.inr (slot_ne (t := (.array (.array .double))) (t' := (.array .long)) (Or.inl (hw _ (List.mem_of_getElem? (i := 47) rfl))) (Or.inl (hw _ (List.mem_of_getElem? (i := 22) rfl))) (by decide) (by decide) (by decide)))
  have F7_9 := F7_8.other W9 (Or.inr (slot_ne (t := .int) (t' := (.array .long)) (Or.inl (hw _ (List.mem_of_getElem? (i := 69) rfl))) (Or.inl (hw _ (List.mem_of_getElem? (i := 22) rfl))) (by decide) (by decide) (by decide)))
  have E0_9 := E0_8.wr W9
  have R2_9 := own_RA_other R2_8 W9 (Nat.ne_of_gt o_a_2)
  have R4_9 := own_RA_other R4_8 W9 (Nat.ne_of_gt o_a_4)
  have V6_9 := own_V_other V6_8 W9 (Nat.ne_of_gt o_a_6)
  have V8_9 := own_V_other V8 W9 (Nat.ne_of_gt o_a_8)
  have Fkeys_9 := F4_8.same W9
  refine go (fun _ kont => XS.aloadN X9.here hx rfl (hb hby d_prog_102_method_1_38) rfl rfl kont) ?_
  show G (T9.setTop (mkF m 39 #[.val (.ref a)] [(.ref a)]))
  refine go (fun _ kont => XS.bipush X9.here hx rfl (hb hby d_prog_102_method_1_39) kont) ?_
  show G (T9.setTop (mkF m 41 #[.val (.ref a)] [(.int (32 : Int32)), (.ref a)]))
  obtain ⟨_, _, ⟨T10, L10, k10, n10⟩, -, X10, ⟨Lc10, hQ10, l10, y10, z10⟩, st10⟩ := Jvm.LawKit.callS X9 hx (y := (⟨"com/example/knotweed/knotweed/engine/TransitionList", "emptyPlaces", "(I)[I"⟩ : MethodName)) hown (mvT hZ (hw _ (List.mem_of_getElem? (i := 23) rfl))) (mvT hZ (hw _ (List.mem_of_getElem? (i := 24) rfl))) (mvT hZ (hw _ (List.mem_of_getElem? (i := 2) rfl))) (mvT hZ (hw _ (List.mem_of_getElem? (i := 25) rfl))) (by decide) (backOf (W := 1) (own_rm_empty l Z a0 hw [] h9 n0 Z9) hZ (hw _ (List.mem_of_getElem? (i := 25) rfl)) (hw _ (List.mem_of_getElem? (i := 2) rfl)) (by decide) (by decide)) (g := (mkF m 41 #[.val (.ref a)] [(.int (32 : Int32)), (.ref a)])) rfl (by rw [hml]; rfl) (argsL := [(.int (32 : Int32))]) (rest := [(.ref a)]) (lenOf own_pd1 rfl) rfl (by show 2 * 0 + _ ≤ _; exact Nat.le_of_eq rfl) (hb hby d_prog_102_method_1_41) (fun _ _ => ⟨rfl, e9, (by decide : 4 + 1 ≤ _), (by decide : 80 + 32 ≤ _)⟩)
  dsimp only [Pt.U, Pt.locs, Pt.cells, Pt.slots] at X10 l10 y10 z10 st10 hQ10
  subst l10 y10 z10
  obtain ⟨pb, rfl, N10q, K10, V10, hpb⟩ := hQ10
  have N10 := Fr.app N9 N10q
  have e10 : T10.heap = T10.heap := rfl
  refine go st10 ?_
  show G (T10.setTop (mkF m 44 #[.val (.ref a)] [(.ref pb), (.ref a)]))
  have o_a_pb : a < pb := Nat.lt_of_lt_of_le F0_9.lt hpb
  have o_b2_pb : b2 < pb := Nat.lt_of_lt_of_le (own_RA_lt R2_9) hpb
  have o_b4_pb : b4 < pb := Nat.lt_of_lt_of_le (own_RA_lt R4_9) hpb
  have o_b6_pb : b6 < pb := Nat.lt_of_lt_of_le (own_V_lt V6_9) hpb
  have o_b8_pb : b8 < pb := Nat.lt_of_lt_of_le (own_V_lt V8_9) hpb
  have F0_10 := F0_9.keep K10 (own_ni_0 )
  have Ftargets_3_10 := Ftargets_3_9.keep K10 (own_ni_0 )
  have Findices_5_10 := Findices_5_9.keep K10 (own_ni_0 )
  have Ftable_7_10 := Ftable_7_9.keep K10 (own_ni_0 )
  have Fkeys_9_10 := Fkeys_9.keep K10 (own_ni_0 )
  have F5_10 := F5_9.keep K10 (own_ni_0 )
  have F6_10 := F6_9.keep K10 (own_ni_0 )
  have F7_10 := F7_9.keep K10 (own_ni_0 )
  have E0_10 := E0_9.keep K10
  have R2_10 := own_RA_keep R2_9 K10 (own_ni_0 )
  have R4_10 := own_RA_keep R4_9 K10 (own_ni_0 )
  have V6_10 := own_V_keep V6_9 K10 (own_ni_0 )
  have V8_10 := own_V_keep V8_9 K10 (own_ni_0 )
  have Z10 : n0 ≤ T10.heap.size := Nat.le_trans Z9 K10.1
  obtain ⟨T11, h11, X11, e11, W11, st11⟩ := putF X10 hx hZ hown (host := "") (Or.inl (hw _ (List.mem_of_getElem? (i := 31) rfl))) Via.refl e10 F5_10 E0_10 (Or.inl (hw _ (List.mem_of_getElem? (i := 32) rfl))) (hw _ (List.mem_of_getElem? (i := 1) rfl)) (ty := (.array .int)) (by decide) rfl rfl (g := (mkF m 44 #[.val (.ref a)] [(.ref pb), (.ref a)])) rfl rfl (hb hby d_prog_102_method_1_44)
  refine go st11 ?_
  show G (T11.setTop (mkF m 47 #[.val (.ref a)] []))
  have N11 := Fr.snoc X11 N10 ga
  have Z11 : n0 ≤ h11.size := by rw [W11.size]; exact Z10
  have F0_11 := F0_10.other W11 (Or.inr (slot_ne (t := .int) (t' := (.array .int)) (Or.inl (hw _ (List.mem_of_getElem? (i := 39) rfl))) (Or.inl (hw _ (List.mem_of_getElem? (i := 32) rfl))) (by decide) (by decide) (by decide)))
  have Ftargets_3_11 := Ftargets_3_10.other W11 (Or.inr (slot_ne (t := (.array (.array .int))) (t' := (.array .int)) (Or.inl (hw _ (List.mem_of_getElem? (i := 12) rfl))) (Or.inl (hw _ (List.mem_of_getElem? (i := 32) rfl))) (by decide) (by decide) (by decide)))
  have Findices_5_11 := Findices_5_10.other W11 (Or.inr (slot_ne (t := (.array (.array .char))) (t' := (.array .int)) (Or.inl (hw _ (List.mem_of_getElem? (i := 16) rfl))) (Or.inl (hw _ (List.mem_of_getElem? (i := 32) rfl))) (by decide) (by decide) (by decide)))
  have Ftable_7_11 := Ftable_7_10.other W11 (Or.inr (slot_ne (t := (.array .double)) (t' := (.array .int)) (Or.inl (hw _ (List.mem_of_getElem? (i := 19) rfl))) (Or.inl (hw _ (List.mem_of_getElem? (i := 32) rfl))) (by decide) (by decide) (by decide)))
  have Fkeys_9_11 := Fkeys_9_10.other W11 (Or.inr (slot_ne (t := (.array .long)) (t' := (.array .int)) (Or.inl (hw _ (List.mem_of_getElem? (i := 22) rfl))) (Or.inl (hw _ (List.mem_of_getElem? (i := 32) rfl))) (by decide) (by decide) (by decide)))
  have F6_11 := F6_10.other W11 (Or.inr (slot_ne (t := (.array (.array .double))) (t' := (.array .int)) (Or.inl (hw _ (List.mem_of_getElem? (i := 47) rfl))) (Or.inl (hw _ (List.mem_of_getElem? (i := 32) rfl))) (by decide) (by decide) (by decide)))
  have F7_11 := F7_10.other W11 (Or.inr (slot_ne (t := .int) (t' := (.array .int)) (Or.inl (hw _ (List.mem_of_getElem? (i := 69) rfl))) (Or.inl (hw _ (List.mem_of_getElem? (i := 32) rfl))) (by decide) (by decide) (by decide)))
  have E0_11 := E0_10.wr W11
  have R2_11 := own_RA_other R2_10 W11 (Nat.ne_of_gt o_a_2)
  have R4_11 := own_RA_other R4_10 W11 (Nat.ne_of_gt o_a_4)
  have V6_11 := own_V_other V6_10 W11 (Nat.ne_of_gt o_a_6)
  have V8_11 := own_V_other V8_10 W11 (Nat.ne_of_gt o_a_8)
  have V10_11 := own_V_other V10 W11 (Nat.ne_of_gt o_a_pb)
  have Fplaces_11 := F5_10.same W11
  rw [hG]
  exact own_retV X11 hx Bd.returns (hb hby d_prog_102_method_1_47) hlk (by decide) (by decide) (by rw [e11]; exact ⟨rfl, N11, Z11, _, _, _, _, _, ⟨E0_11, F0_11, Ftargets_3_11, Findices_5_11, Ftable_7_11, Fkeys_9_11, Fplaces_11, F6_11, F7_11⟩, R2_11, R4_11, V6_11, V8_11, V10_11, ga, o_a_2, o_b2_4, o_b4_6, o_b6_8, o_b8_pb⟩)
theorem own_ef_own_rm_ntz (m : MethodId) (x0 : Int32) : entryFrame m #[(.int x0)] 2 = mkF m 0 #[.val (.int x0), .unset] [] := by first | (simp [entryFrame, mkF, argsToLocals, Value.category]; done) | rfl
set_option maxRecDepth 65536 in
set_option maxHeartbeats 40000000 in
theorem own_rm_ntz (l : Launch) (Z : State) (a0 : Array Value) (hw : ∀ d ∈ tables_1, d.before a0 Z = true) (ws : List Jvm.Cond)  (h0 : Heap) (n0 : Nat) (Z0 : n0 ≤ h0.size)  :
    MetFree l (⟨"java/lang/Integer", "numberOfTrailingZeros", "(I)I"⟩ : MethodName) (head1 (Jvm.Cond.code (⟨"java/lang/Integer", "numberOfTrailingZeros", "(I)I"⟩ : MethodName) jdk_33_method_48_code 2 (some .int) :: ws) ({ frames := 0, cells := 0, slots := 0, locals := 0 } : Room)) (fun aq Uq => aq = #[(.int (32 : Int32))] ∧ Z.Warmed39 Uq.vm ∧ Uq.heap = h0) (fun _ _ _ _ _ => True) (fun _ Uq oq Uq' => ∃ vq Lq, oq = .returned vq ∧ (own_Qp (some (.int (5 : Int32))) h0 n0) vq Uq'.heap Lq ∧ FrameEnd Uq oq Uq' Lq ({ frames := 0, cells := 0, slots := 0, locals := 0 } : Room).cells ({ frames := 0, cells := 0, slots := 0, locals := 0 } : Room).slots) := by
  refine MetFree.of_bodySF (plainFor_of_name own_pn2) hisR ?_
  intro p e s m args below meth c s₁ Bd hml0 hP hK
  obtain ⟨rfl, hZ, hh⟩ := hP
  have hx := Bd.exec
  have hby := Bd.bytes
  have hml : c.maxLocals = 2 := hml0
  have hown : s.vm.findClass "java/lang/Integer" = some m.cls := findClass_of_methodNamed Bd.named
  have hnm := (name_of_methodNamed Bd.named Bd.method).1
  have X0 : Stand p l e ({ frames := 0, cells := 0, slots := 0, locals := 0 } : Room) s m #[(.int (32 : Int32))] below meth c s₁ [] 0 0 := Stand.of_body Bd
  have e0 : s₁.heap = h0 := by rw [← hh, Bd.state]; rfl
  have N0 := Fr.nil n0
  have hlk : meth.locks = false := by first | exact BodyLoose.notSynchronized Bd | exact Body.notSynchronized Bd
  obtain ⟨G, hG⟩ : ∃ G : State → Prop, G = own_G p e below s ({ frames := 0, cells := 0, slots := 0, locals := 0 } : Room).cells ({ frames := 0, cells := 0, slots := 0, locals := 0 } : Room).slots ((own_Qp (some (.int (5 : Int32))) h0 n0)) := ⟨_, rfl⟩
  have go : ∀ {S S' : State}, (∀ t, Steps p.tables e below S' t → Steps p.tables e below S t) → G S' → G S := by rw [hG]; exact own_to
  suffices hs : G (s₁.setTop (mkF m 0 #[.val (.int (32 : Int32)), .unset] [])) by
    rw [hG] at hs
    exact own_to (fun _ kont => castTop (own_ef_own_rm_ntz m (32 : Int32)) kont) hs
  refine go (fun _ kont => XS.iloadN X0.here hx rfl (hb hby d_jdk_33_method_48_0) rfl  kont) ?_
  show G (s₁.setTop (mkF m 1 #[.val (.int (32 : Int32)), .unset] [(.int (32 : Int32))]))
  refine go (fun _ kont => XS.iconst X0.here hx rfl (hb hby d_jdk_33_method_48_1) kont) ?_
  show G (s₁.setTop (mkF m 2 #[.val (.int (32 : Int32)), .unset] [(.int (-1 : Int32)), (.int (32 : Int32))]))
  refine go (fun _ kont => XS.ixor X0.here hx rfl (hb hby d_jdk_33_method_48_2) rfl kont) ?_
  show G (s₁.setTop (mkF m 3 #[.val (.int (32 : Int32)), .unset] [(.int ((32 : Int32) ^^^ (-1 : Int32)))]))
  refine go (fun _ kont => XS.iloadN X0.here hx rfl (hb hby d_jdk_33_method_48_3) rfl  kont) ?_
  show G (s₁.setTop (mkF m 4 #[.val (.int (32 : Int32)), .unset] [(.int (32 : Int32)), (.int ((32 : Int32) ^^^ (-1 : Int32)))]))
  refine go (fun _ kont => XS.iconst X0.here hx rfl (hb hby d_jdk_33_method_48_4) kont) ?_
  show G (s₁.setTop (mkF m 5 #[.val (.int (32 : Int32)), .unset] [(.int (1 : Int32)), (.int (32 : Int32)), (.int ((32 : Int32) ^^^ (-1 : Int32)))]))
  refine go (fun _ kont => XS.isub X0.here hx rfl (hb hby d_jdk_33_method_48_5) rfl kont) ?_
  show G (s₁.setTop (mkF m 6 #[.val (.int (32 : Int32)), .unset] [(.int ((32 : Int32) - (1 : Int32))), (.int ((32 : Int32) ^^^ (-1 : Int32)))]))
  refine go (fun _ kont => XS.iand X0.here hx rfl (hb hby d_jdk_33_method_48_6) rfl kont) ?_
  show G (s₁.setTop (mkF m 7 #[.val (.int (32 : Int32)), .unset] [(.int (((32 : Int32) ^^^ (-1 : Int32)) &&& ((32 : Int32) - (1 : Int32))))]))
  rw [own_t31]
  show G (s₁.setTop (mkF m 7 #[.val (.int (32 : Int32)), .unset] [(.int (31 : Int32))]))
  refine go (fun _ kont => XS.istoreN X0.here hx rfl (hb hby d_jdk_33_method_48_7) rfl (l' := #[.val (.int (31 : Int32)), .unset]) rfl kont) ?_
  show G (s₁.setTop (mkF m 8 #[.val (.int (31 : Int32)), .unset] []))
  refine go (fun _ kont => XS.iloadN X0.here hx rfl (hb hby d_jdk_33_method_48_8) rfl  kont) ?_
  show G (s₁.setTop (mkF m 9 #[.val (.int (31 : Int32)), .unset] [(.int (31 : Int32))]))
  refine go (fun _ kont => XS.ifYes X0.here hx rfl (pc0 := 9) (pc' := 17) rfl (hb hby d_jdk_33_method_48_9) rfl ((if0 _ _).trans (tlt (by decide)).2.2.1) (by decide) (by decide) kont) ?_
  show G (s₁.setTop (mkF m 17 #[.val (.int (31 : Int32)), .unset] []))
  refine go (fun _ kont => XS.iconst X0.here hx rfl (hb hby d_jdk_33_method_48_17) kont) ?_
  show G (s₁.setTop (mkF m 18 #[.val (.int (31 : Int32)), .unset] [(.int (1 : Int32))]))
  refine go (fun _ kont => XS.istoreN X0.here hx rfl (hb hby d_jdk_33_method_48_18) rfl (l' := #[.val (.int (31 : Int32)), .val (.int (1 : Int32))]) rfl kont) ?_
  show G (s₁.setTop (mkF m 19 #[.val (.int (31 : Int32)), .val (.int (1 : Int32))] []))
  refine go (fun _ kont => XS.iloadN X0.here hx rfl (hb hby d_jdk_33_method_48_19) rfl  kont) ?_
  show G (s₁.setTop (mkF m 20 #[.val (.int (31 : Int32)), .val (.int (1 : Int32))] [(.int (31 : Int32))]))
  refine go (fun _ kont => X0.ldcWInt hx hown (mvT hZ (hw _ (List.mem_of_getElem? (i := 67) rfl))) (g := (mkF m 20 #[.val (.int (31 : Int32)), .val (.int (1 : Int32))] [(.int (31 : Int32))])) rfl (hb hby d_jdk_33_method_48_20) _ kont) ?_
  show G (s₁.setTop (mkF m 23 #[.val (.int (31 : Int32)), .val (.int (1 : Int32))] [(.int (65536 : Int32)), (.int (31 : Int32))]))
  refine go (fun _ kont => XS.icmpYes X0.here hx rfl (pc0 := 23) (pc' := 34) rfl (hb hby d_jdk_33_method_48_23) rfl (flt (by decide)).2.2.2 (by decide) (by decide) kont) ?_
  show G (s₁.setTop (mkF m 34 #[.val (.int (31 : Int32)), .val (.int (1 : Int32))] []))
  refine go (fun _ kont => XS.iloadN X0.here hx rfl (hb hby d_jdk_33_method_48_34) rfl  kont) ?_
  show G (s₁.setTop (mkF m 35 #[.val (.int (31 : Int32)), .val (.int (1 : Int32))] [(.int (31 : Int32))]))
  refine go (fun _ kont => XS.sipush X0.here hx rfl (hb hby d_jdk_33_method_48_35) kont) ?_
  show G (s₁.setTop (mkF m 38 #[.val (.int (31 : Int32)), .val (.int (1 : Int32))] [(.int (256 : Int32)), (.int (31 : Int32))]))
  refine go (fun _ kont => XS.icmpYes X0.here hx rfl (pc0 := 38) (pc' := 49) rfl (hb hby d_jdk_33_method_48_38) rfl (flt (by decide)).2.2.2 (by decide) (by decide) kont) ?_
  show G (s₁.setTop (mkF m 49 #[.val (.int (31 : Int32)), .val (.int (1 : Int32))] []))
  refine go (fun _ kont => XS.iloadN X0.here hx rfl (hb hby d_jdk_33_method_48_49) rfl  kont) ?_
  show G (s₁.setTop (mkF m 50 #[.val (.int (31 : Int32)), .val (.int (1 : Int32))] [(.int (31 : Int32))]))
  refine go (fun _ kont => XS.bipush X0.here hx rfl (hb hby d_jdk_33_method_48_50) kont) ?_
  show G (s₁.setTop (mkF m 52 #[.val (.int (31 : Int32)), .val (.int (1 : Int32))] [(.int (16 : Int32)), (.int (31 : Int32))]))
  refine go (fun _ kont => XS.icmpNo X0.here hx rfl (hb hby d_jdk_33_method_48_52) rfl (tlt (by decide)).2.2.2 kont) ?_
  show G (s₁.setTop (mkF m 55 #[.val (.int (31 : Int32)), .val (.int (1 : Int32))] []))
  refine go (fun _ kont => XS.iinc X0.here hx rfl (hb hby d_jdk_33_method_48_55) rfl (l' := #[.val (.int (31 : Int32)), .val (.int ((1 : Int32) + (4 : Int32)))]) rfl kont) ?_
  show G (s₁.setTop (mkF m 58 #[.val (.int (31 : Int32)), .val (.int ((1 : Int32) + (4 : Int32)))] []))
  refine go (fun _ kont => XS.iloadN X0.here hx rfl (hb hby d_jdk_33_method_48_58) rfl  kont) ?_
  show G (s₁.setTop (mkF m 59 #[.val (.int (31 : Int32)), .val (.int ((1 : Int32) + (4 : Int32)))] [(.int (31 : Int32))]))
  refine go (fun _ kont => XS.iconst X0.here hx rfl (hb hby d_jdk_33_method_48_59) kont) ?_
  show G (s₁.setTop (mkF m 60 #[.val (.int (31 : Int32)), .val (.int ((1 : Int32) + (4 : Int32)))] [(.int (4 : Int32)), (.int (31 : Int32))]))
  refine go (fun _ kont => XS.iushr X0.here hx rfl (hb hby d_jdk_33_method_48_60) rfl kont) ?_
  show G (s₁.setTop (mkF m 61 #[.val (.int (31 : Int32)), .val (.int ((1 : Int32) + (4 : Int32)))] [(.int (((31 : Int32).toUInt32 >>> ((4 : Int32) &&& 31).toUInt32).toInt32))]))
  rw [show (((31 : Int32).toUInt32 >>> ((4 : Int32) &&& 31).toUInt32).toInt32) = (1 : Int32) from by decide]
  show G (s₁.setTop (mkF m 61 #[.val (.int (31 : Int32)), .val (.int ((1 : Int32) + (4 : Int32)))] [(.int (1 : Int32))]))
  refine go (fun _ kont => XS.istoreN X0.here hx rfl (hb hby d_jdk_33_method_48_61) rfl (l' := #[.val (.int (1 : Int32)), .val (.int ((1 : Int32) + (4 : Int32)))]) rfl kont) ?_
  show G (s₁.setTop (mkF m 62 #[.val (.int (1 : Int32)), .val (.int ((1 : Int32) + (4 : Int32)))] []))
  refine go (fun _ kont => XS.iloadN X0.here hx rfl (hb hby d_jdk_33_method_48_62) rfl  kont) ?_
  show G (s₁.setTop (mkF m 63 #[.val (.int (1 : Int32)), .val (.int ((1 : Int32) + (4 : Int32)))] [(.int (1 : Int32))]))
  refine go (fun _ kont => XS.iconst X0.here hx rfl (hb hby d_jdk_33_method_48_63) kont) ?_
  show G (s₁.setTop (mkF m 64 #[.val (.int (1 : Int32)), .val (.int ((1 : Int32) + (4 : Int32)))] [(.int (4 : Int32)), (.int (1 : Int32))]))
  refine go (fun _ kont => XS.icmpYes X0.here hx rfl (pc0 := 64) (pc' := 74) rfl (hb hby d_jdk_33_method_48_64) rfl (flt (by decide)).2.2.2 (by decide) (by decide) kont) ?_
  show G (s₁.setTop (mkF m 74 #[.val (.int (1 : Int32)), .val (.int ((1 : Int32) + (4 : Int32)))] []))
  refine go (fun _ kont => XS.iloadN X0.here hx rfl (hb hby d_jdk_33_method_48_74) rfl  kont) ?_
  show G (s₁.setTop (mkF m 75 #[.val (.int (1 : Int32)), .val (.int ((1 : Int32) + (4 : Int32)))] [(.int ((1 : Int32) + (4 : Int32)))]))
  refine go (fun _ kont => XS.iloadN X0.here hx rfl (hb hby d_jdk_33_method_48_75) rfl  kont) ?_
  show G (s₁.setTop (mkF m 76 #[.val (.int (1 : Int32)), .val (.int ((1 : Int32) + (4 : Int32)))] [(.int (1 : Int32)), (.int ((1 : Int32) + (4 : Int32)))]))
  refine go (fun _ kont => XS.iconst X0.here hx rfl (hb hby d_jdk_33_method_48_76) kont) ?_
  show G (s₁.setTop (mkF m 77 #[.val (.int (1 : Int32)), .val (.int ((1 : Int32) + (4 : Int32)))] [(.int (1 : Int32)), (.int (1 : Int32)), (.int ((1 : Int32) + (4 : Int32)))]))
  refine go (fun _ kont => XS.iushr X0.here hx rfl (hb hby d_jdk_33_method_48_77) rfl kont) ?_
  show G (s₁.setTop (mkF m 78 #[.val (.int (1 : Int32)), .val (.int ((1 : Int32) + (4 : Int32)))] [(.int (((1 : Int32).toUInt32 >>> ((1 : Int32) &&& 31).toUInt32).toInt32)), (.int ((1 : Int32) + (4 : Int32)))]))
  refine go (fun _ kont => XS.iadd X0.here hx rfl (hb hby d_jdk_33_method_48_78) rfl kont) ?_
  show G (s₁.setTop (mkF m 79 #[.val (.int (1 : Int32)), .val (.int ((1 : Int32) + (4 : Int32)))] [(.int (((1 : Int32) + (4 : Int32)) + (((1 : Int32).toUInt32 >>> ((1 : Int32) &&& 31).toUInt32).toInt32)))]))
  rw [show (((1 : Int32) + (4 : Int32)) + (((1 : Int32).toUInt32 >>> ((1 : Int32) &&& 31).toUInt32).toInt32)) = (5 : Int32) from by decide]
  show G (s₁.setTop (mkF m 79 #[.val (.int (1 : Int32)), .val (.int ((1 : Int32) + (4 : Int32)))] [(.int (5 : Int32))]))
  rw [hG]
  exact own_retI X0 hx Bd.returns (hb hby d_jdk_33_method_48_79) hlk (by decide) (by decide) ⟨rfl, N0, e0⟩
theorem own_ef_own_rm_slot (m : MethodId) (x0 : Addr) (x1 : Int64) : entryFrame m #[(.ref x0), (.long x1)] 3 = mkF m 0 #[.val (.ref x0), .val (.long x1), .second] [] := by first | (simp [entryFrame, mkF, argsToLocals, Value.category]; done) | rfl
def own_Q_slot (Z : State) (h0 : Heap) (n0 : Nat) (a : Addr) (key : Int64)  (v : Option Value) (h : Heap) (L : List Loc) : Prop := (∃ x : Nat, x < 32 ∧ v = some (.int (Int32.ofNat x))) ∧ Fr n0 L ∧ h = h0
set_option maxRecDepth 65536 in
set_option maxHeartbeats 40000000 in
theorem own_rm_slot (l : Launch) (Z : State) (a0 : Array Value) (hw : ∀ d ∈ tables_1, d.before a0 Z = true) (ws : List Jvm.Cond) (a : Addr) (key : Int64) (h0 : Heap) (n0 : Nat) (Z0 : n0 ≤ h0.size) (k mm : Nat) (tg ix tb ks ps : Addr) (O : own_O Z h0 a k mm tg ix tb ks ps) (kv : List Int64) (hkl : kv.length = 32) (VK : own_V Z h0 ks .long (kv.map Value.long)) :
    MetFree l (⟨"com/example/knotweed/knotweed/engine/TransitionList", "slotOf", "(J)I"⟩ : MethodName) (head1 (Jvm.Cond.code (⟨"com/example/knotweed/knotweed/engine/TransitionList", "slotOf", "(J)I"⟩ : MethodName) prog_102_method_13_code 3 (some .int) :: ws) ({ frames := 1, cells := 0, slots := 0, locals := 16 } : Room)) (fun aq Uq => aq = #[(.ref a), (.long key)] ∧ Z.Warmed39 Uq.vm ∧ Uq.heap = h0) (fun _ _ _ _ _ => True) (fun _ Uq oq Uq' => ∃ vq Lq, oq = .returned vq ∧ (own_Q_slot Z h0 n0 a key) vq Uq'.heap Lq ∧ FrameEnd Uq oq Uq' Lq ({ frames := 1, cells := 0, slots := 0, locals := 16 } : Room).cells ({ frames := 1, cells := 0, slots := 0, locals := 16 } : Room).slots) := by
  refine MetFree.of_bodySF (plainFor_of_name own_pn1) hisR ?_
  intro p e s m args below meth c s₁ Bd hml0 hP hK
  obtain ⟨rfl, hZ, hh⟩ := hP
  have hx := Bd.exec
  have hby := Bd.bytes
  have hml : c.maxLocals = 3 := hml0
  have hown : s.vm.findClass "com/example/knotweed/knotweed/engine/TransitionList" = some m.cls := findClass_of_methodNamed Bd.named
  have hnm := (name_of_methodNamed Bd.named Bd.method).1
  have X0 : Stand p l e ({ frames := 1, cells := 0, slots := 0, locals := 16 } : Room) s m #[(.ref a), (.long key)] below meth c s₁ [] 0 0 := Stand.of_body Bd
  have e0 : s₁.heap = h0 := by rw [← hh, Bd.state]; rfl
  have N0 := Fr.nil n0
  have hlk : meth.locks = false := by first | exact BodyLoose.notSynchronized Bd | exact Body.notSynchronized Bd
  obtain ⟨G, hG⟩ : ∃ G : State → Prop, G = own_G p e below s ({ frames := 1, cells := 0, slots := 0, locals := 16 } : Room).cells ({ frames := 1, cells := 0, slots := 0, locals := 16 } : Room).slots ((own_Q_slot Z h0 n0 a key)) := ⟨_, rfl⟩
  have go : ∀ {S S' : State}, (∀ t, Steps p.tables e below S' t → Steps p.tables e below S t) → G S' → G S := by rw [hG]; exact own_to
  suffices hs : G (s₁.setTop (mkF m 0 #[.val (.ref a), .val (.long key), .second] [])) by
    rw [hG] at hs
    exact own_to (fun _ kont => castTop (own_ef_own_rm_slot m a key) kont) hs
  refine go (fun _ kont => XS.lloadN X0.here hx rfl (hb hby d_prog_102_method_13_0) rfl  kont) ?_
  show G (s₁.setTop (mkF m 1 #[.val (.ref a), .val (.long key), .second] [(.long key)]))
  refine go (fun _ kont => X0.ldc2Long hx hown (mvT hZ (hw _ (List.mem_of_getElem? (i := 62) rfl))) (g := (mkF m 1 #[.val (.ref a), .val (.long key), .second] [(.long key)])) rfl (hb hby d_prog_102_method_13_1) _ kont) ?_
  show G (s₁.setTop (mkF m 4 #[.val (.ref a), .val (.long key), .second] [(.long (-7046029254386353131 : Int64)), (.long key)]))
  refine go (fun _ kont => XS.lmul X0.here hx rfl (hb hby d_prog_102_method_13_4) rfl kont) ?_
  show G (s₁.setTop (mkF m 5 #[.val (.ref a), .val (.long key), .second] [(.long (key * (-7046029254386353131 : Int64)))]))
  refine go (fun _ kont => XS.bipush X0.here hx rfl (hb hby d_prog_102_method_13_5) kont) ?_
  show G (s₁.setTop (mkF m 7 #[.val (.ref a), .val (.long key), .second] [(.int (64 : Int32)), (.long (key * (-7046029254386353131 : Int64)))]))
  refine go (fun _ kont => XS.aloadN X0.here hx rfl (hb hby d_prog_102_method_13_7) rfl rfl kont) ?_
  show G (s₁.setTop (mkF m 8 #[.val (.ref a), .val (.long key), .second] [(.ref a), (.int (64 : Int32)), (.long (key * (-7046029254386353131 : Int64)))]))
  obtain ⟨T1, X1, e1, st1⟩ := getF X0 hx hZ hown (host := "") (Or.inl (hw _ (List.mem_of_getElem? (i := 21) rfl))) Via.refl e0 O.2.2.2.2.2.1 (g := (mkF m 8 #[.val (.ref a), .val (.long key), .second] [(.ref a), (.int (64 : Int32)), (.long (key * (-7046029254386353131 : Int64)))])) rfl rfl (hb hby d_prog_102_method_13_8)
  refine go st1 ?_
  show G (T1.setTop (mkF m 11 #[.val (.ref a), .val (.long key), .second] [(.ref ks), (.int (64 : Int32)), (.long (key * (-7046029254386353131 : Int64)))]))
  obtain ⟨cl, Ar, Sl, Ml⟩ := id VK
  refine go (fun _ kont => X1.arraylength hx (by rw [e1]; exact Ar.1) (State.isArrayOf_alike hZ.alike Ar.2.1) (g := (mkF m 11 #[.val (.ref a), .val (.long key), .second] [(.ref ks), (.int (64 : Int32)), (.long (key * (-7046029254386353131 : Int64)))])) rfl (rest := [(.int (64 : Int32)), (.long (key * (-7046029254386353131 : Int64)))]) rfl (hb hby d_prog_102_method_13_11) _ kont) ?_
  rw [own_len (n := (32 : Int32)) Sl (by rw [List.length_map, hkl]; decide)]
  show G (T1.setTop (mkF m 12 #[.val (.ref a), .val (.long key), .second] [(.int (32 : Int32)), (.int (64 : Int32)), (.long (key * (-7046029254386353131 : Int64)))]))
  obtain ⟨_, _, ⟨T2, L2, k2, n2⟩, -, X2, ⟨Lc2, hQ2, l2, y2, z2⟩, st2⟩ := Jvm.LawKit.callS X1 hx (y := (⟨"java/lang/Integer", "numberOfTrailingZeros", "(I)I"⟩ : MethodName)) hown (mvT hZ (hw _ (List.mem_of_getElem? (i := 63) rfl))) (mvT hZ (hw _ (List.mem_of_getElem? (i := 64) rfl))) (mvT hZ (hw _ (List.mem_of_getElem? (i := 65) rfl))) (mvT hZ (hw _ (List.mem_of_getElem? (i := 66) rfl))) (by decide) (backOf (W := 3) (own_rm_ntz l Z a0 hw [] h0 n0 Z0) hZ (hw _ (List.mem_of_getElem? (i := 66) rfl)) (hw _ (List.mem_of_getElem? (i := 65) rfl)) (by decide) (by decide)) (g := (mkF m 12 #[.val (.ref a), .val (.long key), .second] [(.int (32 : Int32)), (.int (64 : Int32)), (.long (key * (-7046029254386353131 : Int64)))])) rfl (by rw [hml]; rfl) (argsL := [(.int (32 : Int32))]) (rest := [(.int (64 : Int32)), (.long (key * (-7046029254386353131 : Int64)))]) (lenOf own_pd2 rfl) rfl (by show 2 * 0 + _ ≤ _; exact Nat.le_of_eq rfl) (hb hby d_prog_102_method_13_12) (fun _ _ => ⟨rfl, e1, (by decide : 0 + 0 ≤ _), (by decide : 0 + 0 ≤ _)⟩)
  dsimp only [Pt.U, Pt.locs, Pt.cells, Pt.slots] at X2 l2 y2 z2 st2 hQ2
  subst l2 y2 z2
  obtain ⟨rfl, N2q, e2⟩ := hQ2
  have N2 := Fr.app N0 N2q
  refine go st2 ?_
  show G (T2.setTop (mkF m 15 #[.val (.ref a), .val (.long key), .second] [(.int (5 : Int32)), (.int (64 : Int32)), (.long (key * (-7046029254386353131 : Int64)))]))
  refine go (fun _ kont => XS.isub X2.here hx rfl (hb hby d_prog_102_method_13_15) rfl kont) ?_
  show G (T2.setTop (mkF m 16 #[.val (.ref a), .val (.long key), .second] [(.int ((64 : Int32) - (5 : Int32))), (.long (key * (-7046029254386353131 : Int64)))]))
  refine go (fun _ kont => XS.lushr X2.here hx rfl (hb hby d_prog_102_method_13_16) rfl kont) ?_
  show G (T2.setTop (mkF m 17 #[.val (.ref a), .val (.long key), .second] [(.long (((key * (-7046029254386353131 : Int64)).toUInt64 >>> (((64 : Int32) - (5 : Int32)) &&& 0x3f).toInt64.toUInt64).toInt64))]))
  refine go (fun _ kont => XS.l2i X2.here hx rfl (hb hby d_prog_102_method_13_17) rfl kont) ?_
  show G (T2.setTop (mkF m 18 #[.val (.ref a), .val (.long key), .second] [(.int (((key * (-7046029254386353131 : Int64)).toUInt64 >>> (((64 : Int32) - (5 : Int32)) &&& 0x3f).toInt64.toUInt64).toInt64).toInt32)]))
  obtain ⟨x, hx32, ex⟩ := own_slot key
  rw [ex]
  show G (T2.setTop (mkF m 18 #[.val (.ref a), .val (.long key), .second] [(.int (Int32.ofNat x))]))
  rw [hG]
  exact own_retI X2 hx Bd.returns (hb hby d_prog_102_method_13_18) hlk (by decide) (by decide) ⟨⟨x, hx32, rfl⟩, N2, e2⟩
theorem own_ef_own_rm_index (m : MethodId) (x0 : Addr) (x1 : UInt64) : entryFrame m #[(.ref x0), (.double x1)] 8 = mkF m 0 #[.val (.ref x0), .val (.double x1), .second, .unset, .unset, .unset, .unset, .unset] [] := by first | (simp [entryFrame, mkF, argsToLocals, Value.category]; done) | rfl
def own_Q_index (Z : State) (h0 : Heap) (n0 : Nat) (a : Addr) (num : UInt64) (k mm : Nat) (tg ix tb ks ps : Addr) (ds : List UInt64) (v : Option Value) (h : Heap) (L : List Loc) : Prop := ∃ (j mm' : Nat) (ds' : List UInt64) (kv' : List Int64) (pv' : List Int32), v = some (.int (Int32.ofNat j)) ∧ Fr n0 L ∧ Keep h0 h [a, tb, ks, ps] ∧ own_O Z h a k mm' tg ix tb ks ps ∧ own_inv mm' ds' kv' pv' ∧ mm ≤ mm' ∧ mm' ≤ mm + 1 ∧ j < mm' ∧ ds'.getD j 0 = num ∧ (∀ i, i < mm → ds'.getD i 0 = ds.getD i 0) ∧ own_V Z h tb .double (ds'.map Value.double) ∧ own_V Z h ks .long (kv'.map Value.long) ∧ own_V Z h ps .int (pv'.map Value.int)
set_option maxRecDepth 65536 in
set_option maxHeartbeats 40000000 in
theorem own_rm_index (l : Launch) (Z : State) (a0 : Array Value) (hw : ∀ d ∈ tables_1, d.before a0 Z = true) (ws : List Jvm.Cond) (a : Addr) (num : UInt64) (h0 : Heap) (n0 : Nat) (Z0 : n0 ≤ h0.size) (k mm : Nat) (tg ix tb ks ps : Addr) (O : own_O Z h0 a k mm tg ix tb ks ps) (ds : List UInt64) (kv : List Int64) (pv : List Int32) (I : own_inv mm ds kv pv) (hm : mm ≤ 3) (VD : own_V Z h0 tb .double (ds.map Value.double)) (VK : own_V Z h0 ks .long (kv.map Value.long)) (VP : own_V Z h0 ps .int (pv.map Value.int)) (ga : n0 ≤ a) (o1 : a < tb) (o2 : tb < ks) (o3 : ks < ps) :
    MetFree l (⟨"com/example/knotweed/knotweed/engine/TransitionList", "indexOf", "(D)I"⟩ : MethodName) (head1 (Jvm.Cond.code (⟨"com/example/knotweed/knotweed/engine/TransitionList", "indexOf", "(D)I"⟩ : MethodName) prog_102_method_12_code 8 (some .int) :: ws) ({ frames := 2, cells := 0, slots := 0, locals := 30 } : Room)) (fun aq Uq => aq = #[(.ref a), (.double num)] ∧ Z.Warmed39 Uq.vm ∧ Uq.heap = h0) (fun _ _ _ _ _ => True) (fun _ Uq oq Uq' => ∃ vq Lq, oq = .returned vq ∧ (own_Q_index Z h0 n0 a num k mm tg ix tb ks ps ds) vq Uq'.heap Lq ∧ FrameEnd Uq oq Uq' Lq ({ frames := 2, cells := 0, slots := 0, locals := 30 } : Room).cells ({ frames := 2, cells := 0, slots := 0, locals := 30 } : Room).slots) := by
  refine MetFree.of_bodySF (plainFor_of_name own_pn1) hisR ?_
  intro p e s m args below meth c s₁ Bd hml0 hP hK
  obtain ⟨rfl, hZ, hh⟩ := hP
  have hx := Bd.exec
  have hby := Bd.bytes
  have hml : c.maxLocals = 8 := hml0
  have hown : s.vm.findClass "com/example/knotweed/knotweed/engine/TransitionList" = some m.cls := findClass_of_methodNamed Bd.named
  have hnm := (name_of_methodNamed Bd.named Bd.method).1
  have X0 : Stand p l e ({ frames := 2, cells := 0, slots := 0, locals := 30 } : Room) s m #[(.ref a), (.double num)] below meth c s₁ [] 0 0 := Stand.of_body Bd
  have e0 : s₁.heap = h0 := by rw [← hh, Bd.state]; rfl
  have N0 := Fr.nil n0
  have hlk : meth.locks = false := by first | exact BodyLoose.notSynchronized Bd | exact Body.notSynchronized Bd
  obtain ⟨G, hG⟩ : ∃ G : State → Prop, G = own_G p e below s ({ frames := 2, cells := 0, slots := 0, locals := 30 } : Room).cells ({ frames := 2, cells := 0, slots := 0, locals := 30 } : Room).slots ((own_Q_index Z h0 n0 a num k mm tg ix tb ks ps ds)) := ⟨_, rfl⟩
  have go : ∀ {S S' : State}, (∀ t, Steps p.tables e below S' t → Steps p.tables e below S t) → G S' → G S := by rw [hG]; exact own_to
  suffices hs : G (s₁.setTop (mkF m 0 #[.val (.ref a), .val (.double num), .second, .unset, .unset, .unset, .unset, .unset] [])) by
    rw [hG] at hs
    exact own_to (fun _ kont => castTop (own_ef_own_rm_index m a num) kont) hs
  have hI := I
  obtain ⟨hdl, hkl, hpl, hI4, -⟩ := hI
  have at56 : ∀ (x : Nat), x < 32 → (pv.getD x 0 = (-1 : Int32) ∨ kv.getD x 0 = num.toInt64) → ∀ (T' : State) (ls : List Loc), Fr n0 ls → Stand p l e ({ frames := 2, cells := 0, slots := 0, locals := 30 } : Room) s m #[(.ref a), (.double num)] below meth c T' ls 0 0 → T'.heap = h0 → G (T'.setTop (mkF m 56 #[.val (.ref a), .val (.double num), .second, .val (.long num.toInt64), .second, .val (.int ((32 : Int32) - (1 : Int32))), .val (.int (Int32.ofNat x)), .unset] [])) := by
    intro x hx32 hor T' ls N' X' e'
    show G (T'.setTop (mkF m 56 #[.val (.ref a), .val (.double num), .second, .val (.long num.toInt64), .second, .val (.int ((32 : Int32) - (1 : Int32))), .val (.int (Int32.ofNat x)), .unset] []))
    refine go (fun _ kont => XS.aloadN X'.here hx rfl (hb hby d_prog_102_method_12_56) rfl rfl kont) ?_
    show G (T'.setTop (mkF m 57 #[.val (.ref a), .val (.double num), .second, .val (.long num.toInt64), .second, .val (.int ((32 : Int32) - (1 : Int32))), .val (.int (Int32.ofNat x)), .unset] [(.ref a)]))
    obtain ⟨T1, X1, e1, st1⟩ := getF X' hx hZ hown (host := "") (Or.inl (hw _ (List.mem_of_getElem? (i := 31) rfl))) Via.refl e' O.2.2.2.2.2.2.1 (g := (mkF m 57 #[.val (.ref a), .val (.double num), .second, .val (.long num.toInt64), .second, .val (.int ((32 : Int32) - (1 : Int32))), .val (.int (Int32.ofNat x)), .unset] [(.ref a)])) rfl rfl (hb hby d_prog_102_method_12_57)
    refine go st1 ?_
    show G (T1.setTop (mkF m 60 #[.val (.ref a), .val (.double num), .second, .val (.long num.toInt64), .second, .val (.int ((32 : Int32) - (1 : Int32))), .val (.int (Int32.ofNat x)), .unset] [(.ref ps)]))
    refine go (fun _ kont => XS.iload X1.here hx rfl (hb hby d_prog_102_method_12_60) rfl  kont) ?_
    show G (T1.setTop (mkF m 62 #[.val (.ref a), .val (.double num), .second, .val (.long num.toInt64), .second, .val (.int ((32 : Int32) - (1 : Int32))), .val (.int (Int32.ofNat x)), .unset] [(.int (Int32.ofNat x)), (.ref ps)]))
    obtain ⟨cl, Ar, Sl, Ml⟩ := id VP
    refine go (fun _ kont => X1.iaload hx (j := (Int32.ofNat x)) (v := (.int (pv.getD x 0))) (by rw [e1]; exact Ar.1) (State.isArrayOf_alike hZ.alike Ar.2.1) Ar.2.2 (own_hink Sl (own_neg (by rw [own_ofN (by omega)]; omega)) (own_tnO (by omega)) (k := x) (by rw [List.length_map]; omega)) (own_hatk Sl (own_tnO (by omega)) (own_atI (k := x) (by omega))) (g := (mkF m 62 #[.val (.ref a), .val (.double num), .second, .val (.long num.toInt64), .second, .val (.int ((32 : Int32) - (1 : Int32))), .val (.int (Int32.ofNat x)), .unset] [(.int (Int32.ofNat x)), (.ref ps)])) rfl rfl (hb hby d_prog_102_method_12_62) _ kont) ?_
    show G (T1.setTop (mkF m 63 #[.val (.ref a), .val (.double num), .second, .val (.long num.toInt64), .second, .val (.int ((32 : Int32) - (1 : Int32))), .val (.int (Int32.ofNat x)), .unset] [(.int (pv.getD x 0))]))
    refine go (fun _ kont => XS.istore X1.here hx rfl (hb hby d_prog_102_method_12_63) rfl (l' := #[.val (.ref a), .val (.double num), .second, .val (.long num.toInt64), .second, .val (.int ((32 : Int32) - (1 : Int32))), .val (.int (Int32.ofNat x)), .val (.int (pv.getD x 0))]) rfl kont) ?_
    show G (T1.setTop (mkF m 65 #[.val (.ref a), .val (.double num), .second, .val (.long num.toInt64), .second, .val (.int ((32 : Int32) - (1 : Int32))), .val (.int (Int32.ofNat x)), .val (.int (pv.getD x 0))] []))
    refine go (fun _ kont => XS.iload X1.here hx rfl (hb hby d_prog_102_method_12_65) rfl  kont) ?_
    show G (T1.setTop (mkF m 67 #[.val (.ref a), .val (.double num), .second, .val (.long num.toInt64), .second, .val (.int ((32 : Int32) - (1 : Int32))), .val (.int (Int32.ofNat x)), .val (.int (pv.getD x 0))] [(.int (pv.getD x 0))]))
    refine go (fun _ kont => XS.iconst X1.here hx rfl (hb hby d_prog_102_method_12_67) kont) ?_
    show G (T1.setTop (mkF m 68 #[.val (.ref a), .val (.double num), .second, .val (.long num.toInt64), .second, .val (.int ((32 : Int32) - (1 : Int32))), .val (.int (Int32.ofNat x)), .val (.int (pv.getD x 0))] [(.int (-1 : Int32)), (.int (pv.getD x 0))]))
    by_cases hc68 : (pv.getD x 0) = (-1 : Int32)
    · refine go (fun _ kont => XS.icmpNo X1.here hx rfl (hb hby d_prog_102_method_12_68) rfl (teq hc68).2 kont) ?_
      show G (T1.setTop (mkF m 71 #[.val (.ref a), .val (.double num), .second, .val (.long num.toInt64), .second, .val (.int ((32 : Int32) - (1 : Int32))), .val (.int (Int32.ofNat x)), .val (.int (pv.getD x 0))] []))
      refine go (fun _ kont => XS.aloadN X1.here hx rfl (hb hby d_prog_102_method_12_71) rfl rfl kont) ?_
      show G (T1.setTop (mkF m 72 #[.val (.ref a), .val (.double num), .second, .val (.long num.toInt64), .second, .val (.int ((32 : Int32) - (1 : Int32))), .val (.int (Int32.ofNat x)), .val (.int (pv.getD x 0))] [(.ref a)]))
      obtain ⟨T2, X2, e2, st2⟩ := getF X1 hx hZ hown (host := "") (Or.inl (hw _ (List.mem_of_getElem? (i := 68) rfl))) Via.refl e1 O.2.2.2.2.2.2.2.2 (g := (mkF m 72 #[.val (.ref a), .val (.double num), .second, .val (.long num.toInt64), .second, .val (.int ((32 : Int32) - (1 : Int32))), .val (.int (Int32.ofNat x)), .val (.int (pv.getD x 0))] [(.ref a)])) rfl rfl (hb hby d_prog_102_method_12_72)
      refine go st2 ?_
      show G (T2.setTop (mkF m 75 #[.val (.ref a), .val (.double num), .second, .val (.long num.toInt64), .second, .val (.int ((32 : Int32) - (1 : Int32))), .val (.int (Int32.ofNat x)), .val (.int (pv.getD x 0))] [(.int (Int32.ofNat mm))]))
      refine go (fun _ kont => X2.ldcInt hx hown (mvT hZ (hw _ (List.mem_of_getElem? (i := 70) rfl))) (g := (mkF m 75 #[.val (.ref a), .val (.double num), .second, .val (.long num.toInt64), .second, .val (.int ((32 : Int32) - (1 : Int32))), .val (.int (Int32.ofNat x)), .val (.int (pv.getD x 0))] [(.int (Int32.ofNat mm))])) rfl (hb hby d_prog_102_method_12_75) _ kont) ?_
      show G (T2.setTop (mkF m 77 #[.val (.ref a), .val (.double num), .second, .val (.long num.toInt64), .second, .val (.int ((32 : Int32) - (1 : Int32))), .val (.int (Int32.ofNat x)), .val (.int (pv.getD x 0))] [(.int (65536 : Int32)), (.int (Int32.ofNat mm))]))
      refine go (fun _ kont => XS.icmpNo X2.here hx rfl (hb hby d_prog_102_method_12_77) rfl (tlt ((own_ltO (d := mm) (k := 65536) (by omega) (by omega)).mpr (by omega))).2.1 kont) ?_
      show G (T2.setTop (mkF m 80 #[.val (.ref a), .val (.double num), .second, .val (.long num.toInt64), .second, .val (.int ((32 : Int32) - (1 : Int32))), .val (.int (Int32.ofNat x)), .val (.int (pv.getD x 0))] []))
      refine go (fun _ kont => XS.aloadN X2.here hx rfl (hb hby d_prog_102_method_12_80) rfl rfl kont) ?_
      show G (T2.setTop (mkF m 81 #[.val (.ref a), .val (.double num), .second, .val (.long num.toInt64), .second, .val (.int ((32 : Int32) - (1 : Int32))), .val (.int (Int32.ofNat x)), .val (.int (pv.getD x 0))] [(.ref a)]))
      refine go (fun _ kont => XS.dup X2.here hx rfl (hb hby d_prog_102_method_12_81) rfl rfl kont) ?_
      show G (T2.setTop (mkF m 82 #[.val (.ref a), .val (.double num), .second, .val (.long num.toInt64), .second, .val (.int ((32 : Int32) - (1 : Int32))), .val (.int (Int32.ofNat x)), .val (.int (pv.getD x 0))] [(.ref a), (.ref a)]))
      obtain ⟨T3, X3, e3, st3⟩ := getF X2 hx hZ hown (host := "") (Or.inl (hw _ (List.mem_of_getElem? (i := 68) rfl))) Via.refl e2 O.2.2.2.2.2.2.2.2 (g := (mkF m 82 #[.val (.ref a), .val (.double num), .second, .val (.long num.toInt64), .second, .val (.int ((32 : Int32) - (1 : Int32))), .val (.int (Int32.ofNat x)), .val (.int (pv.getD x 0))] [(.ref a), (.ref a)])) rfl rfl (hb hby d_prog_102_method_12_82)
      refine go st3 ?_
      show G (T3.setTop (mkF m 85 #[.val (.ref a), .val (.double num), .second, .val (.long num.toInt64), .second, .val (.int ((32 : Int32) - (1 : Int32))), .val (.int (Int32.ofNat x)), .val (.int (pv.getD x 0))] [(.int (Int32.ofNat mm)), (.ref a)]))
      refine go (fun _ kont => XS.dupX1 X3.here hx rfl (hb hby d_prog_102_method_12_85) rfl rfl rfl kont) ?_
      show G (T3.setTop (mkF m 86 #[.val (.ref a), .val (.double num), .second, .val (.long num.toInt64), .second, .val (.int ((32 : Int32) - (1 : Int32))), .val (.int (Int32.ofNat x)), .val (.int (pv.getD x 0))] [(.int (Int32.ofNat mm)), (.ref a), (.int (Int32.ofNat mm))]))
      refine go (fun _ kont => XS.iconst X3.here hx rfl (hb hby d_prog_102_method_12_86) kont) ?_
      show G (T3.setTop (mkF m 87 #[.val (.ref a), .val (.double num), .second, .val (.long num.toInt64), .second, .val (.int ((32 : Int32) - (1 : Int32))), .val (.int (Int32.ofNat x)), .val (.int (pv.getD x 0))] [(.int (1 : Int32)), (.int (Int32.ofNat mm)), (.ref a), (.int (Int32.ofNat mm))]))
      refine go (fun _ kont => XS.iadd X3.here hx rfl (hb hby d_prog_102_method_12_87) rfl kont) ?_
      show G (T3.setTop (mkF m 88 #[.val (.ref a), .val (.double num), .second, .val (.long num.toInt64), .second, .val (.int ((32 : Int32) - (1 : Int32))), .val (.int (Int32.ofNat x)), .val (.int (pv.getD x 0))] [(.int ((Int32.ofNat mm) + (1 : Int32))), (.ref a), (.int (Int32.ofNat mm))]))
      rw [show ((Int32.ofNat mm) + (1 : Int32)) = (Int32.ofNat (mm + 1)) from own_addk mm 1]
      show G (T3.setTop (mkF m 88 #[.val (.ref a), .val (.double num), .second, .val (.long num.toInt64), .second, .val (.int ((32 : Int32) - (1 : Int32))), .val (.int (Int32.ofNat x)), .val (.int (pv.getD x 0))] [(.int (Int32.ofNat (mm + 1))), (.ref a), (.int (Int32.ofNat mm))]))
      obtain ⟨T4, h4, X4, e4, W4, st4⟩ := putF X3 hx hZ hown (host := "") (Or.inl (hw _ (List.mem_of_getElem? (i := 68) rfl))) Via.refl e3 O.2.2.2.2.2.2.2.2 O.1 (Or.inl (hw _ (List.mem_of_getElem? (i := 69) rfl))) (hw _ (List.mem_of_getElem? (i := 1) rfl)) (ty := .int) (by decide) rfl rfl (g := (mkF m 88 #[.val (.ref a), .val (.double num), .second, .val (.long num.toInt64), .second, .val (.int ((32 : Int32) - (1 : Int32))), .val (.int (Int32.ofNat x)), .val (.int (pv.getD x 0))] [(.int (Int32.ofNat (mm + 1))), (.ref a), (.int (Int32.ofNat mm))])) rfl rfl (hb hby d_prog_102_method_12_88)
      refine go st4 ?_
      show G (T4.setTop (mkF m 91 #[.val (.ref a), .val (.double num), .second, .val (.long num.toInt64), .second, .val (.int ((32 : Int32) - (1 : Int32))), .val (.int (Int32.ofNat x)), .val (.int (pv.getD x 0))] [(.int (Int32.ofNat mm))]))
      have VD_4 := own_V_other VD W4 (Nat.ne_of_gt o1)
      have VK_4 := own_V_other VK W4 (Nat.ne_of_gt (Nat.lt_trans o1 o2))
      have VP_4 := own_V_other VP W4 (Nat.ne_of_gt (Nat.lt_trans (Nat.lt_trans o1 o2) o3))
      have KK_4 := (Keep.refl h0 [a, tb, ks, ps]).wr W4 (Or.inl (List.mem_of_getElem? (i := 0) rfl))
      have O_4 := own_O_distinct hw O W4
      have N4 := Fr.snoc X4 N' ga
      refine go (fun _ kont => XS.istore X4.here hx rfl (hb hby d_prog_102_method_12_91) rfl (l' := #[.val (.ref a), .val (.double num), .second, .val (.long num.toInt64), .second, .val (.int ((32 : Int32) - (1 : Int32))), .val (.int (Int32.ofNat x)), .val (.int (Int32.ofNat mm))]) rfl kont) ?_
      show G (T4.setTop (mkF m 93 #[.val (.ref a), .val (.double num), .second, .val (.long num.toInt64), .second, .val (.int ((32 : Int32) - (1 : Int32))), .val (.int (Int32.ofNat x)), .val (.int (Int32.ofNat mm))] []))
      refine go (fun _ kont => XS.iload X4.here hx rfl (hb hby d_prog_102_method_12_93) rfl  kont) ?_
      show G (T4.setTop (mkF m 95 #[.val (.ref a), .val (.double num), .second, .val (.long num.toInt64), .second, .val (.int ((32 : Int32) - (1 : Int32))), .val (.int (Int32.ofNat x)), .val (.int (Int32.ofNat mm))] [(.int (Int32.ofNat mm))]))
      refine go (fun _ kont => XS.aloadN X4.here hx rfl (hb hby d_prog_102_method_12_95) rfl rfl kont) ?_
      show G (T4.setTop (mkF m 96 #[.val (.ref a), .val (.double num), .second, .val (.long num.toInt64), .second, .val (.int ((32 : Int32) - (1 : Int32))), .val (.int (Int32.ofNat x)), .val (.int (Int32.ofNat mm))] [(.ref a), (.int (Int32.ofNat mm))]))
      obtain ⟨T5, X5, e5, st5⟩ := getF X4 hx hZ hown (host := "") (Or.inl (hw _ (List.mem_of_getElem? (i := 18) rfl))) Via.refl e4 O_4.2.2.2.2.1 (g := (mkF m 96 #[.val (.ref a), .val (.double num), .second, .val (.long num.toInt64), .second, .val (.int ((32 : Int32) - (1 : Int32))), .val (.int (Int32.ofNat x)), .val (.int (Int32.ofNat mm))] [(.ref a), (.int (Int32.ofNat mm))])) rfl rfl (hb hby d_prog_102_method_12_96)
      refine go st5 ?_
      show G (T5.setTop (mkF m 99 #[.val (.ref a), .val (.double num), .second, .val (.long num.toInt64), .second, .val (.int ((32 : Int32) - (1 : Int32))), .val (.int (Int32.ofNat x)), .val (.int (Int32.ofNat mm))] [(.ref tb), (.int (Int32.ofNat mm))]))
      obtain ⟨cl, Ar, Sl, Ml⟩ := id VD_4
      refine go (fun _ kont => X5.arraylength hx (by rw [e5]; exact Ar.1) (State.isArrayOf_alike hZ.alike Ar.2.1) (g := (mkF m 99 #[.val (.ref a), .val (.double num), .second, .val (.long num.toInt64), .second, .val (.int ((32 : Int32) - (1 : Int32))), .val (.int (Int32.ofNat x)), .val (.int (Int32.ofNat mm))] [(.ref tb), (.int (Int32.ofNat mm))])) rfl (rest := [(.int (Int32.ofNat mm))]) rfl (hb hby d_prog_102_method_12_99) _ kont) ?_
      rw [own_len (n := (16 : Int32)) Sl (by rw [List.length_map, hdl]; decide)]
      show G (T5.setTop (mkF m 100 #[.val (.ref a), .val (.double num), .second, .val (.long num.toInt64), .second, .val (.int ((32 : Int32) - (1 : Int32))), .val (.int (Int32.ofNat x)), .val (.int (Int32.ofNat mm))] [(.int (16 : Int32)), (.int (Int32.ofNat mm))]))
      refine go (fun _ kont => XS.icmpYes X5.here hx rfl (pc0 := 100) (pc' := 118) rfl (hb hby d_prog_102_method_12_100) rfl (feq (fun q => absurd ((own_eqO (d := mm) (k := 16) (by omega) (by omega)).mp q) (by omega))).2 (by decide) (by decide) kont) ?_
      show G (T5.setTop (mkF m 118 #[.val (.ref a), .val (.double num), .second, .val (.long num.toInt64), .second, .val (.int ((32 : Int32) - (1 : Int32))), .val (.int (Int32.ofNat x)), .val (.int (Int32.ofNat mm))] []))
      refine go (fun _ kont => XS.aloadN X5.here hx rfl (hb hby d_prog_102_method_12_118) rfl rfl kont) ?_
      show G (T5.setTop (mkF m 119 #[.val (.ref a), .val (.double num), .second, .val (.long num.toInt64), .second, .val (.int ((32 : Int32) - (1 : Int32))), .val (.int (Int32.ofNat x)), .val (.int (Int32.ofNat mm))] [(.ref a)]))
      obtain ⟨T6, X6, e6, st6⟩ := getF X5 hx hZ hown (host := "") (Or.inl (hw _ (List.mem_of_getElem? (i := 18) rfl))) Via.refl e5 O_4.2.2.2.2.1 (g := (mkF m 119 #[.val (.ref a), .val (.double num), .second, .val (.long num.toInt64), .second, .val (.int ((32 : Int32) - (1 : Int32))), .val (.int (Int32.ofNat x)), .val (.int (Int32.ofNat mm))] [(.ref a)])) rfl rfl (hb hby d_prog_102_method_12_119)
      refine go st6 ?_
      show G (T6.setTop (mkF m 122 #[.val (.ref a), .val (.double num), .second, .val (.long num.toInt64), .second, .val (.int ((32 : Int32) - (1 : Int32))), .val (.int (Int32.ofNat x)), .val (.int (Int32.ofNat mm))] [(.ref tb)]))
      refine go (fun _ kont => XS.iload X6.here hx rfl (hb hby d_prog_102_method_12_122) rfl  kont) ?_
      show G (T6.setTop (mkF m 124 #[.val (.ref a), .val (.double num), .second, .val (.long num.toInt64), .second, .val (.int ((32 : Int32) - (1 : Int32))), .val (.int (Int32.ofNat x)), .val (.int (Int32.ofNat mm))] [(.int (Int32.ofNat mm)), (.ref tb)]))
      refine go (fun _ kont => XS.dloadN X6.here hx rfl (hb hby d_prog_102_method_12_124) rfl  kont) ?_
      show G (T6.setTop (mkF m 125 #[.val (.ref a), .val (.double num), .second, .val (.long num.toInt64), .second, .val (.int ((32 : Int32) - (1 : Int32))), .val (.int (Int32.ofNat x)), .val (.int (Int32.ofNat mm))] [(.double num), (.int (Int32.ofNat mm)), (.ref tb)]))
      obtain ⟨cl, Ar, Sl, Ml⟩ := id VD_4
      obtain ⟨T7, h7, X7, e7, W7, st7⟩ := stD X6 hx hZ e6 Ar (j := (Int32.ofNat mm)) (own_hink Sl (own_neg (by rw [own_ofN (by omega)]; omega)) (own_tnO (by omega)) (k := mm) (by rw [List.length_map, hdl]; omega)) (g := (mkF m 125 #[.val (.ref a), .val (.double num), .second, .val (.long num.toInt64), .second, .val (.int ((32 : Int32) - (1 : Int32))), .val (.int (Int32.ofNat x)), .val (.int (Int32.ofNat mm))] [(.double num), (.int (Int32.ofNat mm)), (.ref tb)])) rfl rfl (hb hby d_prog_102_method_12_125)
      refine go st7 ?_
      show G (T7.setTop (mkF m 126 #[.val (.ref a), .val (.double num), .second, .val (.long num.toInt64), .second, .val (.int ((32 : Int32) - (1 : Int32))), .val (.int (Int32.ofNat x)), .val (.int (Int32.ofNat mm))] []))
      have O_4_7 := own_O_other O_4 W7 (Nat.ne_of_lt o1)
      have VK_7 := own_V_other VK_4 W7 (Nat.ne_of_gt o2)
      have VP_7 := own_V_other VP_4 W7 (Nat.ne_of_gt (Nat.lt_trans o2 o3))
      have KK_7 := KK_4.wr W7 (Or.inl (List.mem_of_getElem? (i := 1) rfl))
      have V7 : own_V Z h7 tb .double ((ds.set mm num).map Value.double) := by rw [List.map_set]; exact own_V_set VD_4 W7 (own_tnO (by omega))
      have N7 := Fr.snoc X7 N4 (Nat.le_trans ga (Nat.le_of_lt o1))
      refine go (fun _ kont => XS.aloadN X7.here hx rfl (hb hby d_prog_102_method_12_126) rfl rfl kont) ?_
      show G (T7.setTop (mkF m 127 #[.val (.ref a), .val (.double num), .second, .val (.long num.toInt64), .second, .val (.int ((32 : Int32) - (1 : Int32))), .val (.int (Int32.ofNat x)), .val (.int (Int32.ofNat mm))] [(.ref a)]))
      obtain ⟨T8, X8, e8, st8⟩ := getF X7 hx hZ hown (host := "") (Or.inl (hw _ (List.mem_of_getElem? (i := 21) rfl))) Via.refl e7 O_4_7.2.2.2.2.2.1 (g := (mkF m 127 #[.val (.ref a), .val (.double num), .second, .val (.long num.toInt64), .second, .val (.int ((32 : Int32) - (1 : Int32))), .val (.int (Int32.ofNat x)), .val (.int (Int32.ofNat mm))] [(.ref a)])) rfl rfl (hb hby d_prog_102_method_12_127)
      refine go st8 ?_
      show G (T8.setTop (mkF m 130 #[.val (.ref a), .val (.double num), .second, .val (.long num.toInt64), .second, .val (.int ((32 : Int32) - (1 : Int32))), .val (.int (Int32.ofNat x)), .val (.int (Int32.ofNat mm))] [(.ref ks)]))
      refine go (fun _ kont => XS.iload X8.here hx rfl (hb hby d_prog_102_method_12_130) rfl  kont) ?_
      show G (T8.setTop (mkF m 132 #[.val (.ref a), .val (.double num), .second, .val (.long num.toInt64), .second, .val (.int ((32 : Int32) - (1 : Int32))), .val (.int (Int32.ofNat x)), .val (.int (Int32.ofNat mm))] [(.int (Int32.ofNat x)), (.ref ks)]))
      refine go (fun _ kont => XS.lloadN X8.here hx rfl (hb hby d_prog_102_method_12_132) rfl  kont) ?_
      show G (T8.setTop (mkF m 133 #[.val (.ref a), .val (.double num), .second, .val (.long num.toInt64), .second, .val (.int ((32 : Int32) - (1 : Int32))), .val (.int (Int32.ofNat x)), .val (.int (Int32.ofNat mm))] [(.long num.toInt64), (.int (Int32.ofNat x)), (.ref ks)]))
      obtain ⟨cl, Ar, Sl, Ml⟩ := id VK_7
      obtain ⟨T9, h9, X9, e9, W9, st9⟩ := stJ X8 hx hZ e8 Ar (j := (Int32.ofNat x)) (own_hink Sl (own_neg (by rw [own_ofN (by omega)]; omega)) (own_tnO (by omega)) (k := x) (by rw [List.length_map, hkl]; omega)) (g := (mkF m 133 #[.val (.ref a), .val (.double num), .second, .val (.long num.toInt64), .second, .val (.int ((32 : Int32) - (1 : Int32))), .val (.int (Int32.ofNat x)), .val (.int (Int32.ofNat mm))] [(.long num.toInt64), (.int (Int32.ofNat x)), (.ref ks)])) rfl rfl (hb hby d_prog_102_method_12_133)
      refine go st9 ?_
      show G (T9.setTop (mkF m 134 #[.val (.ref a), .val (.double num), .second, .val (.long num.toInt64), .second, .val (.int ((32 : Int32) - (1 : Int32))), .val (.int (Int32.ofNat x)), .val (.int (Int32.ofNat mm))] []))
      have O_4_9 := own_O_other O_4_7 W9 (Nat.ne_of_lt (Nat.lt_trans o1 o2))
      have V7_9 := own_V_other V7 W9 (Nat.ne_of_lt o2)
      have VP_9 := own_V_other VP_7 W9 (Nat.ne_of_gt o3)
      have KK_9 := KK_7.wr W9 (Or.inl (List.mem_of_getElem? (i := 2) rfl))
      have V9 : own_V Z h9 ks .long ((kv.set x num.toInt64).map Value.long) := by rw [List.map_set]; exact own_V_set VK_7 W9 (own_tnO (by omega))
      have N9 := Fr.snoc X9 N7 (Nat.le_trans ga (Nat.le_of_lt (Nat.lt_trans o1 o2)))
      refine go (fun _ kont => XS.aloadN X9.here hx rfl (hb hby d_prog_102_method_12_134) rfl rfl kont) ?_
      show G (T9.setTop (mkF m 135 #[.val (.ref a), .val (.double num), .second, .val (.long num.toInt64), .second, .val (.int ((32 : Int32) - (1 : Int32))), .val (.int (Int32.ofNat x)), .val (.int (Int32.ofNat mm))] [(.ref a)]))
      obtain ⟨T10, X10, e10, st10⟩ := getF X9 hx hZ hown (host := "") (Or.inl (hw _ (List.mem_of_getElem? (i := 31) rfl))) Via.refl e9 O_4_9.2.2.2.2.2.2.1 (g := (mkF m 135 #[.val (.ref a), .val (.double num), .second, .val (.long num.toInt64), .second, .val (.int ((32 : Int32) - (1 : Int32))), .val (.int (Int32.ofNat x)), .val (.int (Int32.ofNat mm))] [(.ref a)])) rfl rfl (hb hby d_prog_102_method_12_135)
      refine go st10 ?_
      show G (T10.setTop (mkF m 138 #[.val (.ref a), .val (.double num), .second, .val (.long num.toInt64), .second, .val (.int ((32 : Int32) - (1 : Int32))), .val (.int (Int32.ofNat x)), .val (.int (Int32.ofNat mm))] [(.ref ps)]))
      refine go (fun _ kont => XS.iload X10.here hx rfl (hb hby d_prog_102_method_12_138) rfl  kont) ?_
      show G (T10.setTop (mkF m 140 #[.val (.ref a), .val (.double num), .second, .val (.long num.toInt64), .second, .val (.int ((32 : Int32) - (1 : Int32))), .val (.int (Int32.ofNat x)), .val (.int (Int32.ofNat mm))] [(.int (Int32.ofNat x)), (.ref ps)]))
      refine go (fun _ kont => XS.iload X10.here hx rfl (hb hby d_prog_102_method_12_140) rfl  kont) ?_
      show G (T10.setTop (mkF m 142 #[.val (.ref a), .val (.double num), .second, .val (.long num.toInt64), .second, .val (.int ((32 : Int32) - (1 : Int32))), .val (.int (Int32.ofNat x)), .val (.int (Int32.ofNat mm))] [(.int (Int32.ofNat mm)), (.int (Int32.ofNat x)), (.ref ps)]))
      obtain ⟨cl, Ar, Sl, Ml⟩ := id VP_9
      obtain ⟨T11, h11, X11, e11, W11, st11⟩ := stI X10 hx hZ e10 Ar (j := (Int32.ofNat x)) (own_hink Sl (own_neg (by rw [own_ofN (by omega)]; omega)) (own_tnO (by omega)) (k := x) (by rw [List.length_map, hpl]; omega)) (g := (mkF m 142 #[.val (.ref a), .val (.double num), .second, .val (.long num.toInt64), .second, .val (.int ((32 : Int32) - (1 : Int32))), .val (.int (Int32.ofNat x)), .val (.int (Int32.ofNat mm))] [(.int (Int32.ofNat mm)), (.int (Int32.ofNat x)), (.ref ps)])) rfl rfl (hb hby d_prog_102_method_12_142)
      refine go st11 ?_
      show G (T11.setTop (mkF m 143 #[.val (.ref a), .val (.double num), .second, .val (.long num.toInt64), .second, .val (.int ((32 : Int32) - (1 : Int32))), .val (.int (Int32.ofNat x)), .val (.int (Int32.ofNat mm))] []))
      have O_4_11 := own_O_other O_4_9 W11 (Nat.ne_of_lt (Nat.lt_trans (Nat.lt_trans o1 o2) o3))
      have V7_11 := own_V_other V7_9 W11 (Nat.ne_of_lt (Nat.lt_trans o2 o3))
      have V9_11 := own_V_other V9 W11 (Nat.ne_of_lt o3)
      have KK_11 := KK_9.wr W11 (Or.inl (List.mem_of_getElem? (i := 3) rfl))
      have V11 : own_V Z h11 ps .int ((pv.set x (Int32.ofNat mm)).map Value.int) := by rw [List.map_set]; exact own_V_set VP_9 W11 (own_tnO (by omega))
      have N11 := Fr.snoc X11 N9 (Nat.le_trans ga (Nat.le_of_lt (Nat.lt_trans (Nat.lt_trans o1 o2) o3)))
      refine go (fun _ kont => XS.iconst X11.here hx rfl (hb hby d_prog_102_method_12_143) kont) ?_
      show G (T11.setTop (mkF m 144 #[.val (.ref a), .val (.double num), .second, .val (.long num.toInt64), .second, .val (.int ((32 : Int32) - (1 : Int32))), .val (.int (Int32.ofNat x)), .val (.int (Int32.ofNat mm))] [(.int (2 : Int32))]))
      refine go (fun _ kont => XS.aloadN X11.here hx rfl (hb hby d_prog_102_method_12_144) rfl rfl kont) ?_
      show G (T11.setTop (mkF m 145 #[.val (.ref a), .val (.double num), .second, .val (.long num.toInt64), .second, .val (.int ((32 : Int32) - (1 : Int32))), .val (.int (Int32.ofNat x)), .val (.int (Int32.ofNat mm))] [(.ref a), (.int (2 : Int32))]))
      obtain ⟨T12, X12, e12, st12⟩ := getF X11 hx hZ hown (host := "") (Or.inl (hw _ (List.mem_of_getElem? (i := 68) rfl))) Via.refl e11 O_4_11.2.2.2.2.2.2.2.2 (g := (mkF m 145 #[.val (.ref a), .val (.double num), .second, .val (.long num.toInt64), .second, .val (.int ((32 : Int32) - (1 : Int32))), .val (.int (Int32.ofNat x)), .val (.int (Int32.ofNat mm))] [(.ref a), (.int (2 : Int32))])) rfl rfl (hb hby d_prog_102_method_12_145)
      refine go st12 ?_
      show G (T12.setTop (mkF m 148 #[.val (.ref a), .val (.double num), .second, .val (.long num.toInt64), .second, .val (.int ((32 : Int32) - (1 : Int32))), .val (.int (Int32.ofNat x)), .val (.int (Int32.ofNat mm))] [(.int (Int32.ofNat (mm + 1))), (.int (2 : Int32))]))
      refine go (fun _ kont => XS.imul X12.here hx rfl (hb hby d_prog_102_method_12_148) rfl kont) ?_
      show G (T12.setTop (mkF m 149 #[.val (.ref a), .val (.double num), .second, .val (.long num.toInt64), .second, .val (.int ((32 : Int32) - (1 : Int32))), .val (.int (Int32.ofNat x)), .val (.int (Int32.ofNat mm))] [(.int ((2 : Int32) * (Int32.ofNat (mm + 1))))]))
      refine go (fun _ kont => XS.aloadN X12.here hx rfl (hb hby d_prog_102_method_12_149) rfl rfl kont) ?_
      show G (T12.setTop (mkF m 150 #[.val (.ref a), .val (.double num), .second, .val (.long num.toInt64), .second, .val (.int ((32 : Int32) - (1 : Int32))), .val (.int (Int32.ofNat x)), .val (.int (Int32.ofNat mm))] [(.ref a), (.int ((2 : Int32) * (Int32.ofNat (mm + 1))))]))
      obtain ⟨T13, X13, e13, st13⟩ := getF X12 hx hZ hown (host := "") (Or.inl (hw _ (List.mem_of_getElem? (i := 21) rfl))) Via.refl e12 O_4_11.2.2.2.2.2.1 (g := (mkF m 150 #[.val (.ref a), .val (.double num), .second, .val (.long num.toInt64), .second, .val (.int ((32 : Int32) - (1 : Int32))), .val (.int (Int32.ofNat x)), .val (.int (Int32.ofNat mm))] [(.ref a), (.int ((2 : Int32) * (Int32.ofNat (mm + 1))))])) rfl rfl (hb hby d_prog_102_method_12_150)
      refine go st13 ?_
      show G (T13.setTop (mkF m 153 #[.val (.ref a), .val (.double num), .second, .val (.long num.toInt64), .second, .val (.int ((32 : Int32) - (1 : Int32))), .val (.int (Int32.ofNat x)), .val (.int (Int32.ofNat mm))] [(.ref ks), (.int ((2 : Int32) * (Int32.ofNat (mm + 1))))]))
      obtain ⟨cl, Ar, Sl, Ml⟩ := id V9_11
      refine go (fun _ kont => X13.arraylength hx (by rw [e13]; exact Ar.1) (State.isArrayOf_alike hZ.alike Ar.2.1) (g := (mkF m 153 #[.val (.ref a), .val (.double num), .second, .val (.long num.toInt64), .second, .val (.int ((32 : Int32) - (1 : Int32))), .val (.int (Int32.ofNat x)), .val (.int (Int32.ofNat mm))] [(.ref ks), (.int ((2 : Int32) * (Int32.ofNat (mm + 1))))])) rfl (rest := [(.int ((2 : Int32) * (Int32.ofNat (mm + 1))))]) rfl (hb hby d_prog_102_method_12_153) _ kont) ?_
      rw [own_len (n := (32 : Int32)) Sl (by rw [List.length_map, List.length_set, hkl]; decide)]
      show G (T13.setTop (mkF m 154 #[.val (.ref a), .val (.double num), .second, .val (.long num.toInt64), .second, .val (.int ((32 : Int32) - (1 : Int32))), .val (.int (Int32.ofNat x)), .val (.int (Int32.ofNat mm))] [(.int (32 : Int32)), (.int ((2 : Int32) * (Int32.ofNat (mm + 1))))]))
      rw [show ((2 : Int32) * (Int32.ofNat (mm + 1))) = (Int32.ofNat (2 * (mm + 1))) from (Int32.ofNat_mul 2 (mm + 1)).symm]
      show G (T13.setTop (mkF m 154 #[.val (.ref a), .val (.double num), .second, .val (.long num.toInt64), .second, .val (.int ((32 : Int32) - (1 : Int32))), .val (.int (Int32.ofNat x)), .val (.int (Int32.ofNat mm))] [(.int (32 : Int32)), (.int (Int32.ofNat (2 * (mm + 1))))]))
      refine go (fun _ kont => XS.icmpYes X13.here hx rfl (pc0 := 154) (pc' := 161) rfl (hb hby d_prog_102_method_12_154) rfl (flt (fun q => by have q' := (own_ltO (d := 32) (k := 2 * (mm + 1)) (by omega) (by omega)).mp q; omega)).2.2.2 (by decide) (by decide) kont) ?_
      show G (T13.setTop (mkF m 161 #[.val (.ref a), .val (.double num), .second, .val (.long num.toInt64), .second, .val (.int ((32 : Int32) - (1 : Int32))), .val (.int (Int32.ofNat x)), .val (.int (Int32.ofNat mm))] []))
      refine go (fun _ kont => XS.iload X13.here hx rfl (hb hby d_prog_102_method_12_161) rfl  kont) ?_
      show G (T13.setTop (mkF m 163 #[.val (.ref a), .val (.double num), .second, .val (.long num.toInt64), .second, .val (.int ((32 : Int32) - (1 : Int32))), .val (.int (Int32.ofNat x)), .val (.int (Int32.ofNat mm))] [(.int (Int32.ofNat mm))]))
      rw [hG]
      exact own_retI X13 hx Bd.returns (hb hby d_prog_102_method_12_163) hlk (by decide) (by decide) (by rw [e13]; exact ⟨mm, mm + 1, _, _, _, rfl, N11, KK_11, O_4_11, own_inv_add I hm hx32, by omega, by omega, by omega, by rw [own_V_getsetD (by omega), if_pos rfl], fun i hi => by rw [own_V_getsetD (by omega), if_neg (by omega)], V7_11, V9_11, V11⟩)
    · refine go (fun _ kont => XS.icmpYes X1.here hx rfl (pc0 := 68) (pc' := 161) rfl (hb hby d_prog_102_method_12_68) rfl (feq hc68).2 (by decide) (by decide) kont) ?_
      show G (T1.setTop (mkF m 161 #[.val (.ref a), .val (.double num), .second, .val (.long num.toInt64), .second, .val (.int ((32 : Int32) - (1 : Int32))), .val (.int (Int32.ofNat x)), .val (.int (pv.getD x 0))] []))
      refine go (fun _ kont => XS.iload X1.here hx rfl (hb hby d_prog_102_method_12_161) rfl  kont) ?_
      show G (T1.setTop (mkF m 163 #[.val (.ref a), .val (.double num), .second, .val (.long num.toInt64), .second, .val (.int ((32 : Int32) - (1 : Int32))), .val (.int (Int32.ofNat x)), .val (.int (pv.getD x 0))] [(.int (pv.getD x 0))]))
      rw [hG]
      exact own_retI X1 hx Bd.returns (hb hby d_prog_102_method_12_163) hlk (by decide) (by decide) (by
        rw [e1]
        obtain ⟨j, q1, q2, q3⟩ := (hI4 x hx32).resolve_left hc68
        rw [q2]
        exact ⟨j, mm, ds, kv, pv, rfl, N', Keep.refl _ _, O, I, Nat.le_refl _, by omega, q1, own_bits (q3.symm.trans (hor.resolve_left hc68)), fun _ _ => rfl, VD, VK, VP⟩)
  have hlp : ∀ (r x : Nat), x < 32 → (∃ t, t ≤ r ∧ pv.getD ((x + t) % 32) 0 = (-1 : Int32)) → ∀ (T' : State) (ls : List Loc), Fr n0 ls → Stand p l e ({ frames := 2, cells := 0, slots := 0, locals := 30 } : Room) s m #[(.ref a), (.double num)] below meth c T' ls 0 0 → T'.heap = h0 → G (T'.setTop (mkF m 21 #[.val (.ref a), .val (.double num), .second, .val (.long num.toInt64), .second, .val (.int ((32 : Int32) - (1 : Int32))), .val (.int (Int32.ofNat x)), .unset] [])) := by
    intro r
    induction r with
    | zero =>
      intro x hx32 hex T' ls N' X' e'
      show G (T'.setTop (mkF m 21 #[.val (.ref a), .val (.double num), .second, .val (.long num.toInt64), .second, .val (.int ((32 : Int32) - (1 : Int32))), .val (.int (Int32.ofNat x)), .unset] []))
      obtain ⟨t, ht, q⟩ := hex
      obtain rfl : t = 0 := by omega
      rw [Nat.add_zero, Nat.mod_eq_of_lt hx32] at q
      refine go (fun _ kont => XS.aloadN X'.here hx rfl (hb hby d_prog_102_method_12_21) rfl rfl kont) ?_
      show G (T'.setTop (mkF m 22 #[.val (.ref a), .val (.double num), .second, .val (.long num.toInt64), .second, .val (.int ((32 : Int32) - (1 : Int32))), .val (.int (Int32.ofNat x)), .unset] [(.ref a)]))
      obtain ⟨T14, X14, e14, st14⟩ := getF X' hx hZ hown (host := "") (Or.inl (hw _ (List.mem_of_getElem? (i := 31) rfl))) Via.refl e' O.2.2.2.2.2.2.1 (g := (mkF m 22 #[.val (.ref a), .val (.double num), .second, .val (.long num.toInt64), .second, .val (.int ((32 : Int32) - (1 : Int32))), .val (.int (Int32.ofNat x)), .unset] [(.ref a)])) rfl rfl (hb hby d_prog_102_method_12_22)
      refine go st14 ?_
      show G (T14.setTop (mkF m 25 #[.val (.ref a), .val (.double num), .second, .val (.long num.toInt64), .second, .val (.int ((32 : Int32) - (1 : Int32))), .val (.int (Int32.ofNat x)), .unset] [(.ref ps)]))
      refine go (fun _ kont => XS.iload X14.here hx rfl (hb hby d_prog_102_method_12_25) rfl  kont) ?_
      show G (T14.setTop (mkF m 27 #[.val (.ref a), .val (.double num), .second, .val (.long num.toInt64), .second, .val (.int ((32 : Int32) - (1 : Int32))), .val (.int (Int32.ofNat x)), .unset] [(.int (Int32.ofNat x)), (.ref ps)]))
      obtain ⟨cl, Ar, Sl, Ml⟩ := id VP
      refine go (fun _ kont => X14.iaload hx (j := (Int32.ofNat x)) (v := (.int (pv.getD x 0))) (by rw [e14]; exact Ar.1) (State.isArrayOf_alike hZ.alike Ar.2.1) Ar.2.2 (own_hink Sl (own_neg (by rw [own_ofN (by omega)]; omega)) (own_tnO (by omega)) (k := x) (by rw [List.length_map]; omega)) (own_hatk Sl (own_tnO (by omega)) (own_atI (k := x) (by omega))) (g := (mkF m 27 #[.val (.ref a), .val (.double num), .second, .val (.long num.toInt64), .second, .val (.int ((32 : Int32) - (1 : Int32))), .val (.int (Int32.ofNat x)), .unset] [(.int (Int32.ofNat x)), (.ref ps)])) rfl rfl (hb hby d_prog_102_method_12_27) _ kont) ?_
      show G (T14.setTop (mkF m 28 #[.val (.ref a), .val (.double num), .second, .val (.long num.toInt64), .second, .val (.int ((32 : Int32) - (1 : Int32))), .val (.int (Int32.ofNat x)), .unset] [(.int (pv.getD x 0))]))
      refine go (fun _ kont => XS.iconst X14.here hx rfl (hb hby d_prog_102_method_12_28) kont) ?_
      show G (T14.setTop (mkF m 29 #[.val (.ref a), .val (.double num), .second, .val (.long num.toInt64), .second, .val (.int ((32 : Int32) - (1 : Int32))), .val (.int (Int32.ofNat x)), .unset] [(.int (-1 : Int32)), (.int (pv.getD x 0))]))
      refine go (fun _ kont => XS.icmpYes X14.here hx rfl (pc0 := 29) (pc' := 56) rfl (hb hby d_prog_102_method_12_29) rfl (teq q).1 (by decide) (by decide) kont) ?_
      show G (T14.setTop (mkF m 56 #[.val (.ref a), .val (.double num), .second, .val (.long num.toInt64), .second, .val (.int ((32 : Int32) - (1 : Int32))), .val (.int (Int32.ofNat x)), .unset] []))
      exact at56 x hx32 (by first | exact Or.inl hc29 | exact Or.inr hc41 | exact Or.inl q) _ _ N' X14 e14
    | succ r ih =>
      intro x hx32 hex T' ls N' X' e'
      show G (T'.setTop (mkF m 21 #[.val (.ref a), .val (.double num), .second, .val (.long num.toInt64), .second, .val (.int ((32 : Int32) - (1 : Int32))), .val (.int (Int32.ofNat x)), .unset] []))
      refine go (fun _ kont => XS.aloadN X'.here hx rfl (hb hby d_prog_102_method_12_21) rfl rfl kont) ?_
      show G (T'.setTop (mkF m 22 #[.val (.ref a), .val (.double num), .second, .val (.long num.toInt64), .second, .val (.int ((32 : Int32) - (1 : Int32))), .val (.int (Int32.ofNat x)), .unset] [(.ref a)]))
      obtain ⟨T15, X15, e15, st15⟩ := getF X' hx hZ hown (host := "") (Or.inl (hw _ (List.mem_of_getElem? (i := 31) rfl))) Via.refl e' O.2.2.2.2.2.2.1 (g := (mkF m 22 #[.val (.ref a), .val (.double num), .second, .val (.long num.toInt64), .second, .val (.int ((32 : Int32) - (1 : Int32))), .val (.int (Int32.ofNat x)), .unset] [(.ref a)])) rfl rfl (hb hby d_prog_102_method_12_22)
      refine go st15 ?_
      show G (T15.setTop (mkF m 25 #[.val (.ref a), .val (.double num), .second, .val (.long num.toInt64), .second, .val (.int ((32 : Int32) - (1 : Int32))), .val (.int (Int32.ofNat x)), .unset] [(.ref ps)]))
      refine go (fun _ kont => XS.iload X15.here hx rfl (hb hby d_prog_102_method_12_25) rfl  kont) ?_
      show G (T15.setTop (mkF m 27 #[.val (.ref a), .val (.double num), .second, .val (.long num.toInt64), .second, .val (.int ((32 : Int32) - (1 : Int32))), .val (.int (Int32.ofNat x)), .unset] [(.int (Int32.ofNat x)), (.ref ps)]))
      obtain ⟨cl, Ar, Sl, Ml⟩ := id VP
      refine go (fun _ kont => X15.iaload hx (j := (Int32.ofNat x)) (v := (.int (pv.getD x 0))) (by rw [e15]; exact Ar.1) (State.isArrayOf_alike hZ.alike Ar.2.1) Ar.2.2 (own_hink Sl (own_neg (by rw [own_ofN (by omega)]; omega)) (own_tnO (by omega)) (k := x) (by rw [List.length_map]; omega)) (own_hatk Sl (own_tnO (by omega)) (own_atI (k := x) (by omega))) (g := (mkF m 27 #[.val (.ref a), .val (.double num), .second, .val (.long num.toInt64), .second, .val (.int ((32 : Int32) - (1 : Int32))), .val (.int (Int32.ofNat x)), .unset] [(.int (Int32.ofNat x)), (.ref ps)])) rfl rfl (hb hby d_prog_102_method_12_27) _ kont) ?_
      show G (T15.setTop (mkF m 28 #[.val (.ref a), .val (.double num), .second, .val (.long num.toInt64), .second, .val (.int ((32 : Int32) - (1 : Int32))), .val (.int (Int32.ofNat x)), .unset] [(.int (pv.getD x 0))]))
      refine go (fun _ kont => XS.iconst X15.here hx rfl (hb hby d_prog_102_method_12_28) kont) ?_
      show G (T15.setTop (mkF m 29 #[.val (.ref a), .val (.double num), .second, .val (.long num.toInt64), .second, .val (.int ((32 : Int32) - (1 : Int32))), .val (.int (Int32.ofNat x)), .unset] [(.int (-1 : Int32)), (.int (pv.getD x 0))]))
      by_cases hc29 : (pv.getD x 0) = (-1 : Int32)
      · refine go (fun _ kont => XS.icmpYes X15.here hx rfl (pc0 := 29) (pc' := 56) rfl (hb hby d_prog_102_method_12_29) rfl (teq hc29).1 (by decide) (by decide) kont) ?_
        show G (T15.setTop (mkF m 56 #[.val (.ref a), .val (.double num), .second, .val (.long num.toInt64), .second, .val (.int ((32 : Int32) - (1 : Int32))), .val (.int (Int32.ofNat x)), .unset] []))
        exact at56 x hx32 (by first | exact Or.inl hc29 | exact Or.inr hc41 | exact Or.inl q) _ _ N' X15 e15
      · refine go (fun _ kont => XS.icmpNo X15.here hx rfl (hb hby d_prog_102_method_12_29) rfl (feq hc29).1 kont) ?_
        show G (T15.setTop (mkF m 32 #[.val (.ref a), .val (.double num), .second, .val (.long num.toInt64), .second, .val (.int ((32 : Int32) - (1 : Int32))), .val (.int (Int32.ofNat x)), .unset] []))
        refine go (fun _ kont => XS.aloadN X15.here hx rfl (hb hby d_prog_102_method_12_32) rfl rfl kont) ?_
        show G (T15.setTop (mkF m 33 #[.val (.ref a), .val (.double num), .second, .val (.long num.toInt64), .second, .val (.int ((32 : Int32) - (1 : Int32))), .val (.int (Int32.ofNat x)), .unset] [(.ref a)]))
        obtain ⟨T16, X16, e16, st16⟩ := getF X15 hx hZ hown (host := "") (Or.inl (hw _ (List.mem_of_getElem? (i := 21) rfl))) Via.refl e15 O.2.2.2.2.2.1 (g := (mkF m 33 #[.val (.ref a), .val (.double num), .second, .val (.long num.toInt64), .second, .val (.int ((32 : Int32) - (1 : Int32))), .val (.int (Int32.ofNat x)), .unset] [(.ref a)])) rfl rfl (hb hby d_prog_102_method_12_33)
        refine go st16 ?_
        show G (T16.setTop (mkF m 36 #[.val (.ref a), .val (.double num), .second, .val (.long num.toInt64), .second, .val (.int ((32 : Int32) - (1 : Int32))), .val (.int (Int32.ofNat x)), .unset] [(.ref ks)]))
        refine go (fun _ kont => XS.iload X16.here hx rfl (hb hby d_prog_102_method_12_36) rfl  kont) ?_
        show G (T16.setTop (mkF m 38 #[.val (.ref a), .val (.double num), .second, .val (.long num.toInt64), .second, .val (.int ((32 : Int32) - (1 : Int32))), .val (.int (Int32.ofNat x)), .unset] [(.int (Int32.ofNat x)), (.ref ks)]))
        obtain ⟨cl, Ar, Sl, Ml⟩ := id VK
        refine go (fun _ kont => X16.laload hx (j := (Int32.ofNat x)) (v := (.long (kv.getD x 0))) (by rw [e16]; exact Ar.1) (State.isArrayOf_alike hZ.alike Ar.2.1) Ar.2.2 (own_hink Sl (own_neg (by rw [own_ofN (by omega)]; omega)) (own_tnO (by omega)) (k := x) (by rw [List.length_map]; omega)) (own_hatk Sl (own_tnO (by omega)) (own_atJ (k := x) (by omega))) (g := (mkF m 38 #[.val (.ref a), .val (.double num), .second, .val (.long num.toInt64), .second, .val (.int ((32 : Int32) - (1 : Int32))), .val (.int (Int32.ofNat x)), .unset] [(.int (Int32.ofNat x)), (.ref ks)])) rfl rfl (hb hby d_prog_102_method_12_38) _ kont) ?_
        show G (T16.setTop (mkF m 39 #[.val (.ref a), .val (.double num), .second, .val (.long num.toInt64), .second, .val (.int ((32 : Int32) - (1 : Int32))), .val (.int (Int32.ofNat x)), .unset] [(.long (kv.getD x 0))]))
        refine go (fun _ kont => XS.lloadN X16.here hx rfl (hb hby d_prog_102_method_12_39) rfl  kont) ?_
        show G (T16.setTop (mkF m 40 #[.val (.ref a), .val (.double num), .second, .val (.long num.toInt64), .second, .val (.int ((32 : Int32) - (1 : Int32))), .val (.int (Int32.ofNat x)), .unset] [(.long num.toInt64), (.long (kv.getD x 0))]))
        refine go (fun _ kont => XS.lcmp X16.here hx rfl (hb hby d_prog_102_method_12_40) rfl kont) ?_
        show G (T16.setTop (mkF m 41 #[.val (.ref a), .val (.double num), .second, .val (.long num.toInt64), .second, .val (.int ((32 : Int32) - (1 : Int32))), .val (.int (Int32.ofNat x)), .unset] [(.int (lcmpW (kv.getD x 0) num.toInt64))]))
        by_cases hc41 : (kv.getD x 0) = num.toInt64
        · refine go (fun _ kont => XS.ifYes X16.here hx rfl (pc0 := 41) (pc' := 56) rfl (hb hby d_prog_102_method_12_41) rfl ((if0 _ _).trans (teq ((lw_eq _ _).mpr hc41)).1) (by decide) (by decide) kont) ?_
          show G (T16.setTop (mkF m 56 #[.val (.ref a), .val (.double num), .second, .val (.long num.toInt64), .second, .val (.int ((32 : Int32) - (1 : Int32))), .val (.int (Int32.ofNat x)), .unset] []))
          exact at56 x hx32 (by first | exact Or.inl hc29 | exact Or.inr hc41 | exact Or.inl q) _ _ N' X16 e16
        · refine go (fun _ kont => XS.ifNo X16.here hx rfl (hb hby d_prog_102_method_12_41) rfl ((if0 _ _).trans (feq (mt (lw_eq _ _).mp hc41)).1) kont) ?_
          show G (T16.setTop (mkF m 44 #[.val (.ref a), .val (.double num), .second, .val (.long num.toInt64), .second, .val (.int ((32 : Int32) - (1 : Int32))), .val (.int (Int32.ofNat x)), .unset] []))
          refine go (fun _ kont => XS.iload X16.here hx rfl (hb hby d_prog_102_method_12_44) rfl  kont) ?_
          show G (T16.setTop (mkF m 46 #[.val (.ref a), .val (.double num), .second, .val (.long num.toInt64), .second, .val (.int ((32 : Int32) - (1 : Int32))), .val (.int (Int32.ofNat x)), .unset] [(.int (Int32.ofNat x))]))
          refine go (fun _ kont => XS.iconst X16.here hx rfl (hb hby d_prog_102_method_12_46) kont) ?_
          show G (T16.setTop (mkF m 47 #[.val (.ref a), .val (.double num), .second, .val (.long num.toInt64), .second, .val (.int ((32 : Int32) - (1 : Int32))), .val (.int (Int32.ofNat x)), .unset] [(.int (1 : Int32)), (.int (Int32.ofNat x))]))
          refine go (fun _ kont => XS.iadd X16.here hx rfl (hb hby d_prog_102_method_12_47) rfl kont) ?_
          show G (T16.setTop (mkF m 48 #[.val (.ref a), .val (.double num), .second, .val (.long num.toInt64), .second, .val (.int ((32 : Int32) - (1 : Int32))), .val (.int (Int32.ofNat x)), .unset] [(.int ((Int32.ofNat x) + (1 : Int32)))]))
          refine go (fun _ kont => XS.iload X16.here hx rfl (hb hby d_prog_102_method_12_48) rfl  kont) ?_
          show G (T16.setTop (mkF m 50 #[.val (.ref a), .val (.double num), .second, .val (.long num.toInt64), .second, .val (.int ((32 : Int32) - (1 : Int32))), .val (.int (Int32.ofNat x)), .unset] [(.int ((32 : Int32) - (1 : Int32))), (.int ((Int32.ofNat x) + (1 : Int32)))]))
          refine go (fun _ kont => XS.iand X16.here hx rfl (hb hby d_prog_102_method_12_50) rfl kont) ?_
          show G (T16.setTop (mkF m 51 #[.val (.ref a), .val (.double num), .second, .val (.long num.toInt64), .second, .val (.int ((32 : Int32) - (1 : Int32))), .val (.int (Int32.ofNat x)), .unset] [(.int (((Int32.ofNat x) + (1 : Int32)) &&& ((32 : Int32) - (1 : Int32))))]))
          rw [own_nxt x hx32]
          show G (T16.setTop (mkF m 51 #[.val (.ref a), .val (.double num), .second, .val (.long num.toInt64), .second, .val (.int ((32 : Int32) - (1 : Int32))), .val (.int (Int32.ofNat x)), .unset] [(.int (Int32.ofNat ((x + 1) % 32)))]))
          refine go (fun _ kont => XS.istore X16.here hx rfl (hb hby d_prog_102_method_12_51) rfl (l' := #[.val (.ref a), .val (.double num), .second, .val (.long num.toInt64), .second, .val (.int ((32 : Int32) - (1 : Int32))), .val (.int (Int32.ofNat ((x + 1) % 32))), .unset]) rfl kont) ?_
          show G (T16.setTop (mkF m 53 #[.val (.ref a), .val (.double num), .second, .val (.long num.toInt64), .second, .val (.int ((32 : Int32) - (1 : Int32))), .val (.int (Int32.ofNat ((x + 1) % 32))), .unset] []))
          refine go (fun _ kont => XS.goto X16.here hx rfl (pc0 := 53) (pc' := 21) rfl (hb hby d_prog_102_method_12_53) (by decide) (by decide) kont) ?_
          show G (T16.setTop (mkF m 21 #[.val (.ref a), .val (.double num), .second, .val (.long num.toInt64), .second, .val (.int ((32 : Int32) - (1 : Int32))), .val (.int (Int32.ofNat ((x + 1) % 32))), .unset] []))
          refine ih ((x + 1) % 32) (Nat.mod_lt _ (by decide)) ?_ _ _ N' X16 e16
          obtain ⟨t, ht, q⟩ := hex
          by_cases t0 : t = 0
          · rw [t0, Nat.add_zero, Nat.mod_eq_of_lt hx32] at q
            exact absurd q hc29
          · exact ⟨t - 1, by omega, by rw [show ((x + 1) % 32 + (t - 1)) % 32 = (x + t) % 32 by omega]; exact q⟩
  refine go (fun _ kont => XS.dloadN X0.here hx rfl (hb hby d_prog_102_method_12_0) rfl  kont) ?_
  show G (s₁.setTop (mkF m 1 #[.val (.ref a), .val (.double num), .second, .unset, .unset, .unset, .unset, .unset] [(.double num)]))
  obtain ⟨vm17, X17, st17⟩ := X0.doubleToRawLongBits hx hown (mvT hZ (hw _ (List.mem_of_getElem? (i := 54) rfl))) (mvT hZ (hw _ (List.mem_of_getElem? (i := 57) rfl))) (mvT hZ (hw _ (List.mem_of_getElem? (i := 55) rfl))) (mvT hZ (hw _ (List.mem_of_getElem? (i := 56) rfl))) (g := (mkF m 1 #[.val (.ref a), .val (.double num), .second, .unset, .unset, .unset, .unset, .unset] [(.double num)])) rfl (by rw [hml]; rfl) (rest := []) (b := num) rfl (hb hby d_prog_102_method_12_1) (by decide) (by show 2 * 0 + 0 + (nativeFrameWords "java/lang/Double" "doubleToRawLongBits" 2 + 11) ≤ 30; decide +kernel)
  have e17 : (s₁.setVm vm17).heap = h0 := e0
  refine go st17 ?_
  show G ((s₁.setVm vm17).setTop (mkF m 4 #[.val (.ref a), .val (.double num), .second, .unset, .unset, .unset, .unset, .unset] [(.long num.toInt64)]))
  refine go (fun _ kont => XS.lstoreN X17.here hx rfl (hb hby d_prog_102_method_12_4) rfl (l' := #[.val (.ref a), .val (.double num), .second, .val (.long num.toInt64), .second, .unset, .unset, .unset]) rfl kont) ?_
  show G ((s₁.setVm vm17).setTop (mkF m 5 #[.val (.ref a), .val (.double num), .second, .val (.long num.toInt64), .second, .unset, .unset, .unset] []))
  refine go (fun _ kont => XS.aloadN X17.here hx rfl (hb hby d_prog_102_method_12_5) rfl rfl kont) ?_
  show G ((s₁.setVm vm17).setTop (mkF m 6 #[.val (.ref a), .val (.double num), .second, .val (.long num.toInt64), .second, .unset, .unset, .unset] [(.ref a)]))
  obtain ⟨T18, X18, e18, st18⟩ := getF X17 hx hZ hown (host := "") (Or.inl (hw _ (List.mem_of_getElem? (i := 21) rfl))) Via.refl e17 O.2.2.2.2.2.1 (g := (mkF m 6 #[.val (.ref a), .val (.double num), .second, .val (.long num.toInt64), .second, .unset, .unset, .unset] [(.ref a)])) rfl rfl (hb hby d_prog_102_method_12_6)
  refine go st18 ?_
  show G (T18.setTop (mkF m 9 #[.val (.ref a), .val (.double num), .second, .val (.long num.toInt64), .second, .unset, .unset, .unset] [(.ref ks)]))
  obtain ⟨cl, Ar, Sl, Ml⟩ := id VK
  refine go (fun _ kont => X18.arraylength hx (by rw [e18]; exact Ar.1) (State.isArrayOf_alike hZ.alike Ar.2.1) (g := (mkF m 9 #[.val (.ref a), .val (.double num), .second, .val (.long num.toInt64), .second, .unset, .unset, .unset] [(.ref ks)])) rfl (rest := []) rfl (hb hby d_prog_102_method_12_9) _ kont) ?_
  rw [own_len (n := (32 : Int32)) Sl (by rw [List.length_map, hkl]; decide)]
  show G (T18.setTop (mkF m 10 #[.val (.ref a), .val (.double num), .second, .val (.long num.toInt64), .second, .unset, .unset, .unset] [(.int (32 : Int32))]))
  refine go (fun _ kont => XS.iconst X18.here hx rfl (hb hby d_prog_102_method_12_10) kont) ?_
  show G (T18.setTop (mkF m 11 #[.val (.ref a), .val (.double num), .second, .val (.long num.toInt64), .second, .unset, .unset, .unset] [(.int (1 : Int32)), (.int (32 : Int32))]))
  refine go (fun _ kont => XS.isub X18.here hx rfl (hb hby d_prog_102_method_12_11) rfl kont) ?_
  show G (T18.setTop (mkF m 12 #[.val (.ref a), .val (.double num), .second, .val (.long num.toInt64), .second, .unset, .unset, .unset] [(.int ((32 : Int32) - (1 : Int32)))]))
  refine go (fun _ kont => XS.istore X18.here hx rfl (hb hby d_prog_102_method_12_12) rfl (l' := #[.val (.ref a), .val (.double num), .second, .val (.long num.toInt64), .second, .val (.int ((32 : Int32) - (1 : Int32))), .unset, .unset]) rfl kont) ?_
  show G (T18.setTop (mkF m 14 #[.val (.ref a), .val (.double num), .second, .val (.long num.toInt64), .second, .val (.int ((32 : Int32) - (1 : Int32))), .unset, .unset] []))
  refine go (fun _ kont => XS.aloadN X18.here hx rfl (hb hby d_prog_102_method_12_14) rfl rfl kont) ?_
  show G (T18.setTop (mkF m 15 #[.val (.ref a), .val (.double num), .second, .val (.long num.toInt64), .second, .val (.int ((32 : Int32) - (1 : Int32))), .unset, .unset] [(.ref a)]))
  refine go (fun _ kont => XS.lloadN X18.here hx rfl (hb hby d_prog_102_method_12_15) rfl  kont) ?_
  show G (T18.setTop (mkF m 16 #[.val (.ref a), .val (.double num), .second, .val (.long num.toInt64), .second, .val (.int ((32 : Int32) - (1 : Int32))), .unset, .unset] [(.long num.toInt64), (.ref a)]))
  obtain ⟨cq19, qa19, qb19⟩ := O.1.cell
  have hpv19 := Cond.privateMethod_at (mvP hZ (hw _ (List.mem_of_getElem? (i := 60) rfl)) (args := #[]))
  obtain ⟨_, _, ⟨T19, L19, k19, n19⟩, -, X19, ⟨Lc19, hQ19, l19, y19, z19⟩, st19⟩ := X18.privateBack hx (y := (⟨"com/example/knotweed/knotweed/engine/TransitionList", "slotOf", "(J)I"⟩ : MethodName)) hown (mvT hZ (hw _ (List.mem_of_getElem? (i := 58) rfl))) (mvT hZ (hw _ (List.mem_of_getElem? (i := 59) rfl))) (own_selP hZ (hw _ (List.mem_of_getElem? (i := 36) rfl)) rfl hpv19 (mvT hZ (hw _ (List.mem_of_getElem? (i := 59) rfl))) (by decide)) hpv19 (mvT hZ (hw _ (List.mem_of_getElem? (i := 61) rfl))) (by decide) (backOf (W := 0) (own_rm_slot l Z a0 hw [] a num.toInt64 h0 n0 Z0 k mm tg ix tb ks ps O kv hkl VK) hZ (hw _ (List.mem_of_getElem? (i := 61) rfl)) (hw _ (List.mem_of_getElem? (i := 2) rfl)) (by decide) (by decide)) (g := (mkF m 16 #[.val (.ref a), .val (.double num), .second, .val (.long num.toInt64), .second, .val (.int ((32 : Int32) - (1 : Int32))), .unset, .unset] [(.long num.toInt64), (.ref a)])) rfl (by rw [hml]; rfl) (Steps.refl _) (a := a) (by rw [e18]; exact qa19) qb19 (argsL := [(.long num.toInt64)]) (rest := []) (lenOf own_pd3 rfl) rfl (by show 2 * 0 + _ ≤ _; exact Nat.le_of_eq rfl) (hb hby d_prog_102_method_12_16) (fun _ _ => ⟨rfl, e18, (by decide : 0 + 0 ≤ _), (by decide : 0 + 0 ≤ _)⟩)
  dsimp only [Pt.U, Pt.locs, Pt.cells, Pt.slots] at X19 l19 y19 z19 st19 hQ19
  subst l19 y19 z19
  obtain ⟨⟨x, hx32, rfl⟩, N19q, e19⟩ := hQ19
  have N19 := Fr.app N0 N19q
  refine go (fun _ kont => st19.trans kont) ?_
  show G (T19.setTop (mkF m 19 #[.val (.ref a), .val (.double num), .second, .val (.long num.toInt64), .second, .val (.int ((32 : Int32) - (1 : Int32))), .unset, .unset] [(.int (Int32.ofNat x))]))
  refine go (fun _ kont => XS.istore X19.here hx rfl (hb hby d_prog_102_method_12_19) rfl (l' := #[.val (.ref a), .val (.double num), .second, .val (.long num.toInt64), .second, .val (.int ((32 : Int32) - (1 : Int32))), .val (.int (Int32.ofNat x)), .unset]) rfl kont) ?_
  show G (T19.setTop (mkF m 21 #[.val (.ref a), .val (.double num), .second, .val (.long num.toInt64), .second, .val (.int ((32 : Int32) - (1 : Int32))), .val (.int (Int32.ofNat x)), .unset] []))
  exact hlp 3 x hx32 (own_free I hm x) _ _ N19 X19 e19
theorem own_ef_own_rm_block (m : MethodId) (x0 : Addr) (x1 : Int32) : entryFrame m #[(.ref x0), (.int x1)] 2 = mkF m 0 #[.val (.ref x0), .val (.int x1)] [] := by first | (simp [entryFrame, mkF, argsToLocals, Value.category]; done) | rfl
def own_Q_block (Z : State) (h0 : Heap) (n0 : Nat) (a : Addr) (tg ix : Addr) (v : Option Value) (h : Heap) (L : List Loc) : Prop := v = none ∧ Fr n0 L ∧ Keep h0 h [tg, ix] ∧ ∃ t0 i0 : Addr, own_RA Z h tg .int "[I" (.ref t0 :: List.replicate 15 .null) ∧ own_RA Z h ix .char "[C" (.ref i0 :: List.replicate 15 .null) ∧ own_V Z h t0 .int (List.replicate 32768 (.int 0)) ∧ own_V Z h i0 .char ((List.replicate 32768 (0 : Int32)).map Value.int) ∧ h0.size ≤ t0 ∧ t0 < i0
set_option maxRecDepth 65536 in
set_option maxHeartbeats 40000000 in
theorem own_rm_block (l : Launch) (Z : State) (a0 : Array Value) (hw : ∀ d ∈ tables_1, d.before a0 Z = true) (ws : List Jvm.Cond) (a : Addr) (h0 : Heap) (n0 : Nat) (Z0 : n0 ≤ h0.size) (mm : Nat) (tg ix tb ks ps : Addr) (O : own_O Z h0 a 0 mm tg ix tb ks ps) (RT : own_RA Z h0 tg .int "[I" (List.replicate 16 .null)) (RX : own_RA Z h0 ix .char "[C" (List.replicate 16 .null)) (ga : n0 ≤ a) (o1 : a < tg) (o2 : tg < ix) :
    MetFree l (⟨"com/example/knotweed/knotweed/engine/TransitionList", "addBlock", "(I)V"⟩ : MethodName) (head1 (Jvm.Cond.code (⟨"com/example/knotweed/knotweed/engine/TransitionList", "addBlock", "(I)V"⟩ : MethodName) prog_102_method_11_code 2 none :: ws) ({ frames := 0, cells := 2, slots := 65536, locals := 0 } : Room)) (fun aq Uq => aq = #[(.ref a), (.int (0 : Int32))] ∧ Z.Warmed39 Uq.vm ∧ Uq.heap = h0) (fun _ _ _ _ _ => True) (fun _ Uq oq Uq' => ∃ vq Lq, oq = .returned vq ∧ (own_Q_block Z h0 n0 a tg ix) vq Uq'.heap Lq ∧ FrameEnd Uq oq Uq' Lq ({ frames := 0, cells := 2, slots := 65536, locals := 0 } : Room).cells ({ frames := 0, cells := 2, slots := 65536, locals := 0 } : Room).slots) := by
  refine MetFree.of_bodySF (plainFor_of_name own_pn1) hisR ?_
  intro p e s m args below meth c s₁ Bd hml0 hP hK
  obtain ⟨rfl, hZ, hh⟩ := hP
  have hx := Bd.exec
  have hby := Bd.bytes
  have hml : c.maxLocals = 2 := hml0
  have hown : s.vm.findClass "com/example/knotweed/knotweed/engine/TransitionList" = some m.cls := findClass_of_methodNamed Bd.named
  have hnm := (name_of_methodNamed Bd.named Bd.method).1
  have X0 : Stand p l e ({ frames := 0, cells := 2, slots := 65536, locals := 0 } : Room) s m #[(.ref a), (.int (0 : Int32))] below meth c s₁ [] 0 0 := Stand.of_body Bd
  have e0 : s₁.heap = h0 := by rw [← hh, Bd.state]; rfl
  have N0 := Fr.nil n0
  have hlk : meth.locks = false := by first | exact BodyLoose.notSynchronized Bd | exact Body.notSynchronized Bd
  obtain ⟨G, hG⟩ : ∃ G : State → Prop, G = own_G p e below s ({ frames := 0, cells := 2, slots := 65536, locals := 0 } : Room).cells ({ frames := 0, cells := 2, slots := 65536, locals := 0 } : Room).slots ((own_Q_block Z h0 n0 a tg ix)) := ⟨_, rfl⟩
  have go : ∀ {S S' : State}, (∀ t, Steps p.tables e below S' t → Steps p.tables e below S t) → G S' → G S := by rw [hG]; exact own_to
  suffices hs : G (s₁.setTop (mkF m 0 #[.val (.ref a), .val (.int (0 : Int32))] [])) by
    rw [hG] at hs
    exact own_to (fun _ kont => castTop (own_ef_own_rm_block m a (0 : Int32)) kont) hs
  refine go (fun _ kont => XS.iloadN X0.here hx rfl (hb hby d_prog_102_method_11_0) rfl  kont) ?_
  show G (s₁.setTop (mkF m 1 #[.val (.ref a), .val (.int (0 : Int32))] [(.int (0 : Int32))]))
  refine go (fun _ kont => XS.aloadN X0.here hx rfl (hb hby d_prog_102_method_11_1) rfl rfl kont) ?_
  show G (s₁.setTop (mkF m 2 #[.val (.ref a), .val (.int (0 : Int32))] [(.ref a), (.int (0 : Int32))]))
  obtain ⟨T1, X1, e1, st1⟩ := getF X0 hx hZ hown (host := "") (Or.inl (hw _ (List.mem_of_getElem? (i := 11) rfl))) Via.refl e0 O.2.2.1 (g := (mkF m 2 #[.val (.ref a), .val (.int (0 : Int32))] [(.ref a), (.int (0 : Int32))])) rfl rfl (hb hby d_prog_102_method_11_2)
  refine go st1 ?_
  show G (T1.setTop (mkF m 5 #[.val (.ref a), .val (.int (0 : Int32))] [(.ref tg), (.int (0 : Int32))]))
  obtain ⟨cl, Ar, Ov, Sl, Ml⟩ := id RT
  refine go (fun _ kont => X1.arraylength hx (by rw [e1]; exact Ar.1) (State.isArrayOf_alike hZ.alike Ar.2.1) (g := (mkF m 5 #[.val (.ref a), .val (.int (0 : Int32))] [(.ref tg), (.int (0 : Int32))])) rfl (rest := [(.int (0 : Int32))]) rfl (hb hby d_prog_102_method_11_5) _ kont) ?_
  rw [own_len (n := (16 : Int32)) Sl (by decide)]
  show G (T1.setTop (mkF m 6 #[.val (.ref a), .val (.int (0 : Int32))] [(.int (16 : Int32)), (.int (0 : Int32))]))
  refine go (fun _ kont => XS.icmpYes X1.here hx rfl (pc0 := 6) (pc' := 82) rfl (hb hby d_prog_102_method_11_6) rfl (feq (by decide)).2 (by decide) (by decide) kont) ?_
  show G (T1.setTop (mkF m 82 #[.val (.ref a), .val (.int (0 : Int32))] []))
  refine go (fun _ kont => XS.aloadN X1.here hx rfl (hb hby d_prog_102_method_11_82) rfl rfl kont) ?_
  show G (T1.setTop (mkF m 83 #[.val (.ref a), .val (.int (0 : Int32))] [(.ref a)]))
  obtain ⟨T2, X2, e2, st2⟩ := getF X1 hx hZ hown (host := "") (Or.inl (hw _ (List.mem_of_getElem? (i := 11) rfl))) Via.refl e1 O.2.2.1 (g := (mkF m 83 #[.val (.ref a), .val (.int (0 : Int32))] [(.ref a)])) rfl rfl (hb hby d_prog_102_method_11_83)
  refine go st2 ?_
  show G (T2.setTop (mkF m 86 #[.val (.ref a), .val (.int (0 : Int32))] [(.ref tg)]))
  refine go (fun _ kont => XS.iloadN X2.here hx rfl (hb hby d_prog_102_method_11_86) rfl  kont) ?_
  show G (T2.setTop (mkF m 87 #[.val (.ref a), .val (.int (0 : Int32))] [(.int (0 : Int32)), (.ref tg)]))
  obtain ⟨cl, Ar, Ov, Sl, Ml⟩ := id RT
  refine go (fun _ kont => X2.aaload hx (j := (0 : Int32)) (v := .null) (by rw [e2]; exact Ar.1) (State.isArrayOf_alike hZ.alike Ar.2.1) rfl Ar.2.2 (own_hink Sl (by decide) (k := 0) (by decide) (by decide)) (own_hatk Sl (k := 0) (by decide) rfl) (g := (mkF m 87 #[.val (.ref a), .val (.int (0 : Int32))] [(.int (0 : Int32)), (.ref tg)])) rfl rfl (hb hby d_prog_102_method_11_87) _ kont) ?_
  show G (T2.setTop (mkF m 88 #[.val (.ref a), .val (.int (0 : Int32))] [.null]))
  refine go (fun _ kont => XS.ifnonnullNo X2.here hx rfl (hb hby d_prog_102_method_11_88) rfl kont) ?_
  show G (T2.setTop (mkF m 91 #[.val (.ref a), .val (.int (0 : Int32))] []))
  refine go (fun _ kont => XS.aloadN X2.here hx rfl (hb hby d_prog_102_method_11_91) rfl rfl kont) ?_
  show G (T2.setTop (mkF m 92 #[.val (.ref a), .val (.int (0 : Int32))] [(.ref a)]))
  obtain ⟨T3, X3, e3, st3⟩ := getF X2 hx hZ hown (host := "") (Or.inl (hw _ (List.mem_of_getElem? (i := 11) rfl))) Via.refl e2 O.2.2.1 (g := (mkF m 92 #[.val (.ref a), .val (.int (0 : Int32))] [(.ref a)])) rfl rfl (hb hby d_prog_102_method_11_92)
  refine go st3 ?_
  show G (T3.setTop (mkF m 95 #[.val (.ref a), .val (.int (0 : Int32))] [(.ref tg)]))
  refine go (fun _ kont => XS.iloadN X3.here hx rfl (hb hby d_prog_102_method_11_95) rfl  kont) ?_
  show G (T3.setTop (mkF m 96 #[.val (.ref a), .val (.int (0 : Int32))] [(.int (0 : Int32)), (.ref tg)]))
  refine go (fun _ kont => X3.ldcInt hx hown (mvT hZ (hw _ (List.mem_of_getElem? (i := 44) rfl))) (g := (mkF m 96 #[.val (.ref a), .val (.int (0 : Int32))] [(.int (0 : Int32)), (.ref tg)])) rfl (hb hby d_prog_102_method_11_96) _ kont) ?_
  show G (T3.setTop (mkF m 98 #[.val (.ref a), .val (.int (0 : Int32))] [(.int (32768 : Int32)), (.int (0 : Int32)), (.ref tg)]))
  obtain ⟨T4, h4, k4, X4, e4, E4, A4, Q4, st4⟩ := newPE X3 hx hZ (hw _ (List.mem_of_getElem? (i := 26) rfl)) e3 (g := (mkF m 98 #[.val (.ref a), .val (.int (0 : Int32))] [(.int (32768 : Int32)), (.int (0 : Int32)), (.ref tg)])) rfl (hb hby d_prog_102_method_11_98) rfl (by decide) (cap := 32768) (by decide) (by decide) (by decide) (by decide) (ad := "[I") (by decide +kernel)
  obtain ⟨b4, g4⟩ : ∃ z, z = h0.size := ⟨_, rfl⟩
  rw [← g4] at A4 Q4 st4
  refine go st4 ?_
  show G (T4.setTop (mkF m 100 #[.val (.ref a), .val (.int (0 : Int32))] [(.ref b4), (.int (0 : Int32)), (.ref tg)]))
  have o_a_4 : a < b4 := by rw [g4]; exact O.1.lt
  have o_ix_4 : ix < b4 := by rw [g4]; exact (own_RA_lt RX)
  have o_tg_4 : tg < b4 := by rw [g4]; exact (own_RA_lt RT)
  have gz_b4 : h0.size ≤ b4 := by rw [g4]; exact (Keep.refl h0 [tg, ix]).1
  have O_4 := own_O_ext O E4
  have RT_4 := own_RA_ext RT E4
  have RX_4 := own_RA_ext RX E4
  have KK_4 := (Keep.refl h0 [tg, ix]).ext E4
  have V4 : own_V Z h4 b4 .int (List.replicate 32768 (.int 0)) := own_V_new A4 (m := 32768) (by decide) (by decide)
  obtain ⟨cl5, Ar5, Ov5, Sl5, Ml5⟩ := id RT_4
  obtain ⟨T5, h5, X5, e5, W5, st5⟩ := stR X4 hx hZ e4 Ar5 (j := (0 : Int32)) (own_hink Sl5 (by decide) (k := 0) (by decide) (by decide)) rfl (Sto.ofVA Ar5 rfl Ov5 (Ins.self Q4)) (g := (mkF m 100 #[.val (.ref a), .val (.int (0 : Int32))] [(.ref b4), (.int (0 : Int32)), (.ref tg)])) rfl rfl (hb hby d_prog_102_method_11_100)
  refine go st5 ?_
  have O_5 := own_O_other O_4 W5 (Nat.ne_of_lt o1)
  have RX_5 := own_RA_other RX_4 W5 (Nat.ne_of_gt o2)
  have KK_5 := KK_4.wr W5 (Or.inl (List.mem_of_getElem? (i := 0) rfl))
  have V4_5 := own_V_other V4 W5 (Nat.ne_of_gt o_tg_4)
  have Q4_5 := Q4.wr W5
  have R5 : own_RA Z h5 tg .int "[I" ((.ref b4) :: List.replicate 15 .null) := own_RA_set RT_4 W5 (k := 0) (by decide)
  have N5 := Fr.snoc X5 N0 (Nat.le_trans ga (Nat.le_of_lt o1))
  show G (T5.setTop (mkF m 101 #[.val (.ref a), .val (.int (0 : Int32))] []))
  refine go (fun _ kont => XS.aloadN X5.here hx rfl (hb hby d_prog_102_method_11_101) rfl rfl kont) ?_
  show G (T5.setTop (mkF m 102 #[.val (.ref a), .val (.int (0 : Int32))] [(.ref a)]))
  obtain ⟨T6, X6, e6, st6⟩ := getF X5 hx hZ hown (host := "") (Or.inl (hw _ (List.mem_of_getElem? (i := 46) rfl))) Via.refl e5 O_5.2.2.2.2.2.2.2.1 (g := (mkF m 102 #[.val (.ref a), .val (.int (0 : Int32))] [(.ref a)])) rfl rfl (hb hby d_prog_102_method_11_102)
  refine go st6 ?_
  show G (T6.setTop (mkF m 105 #[.val (.ref a), .val (.int (0 : Int32))] [.null]))
  refine go (fun _ kont => XS.ifnonnullNo X6.here hx rfl (hb hby d_prog_102_method_11_105) rfl kont) ?_
  show G (T6.setTop (mkF m 108 #[.val (.ref a), .val (.int (0 : Int32))] []))
  refine go (fun _ kont => XS.aloadN X6.here hx rfl (hb hby d_prog_102_method_11_108) rfl rfl kont) ?_
  show G (T6.setTop (mkF m 109 #[.val (.ref a), .val (.int (0 : Int32))] [(.ref a)]))
  obtain ⟨T7, X7, e7, st7⟩ := getF X6 hx hZ hown (host := "") (Or.inl (hw _ (List.mem_of_getElem? (i := 15) rfl))) Via.refl e6 O_5.2.2.2.1 (g := (mkF m 109 #[.val (.ref a), .val (.int (0 : Int32))] [(.ref a)])) rfl rfl (hb hby d_prog_102_method_11_109)
  refine go st7 ?_
  show G (T7.setTop (mkF m 112 #[.val (.ref a), .val (.int (0 : Int32))] [(.ref ix)]))
  refine go (fun _ kont => XS.iloadN X7.here hx rfl (hb hby d_prog_102_method_11_112) rfl  kont) ?_
  show G (T7.setTop (mkF m 113 #[.val (.ref a), .val (.int (0 : Int32))] [(.int (0 : Int32)), (.ref ix)]))
  obtain ⟨cl, Ar, Ov, Sl, Ml⟩ := id RX_5
  refine go (fun _ kont => X7.aaload hx (j := (0 : Int32)) (v := .null) (by rw [e7]; exact Ar.1) (State.isArrayOf_alike hZ.alike Ar.2.1) rfl Ar.2.2 (own_hink Sl (by decide) (k := 0) (by decide) (by decide)) (own_hatk Sl (k := 0) (by decide) rfl) (g := (mkF m 113 #[.val (.ref a), .val (.int (0 : Int32))] [(.int (0 : Int32)), (.ref ix)])) rfl rfl (hb hby d_prog_102_method_11_113) _ kont) ?_
  show G (T7.setTop (mkF m 114 #[.val (.ref a), .val (.int (0 : Int32))] [.null]))
  refine go (fun _ kont => XS.ifnonnullNo X7.here hx rfl (hb hby d_prog_102_method_11_114) rfl kont) ?_
  show G (T7.setTop (mkF m 117 #[.val (.ref a), .val (.int (0 : Int32))] []))
  refine go (fun _ kont => XS.aloadN X7.here hx rfl (hb hby d_prog_102_method_11_117) rfl rfl kont) ?_
  show G (T7.setTop (mkF m 118 #[.val (.ref a), .val (.int (0 : Int32))] [(.ref a)]))
  obtain ⟨T8, X8, e8, st8⟩ := getF X7 hx hZ hown (host := "") (Or.inl (hw _ (List.mem_of_getElem? (i := 15) rfl))) Via.refl e7 O_5.2.2.2.1 (g := (mkF m 118 #[.val (.ref a), .val (.int (0 : Int32))] [(.ref a)])) rfl rfl (hb hby d_prog_102_method_11_118)
  refine go st8 ?_
  show G (T8.setTop (mkF m 121 #[.val (.ref a), .val (.int (0 : Int32))] [(.ref ix)]))
  refine go (fun _ kont => XS.iloadN X8.here hx rfl (hb hby d_prog_102_method_11_121) rfl  kont) ?_
  show G (T8.setTop (mkF m 122 #[.val (.ref a), .val (.int (0 : Int32))] [(.int (0 : Int32)), (.ref ix)]))
  refine go (fun _ kont => X8.ldcInt hx hown (mvT hZ (hw _ (List.mem_of_getElem? (i := 44) rfl))) (g := (mkF m 122 #[.val (.ref a), .val (.int (0 : Int32))] [(.int (0 : Int32)), (.ref ix)])) rfl (hb hby d_prog_102_method_11_122) _ kont) ?_
  show G (T8.setTop (mkF m 124 #[.val (.ref a), .val (.int (0 : Int32))] [(.int (32768 : Int32)), (.int (0 : Int32)), (.ref ix)]))
  obtain ⟨T9, h9, k9, X9, e9, E9, A9, Q9, st9⟩ := newPE X8 hx hZ (hw _ (List.mem_of_getElem? (i := 48) rfl)) e8 (g := (mkF m 124 #[.val (.ref a), .val (.int (0 : Int32))] [(.int (32768 : Int32)), (.int (0 : Int32)), (.ref ix)])) rfl (hb hby d_prog_102_method_11_124) rfl (by decide) (cap := 32768) (by decide) (by decide) (by decide) (by decide) (ad := "[C") (by decide +kernel)
  obtain ⟨b9, g9⟩ : ∃ z, z = h5.size := ⟨_, rfl⟩
  rw [← g9] at A9 Q9 st9
  refine go st9 ?_
  show G (T9.setTop (mkF m 126 #[.val (.ref a), .val (.int (0 : Int32))] [(.ref b9), (.int (0 : Int32)), (.ref ix)]))
  have o_a_9 : a < b9 := by rw [g9]; exact O_5.1.lt
  have o_b4_9 : b4 < b9 := by rw [g9]; exact (own_V_lt V4_5)
  have o_ix_9 : ix < b9 := by rw [g9]; exact (own_RA_lt RX_5)
  have o_tg_9 : tg < b9 := by rw [g9]; exact (own_RA_lt R5)
  have gz_b9 : h0.size ≤ b9 := by rw [g9]; exact KK_5.1
  have O_9 := own_O_ext O_5 E9
  have R5_9 := own_RA_ext R5 E9
  have RX_9 := own_RA_ext RX_5 E9
  have KK_9 := KK_5.ext E9
  have V4_9 := own_V_ext V4_5 E9
  have Q4_9 := Q4_5.ext E9
  have V9 : own_V Z h9 b9 .char ((List.replicate 32768 (0 : Int32)).map Value.int) := by rw [List.map_replicate]; exact own_V_new A9 (m := 32768) (by decide) (by decide)
  obtain ⟨cl10, Ar10, Ov10, Sl10, Ml10⟩ := id RX_9
  obtain ⟨T10, h10, X10, e10, W10, st10⟩ := stR X9 hx hZ e9 Ar10 (j := (0 : Int32)) (own_hink Sl10 (by decide) (k := 0) (by decide) (by decide)) rfl (Sto.ofVA Ar10 rfl Ov10 (Ins.self Q9)) (g := (mkF m 126 #[.val (.ref a), .val (.int (0 : Int32))] [(.ref b9), (.int (0 : Int32)), (.ref ix)])) rfl rfl (hb hby d_prog_102_method_11_126)
  refine go st10 ?_
  have O_10 := own_O_other O_9 W10 (Nat.ne_of_lt (Nat.lt_trans o1 o2))
  have R5_10 := own_RA_other R5_9 W10 (Nat.ne_of_lt o2)
  have KK_10 := KK_9.wr W10 (Or.inl (List.mem_of_getElem? (i := 1) rfl))
  have V4_10 := own_V_other V4_9 W10 (Nat.ne_of_gt o_ix_4)
  have Q4_10 := Q4_9.wr W10
  have V9_10 := own_V_other V9 W10 (Nat.ne_of_gt o_ix_9)
  have Q9_10 := Q9.wr W10
  have R10 : own_RA Z h10 ix .char "[C" ((.ref b9) :: List.replicate 15 .null) := own_RA_set RX_9 W10 (k := 0) (by decide)
  have N10 := Fr.snoc X10 N5 (Nat.le_trans ga (Nat.le_of_lt (Nat.lt_trans o1 o2)))
  show G (T10.setTop (mkF m 127 #[.val (.ref a), .val (.int (0 : Int32))] []))
  refine go (fun _ kont => XS.aloadN X10.here hx rfl (hb hby d_prog_102_method_11_127) rfl rfl kont) ?_
  show G (T10.setTop (mkF m 128 #[.val (.ref a), .val (.int (0 : Int32))] [(.ref a)]))
  obtain ⟨T11, X11, e11, st11⟩ := getF X10 hx hZ hown (host := "") (Or.inl (hw _ (List.mem_of_getElem? (i := 46) rfl))) Via.refl e10 O_10.2.2.2.2.2.2.2.1 (g := (mkF m 128 #[.val (.ref a), .val (.int (0 : Int32))] [(.ref a)])) rfl rfl (hb hby d_prog_102_method_11_128)
  refine go st11 ?_
  show G (T11.setTop (mkF m 131 #[.val (.ref a), .val (.int (0 : Int32))] [.null]))
  refine go (fun _ kont => XS.ifnullYes X11.here hx rfl (pc0 := 131) (pc' := 153) rfl (hb hby d_prog_102_method_11_131) rfl (by decide) (by decide) kont) ?_
  show G (T11.setTop (mkF m 153 #[.val (.ref a), .val (.int (0 : Int32))] []))
  rw [hG]
  exact own_retV X11 hx Bd.returns (hb hby d_prog_102_method_11_153) hlk (by decide) (by decide) (by rw [e11]; exact ⟨rfl, N10, KK_10, b4, b9, R5_10, R10, V4_10, V9_10, gz_b4, o_b4_9⟩)
theorem own_ef_own_rm_add0 (m : MethodId) (x0 : Addr) (x1 : Int32) (x2 : UInt64) : entryFrame m #[(.ref x0), (.int x1), (.double x2)] 7 = mkF m 0 #[.val (.ref x0), .val (.int x1), .val (.double x2), .second, .unset, .unset, .unset] [] := by first | (simp [entryFrame, mkF, argsToLocals, Value.category]; done) | rfl
def own_Q_add0 (Z : State) (h0 : Heap) (n0 : Nat) (a : Addr) (tt : Int32) (num : UInt64) (xs : List UInt64) (v : Option Value) (h : Heap) (L : List Loc) : Prop := v = none ∧ Fr n0 L ∧ n0 ≤ h.size ∧ own_LL Z h n0 a (0 + 1) xs
set_option maxRecDepth 65536 in
set_option maxHeartbeats 40000000 in
theorem own_rm_add0 (l : Launch) (Z : State) (a0 : Array Value) (hw : ∀ d ∈ tables_1, d.before a0 Z = true) (ws : List Jvm.Cond) (a : Addr) (tt : Int32) (num : UInt64) (h0 : Heap) (n0 : Nat) (Z0 : n0 ≤ h0.size) (xs : List UInt64) (hnum : num = xs.getD 0 0) (mm : Nat) (hmk : mm ≤ 0) (tg ix tb ks ps : Addr) (ds : List UInt64) (kv : List Int64) (pv : List Int32) (O : own_O Z h0 a 0 mm tg ix tb ks ps) (RT : own_RA Z h0 tg .int "[I" (List.replicate 16 .null)) (RX : own_RA Z h0 ix .char "[C" (List.replicate 16 .null)) (VD : own_V Z h0 tb .double (ds.map Value.double)) (VK : own_V Z h0 ks .long (kv.map Value.long)) (VP : own_V Z h0 ps .int (pv.map Value.int)) (I : own_inv mm ds kv pv) (ga : n0 ≤ a) (o1 : a < tg) (o2 : tg < ix) (o3 : ix < tb) (o4 : tb < ks) (o5 : ks < ps) :
    MetFree l (⟨"com/example/knotweed/knotweed/engine/TransitionList", "add", "(ID)V"⟩ : MethodName) (head1 (Jvm.Cond.code (⟨"com/example/knotweed/knotweed/engine/TransitionList", "add", "(ID)V"⟩ : MethodName) prog_102_method_3_code 7 none :: ws) ({ frames := 3, cells := 2, slots := 65536, locals := 49 } : Room)) (fun aq Uq => aq = #[(.ref a), (.int tt), (.double num)] ∧ Z.Warmed39 Uq.vm ∧ Uq.heap = h0) (fun _ _ _ _ _ => True) (fun _ Uq oq Uq' => ∃ vq Lq, oq = .returned vq ∧ (own_Q_add0 Z h0 n0 a tt num xs) vq Uq'.heap Lq ∧ FrameEnd Uq oq Uq' Lq ({ frames := 3, cells := 2, slots := 65536, locals := 49 } : Room).cells ({ frames := 3, cells := 2, slots := 65536, locals := 49 } : Room).slots) := by
  refine MetFree.of_bodySF (plainFor_of_name own_pn1) hisR ?_
  intro p e s m args below meth c s₁ Bd hml0 hP hK
  obtain ⟨rfl, hZ, hh⟩ := hP
  have hx := Bd.exec
  have hby := Bd.bytes
  have hml : c.maxLocals = 7 := hml0
  have hown : s.vm.findClass "com/example/knotweed/knotweed/engine/TransitionList" = some m.cls := findClass_of_methodNamed Bd.named
  have hnm := (name_of_methodNamed Bd.named Bd.method).1
  have X0 : Stand p l e ({ frames := 3, cells := 2, slots := 65536, locals := 49 } : Room) s m #[(.ref a), (.int tt), (.double num)] below meth c s₁ [] 0 0 := Stand.of_body Bd
  have e0 : s₁.heap = h0 := by rw [← hh, Bd.state]; rfl
  have N0 := Fr.nil n0
  have hlk : meth.locks = false := by first | exact BodyLoose.notSynchronized Bd | exact Body.notSynchronized Bd
  obtain ⟨G, hG⟩ : ∃ G : State → Prop, G = own_G p e below s ({ frames := 3, cells := 2, slots := 65536, locals := 49 } : Room).cells ({ frames := 3, cells := 2, slots := 65536, locals := 49 } : Room).slots ((own_Q_add0 Z h0 n0 a tt num xs)) := ⟨_, rfl⟩
  have go : ∀ {S S' : State}, (∀ t, Steps p.tables e below S' t → Steps p.tables e below S t) → G S' → G S := by rw [hG]; exact own_to
  suffices hs : G (s₁.setTop (mkF m 0 #[.val (.ref a), .val (.int tt), .val (.double num), .second, .unset, .unset, .unset] [])) by
    rw [hG] at hs
    exact own_to (fun _ kont => castTop (own_ef_own_rm_add0 m a tt num) kont) hs
  have hI := I
  obtain ⟨hdl, hkl, hpl, -, -⟩ := hI
  refine go (fun _ kont => XS.aloadN X0.here hx rfl (hb hby d_prog_102_method_3_0) rfl rfl kont) ?_
  show G (s₁.setTop (mkF m 1 #[.val (.ref a), .val (.int tt), .val (.double num), .second, .unset, .unset, .unset] [(.ref a)]))
  obtain ⟨T1, X1, e1, st1⟩ := getF X0 hx hZ hown (host := "") (Or.inl (hw _ (List.mem_of_getElem? (i := 38) rfl))) Via.refl e0 O.2.1 (g := (mkF m 1 #[.val (.ref a), .val (.int tt), .val (.double num), .second, .unset, .unset, .unset] [(.ref a)])) rfl rfl (hb hby d_prog_102_method_3_1)
  refine go st1 ?_
  show G (T1.setTop (mkF m 4 #[.val (.ref a), .val (.int tt), .val (.double num), .second, .unset, .unset, .unset] [(.int (Int32.ofNat 0))]))
  refine go (fun _ kont => XS.bipush X1.here hx rfl (hb hby d_prog_102_method_3_4) kont) ?_
  show G (T1.setTop (mkF m 6 #[.val (.ref a), .val (.int tt), .val (.double num), .second, .unset, .unset, .unset] [(.int (15 : Int32)), (.int (Int32.ofNat 0))]))
  refine go (fun _ kont => XS.iushr X1.here hx rfl (hb hby d_prog_102_method_3_6) rfl kont) ?_
  show G (T1.setTop (mkF m 7 #[.val (.ref a), .val (.int tt), .val (.double num), .second, .unset, .unset, .unset] [(.int (((Int32.ofNat 0).toUInt32 >>> ((15 : Int32) &&& 31).toUInt32).toInt32))]))
  rw [own_sh15 0 (by omega)]
  show G (T1.setTop (mkF m 7 #[.val (.ref a), .val (.int tt), .val (.double num), .second, .unset, .unset, .unset] [(.int (0 : Int32))]))
  refine go (fun _ kont => XS.istore X1.here hx rfl (hb hby d_prog_102_method_3_7) rfl (l' := #[.val (.ref a), .val (.int tt), .val (.double num), .second, .val (.int (0 : Int32)), .unset, .unset]) rfl kont) ?_
  show G (T1.setTop (mkF m 9 #[.val (.ref a), .val (.int tt), .val (.double num), .second, .val (.int (0 : Int32)), .unset, .unset] []))
  refine go (fun _ kont => XS.aloadN X1.here hx rfl (hb hby d_prog_102_method_3_9) rfl rfl kont) ?_
  show G (T1.setTop (mkF m 10 #[.val (.ref a), .val (.int tt), .val (.double num), .second, .val (.int (0 : Int32)), .unset, .unset] [(.ref a)]))
  obtain ⟨T2, X2, e2, st2⟩ := getF X1 hx hZ hown (host := "") (Or.inl (hw _ (List.mem_of_getElem? (i := 38) rfl))) Via.refl e1 O.2.1 (g := (mkF m 10 #[.val (.ref a), .val (.int tt), .val (.double num), .second, .val (.int (0 : Int32)), .unset, .unset] [(.ref a)])) rfl rfl (hb hby d_prog_102_method_3_10)
  refine go st2 ?_
  show G (T2.setTop (mkF m 13 #[.val (.ref a), .val (.int tt), .val (.double num), .second, .val (.int (0 : Int32)), .unset, .unset] [(.int (Int32.ofNat 0))]))
  refine go (fun _ kont => XS.sipush X2.here hx rfl (hb hby d_prog_102_method_3_13) kont) ?_
  show G (T2.setTop (mkF m 16 #[.val (.ref a), .val (.int tt), .val (.double num), .second, .val (.int (0 : Int32)), .unset, .unset] [(.int (32767 : Int32)), (.int (Int32.ofNat 0))]))
  refine go (fun _ kont => XS.iand X2.here hx rfl (hb hby d_prog_102_method_3_16) rfl kont) ?_
  show G (T2.setTop (mkF m 17 #[.val (.ref a), .val (.int tt), .val (.double num), .second, .val (.int (0 : Int32)), .unset, .unset] [(.int ((Int32.ofNat 0) &&& (32767 : Int32)))]))
  rw [own_an15 0 (by omega)]
  show G (T2.setTop (mkF m 17 #[.val (.ref a), .val (.int tt), .val (.double num), .second, .val (.int (0 : Int32)), .unset, .unset] [(.int (Int32.ofNat 0))]))
  refine go (fun _ kont => XS.istore X2.here hx rfl (hb hby d_prog_102_method_3_17) rfl (l' := #[.val (.ref a), .val (.int tt), .val (.double num), .second, .val (.int (0 : Int32)), .val (.int (Int32.ofNat 0)), .unset]) rfl kont) ?_
  show G (T2.setTop (mkF m 19 #[.val (.ref a), .val (.int tt), .val (.double num), .second, .val (.int (0 : Int32)), .val (.int (Int32.ofNat 0)), .unset] []))
  refine go (fun _ kont => XS.iload X2.here hx rfl (hb hby d_prog_102_method_3_19) rfl  kont) ?_
  show G (T2.setTop (mkF m 21 #[.val (.ref a), .val (.int tt), .val (.double num), .second, .val (.int (0 : Int32)), .val (.int (Int32.ofNat 0)), .unset] [(.int (Int32.ofNat 0))]))
  refine go (fun _ kont => XS.ifNo X2.here hx rfl (hb hby d_prog_102_method_3_21) rfl ((if0 _ _).trans (teq rfl).2) kont) ?_
  show G (T2.setTop (mkF m 24 #[.val (.ref a), .val (.int tt), .val (.double num), .second, .val (.int (0 : Int32)), .val (.int (Int32.ofNat 0)), .unset] []))
  refine go (fun _ kont => XS.aloadN X2.here hx rfl (hb hby d_prog_102_method_3_24) rfl rfl kont) ?_
  show G (T2.setTop (mkF m 25 #[.val (.ref a), .val (.int tt), .val (.double num), .second, .val (.int (0 : Int32)), .val (.int (Int32.ofNat 0)), .unset] [(.ref a)]))
  refine go (fun _ kont => XS.iload X2.here hx rfl (hb hby d_prog_102_method_3_25) rfl  kont) ?_
  show G (T2.setTop (mkF m 27 #[.val (.ref a), .val (.int tt), .val (.double num), .second, .val (.int (0 : Int32)), .val (.int (Int32.ofNat 0)), .unset] [(.int (0 : Int32)), (.ref a)]))
  obtain ⟨cq3, qa3, qb3⟩ := O.1.cell
  have hpv3 := Cond.privateMethod_at (mvP hZ (hw _ (List.mem_of_getElem? (i := 42) rfl)) (args := #[]))
  obtain ⟨_, _, ⟨T3, L3, k3, n3⟩, -, X3, ⟨Lc3, hQ3, l3, y3, z3⟩, st3⟩ := X2.privateBack hx (y := (⟨"com/example/knotweed/knotweed/engine/TransitionList", "addBlock", "(I)V"⟩ : MethodName)) hown (mvT hZ (hw _ (List.mem_of_getElem? (i := 40) rfl))) (mvT hZ (hw _ (List.mem_of_getElem? (i := 41) rfl))) (own_selP hZ (hw _ (List.mem_of_getElem? (i := 36) rfl)) rfl hpv3 (mvT hZ (hw _ (List.mem_of_getElem? (i := 41) rfl))) (by decide)) hpv3 (mvT hZ (hw _ (List.mem_of_getElem? (i := 43) rfl))) (by decide) (backOf (W := 0) (own_rm_block l Z a0 hw [] a h0 n0 Z0 mm tg ix tb ks ps O RT RX ga o1 o2) hZ (hw _ (List.mem_of_getElem? (i := 43) rfl)) (hw _ (List.mem_of_getElem? (i := 2) rfl)) (by decide) (by decide)) (g := (mkF m 27 #[.val (.ref a), .val (.int tt), .val (.double num), .second, .val (.int (0 : Int32)), .val (.int (Int32.ofNat 0)), .unset] [(.int (0 : Int32)), (.ref a)])) rfl (by rw [hml]; rfl) (Steps.refl _) (a := a) (by rw [e2]; exact qa3) qb3 (argsL := [(.int (0 : Int32))]) (rest := []) (lenOf own_pd4 rfl) rfl (by show 2 * 0 + _ ≤ _; exact Nat.le_of_eq rfl) (hb hby d_prog_102_method_3_27) (fun _ _ => ⟨rfl, e2, (by decide : 0 + 2 ≤ _), (by decide : 0 + 65536 ≤ _)⟩)
  dsimp only [Pt.U, Pt.locs, Pt.cells, Pt.slots] at X3 l3 y3 z3 st3 hQ3
  subst l3 y3 z3
  obtain ⟨rfl, N3q, K3, t0, i0, R3, S3, V3, U3, hz0, o7⟩ := hQ3
  have N3 := Fr.app N0 N3q
  have e3 : T3.heap = T3.heap := rfl
  refine go (fun _ kont => st3.trans kont) ?_
  show G (T3.setTop (mkF m 30 #[.val (.ref a), .val (.int tt), .val (.double num), .second, .val (.int (0 : Int32)), .val (.int (Int32.ofNat 0)), .unset] []))
  have o6 : ps < t0 := Nat.lt_of_lt_of_le (own_V_lt VP) hz0
  have O_3 := own_O_keep O K3 (own_ni_2 (Nat.ne_of_lt o1) (Nat.ne_of_lt (Nat.lt_trans o1 o2)))
  have VD_3 := own_V_keep VD K3 (own_ni_2 (Nat.ne_of_gt (Nat.lt_trans o2 o3)) (Nat.ne_of_gt o3))
  have VK_3 := own_V_keep VK K3 (own_ni_2 (Nat.ne_of_gt (Nat.lt_trans (Nat.lt_trans o2 o3) o4)) (Nat.ne_of_gt (Nat.lt_trans o3 o4)))
  have VP_3 := own_V_keep VP K3 (own_ni_2 (Nat.ne_of_gt (Nat.lt_trans (Nat.lt_trans (Nat.lt_trans o2 o3) o4) o5)) (Nat.ne_of_gt (Nat.lt_trans (Nat.lt_trans o3 o4) o5)))
  have Z3 : n0 ≤ T3.heap.size := Nat.le_trans Z0 K3.1
  have hzl : (List.replicate 32768 (Value.int 0)).length = 32768 := List.length_replicate
  have hyl : (List.replicate 32768 (0 : Int32)).length = 32768 := List.length_replicate
  have HC : own_C 0 mm (List.replicate 32768 (0 : Int32)) ds xs := fun i hi => absurd hi (Nat.not_lt_zero i)
  generalize List.replicate 32768 (Value.int 0) = zs at *
  generalize List.replicate 32768 (0 : Int32) = ys at *
  refine go (fun _ kont => XS.aloadN X3.here hx rfl (hb hby d_prog_102_method_3_30) rfl rfl kont) ?_
  show G (T3.setTop (mkF m 31 #[.val (.ref a), .val (.int tt), .val (.double num), .second, .val (.int (0 : Int32)), .val (.int (Int32.ofNat 0)), .unset] [(.ref a)]))
  obtain ⟨T4, X4, e4, st4⟩ := getF X3 hx hZ hown (host := "") (Or.inl (hw _ (List.mem_of_getElem? (i := 11) rfl))) Via.refl e3 O_3.2.2.1 (g := (mkF m 31 #[.val (.ref a), .val (.int tt), .val (.double num), .second, .val (.int (0 : Int32)), .val (.int (Int32.ofNat 0)), .unset] [(.ref a)])) rfl rfl (hb hby d_prog_102_method_3_31)
  refine go st4 ?_
  show G (T4.setTop (mkF m 34 #[.val (.ref a), .val (.int tt), .val (.double num), .second, .val (.int (0 : Int32)), .val (.int (Int32.ofNat 0)), .unset] [(.ref tg)]))
  refine go (fun _ kont => XS.iload X4.here hx rfl (hb hby d_prog_102_method_3_34) rfl  kont) ?_
  show G (T4.setTop (mkF m 36 #[.val (.ref a), .val (.int tt), .val (.double num), .second, .val (.int (0 : Int32)), .val (.int (Int32.ofNat 0)), .unset] [(.int (0 : Int32)), (.ref tg)]))
  obtain ⟨cl, Ar, Ov, Sl, Ml⟩ := id R3
  refine go (fun _ kont => X4.aaload hx (j := (0 : Int32)) (v := (.ref t0)) (by rw [e4]; exact Ar.1) (State.isArrayOf_alike hZ.alike Ar.2.1) rfl Ar.2.2 (own_hink Sl (by decide) (k := 0) (by decide) (Nat.le_of_ble_eq_true rfl)) (own_hatk Sl (k := 0) (by decide) rfl) (g := (mkF m 36 #[.val (.ref a), .val (.int tt), .val (.double num), .second, .val (.int (0 : Int32)), .val (.int (Int32.ofNat 0)), .unset] [(.int (0 : Int32)), (.ref tg)])) rfl rfl (hb hby d_prog_102_method_3_36) _ kont) ?_
  show G (T4.setTop (mkF m 37 #[.val (.ref a), .val (.int tt), .val (.double num), .second, .val (.int (0 : Int32)), .val (.int (Int32.ofNat 0)), .unset] [(.ref t0)]))
  refine go (fun _ kont => XS.iload X4.here hx rfl (hb hby d_prog_102_method_3_37) rfl  kont) ?_
  show G (T4.setTop (mkF m 39 #[.val (.ref a), .val (.int tt), .val (.double num), .second, .val (.int (0 : Int32)), .val (.int (Int32.ofNat 0)), .unset] [(.int (Int32.ofNat 0)), (.ref t0)]))
  refine go (fun _ kont => XS.iloadN X4.here hx rfl (hb hby d_prog_102_method_3_39) rfl  kont) ?_
  show G (T4.setTop (mkF m 40 #[.val (.ref a), .val (.int tt), .val (.double num), .second, .val (.int (0 : Int32)), .val (.int (Int32.ofNat 0)), .unset] [(.int tt), (.int (Int32.ofNat 0)), (.ref t0)]))
  obtain ⟨cl, Ar, Sl, Ml⟩ := id V3
  obtain ⟨T5, h5, X5, e5, W5, st5⟩ := stI X4 hx hZ e4 Ar (j := (Int32.ofNat 0)) (own_hink Sl (own_neg (by rw [own_ofN (by omega)]; omega)) (own_tnO (by omega)) (k := 0) (by omega)) (g := (mkF m 40 #[.val (.ref a), .val (.int tt), .val (.double num), .second, .val (.int (0 : Int32)), .val (.int (Int32.ofNat 0)), .unset] [(.int tt), (.int (Int32.ofNat 0)), (.ref t0)])) rfl rfl (hb hby d_prog_102_method_3_40)
  refine go st5 ?_
  show G (T5.setTop (mkF m 41 #[.val (.ref a), .val (.int tt), .val (.double num), .second, .val (.int (0 : Int32)), .val (.int (Int32.ofNat 0)), .unset] []))
  have O_5 := own_O_other O_3 W5 (Nat.ne_of_lt (Nat.lt_trans (Nat.lt_trans (Nat.lt_trans (Nat.lt_trans (Nat.lt_trans o1 o2) o3) o4) o5) o6))
  have VD_5 := own_V_other VD_3 W5 (Nat.ne_of_lt (Nat.lt_trans (Nat.lt_trans o4 o5) o6))
  have VK_5 := own_V_other VK_3 W5 (Nat.ne_of_lt (Nat.lt_trans o5 o6))
  have VP_5 := own_V_other VP_3 W5 (Nat.ne_of_lt o6)
  have R3_5 := own_RA_other R3 W5 (Nat.ne_of_lt (Nat.lt_trans (Nat.lt_trans (Nat.lt_trans (Nat.lt_trans o2 o3) o4) o5) o6))
  have S3_5 := own_RA_other S3 W5 (Nat.ne_of_lt (Nat.lt_trans (Nat.lt_trans (Nat.lt_trans o3 o4) o5) o6))
  have U3_5 := own_V_other U3 W5 (Nat.ne_of_gt o7)
  have V5 := own_V_set V3 W5 (own_tnO (d := 0) (by omega))
  have N5 := Fr.snoc X5 N3 (Nat.le_trans ga (Nat.le_of_lt (Nat.lt_trans (Nat.lt_trans (Nat.lt_trans (Nat.lt_trans (Nat.lt_trans o1 o2) o3) o4) o5) o6)))
  have Z5 : n0 ≤ h5.size := by rw [W5.size]; exact Z3
  refine go (fun _ kont => XS.aloadN X5.here hx rfl (hb hby d_prog_102_method_3_41) rfl rfl kont) ?_
  show G (T5.setTop (mkF m 42 #[.val (.ref a), .val (.int tt), .val (.double num), .second, .val (.int (0 : Int32)), .val (.int (Int32.ofNat 0)), .unset] [(.ref a)]))
  obtain ⟨T6, X6, e6, st6⟩ := getF X5 hx hZ hown (host := "") (Or.inl (hw _ (List.mem_of_getElem? (i := 46) rfl))) Via.refl e5 O_5.2.2.2.2.2.2.2.1 (g := (mkF m 42 #[.val (.ref a), .val (.int tt), .val (.double num), .second, .val (.int (0 : Int32)), .val (.int (Int32.ofNat 0)), .unset] [(.ref a)])) rfl rfl (hb hby d_prog_102_method_3_42)
  refine go st6 ?_
  show G (T6.setTop (mkF m 45 #[.val (.ref a), .val (.int tt), .val (.double num), .second, .val (.int (0 : Int32)), .val (.int (Int32.ofNat 0)), .unset] [.null]))
  refine go (fun _ kont => XS.ifnonnullNo X6.here hx rfl (hb hby d_prog_102_method_3_45) rfl kont) ?_
  show G (T6.setTop (mkF m 48 #[.val (.ref a), .val (.int tt), .val (.double num), .second, .val (.int (0 : Int32)), .val (.int (Int32.ofNat 0)), .unset] []))
  refine go (fun _ kont => XS.aloadN X6.here hx rfl (hb hby d_prog_102_method_3_48) rfl rfl kont) ?_
  show G (T6.setTop (mkF m 49 #[.val (.ref a), .val (.int tt), .val (.double num), .second, .val (.int (0 : Int32)), .val (.int (Int32.ofNat 0)), .unset] [(.ref a)]))
  refine go (fun _ kont => XS.dloadN X6.here hx rfl (hb hby d_prog_102_method_3_49) rfl  kont) ?_
  show G (T6.setTop (mkF m 50 #[.val (.ref a), .val (.int tt), .val (.double num), .second, .val (.int (0 : Int32)), .val (.int (Int32.ofNat 0)), .unset] [(.double num), (.ref a)]))
  obtain ⟨cq7, qa7, qb7⟩ := O_5.1.cell
  have hpv7 := Cond.privateMethod_at (mvP hZ (hw _ (List.mem_of_getElem? (i := 52) rfl)) (args := #[]))
  obtain ⟨_, _, ⟨T7, L7, k7, n7⟩, -, X7, ⟨Lc7, hQ7, l7, y7, z7⟩, st7⟩ := X6.privateBack hx (y := (⟨"com/example/knotweed/knotweed/engine/TransitionList", "indexOf", "(D)I"⟩ : MethodName)) hown (mvT hZ (hw _ (List.mem_of_getElem? (i := 50) rfl))) (mvT hZ (hw _ (List.mem_of_getElem? (i := 51) rfl))) (own_selP hZ (hw _ (List.mem_of_getElem? (i := 36) rfl)) rfl hpv7 (mvT hZ (hw _ (List.mem_of_getElem? (i := 51) rfl))) (by decide)) hpv7 (mvT hZ (hw _ (List.mem_of_getElem? (i := 53) rfl))) (by decide) (backOf (W := 0) (own_rm_index l Z a0 hw [] a num h5 n0 Z5 0 mm tg ix tb ks ps O_5 ds kv pv I (by omega) VD_5 VK_5 VP_5 ga (Nat.lt_trans (Nat.lt_trans o1 o2) o3) o4 o5) hZ (hw _ (List.mem_of_getElem? (i := 53) rfl)) (hw _ (List.mem_of_getElem? (i := 2) rfl)) (by decide) (by decide)) (g := (mkF m 50 #[.val (.ref a), .val (.int tt), .val (.double num), .second, .val (.int (0 : Int32)), .val (.int (Int32.ofNat 0)), .unset] [(.double num), (.ref a)])) rfl (by rw [hml]; rfl) (Steps.refl _) (a := a) (by rw [e6]; exact qa7) qb7 (argsL := [(.double num)]) (rest := []) (lenOf own_pd5 rfl) rfl (by show 2 * 0 + _ ≤ _; exact Nat.le_of_eq rfl) (hb hby d_prog_102_method_3_50) (fun _ _ => ⟨rfl, e6, (by decide : 2 + 0 ≤ _), (by decide : 65536 + 0 ≤ _)⟩)
  dsimp only [Pt.U, Pt.locs, Pt.cells, Pt.slots] at X7 l7 y7 z7 st7 hQ7
  subst l7 y7 z7
  obtain ⟨j, mm', ds', kv', pv', rfl, N7q, K7, O7, I', hm1, hm2, hj, hdj, hdd, D7, Y7, P7⟩ := hQ7
  have N7 := Fr.app N5 N7q
  have e7 : T7.heap = T7.heap := rfl
  refine go (fun _ kont => st7.trans kont) ?_
  show G (T7.setTop (mkF m 53 #[.val (.ref a), .val (.int tt), .val (.double num), .second, .val (.int (0 : Int32)), .val (.int (Int32.ofNat 0)), .unset] [(.int (Int32.ofNat j))]))
  have R3_7 := own_RA_keep R3_5 K7 (own_ni_4 (Nat.ne_of_gt o1) (Nat.ne_of_lt (Nat.lt_trans o2 o3)) (Nat.ne_of_lt (Nat.lt_trans (Nat.lt_trans o2 o3) o4)) (Nat.ne_of_lt (Nat.lt_trans (Nat.lt_trans (Nat.lt_trans o2 o3) o4) o5)))
  have S3_7 := own_RA_keep S3_5 K7 (own_ni_4 (Nat.ne_of_gt (Nat.lt_trans o1 o2)) (Nat.ne_of_lt o3) (Nat.ne_of_lt (Nat.lt_trans o3 o4)) (Nat.ne_of_lt (Nat.lt_trans (Nat.lt_trans o3 o4) o5)))
  have V5_7 := own_V_keep V5 K7 (own_ni_4 (Nat.ne_of_gt (Nat.lt_trans (Nat.lt_trans (Nat.lt_trans (Nat.lt_trans (Nat.lt_trans o1 o2) o3) o4) o5) o6)) (Nat.ne_of_gt (Nat.lt_trans (Nat.lt_trans o4 o5) o6)) (Nat.ne_of_gt (Nat.lt_trans o5 o6)) (Nat.ne_of_gt o6))
  have U3_7 := own_V_keep U3_5 K7 (own_ni_4 (Nat.ne_of_gt (Nat.lt_trans (Nat.lt_trans (Nat.lt_trans (Nat.lt_trans (Nat.lt_trans (Nat.lt_trans o1 o2) o3) o4) o5) o6) o7)) (Nat.ne_of_gt (Nat.lt_trans (Nat.lt_trans (Nat.lt_trans o4 o5) o6) o7)) (Nat.ne_of_gt (Nat.lt_trans (Nat.lt_trans o5 o6) o7)) (Nat.ne_of_gt (Nat.lt_trans o6 o7)))
  have Z7 : n0 ≤ T7.heap.size := Nat.le_trans Z5 K7.1
  refine go (fun _ kont => XS.istore X7.here hx rfl (hb hby d_prog_102_method_3_53) rfl (l' := #[.val (.ref a), .val (.int tt), .val (.double num), .second, .val (.int (0 : Int32)), .val (.int (Int32.ofNat 0)), .val (.int (Int32.ofNat j))]) rfl kont) ?_
  show G (T7.setTop (mkF m 55 #[.val (.ref a), .val (.int tt), .val (.double num), .second, .val (.int (0 : Int32)), .val (.int (Int32.ofNat 0)), .val (.int (Int32.ofNat j))] []))
  refine go (fun _ kont => XS.iload X7.here hx rfl (hb hby d_prog_102_method_3_55) rfl  kont) ?_
  show G (T7.setTop (mkF m 57 #[.val (.ref a), .val (.int tt), .val (.double num), .second, .val (.int (0 : Int32)), .val (.int (Int32.ofNat 0)), .val (.int (Int32.ofNat j))] [(.int (Int32.ofNat j))]))
  refine go (fun _ kont => XS.iconst X7.here hx rfl (hb hby d_prog_102_method_3_57) kont) ?_
  show G (T7.setTop (mkF m 58 #[.val (.ref a), .val (.int tt), .val (.double num), .second, .val (.int (0 : Int32)), .val (.int (Int32.ofNat 0)), .val (.int (Int32.ofNat j))] [(.int (-1 : Int32)), (.int (Int32.ofNat j))]))
  refine go (fun _ kont => XS.icmpYes X7.here hx rfl (pc0 := 58) (pc' := 68) rfl (hb hby d_prog_102_method_3_58) rfl (feq (fun q => by have := congrArg Int32.toInt q; rw [own_ofN (by omega), show (-1 : Int32).toInt = -1 by decide] at this; omega)).2 (by decide) (by decide) kont) ?_
  show G (T7.setTop (mkF m 68 #[.val (.ref a), .val (.int tt), .val (.double num), .second, .val (.int (0 : Int32)), .val (.int (Int32.ofNat 0)), .val (.int (Int32.ofNat j))] []))
  refine go (fun _ kont => XS.aloadN X7.here hx rfl (hb hby d_prog_102_method_3_68) rfl rfl kont) ?_
  show G (T7.setTop (mkF m 69 #[.val (.ref a), .val (.int tt), .val (.double num), .second, .val (.int (0 : Int32)), .val (.int (Int32.ofNat 0)), .val (.int (Int32.ofNat j))] [(.ref a)]))
  obtain ⟨T8, X8, e8, st8⟩ := getF X7 hx hZ hown (host := "") (Or.inl (hw _ (List.mem_of_getElem? (i := 15) rfl))) Via.refl e7 O7.2.2.2.1 (g := (mkF m 69 #[.val (.ref a), .val (.int tt), .val (.double num), .second, .val (.int (0 : Int32)), .val (.int (Int32.ofNat 0)), .val (.int (Int32.ofNat j))] [(.ref a)])) rfl rfl (hb hby d_prog_102_method_3_69)
  refine go st8 ?_
  show G (T8.setTop (mkF m 72 #[.val (.ref a), .val (.int tt), .val (.double num), .second, .val (.int (0 : Int32)), .val (.int (Int32.ofNat 0)), .val (.int (Int32.ofNat j))] [(.ref ix)]))
  refine go (fun _ kont => XS.iload X8.here hx rfl (hb hby d_prog_102_method_3_72) rfl  kont) ?_
  show G (T8.setTop (mkF m 74 #[.val (.ref a), .val (.int tt), .val (.double num), .second, .val (.int (0 : Int32)), .val (.int (Int32.ofNat 0)), .val (.int (Int32.ofNat j))] [(.int (0 : Int32)), (.ref ix)]))
  obtain ⟨cl, Ar, Ov, Sl, Ml⟩ := id S3_7
  refine go (fun _ kont => X8.aaload hx (j := (0 : Int32)) (v := (.ref i0)) (by rw [e8]; exact Ar.1) (State.isArrayOf_alike hZ.alike Ar.2.1) rfl Ar.2.2 (own_hink Sl (by decide) (k := 0) (by decide) (Nat.le_of_ble_eq_true rfl)) (own_hatk Sl (k := 0) (by decide) rfl) (g := (mkF m 74 #[.val (.ref a), .val (.int tt), .val (.double num), .second, .val (.int (0 : Int32)), .val (.int (Int32.ofNat 0)), .val (.int (Int32.ofNat j))] [(.int (0 : Int32)), (.ref ix)])) rfl rfl (hb hby d_prog_102_method_3_74) _ kont) ?_
  show G (T8.setTop (mkF m 75 #[.val (.ref a), .val (.int tt), .val (.double num), .second, .val (.int (0 : Int32)), .val (.int (Int32.ofNat 0)), .val (.int (Int32.ofNat j))] [(.ref i0)]))
  refine go (fun _ kont => XS.iload X8.here hx rfl (hb hby d_prog_102_method_3_75) rfl  kont) ?_
  show G (T8.setTop (mkF m 77 #[.val (.ref a), .val (.int tt), .val (.double num), .second, .val (.int (0 : Int32)), .val (.int (Int32.ofNat 0)), .val (.int (Int32.ofNat j))] [(.int (Int32.ofNat 0)), (.ref i0)]))
  refine go (fun _ kont => XS.iload X8.here hx rfl (hb hby d_prog_102_method_3_77) rfl  kont) ?_
  show G (T8.setTop (mkF m 79 #[.val (.ref a), .val (.int tt), .val (.double num), .second, .val (.int (0 : Int32)), .val (.int (Int32.ofNat 0)), .val (.int (Int32.ofNat j))] [(.int (Int32.ofNat j)), (.int (Int32.ofNat 0)), (.ref i0)]))
  refine go (fun _ kont => XS.i2c X8.here hx rfl (hb hby d_prog_102_method_3_79) rfl kont) ?_
  show G (T8.setTop (mkF m 80 #[.val (.ref a), .val (.int tt), .val (.double num), .second, .val (.int (0 : Int32)), .val (.int (Int32.ofNat 0)), .val (.int (Int32.ofNat j))] [(.int (Int32.ofNat j).toUInt32.toUInt16.toUInt32.toInt32), (.int (Int32.ofNat 0)), (.ref i0)]))
  rw [own_i2c' j (by omega)]
  show G (T8.setTop (mkF m 80 #[.val (.ref a), .val (.int tt), .val (.double num), .second, .val (.int (0 : Int32)), .val (.int (Int32.ofNat 0)), .val (.int (Int32.ofNat j))] [(.int (Int32.ofNat j)), (.int (Int32.ofNat 0)), (.ref i0)]))
  obtain ⟨cl, Ar, Sl, Ml⟩ := id U3_7
  obtain ⟨T9, h9, X9, e9, W9, st9⟩ := stC X8 hx hZ e8 Ar (j := (Int32.ofNat 0)) (own_hink Sl (own_neg (by rw [own_ofN (by omega)]; omega)) (own_tnO (by omega)) (k := 0) (by rw [List.length_map]; omega)) (g := (mkF m 80 #[.val (.ref a), .val (.int tt), .val (.double num), .second, .val (.int (0 : Int32)), .val (.int (Int32.ofNat 0)), .val (.int (Int32.ofNat j))] [(.int (Int32.ofNat j)), (.int (Int32.ofNat 0)), (.ref i0)])) rfl rfl (hb hby d_prog_102_method_3_80)
  refine go st9 ?_
  show G (T9.setTop (mkF m 81 #[.val (.ref a), .val (.int tt), .val (.double num), .second, .val (.int (0 : Int32)), .val (.int (Int32.ofNat 0)), .val (.int (Int32.ofNat j))] []))
  rw [own_narC' j (by omega)] at W9
  have R3_9 := own_RA_other R3_7 W9 (Nat.ne_of_lt (Nat.lt_trans (Nat.lt_trans (Nat.lt_trans (Nat.lt_trans (Nat.lt_trans o2 o3) o4) o5) o6) o7))
  have S3_9 := own_RA_other S3_7 W9 (Nat.ne_of_lt (Nat.lt_trans (Nat.lt_trans (Nat.lt_trans (Nat.lt_trans o3 o4) o5) o6) o7))
  have V5_9 := own_V_other V5_7 W9 (Nat.ne_of_lt o7)
  have O7_9 := own_O_other O7 W9 (Nat.ne_of_lt (Nat.lt_trans (Nat.lt_trans (Nat.lt_trans (Nat.lt_trans (Nat.lt_trans (Nat.lt_trans o1 o2) o3) o4) o5) o6) o7))
  have D7_9 := own_V_other D7 W9 (Nat.ne_of_lt (Nat.lt_trans (Nat.lt_trans (Nat.lt_trans o4 o5) o6) o7))
  have Y7_9 := own_V_other Y7 W9 (Nat.ne_of_lt (Nat.lt_trans (Nat.lt_trans o5 o6) o7))
  have P7_9 := own_V_other P7 W9 (Nat.ne_of_lt (Nat.lt_trans o6 o7))
  have V9 : own_V Z h9 i0 .char ((ys.set 0 (Int32.ofNat j)).map Value.int) := by rw [List.map_set]; exact own_V_set U3_7 W9 (own_tnO (d := 0) (by omega))
  have N9 := Fr.snoc X9 N7 (Nat.le_trans ga (Nat.le_of_lt (Nat.lt_trans (Nat.lt_trans (Nat.lt_trans (Nat.lt_trans (Nat.lt_trans (Nat.lt_trans o1 o2) o3) o4) o5) o6) o7)))
  refine go (fun _ kont => XS.aloadN X9.here hx rfl (hb hby d_prog_102_method_3_81) rfl rfl kont) ?_
  show G (T9.setTop (mkF m 82 #[.val (.ref a), .val (.int tt), .val (.double num), .second, .val (.int (0 : Int32)), .val (.int (Int32.ofNat 0)), .val (.int (Int32.ofNat j))] [(.ref a)]))
  obtain ⟨T10, X10, e10, st10⟩ := getF X9 hx hZ hown (host := "") (Or.inl (hw _ (List.mem_of_getElem? (i := 46) rfl))) Via.refl e9 O7_9.2.2.2.2.2.2.2.1 (g := (mkF m 82 #[.val (.ref a), .val (.int tt), .val (.double num), .second, .val (.int (0 : Int32)), .val (.int (Int32.ofNat 0)), .val (.int (Int32.ofNat j))] [(.ref a)])) rfl rfl (hb hby d_prog_102_method_3_82)
  refine go st10 ?_
  show G (T10.setTop (mkF m 85 #[.val (.ref a), .val (.int tt), .val (.double num), .second, .val (.int (0 : Int32)), .val (.int (Int32.ofNat 0)), .val (.int (Int32.ofNat j))] [.null]))
  refine go (fun _ kont => XS.ifnullYes X10.here hx rfl (pc0 := 85) (pc' := 99) rfl (hb hby d_prog_102_method_3_85) rfl (by decide) (by decide) kont) ?_
  show G (T10.setTop (mkF m 99 #[.val (.ref a), .val (.int tt), .val (.double num), .second, .val (.int (0 : Int32)), .val (.int (Int32.ofNat 0)), .val (.int (Int32.ofNat j))] []))
  refine go (fun _ kont => XS.aloadN X10.here hx rfl (hb hby d_prog_102_method_3_99) rfl rfl kont) ?_
  show G (T10.setTop (mkF m 100 #[.val (.ref a), .val (.int tt), .val (.double num), .second, .val (.int (0 : Int32)), .val (.int (Int32.ofNat 0)), .val (.int (Int32.ofNat j))] [(.ref a)]))
  refine go (fun _ kont => XS.dup X10.here hx rfl (hb hby d_prog_102_method_3_100) rfl rfl kont) ?_
  show G (T10.setTop (mkF m 101 #[.val (.ref a), .val (.int tt), .val (.double num), .second, .val (.int (0 : Int32)), .val (.int (Int32.ofNat 0)), .val (.int (Int32.ofNat j))] [(.ref a), (.ref a)]))
  obtain ⟨T11, X11, e11, st11⟩ := getF X10 hx hZ hown (host := "") (Or.inl (hw _ (List.mem_of_getElem? (i := 38) rfl))) Via.refl e10 O7_9.2.1 (g := (mkF m 101 #[.val (.ref a), .val (.int tt), .val (.double num), .second, .val (.int (0 : Int32)), .val (.int (Int32.ofNat 0)), .val (.int (Int32.ofNat j))] [(.ref a), (.ref a)])) rfl rfl (hb hby d_prog_102_method_3_101)
  refine go st11 ?_
  show G (T11.setTop (mkF m 104 #[.val (.ref a), .val (.int tt), .val (.double num), .second, .val (.int (0 : Int32)), .val (.int (Int32.ofNat 0)), .val (.int (Int32.ofNat j))] [(.int (Int32.ofNat 0)), (.ref a)]))
  refine go (fun _ kont => XS.iconst X11.here hx rfl (hb hby d_prog_102_method_3_104) kont) ?_
  show G (T11.setTop (mkF m 105 #[.val (.ref a), .val (.int tt), .val (.double num), .second, .val (.int (0 : Int32)), .val (.int (Int32.ofNat 0)), .val (.int (Int32.ofNat j))] [(.int (1 : Int32)), (.int (Int32.ofNat 0)), (.ref a)]))
  refine go (fun _ kont => XS.iadd X11.here hx rfl (hb hby d_prog_102_method_3_105) rfl kont) ?_
  show G (T11.setTop (mkF m 106 #[.val (.ref a), .val (.int tt), .val (.double num), .second, .val (.int (0 : Int32)), .val (.int (Int32.ofNat 0)), .val (.int (Int32.ofNat j))] [(.int ((Int32.ofNat 0) + (1 : Int32))), (.ref a)]))
  rw [show ((Int32.ofNat 0) + (1 : Int32)) = (Int32.ofNat (0 + 1)) from own_addk 0 1]
  show G (T11.setTop (mkF m 106 #[.val (.ref a), .val (.int tt), .val (.double num), .second, .val (.int (0 : Int32)), .val (.int (Int32.ofNat 0)), .val (.int (Int32.ofNat j))] [(.int (Int32.ofNat (0 + 1))), (.ref a)]))
  obtain ⟨T12, h12, X12, e12, W12, st12⟩ := putF X11 hx hZ hown (host := "") (Or.inl (hw _ (List.mem_of_getElem? (i := 38) rfl))) Via.refl e11 O7_9.2.1 O7_9.1 (Or.inl (hw _ (List.mem_of_getElem? (i := 39) rfl))) (hw _ (List.mem_of_getElem? (i := 1) rfl)) (ty := .int) (by decide) rfl rfl (g := (mkF m 106 #[.val (.ref a), .val (.int tt), .val (.double num), .second, .val (.int (0 : Int32)), .val (.int (Int32.ofNat 0)), .val (.int (Int32.ofNat j))] [(.int (Int32.ofNat (0 + 1))), (.ref a)])) rfl rfl (hb hby d_prog_102_method_3_106)
  refine go st12 ?_
  show G (T12.setTop (mkF m 109 #[.val (.ref a), .val (.int tt), .val (.double num), .second, .val (.int (0 : Int32)), .val (.int (Int32.ofNat 0)), .val (.int (Int32.ofNat j))] []))
  have R3_12 := own_RA_other R3_9 W12 (Nat.ne_of_gt o1)
  have S3_12 := own_RA_other S3_9 W12 (Nat.ne_of_gt (Nat.lt_trans o1 o2))
  have V5_12 := own_V_other V5_9 W12 (Nat.ne_of_gt (Nat.lt_trans (Nat.lt_trans (Nat.lt_trans (Nat.lt_trans (Nat.lt_trans o1 o2) o3) o4) o5) o6))
  have V9_12 := own_V_other V9 W12 (Nat.ne_of_gt (Nat.lt_trans (Nat.lt_trans (Nat.lt_trans (Nat.lt_trans (Nat.lt_trans (Nat.lt_trans o1 o2) o3) o4) o5) o6) o7))
  have D7_12 := own_V_other D7_9 W12 (Nat.ne_of_gt (Nat.lt_trans (Nat.lt_trans o1 o2) o3))
  have Y7_12 := own_V_other Y7_9 W12 (Nat.ne_of_gt (Nat.lt_trans (Nat.lt_trans (Nat.lt_trans o1 o2) o3) o4))
  have P7_12 := own_V_other P7_9 W12 (Nat.ne_of_gt (Nat.lt_trans (Nat.lt_trans (Nat.lt_trans (Nat.lt_trans o1 o2) o3) o4) o5))
  have O_12 := own_O_size hw O7_9 W12
  have N12 := Fr.snoc X12 N9 ga
  rw [hG]
  exact own_retV X12 hx Bd.returns (hb hby d_prog_102_method_3_109) hlk (by decide) (by decide) (by rw [e12]; exact ⟨rfl, N12, Nat.le_trans ga (Nat.le_of_lt O_12.1.lt), mm', tg, ix, tb, ks, ps, t0, i0, _, _, ds', kv', pv', O_12, R3_12, S3_12, V5_12, V9_12, D7_12, Y7_12, P7_12, by rw [List.length_set]; exact hzl, by rw [List.length_set]; exact hyl, I', by omega, own_C_add HC hm1 (by omega) hdd hj (hdj.trans hnum), ga, o1, o2, o3, o4, o5, o6, o7⟩)
theorem own_ef_own_rm_addk (m : MethodId) (x0 : Addr) (x1 : Int32) (x2 : UInt64) : entryFrame m #[(.ref x0), (.int x1), (.double x2)] 7 = mkF m 0 #[.val (.ref x0), .val (.int x1), .val (.double x2), .second, .unset, .unset, .unset] [] := by first | (simp [entryFrame, mkF, argsToLocals, Value.category]; done) | rfl
def own_Q_addk (Z : State) (h0 : Heap) (n0 : Nat) (a : Addr) (tt : Int32) (num : UInt64) (k : Nat) (xs : List UInt64) (v : Option Value) (h : Heap) (L : List Loc) : Prop := v = none ∧ Fr n0 L ∧ n0 ≤ h.size ∧ own_LL Z h n0 a (k + 1) xs
set_option maxRecDepth 65536 in
set_option maxHeartbeats 40000000 in
theorem own_rm_addk (l : Launch) (Z : State) (a0 : Array Value) (hw : ∀ d ∈ tables_1, d.before a0 Z = true) (ws : List Jvm.Cond) (a : Addr) (tt : Int32) (num : UInt64) (h0 : Heap) (n0 : Nat) (Z0 : n0 ≤ h0.size) (k : Nat) (hk1 : 1 ≤ k) (hk4 : k < 4) (xs : List UInt64) (hnum : num = xs.getD k 0) (L : own_LL Z h0 n0 a k xs) :
    MetFree l (⟨"com/example/knotweed/knotweed/engine/TransitionList", "add", "(ID)V"⟩ : MethodName) (head1 (Jvm.Cond.code (⟨"com/example/knotweed/knotweed/engine/TransitionList", "add", "(ID)V"⟩ : MethodName) prog_102_method_3_code 7 none :: ws) ({ frames := 3, cells := 0, slots := 0, locals := 49 } : Room)) (fun aq Uq => aq = #[(.ref a), (.int tt), (.double num)] ∧ Z.Warmed39 Uq.vm ∧ Uq.heap = h0) (fun _ _ _ _ _ => True) (fun _ Uq oq Uq' => ∃ vq Lq, oq = .returned vq ∧ (own_Q_addk Z h0 n0 a tt num k xs) vq Uq'.heap Lq ∧ FrameEnd Uq oq Uq' Lq ({ frames := 3, cells := 0, slots := 0, locals := 49 } : Room).cells ({ frames := 3, cells := 0, slots := 0, locals := 49 } : Room).slots) := by
  refine MetFree.of_bodySF (plainFor_of_name own_pn1) hisR ?_
  intro p e s m args below meth c s₁ Bd hml0 hP hK
  obtain ⟨rfl, hZ, hh⟩ := hP
  have hx := Bd.exec
  have hby := Bd.bytes
  have hml : c.maxLocals = 7 := hml0
  have hown : s.vm.findClass "com/example/knotweed/knotweed/engine/TransitionList" = some m.cls := findClass_of_methodNamed Bd.named
  have hnm := (name_of_methodNamed Bd.named Bd.method).1
  have X0 : Stand p l e ({ frames := 3, cells := 0, slots := 0, locals := 49 } : Room) s m #[(.ref a), (.int tt), (.double num)] below meth c s₁ [] 0 0 := Stand.of_body Bd
  have e0 : s₁.heap = h0 := by rw [← hh, Bd.state]; rfl
  have N0 := Fr.nil n0
  have hlk : meth.locks = false := by first | exact BodyLoose.notSynchronized Bd | exact Body.notSynchronized Bd
  obtain ⟨G, hG⟩ : ∃ G : State → Prop, G = own_G p e below s ({ frames := 3, cells := 0, slots := 0, locals := 49 } : Room).cells ({ frames := 3, cells := 0, slots := 0, locals := 49 } : Room).slots ((own_Q_addk Z h0 n0 a tt num k xs)) := ⟨_, rfl⟩
  have go : ∀ {S S' : State}, (∀ t, Steps p.tables e below S' t → Steps p.tables e below S t) → G S' → G S := by rw [hG]; exact own_to
  suffices hs : G (s₁.setTop (mkF m 0 #[.val (.ref a), .val (.int tt), .val (.double num), .second, .unset, .unset, .unset] [])) by
    rw [hG] at hs
    exact own_to (fun _ kont => castTop (own_ef_own_rm_addk m a tt num) kont) hs
  obtain ⟨mm, tg, ix, tb, ks, ps, t0, i0, zs, ys, ds, kv, pv, O, RT, RX, VT, VI, VD, VK, VP, hzl, hyl, I, hmk, HC, ga, o1, o2, o3, o4, o5, o6, o7⟩ := L
  have hI := I
  obtain ⟨hdl, hkl, hpl, -, -⟩ := hI
  refine go (fun _ kont => XS.aloadN X0.here hx rfl (hb hby d_prog_102_method_3_0) rfl rfl kont) ?_
  show G (s₁.setTop (mkF m 1 #[.val (.ref a), .val (.int tt), .val (.double num), .second, .unset, .unset, .unset] [(.ref a)]))
  obtain ⟨T1, X1, e1, st1⟩ := getF X0 hx hZ hown (host := "") (Or.inl (hw _ (List.mem_of_getElem? (i := 38) rfl))) Via.refl e0 O.2.1 (g := (mkF m 1 #[.val (.ref a), .val (.int tt), .val (.double num), .second, .unset, .unset, .unset] [(.ref a)])) rfl rfl (hb hby d_prog_102_method_3_1)
  refine go st1 ?_
  show G (T1.setTop (mkF m 4 #[.val (.ref a), .val (.int tt), .val (.double num), .second, .unset, .unset, .unset] [(.int (Int32.ofNat k))]))
  refine go (fun _ kont => XS.bipush X1.here hx rfl (hb hby d_prog_102_method_3_4) kont) ?_
  show G (T1.setTop (mkF m 6 #[.val (.ref a), .val (.int tt), .val (.double num), .second, .unset, .unset, .unset] [(.int (15 : Int32)), (.int (Int32.ofNat k))]))
  refine go (fun _ kont => XS.iushr X1.here hx rfl (hb hby d_prog_102_method_3_6) rfl kont) ?_
  show G (T1.setTop (mkF m 7 #[.val (.ref a), .val (.int tt), .val (.double num), .second, .unset, .unset, .unset] [(.int (((Int32.ofNat k).toUInt32 >>> ((15 : Int32) &&& 31).toUInt32).toInt32))]))
  rw [own_sh15 k (by omega)]
  show G (T1.setTop (mkF m 7 #[.val (.ref a), .val (.int tt), .val (.double num), .second, .unset, .unset, .unset] [(.int (0 : Int32))]))
  refine go (fun _ kont => XS.istore X1.here hx rfl (hb hby d_prog_102_method_3_7) rfl (l' := #[.val (.ref a), .val (.int tt), .val (.double num), .second, .val (.int (0 : Int32)), .unset, .unset]) rfl kont) ?_
  show G (T1.setTop (mkF m 9 #[.val (.ref a), .val (.int tt), .val (.double num), .second, .val (.int (0 : Int32)), .unset, .unset] []))
  refine go (fun _ kont => XS.aloadN X1.here hx rfl (hb hby d_prog_102_method_3_9) rfl rfl kont) ?_
  show G (T1.setTop (mkF m 10 #[.val (.ref a), .val (.int tt), .val (.double num), .second, .val (.int (0 : Int32)), .unset, .unset] [(.ref a)]))
  obtain ⟨T2, X2, e2, st2⟩ := getF X1 hx hZ hown (host := "") (Or.inl (hw _ (List.mem_of_getElem? (i := 38) rfl))) Via.refl e1 O.2.1 (g := (mkF m 10 #[.val (.ref a), .val (.int tt), .val (.double num), .second, .val (.int (0 : Int32)), .unset, .unset] [(.ref a)])) rfl rfl (hb hby d_prog_102_method_3_10)
  refine go st2 ?_
  show G (T2.setTop (mkF m 13 #[.val (.ref a), .val (.int tt), .val (.double num), .second, .val (.int (0 : Int32)), .unset, .unset] [(.int (Int32.ofNat k))]))
  refine go (fun _ kont => XS.sipush X2.here hx rfl (hb hby d_prog_102_method_3_13) kont) ?_
  show G (T2.setTop (mkF m 16 #[.val (.ref a), .val (.int tt), .val (.double num), .second, .val (.int (0 : Int32)), .unset, .unset] [(.int (32767 : Int32)), (.int (Int32.ofNat k))]))
  refine go (fun _ kont => XS.iand X2.here hx rfl (hb hby d_prog_102_method_3_16) rfl kont) ?_
  show G (T2.setTop (mkF m 17 #[.val (.ref a), .val (.int tt), .val (.double num), .second, .val (.int (0 : Int32)), .unset, .unset] [(.int ((Int32.ofNat k) &&& (32767 : Int32)))]))
  rw [own_an15 k (by omega)]
  show G (T2.setTop (mkF m 17 #[.val (.ref a), .val (.int tt), .val (.double num), .second, .val (.int (0 : Int32)), .unset, .unset] [(.int (Int32.ofNat k))]))
  refine go (fun _ kont => XS.istore X2.here hx rfl (hb hby d_prog_102_method_3_17) rfl (l' := #[.val (.ref a), .val (.int tt), .val (.double num), .second, .val (.int (0 : Int32)), .val (.int (Int32.ofNat k)), .unset]) rfl kont) ?_
  show G (T2.setTop (mkF m 19 #[.val (.ref a), .val (.int tt), .val (.double num), .second, .val (.int (0 : Int32)), .val (.int (Int32.ofNat k)), .unset] []))
  refine go (fun _ kont => XS.iload X2.here hx rfl (hb hby d_prog_102_method_3_19) rfl  kont) ?_
  show G (T2.setTop (mkF m 21 #[.val (.ref a), .val (.int tt), .val (.double num), .second, .val (.int (0 : Int32)), .val (.int (Int32.ofNat k)), .unset] [(.int (Int32.ofNat k))]))
  refine go (fun _ kont => XS.ifYes X2.here hx rfl (pc0 := 21) (pc' := 30) rfl (hb hby d_prog_102_method_3_21) rfl ((if0 _ _).trans (feq (fun q => absurd ((own_eqO (d := k) (k := 0) (by omega) (by omega)).mp q) (by omega))).2) (by decide) (by decide) kont) ?_
  show G (T2.setTop (mkF m 30 #[.val (.ref a), .val (.int tt), .val (.double num), .second, .val (.int (0 : Int32)), .val (.int (Int32.ofNat k)), .unset] []))
  refine go (fun _ kont => XS.aloadN X2.here hx rfl (hb hby d_prog_102_method_3_30) rfl rfl kont) ?_
  show G (T2.setTop (mkF m 31 #[.val (.ref a), .val (.int tt), .val (.double num), .second, .val (.int (0 : Int32)), .val (.int (Int32.ofNat k)), .unset] [(.ref a)]))
  obtain ⟨T3, X3, e3, st3⟩ := getF X2 hx hZ hown (host := "") (Or.inl (hw _ (List.mem_of_getElem? (i := 11) rfl))) Via.refl e2 O.2.2.1 (g := (mkF m 31 #[.val (.ref a), .val (.int tt), .val (.double num), .second, .val (.int (0 : Int32)), .val (.int (Int32.ofNat k)), .unset] [(.ref a)])) rfl rfl (hb hby d_prog_102_method_3_31)
  refine go st3 ?_
  show G (T3.setTop (mkF m 34 #[.val (.ref a), .val (.int tt), .val (.double num), .second, .val (.int (0 : Int32)), .val (.int (Int32.ofNat k)), .unset] [(.ref tg)]))
  refine go (fun _ kont => XS.iload X3.here hx rfl (hb hby d_prog_102_method_3_34) rfl  kont) ?_
  show G (T3.setTop (mkF m 36 #[.val (.ref a), .val (.int tt), .val (.double num), .second, .val (.int (0 : Int32)), .val (.int (Int32.ofNat k)), .unset] [(.int (0 : Int32)), (.ref tg)]))
  obtain ⟨cl, Ar, Ov, Sl, Ml⟩ := id RT
  refine go (fun _ kont => X3.aaload hx (j := (0 : Int32)) (v := (.ref t0)) (by rw [e3]; exact Ar.1) (State.isArrayOf_alike hZ.alike Ar.2.1) rfl Ar.2.2 (own_hink Sl (by decide) (k := 0) (by decide) (Nat.le_of_ble_eq_true rfl)) (own_hatk Sl (k := 0) (by decide) rfl) (g := (mkF m 36 #[.val (.ref a), .val (.int tt), .val (.double num), .second, .val (.int (0 : Int32)), .val (.int (Int32.ofNat k)), .unset] [(.int (0 : Int32)), (.ref tg)])) rfl rfl (hb hby d_prog_102_method_3_36) _ kont) ?_
  show G (T3.setTop (mkF m 37 #[.val (.ref a), .val (.int tt), .val (.double num), .second, .val (.int (0 : Int32)), .val (.int (Int32.ofNat k)), .unset] [(.ref t0)]))
  refine go (fun _ kont => XS.iload X3.here hx rfl (hb hby d_prog_102_method_3_37) rfl  kont) ?_
  show G (T3.setTop (mkF m 39 #[.val (.ref a), .val (.int tt), .val (.double num), .second, .val (.int (0 : Int32)), .val (.int (Int32.ofNat k)), .unset] [(.int (Int32.ofNat k)), (.ref t0)]))
  refine go (fun _ kont => XS.iloadN X3.here hx rfl (hb hby d_prog_102_method_3_39) rfl  kont) ?_
  show G (T3.setTop (mkF m 40 #[.val (.ref a), .val (.int tt), .val (.double num), .second, .val (.int (0 : Int32)), .val (.int (Int32.ofNat k)), .unset] [(.int tt), (.int (Int32.ofNat k)), (.ref t0)]))
  obtain ⟨cl, Ar, Sl, Ml⟩ := id VT
  obtain ⟨T4, h4, X4, e4, W4, st4⟩ := stI X3 hx hZ e3 Ar (j := (Int32.ofNat k)) (own_hink Sl (own_neg (by rw [own_ofN (by omega)]; omega)) (own_tnO (by omega)) (k := k) (by omega)) (g := (mkF m 40 #[.val (.ref a), .val (.int tt), .val (.double num), .second, .val (.int (0 : Int32)), .val (.int (Int32.ofNat k)), .unset] [(.int tt), (.int (Int32.ofNat k)), (.ref t0)])) rfl rfl (hb hby d_prog_102_method_3_40)
  refine go st4 ?_
  show G (T4.setTop (mkF m 41 #[.val (.ref a), .val (.int tt), .val (.double num), .second, .val (.int (0 : Int32)), .val (.int (Int32.ofNat k)), .unset] []))
  have O_4 := own_O_other O W4 (Nat.ne_of_lt (Nat.lt_trans (Nat.lt_trans (Nat.lt_trans (Nat.lt_trans (Nat.lt_trans o1 o2) o3) o4) o5) o6))
  have RT_4 := own_RA_other RT W4 (Nat.ne_of_lt (Nat.lt_trans (Nat.lt_trans (Nat.lt_trans (Nat.lt_trans o2 o3) o4) o5) o6))
  have RX_4 := own_RA_other RX W4 (Nat.ne_of_lt (Nat.lt_trans (Nat.lt_trans (Nat.lt_trans o3 o4) o5) o6))
  have VD_4 := own_V_other VD W4 (Nat.ne_of_lt (Nat.lt_trans (Nat.lt_trans o4 o5) o6))
  have VK_4 := own_V_other VK W4 (Nat.ne_of_lt (Nat.lt_trans o5 o6))
  have VP_4 := own_V_other VP W4 (Nat.ne_of_lt o6)
  have VI_4 := own_V_other VI W4 (Nat.ne_of_gt o7)
  have V4 := own_V_set VT W4 (own_tnO (d := k) (by omega))
  have N4 := Fr.snoc X4 N0 (Nat.le_trans ga (Nat.le_of_lt (Nat.lt_trans (Nat.lt_trans (Nat.lt_trans (Nat.lt_trans (Nat.lt_trans o1 o2) o3) o4) o5) o6)))
  have Z4 : n0 ≤ h4.size := by rw [W4.size]; exact Z0
  refine go (fun _ kont => XS.aloadN X4.here hx rfl (hb hby d_prog_102_method_3_41) rfl rfl kont) ?_
  show G (T4.setTop (mkF m 42 #[.val (.ref a), .val (.int tt), .val (.double num), .second, .val (.int (0 : Int32)), .val (.int (Int32.ofNat k)), .unset] [(.ref a)]))
  obtain ⟨T5, X5, e5, st5⟩ := getF X4 hx hZ hown (host := "") (Or.inl (hw _ (List.mem_of_getElem? (i := 46) rfl))) Via.refl e4 O_4.2.2.2.2.2.2.2.1 (g := (mkF m 42 #[.val (.ref a), .val (.int tt), .val (.double num), .second, .val (.int (0 : Int32)), .val (.int (Int32.ofNat k)), .unset] [(.ref a)])) rfl rfl (hb hby d_prog_102_method_3_42)
  refine go st5 ?_
  show G (T5.setTop (mkF m 45 #[.val (.ref a), .val (.int tt), .val (.double num), .second, .val (.int (0 : Int32)), .val (.int (Int32.ofNat k)), .unset] [.null]))
  refine go (fun _ kont => XS.ifnonnullNo X5.here hx rfl (hb hby d_prog_102_method_3_45) rfl kont) ?_
  show G (T5.setTop (mkF m 48 #[.val (.ref a), .val (.int tt), .val (.double num), .second, .val (.int (0 : Int32)), .val (.int (Int32.ofNat k)), .unset] []))
  refine go (fun _ kont => XS.aloadN X5.here hx rfl (hb hby d_prog_102_method_3_48) rfl rfl kont) ?_
  show G (T5.setTop (mkF m 49 #[.val (.ref a), .val (.int tt), .val (.double num), .second, .val (.int (0 : Int32)), .val (.int (Int32.ofNat k)), .unset] [(.ref a)]))
  refine go (fun _ kont => XS.dloadN X5.here hx rfl (hb hby d_prog_102_method_3_49) rfl  kont) ?_
  show G (T5.setTop (mkF m 50 #[.val (.ref a), .val (.int tt), .val (.double num), .second, .val (.int (0 : Int32)), .val (.int (Int32.ofNat k)), .unset] [(.double num), (.ref a)]))
  obtain ⟨cq6, qa6, qb6⟩ := O_4.1.cell
  have hpv6 := Cond.privateMethod_at (mvP hZ (hw _ (List.mem_of_getElem? (i := 52) rfl)) (args := #[]))
  obtain ⟨_, _, ⟨T6, L6, k6, n6⟩, -, X6, ⟨Lc6, hQ6, l6, y6, z6⟩, st6⟩ := X5.privateBack hx (y := (⟨"com/example/knotweed/knotweed/engine/TransitionList", "indexOf", "(D)I"⟩ : MethodName)) hown (mvT hZ (hw _ (List.mem_of_getElem? (i := 50) rfl))) (mvT hZ (hw _ (List.mem_of_getElem? (i := 51) rfl))) (own_selP hZ (hw _ (List.mem_of_getElem? (i := 36) rfl)) rfl hpv6 (mvT hZ (hw _ (List.mem_of_getElem? (i := 51) rfl))) (by decide)) hpv6 (mvT hZ (hw _ (List.mem_of_getElem? (i := 53) rfl))) (by decide) (backOf (W := 0) (own_rm_index l Z a0 hw [] a num h4 n0 Z4 k mm tg ix tb ks ps O_4 ds kv pv I (by omega) VD_4 VK_4 VP_4 ga (Nat.lt_trans (Nat.lt_trans o1 o2) o3) o4 o5) hZ (hw _ (List.mem_of_getElem? (i := 53) rfl)) (hw _ (List.mem_of_getElem? (i := 2) rfl)) (by decide) (by decide)) (g := (mkF m 50 #[.val (.ref a), .val (.int tt), .val (.double num), .second, .val (.int (0 : Int32)), .val (.int (Int32.ofNat k)), .unset] [(.double num), (.ref a)])) rfl (by rw [hml]; rfl) (Steps.refl _) (a := a) (by rw [e5]; exact qa6) qb6 (argsL := [(.double num)]) (rest := []) (lenOf own_pd5 rfl) rfl (by show 2 * 0 + _ ≤ _; exact Nat.le_of_eq rfl) (hb hby d_prog_102_method_3_50) (fun _ _ => ⟨rfl, e5, (by decide : 0 + 0 ≤ _), (by decide : 0 + 0 ≤ _)⟩)
  dsimp only [Pt.U, Pt.locs, Pt.cells, Pt.slots] at X6 l6 y6 z6 st6 hQ6
  subst l6 y6 z6
  obtain ⟨j, mm', ds', kv', pv', rfl, N6q, K6, O6, I', hm1, hm2, hj, hdj, hdd, D6, Y6, P6⟩ := hQ6
  have N6 := Fr.app N4 N6q
  have e6 : T6.heap = T6.heap := rfl
  refine go (fun _ kont => st6.trans kont) ?_
  show G (T6.setTop (mkF m 53 #[.val (.ref a), .val (.int tt), .val (.double num), .second, .val (.int (0 : Int32)), .val (.int (Int32.ofNat k)), .unset] [(.int (Int32.ofNat j))]))
  have RT_6 := own_RA_keep RT_4 K6 (own_ni_4 (Nat.ne_of_gt o1) (Nat.ne_of_lt (Nat.lt_trans o2 o3)) (Nat.ne_of_lt (Nat.lt_trans (Nat.lt_trans o2 o3) o4)) (Nat.ne_of_lt (Nat.lt_trans (Nat.lt_trans (Nat.lt_trans o2 o3) o4) o5)))
  have RX_6 := own_RA_keep RX_4 K6 (own_ni_4 (Nat.ne_of_gt (Nat.lt_trans o1 o2)) (Nat.ne_of_lt o3) (Nat.ne_of_lt (Nat.lt_trans o3 o4)) (Nat.ne_of_lt (Nat.lt_trans (Nat.lt_trans o3 o4) o5)))
  have V4_6 := own_V_keep V4 K6 (own_ni_4 (Nat.ne_of_gt (Nat.lt_trans (Nat.lt_trans (Nat.lt_trans (Nat.lt_trans (Nat.lt_trans o1 o2) o3) o4) o5) o6)) (Nat.ne_of_gt (Nat.lt_trans (Nat.lt_trans o4 o5) o6)) (Nat.ne_of_gt (Nat.lt_trans o5 o6)) (Nat.ne_of_gt o6))
  have VI_6 := own_V_keep VI_4 K6 (own_ni_4 (Nat.ne_of_gt (Nat.lt_trans (Nat.lt_trans (Nat.lt_trans (Nat.lt_trans (Nat.lt_trans (Nat.lt_trans o1 o2) o3) o4) o5) o6) o7)) (Nat.ne_of_gt (Nat.lt_trans (Nat.lt_trans (Nat.lt_trans o4 o5) o6) o7)) (Nat.ne_of_gt (Nat.lt_trans (Nat.lt_trans o5 o6) o7)) (Nat.ne_of_gt (Nat.lt_trans o6 o7)))
  have Z6 : n0 ≤ T6.heap.size := Nat.le_trans Z4 K6.1
  refine go (fun _ kont => XS.istore X6.here hx rfl (hb hby d_prog_102_method_3_53) rfl (l' := #[.val (.ref a), .val (.int tt), .val (.double num), .second, .val (.int (0 : Int32)), .val (.int (Int32.ofNat k)), .val (.int (Int32.ofNat j))]) rfl kont) ?_
  show G (T6.setTop (mkF m 55 #[.val (.ref a), .val (.int tt), .val (.double num), .second, .val (.int (0 : Int32)), .val (.int (Int32.ofNat k)), .val (.int (Int32.ofNat j))] []))
  refine go (fun _ kont => XS.iload X6.here hx rfl (hb hby d_prog_102_method_3_55) rfl  kont) ?_
  show G (T6.setTop (mkF m 57 #[.val (.ref a), .val (.int tt), .val (.double num), .second, .val (.int (0 : Int32)), .val (.int (Int32.ofNat k)), .val (.int (Int32.ofNat j))] [(.int (Int32.ofNat j))]))
  refine go (fun _ kont => XS.iconst X6.here hx rfl (hb hby d_prog_102_method_3_57) kont) ?_
  show G (T6.setTop (mkF m 58 #[.val (.ref a), .val (.int tt), .val (.double num), .second, .val (.int (0 : Int32)), .val (.int (Int32.ofNat k)), .val (.int (Int32.ofNat j))] [(.int (-1 : Int32)), (.int (Int32.ofNat j))]))
  refine go (fun _ kont => XS.icmpYes X6.here hx rfl (pc0 := 58) (pc' := 68) rfl (hb hby d_prog_102_method_3_58) rfl (feq (fun q => by have := congrArg Int32.toInt q; rw [own_ofN (by omega), show (-1 : Int32).toInt = -1 by decide] at this; omega)).2 (by decide) (by decide) kont) ?_
  show G (T6.setTop (mkF m 68 #[.val (.ref a), .val (.int tt), .val (.double num), .second, .val (.int (0 : Int32)), .val (.int (Int32.ofNat k)), .val (.int (Int32.ofNat j))] []))
  refine go (fun _ kont => XS.aloadN X6.here hx rfl (hb hby d_prog_102_method_3_68) rfl rfl kont) ?_
  show G (T6.setTop (mkF m 69 #[.val (.ref a), .val (.int tt), .val (.double num), .second, .val (.int (0 : Int32)), .val (.int (Int32.ofNat k)), .val (.int (Int32.ofNat j))] [(.ref a)]))
  obtain ⟨T7, X7, e7, st7⟩ := getF X6 hx hZ hown (host := "") (Or.inl (hw _ (List.mem_of_getElem? (i := 15) rfl))) Via.refl e6 O6.2.2.2.1 (g := (mkF m 69 #[.val (.ref a), .val (.int tt), .val (.double num), .second, .val (.int (0 : Int32)), .val (.int (Int32.ofNat k)), .val (.int (Int32.ofNat j))] [(.ref a)])) rfl rfl (hb hby d_prog_102_method_3_69)
  refine go st7 ?_
  show G (T7.setTop (mkF m 72 #[.val (.ref a), .val (.int tt), .val (.double num), .second, .val (.int (0 : Int32)), .val (.int (Int32.ofNat k)), .val (.int (Int32.ofNat j))] [(.ref ix)]))
  refine go (fun _ kont => XS.iload X7.here hx rfl (hb hby d_prog_102_method_3_72) rfl  kont) ?_
  show G (T7.setTop (mkF m 74 #[.val (.ref a), .val (.int tt), .val (.double num), .second, .val (.int (0 : Int32)), .val (.int (Int32.ofNat k)), .val (.int (Int32.ofNat j))] [(.int (0 : Int32)), (.ref ix)]))
  obtain ⟨cl, Ar, Ov, Sl, Ml⟩ := id RX_6
  refine go (fun _ kont => X7.aaload hx (j := (0 : Int32)) (v := (.ref i0)) (by rw [e7]; exact Ar.1) (State.isArrayOf_alike hZ.alike Ar.2.1) rfl Ar.2.2 (own_hink Sl (by decide) (k := 0) (by decide) (Nat.le_of_ble_eq_true rfl)) (own_hatk Sl (k := 0) (by decide) rfl) (g := (mkF m 74 #[.val (.ref a), .val (.int tt), .val (.double num), .second, .val (.int (0 : Int32)), .val (.int (Int32.ofNat k)), .val (.int (Int32.ofNat j))] [(.int (0 : Int32)), (.ref ix)])) rfl rfl (hb hby d_prog_102_method_3_74) _ kont) ?_
  show G (T7.setTop (mkF m 75 #[.val (.ref a), .val (.int tt), .val (.double num), .second, .val (.int (0 : Int32)), .val (.int (Int32.ofNat k)), .val (.int (Int32.ofNat j))] [(.ref i0)]))
  refine go (fun _ kont => XS.iload X7.here hx rfl (hb hby d_prog_102_method_3_75) rfl  kont) ?_
  show G (T7.setTop (mkF m 77 #[.val (.ref a), .val (.int tt), .val (.double num), .second, .val (.int (0 : Int32)), .val (.int (Int32.ofNat k)), .val (.int (Int32.ofNat j))] [(.int (Int32.ofNat k)), (.ref i0)]))
  refine go (fun _ kont => XS.iload X7.here hx rfl (hb hby d_prog_102_method_3_77) rfl  kont) ?_
  show G (T7.setTop (mkF m 79 #[.val (.ref a), .val (.int tt), .val (.double num), .second, .val (.int (0 : Int32)), .val (.int (Int32.ofNat k)), .val (.int (Int32.ofNat j))] [(.int (Int32.ofNat j)), (.int (Int32.ofNat k)), (.ref i0)]))
  refine go (fun _ kont => XS.i2c X7.here hx rfl (hb hby d_prog_102_method_3_79) rfl kont) ?_
  show G (T7.setTop (mkF m 80 #[.val (.ref a), .val (.int tt), .val (.double num), .second, .val (.int (0 : Int32)), .val (.int (Int32.ofNat k)), .val (.int (Int32.ofNat j))] [(.int (Int32.ofNat j).toUInt32.toUInt16.toUInt32.toInt32), (.int (Int32.ofNat k)), (.ref i0)]))
  rw [own_i2c' j (by omega)]
  show G (T7.setTop (mkF m 80 #[.val (.ref a), .val (.int tt), .val (.double num), .second, .val (.int (0 : Int32)), .val (.int (Int32.ofNat k)), .val (.int (Int32.ofNat j))] [(.int (Int32.ofNat j)), (.int (Int32.ofNat k)), (.ref i0)]))
  obtain ⟨cl, Ar, Sl, Ml⟩ := id VI_6
  obtain ⟨T8, h8, X8, e8, W8, st8⟩ := stC X7 hx hZ e7 Ar (j := (Int32.ofNat k)) (own_hink Sl (own_neg (by rw [own_ofN (by omega)]; omega)) (own_tnO (by omega)) (k := k) (by rw [List.length_map]; omega)) (g := (mkF m 80 #[.val (.ref a), .val (.int tt), .val (.double num), .second, .val (.int (0 : Int32)), .val (.int (Int32.ofNat k)), .val (.int (Int32.ofNat j))] [(.int (Int32.ofNat j)), (.int (Int32.ofNat k)), (.ref i0)])) rfl rfl (hb hby d_prog_102_method_3_80)
  refine go st8 ?_
  show G (T8.setTop (mkF m 81 #[.val (.ref a), .val (.int tt), .val (.double num), .second, .val (.int (0 : Int32)), .val (.int (Int32.ofNat k)), .val (.int (Int32.ofNat j))] []))
  rw [own_narC' j (by omega)] at W8
  have RT_8 := own_RA_other RT_6 W8 (Nat.ne_of_lt (Nat.lt_trans (Nat.lt_trans (Nat.lt_trans (Nat.lt_trans (Nat.lt_trans o2 o3) o4) o5) o6) o7))
  have RX_8 := own_RA_other RX_6 W8 (Nat.ne_of_lt (Nat.lt_trans (Nat.lt_trans (Nat.lt_trans (Nat.lt_trans o3 o4) o5) o6) o7))
  have V4_8 := own_V_other V4_6 W8 (Nat.ne_of_lt o7)
  have O6_8 := own_O_other O6 W8 (Nat.ne_of_lt (Nat.lt_trans (Nat.lt_trans (Nat.lt_trans (Nat.lt_trans (Nat.lt_trans (Nat.lt_trans o1 o2) o3) o4) o5) o6) o7))
  have D6_8 := own_V_other D6 W8 (Nat.ne_of_lt (Nat.lt_trans (Nat.lt_trans (Nat.lt_trans o4 o5) o6) o7))
  have Y6_8 := own_V_other Y6 W8 (Nat.ne_of_lt (Nat.lt_trans (Nat.lt_trans o5 o6) o7))
  have P6_8 := own_V_other P6 W8 (Nat.ne_of_lt (Nat.lt_trans o6 o7))
  have V8 : own_V Z h8 i0 .char ((ys.set k (Int32.ofNat j)).map Value.int) := by rw [List.map_set]; exact own_V_set VI_6 W8 (own_tnO (d := k) (by omega))
  have N8 := Fr.snoc X8 N6 (Nat.le_trans ga (Nat.le_of_lt (Nat.lt_trans (Nat.lt_trans (Nat.lt_trans (Nat.lt_trans (Nat.lt_trans (Nat.lt_trans o1 o2) o3) o4) o5) o6) o7)))
  refine go (fun _ kont => XS.aloadN X8.here hx rfl (hb hby d_prog_102_method_3_81) rfl rfl kont) ?_
  show G (T8.setTop (mkF m 82 #[.val (.ref a), .val (.int tt), .val (.double num), .second, .val (.int (0 : Int32)), .val (.int (Int32.ofNat k)), .val (.int (Int32.ofNat j))] [(.ref a)]))
  obtain ⟨T9, X9, e9, st9⟩ := getF X8 hx hZ hown (host := "") (Or.inl (hw _ (List.mem_of_getElem? (i := 46) rfl))) Via.refl e8 O6_8.2.2.2.2.2.2.2.1 (g := (mkF m 82 #[.val (.ref a), .val (.int tt), .val (.double num), .second, .val (.int (0 : Int32)), .val (.int (Int32.ofNat k)), .val (.int (Int32.ofNat j))] [(.ref a)])) rfl rfl (hb hby d_prog_102_method_3_82)
  refine go st9 ?_
  show G (T9.setTop (mkF m 85 #[.val (.ref a), .val (.int tt), .val (.double num), .second, .val (.int (0 : Int32)), .val (.int (Int32.ofNat k)), .val (.int (Int32.ofNat j))] [.null]))
  refine go (fun _ kont => XS.ifnullYes X9.here hx rfl (pc0 := 85) (pc' := 99) rfl (hb hby d_prog_102_method_3_85) rfl (by decide) (by decide) kont) ?_
  show G (T9.setTop (mkF m 99 #[.val (.ref a), .val (.int tt), .val (.double num), .second, .val (.int (0 : Int32)), .val (.int (Int32.ofNat k)), .val (.int (Int32.ofNat j))] []))
  refine go (fun _ kont => XS.aloadN X9.here hx rfl (hb hby d_prog_102_method_3_99) rfl rfl kont) ?_
  show G (T9.setTop (mkF m 100 #[.val (.ref a), .val (.int tt), .val (.double num), .second, .val (.int (0 : Int32)), .val (.int (Int32.ofNat k)), .val (.int (Int32.ofNat j))] [(.ref a)]))
  refine go (fun _ kont => XS.dup X9.here hx rfl (hb hby d_prog_102_method_3_100) rfl rfl kont) ?_
  show G (T9.setTop (mkF m 101 #[.val (.ref a), .val (.int tt), .val (.double num), .second, .val (.int (0 : Int32)), .val (.int (Int32.ofNat k)), .val (.int (Int32.ofNat j))] [(.ref a), (.ref a)]))
  obtain ⟨T10, X10, e10, st10⟩ := getF X9 hx hZ hown (host := "") (Or.inl (hw _ (List.mem_of_getElem? (i := 38) rfl))) Via.refl e9 O6_8.2.1 (g := (mkF m 101 #[.val (.ref a), .val (.int tt), .val (.double num), .second, .val (.int (0 : Int32)), .val (.int (Int32.ofNat k)), .val (.int (Int32.ofNat j))] [(.ref a), (.ref a)])) rfl rfl (hb hby d_prog_102_method_3_101)
  refine go st10 ?_
  show G (T10.setTop (mkF m 104 #[.val (.ref a), .val (.int tt), .val (.double num), .second, .val (.int (0 : Int32)), .val (.int (Int32.ofNat k)), .val (.int (Int32.ofNat j))] [(.int (Int32.ofNat k)), (.ref a)]))
  refine go (fun _ kont => XS.iconst X10.here hx rfl (hb hby d_prog_102_method_3_104) kont) ?_
  show G (T10.setTop (mkF m 105 #[.val (.ref a), .val (.int tt), .val (.double num), .second, .val (.int (0 : Int32)), .val (.int (Int32.ofNat k)), .val (.int (Int32.ofNat j))] [(.int (1 : Int32)), (.int (Int32.ofNat k)), (.ref a)]))
  refine go (fun _ kont => XS.iadd X10.here hx rfl (hb hby d_prog_102_method_3_105) rfl kont) ?_
  show G (T10.setTop (mkF m 106 #[.val (.ref a), .val (.int tt), .val (.double num), .second, .val (.int (0 : Int32)), .val (.int (Int32.ofNat k)), .val (.int (Int32.ofNat j))] [(.int ((Int32.ofNat k) + (1 : Int32))), (.ref a)]))
  rw [show ((Int32.ofNat k) + (1 : Int32)) = (Int32.ofNat (k + 1)) from own_addk k 1]
  show G (T10.setTop (mkF m 106 #[.val (.ref a), .val (.int tt), .val (.double num), .second, .val (.int (0 : Int32)), .val (.int (Int32.ofNat k)), .val (.int (Int32.ofNat j))] [(.int (Int32.ofNat (k + 1))), (.ref a)]))
  obtain ⟨T11, h11, X11, e11, W11, st11⟩ := putF X10 hx hZ hown (host := "") (Or.inl (hw _ (List.mem_of_getElem? (i := 38) rfl))) Via.refl e10 O6_8.2.1 O6_8.1 (Or.inl (hw _ (List.mem_of_getElem? (i := 39) rfl))) (hw _ (List.mem_of_getElem? (i := 1) rfl)) (ty := .int) (by decide) rfl rfl (g := (mkF m 106 #[.val (.ref a), .val (.int tt), .val (.double num), .second, .val (.int (0 : Int32)), .val (.int (Int32.ofNat k)), .val (.int (Int32.ofNat j))] [(.int (Int32.ofNat (k + 1))), (.ref a)])) rfl rfl (hb hby d_prog_102_method_3_106)
  refine go st11 ?_
  show G (T11.setTop (mkF m 109 #[.val (.ref a), .val (.int tt), .val (.double num), .second, .val (.int (0 : Int32)), .val (.int (Int32.ofNat k)), .val (.int (Int32.ofNat j))] []))
  have RT_11 := own_RA_other RT_8 W11 (Nat.ne_of_gt o1)
  have RX_11 := own_RA_other RX_8 W11 (Nat.ne_of_gt (Nat.lt_trans o1 o2))
  have V4_11 := own_V_other V4_8 W11 (Nat.ne_of_gt (Nat.lt_trans (Nat.lt_trans (Nat.lt_trans (Nat.lt_trans (Nat.lt_trans o1 o2) o3) o4) o5) o6))
  have V8_11 := own_V_other V8 W11 (Nat.ne_of_gt (Nat.lt_trans (Nat.lt_trans (Nat.lt_trans (Nat.lt_trans (Nat.lt_trans (Nat.lt_trans o1 o2) o3) o4) o5) o6) o7))
  have D6_11 := own_V_other D6_8 W11 (Nat.ne_of_gt (Nat.lt_trans (Nat.lt_trans o1 o2) o3))
  have Y6_11 := own_V_other Y6_8 W11 (Nat.ne_of_gt (Nat.lt_trans (Nat.lt_trans (Nat.lt_trans o1 o2) o3) o4))
  have P6_11 := own_V_other P6_8 W11 (Nat.ne_of_gt (Nat.lt_trans (Nat.lt_trans (Nat.lt_trans (Nat.lt_trans o1 o2) o3) o4) o5))
  have O_11 := own_O_size hw O6_8 W11
  have N11 := Fr.snoc X11 N8 ga
  rw [hG]
  exact own_retV X11 hx Bd.returns (hb hby d_prog_102_method_3_109) hlk (by decide) (by decide) (by rw [e11]; exact ⟨rfl, N11, Nat.le_trans ga (Nat.le_of_lt O_11.1.lt), mm', tg, ix, tb, ks, ps, t0, i0, _, _, ds', kv', pv', O_11, RT_11, RX_11, V4_11, V8_11, D6_11, Y6_11, P6_11, by rw [List.length_set]; exact hzl, by rw [List.length_set]; exact hyl, I', by omega, own_C_add HC hm1 (by omega) hdd hj (hdj.trans hnum), ga, o1, o2, o3, o4, o5, o6, o7⟩)
theorem own_ef_own_rm_get (m : MethodId) (x0 : Addr) (x1 : Int32) : entryFrame m #[(.ref x0), (.int x1)] 4 = mkF m 0 #[.val (.ref x0), .val (.int x1), .unset, .unset] [] := by first | (simp [entryFrame, mkF, argsToLocals, Value.category]; done) | rfl
set_option maxRecDepth 65536 in
set_option maxHeartbeats 40000000 in
theorem own_rm_get (l : Launch) (Z : State) (a0 : Array Value) (hw : ∀ d ∈ tables_1, d.before a0 Z = true) (ws : List Jvm.Cond) (a : Addr) (h0 : Heap) (n0 : Nat) (Z0 : n0 ≤ h0.size) (i : Nat) (hi : i < 4) (xs : List UInt64) (L : own_LL Z h0 n0 a 4 xs) :
    MetFree l (⟨"com/example/knotweed/knotweed/engine/TransitionList", "getNumber", "(I)D"⟩ : MethodName) (head1 (Jvm.Cond.code (⟨"com/example/knotweed/knotweed/engine/TransitionList", "getNumber", "(I)D"⟩ : MethodName) prog_102_method_5_code 4 (some .double) :: ws) ({ frames := 0, cells := 0, slots := 0, locals := 0 } : Room)) (fun aq Uq => aq = #[(.ref a), (.int (Int32.ofNat i))] ∧ Z.Warmed39 Uq.vm ∧ Uq.heap = h0) (fun _ _ _ _ _ => True) (fun _ Uq oq Uq' => ∃ vq Lq, oq = .returned vq ∧ (own_Qp (some (.double (xs.getD i 0))) h0 n0) vq Uq'.heap Lq ∧ FrameEnd Uq oq Uq' Lq ({ frames := 0, cells := 0, slots := 0, locals := 0 } : Room).cells ({ frames := 0, cells := 0, slots := 0, locals := 0 } : Room).slots) := by
  refine MetFree.of_bodySF (plainFor_of_name own_pn1) hisR ?_
  intro p e s m args below meth c s₁ Bd hml0 hP hK
  obtain ⟨rfl, hZ, hh⟩ := hP
  have hx := Bd.exec
  have hby := Bd.bytes
  have hml : c.maxLocals = 4 := hml0
  have hown : s.vm.findClass "com/example/knotweed/knotweed/engine/TransitionList" = some m.cls := findClass_of_methodNamed Bd.named
  have hnm := (name_of_methodNamed Bd.named Bd.method).1
  have X0 : Stand p l e ({ frames := 0, cells := 0, slots := 0, locals := 0 } : Room) s m #[(.ref a), (.int (Int32.ofNat i))] below meth c s₁ [] 0 0 := Stand.of_body Bd
  have e0 : s₁.heap = h0 := by rw [← hh, Bd.state]; rfl
  have N0 := Fr.nil n0
  have hlk : meth.locks = false := by first | exact BodyLoose.notSynchronized Bd | exact Body.notSynchronized Bd
  obtain ⟨G, hG⟩ : ∃ G : State → Prop, G = own_G p e below s ({ frames := 0, cells := 0, slots := 0, locals := 0 } : Room).cells ({ frames := 0, cells := 0, slots := 0, locals := 0 } : Room).slots ((own_Qp (some (.double (xs.getD i 0))) h0 n0)) := ⟨_, rfl⟩
  have go : ∀ {S S' : State}, (∀ t, Steps p.tables e below S' t → Steps p.tables e below S t) → G S' → G S := by rw [hG]; exact own_to
  suffices hs : G (s₁.setTop (mkF m 0 #[.val (.ref a), .val (.int (Int32.ofNat i)), .unset, .unset] [])) by
    rw [hG] at hs
    exact own_to (fun _ kont => castTop (own_ef_own_rm_get m a (Int32.ofNat i)) kont) hs
  obtain ⟨mm, tg, ix, tb, ks, ps, t0, i0, zs, ys, ds, kv, pv, O, RT, RX, VT, VI, VD, VK, VP, hzl, hyl, I, hmk, HC, ga, o1, o2, o3, o4, o5, o6, o7⟩ := L
  have hI := I
  obtain ⟨hdl, hkl, hpl, -, -⟩ := hI
  obtain ⟨j, hj, hyj, hdj⟩ := HC i hi
  refine go (fun _ kont => XS.iloadN X0.here hx rfl (hb hby d_prog_102_method_5_0) rfl  kont) ?_
  show G (s₁.setTop (mkF m 1 #[.val (.ref a), .val (.int (Int32.ofNat i)), .unset, .unset] [(.int (Int32.ofNat i))]))
  refine go (fun _ kont => XS.bipush X0.here hx rfl (hb hby d_prog_102_method_5_1) kont) ?_
  show G (s₁.setTop (mkF m 3 #[.val (.ref a), .val (.int (Int32.ofNat i)), .unset, .unset] [(.int (15 : Int32)), (.int (Int32.ofNat i))]))
  refine go (fun _ kont => XS.iushr X0.here hx rfl (hb hby d_prog_102_method_5_3) rfl kont) ?_
  show G (s₁.setTop (mkF m 4 #[.val (.ref a), .val (.int (Int32.ofNat i)), .unset, .unset] [(.int (((Int32.ofNat i).toUInt32 >>> ((15 : Int32) &&& 31).toUInt32).toInt32))]))
  rw [own_sh15 i hi]
  show G (s₁.setTop (mkF m 4 #[.val (.ref a), .val (.int (Int32.ofNat i)), .unset, .unset] [(.int (0 : Int32))]))
  refine go (fun _ kont => XS.istoreN X0.here hx rfl (hb hby d_prog_102_method_5_4) rfl (l' := #[.val (.ref a), .val (.int (Int32.ofNat i)), .val (.int (0 : Int32)), .unset]) rfl kont) ?_
  show G (s₁.setTop (mkF m 5 #[.val (.ref a), .val (.int (Int32.ofNat i)), .val (.int (0 : Int32)), .unset] []))
  refine go (fun _ kont => XS.iloadN X0.here hx rfl (hb hby d_prog_102_method_5_5) rfl  kont) ?_
  show G (s₁.setTop (mkF m 6 #[.val (.ref a), .val (.int (Int32.ofNat i)), .val (.int (0 : Int32)), .unset] [(.int (Int32.ofNat i))]))
  refine go (fun _ kont => XS.sipush X0.here hx rfl (hb hby d_prog_102_method_5_6) kont) ?_
  show G (s₁.setTop (mkF m 9 #[.val (.ref a), .val (.int (Int32.ofNat i)), .val (.int (0 : Int32)), .unset] [(.int (32767 : Int32)), (.int (Int32.ofNat i))]))
  refine go (fun _ kont => XS.iand X0.here hx rfl (hb hby d_prog_102_method_5_9) rfl kont) ?_
  show G (s₁.setTop (mkF m 10 #[.val (.ref a), .val (.int (Int32.ofNat i)), .val (.int (0 : Int32)), .unset] [(.int ((Int32.ofNat i) &&& (32767 : Int32)))]))
  rw [own_an15 i hi]
  show G (s₁.setTop (mkF m 10 #[.val (.ref a), .val (.int (Int32.ofNat i)), .val (.int (0 : Int32)), .unset] [(.int (Int32.ofNat i))]))
  refine go (fun _ kont => XS.istoreN X0.here hx rfl (hb hby d_prog_102_method_5_10) rfl (l' := #[.val (.ref a), .val (.int (Int32.ofNat i)), .val (.int (0 : Int32)), .val (.int (Int32.ofNat i))]) rfl kont) ?_
  show G (s₁.setTop (mkF m 11 #[.val (.ref a), .val (.int (Int32.ofNat i)), .val (.int (0 : Int32)), .val (.int (Int32.ofNat i))] []))
  refine go (fun _ kont => XS.aloadN X0.here hx rfl (hb hby d_prog_102_method_5_11) rfl rfl kont) ?_
  show G (s₁.setTop (mkF m 12 #[.val (.ref a), .val (.int (Int32.ofNat i)), .val (.int (0 : Int32)), .val (.int (Int32.ofNat i))] [(.ref a)]))
  obtain ⟨T1, X1, e1, st1⟩ := getF X0 hx hZ hown (host := "") (Or.inl (hw _ (List.mem_of_getElem? (i := 46) rfl))) Via.refl e0 O.2.2.2.2.2.2.2.1 (g := (mkF m 12 #[.val (.ref a), .val (.int (Int32.ofNat i)), .val (.int (0 : Int32)), .val (.int (Int32.ofNat i))] [(.ref a)])) rfl rfl (hb hby d_prog_102_method_5_12)
  refine go st1 ?_
  show G (T1.setTop (mkF m 15 #[.val (.ref a), .val (.int (Int32.ofNat i)), .val (.int (0 : Int32)), .val (.int (Int32.ofNat i))] [.null]))
  refine go (fun _ kont => XS.ifnonnullNo X1.here hx rfl (hb hby d_prog_102_method_5_15) rfl kont) ?_
  show G (T1.setTop (mkF m 18 #[.val (.ref a), .val (.int (Int32.ofNat i)), .val (.int (0 : Int32)), .val (.int (Int32.ofNat i))] []))
  refine go (fun _ kont => XS.aloadN X1.here hx rfl (hb hby d_prog_102_method_5_18) rfl rfl kont) ?_
  show G (T1.setTop (mkF m 19 #[.val (.ref a), .val (.int (Int32.ofNat i)), .val (.int (0 : Int32)), .val (.int (Int32.ofNat i))] [(.ref a)]))
  obtain ⟨T2, X2, e2, st2⟩ := getF X1 hx hZ hown (host := "") (Or.inl (hw _ (List.mem_of_getElem? (i := 18) rfl))) Via.refl e1 O.2.2.2.2.1 (g := (mkF m 19 #[.val (.ref a), .val (.int (Int32.ofNat i)), .val (.int (0 : Int32)), .val (.int (Int32.ofNat i))] [(.ref a)])) rfl rfl (hb hby d_prog_102_method_5_19)
  refine go st2 ?_
  show G (T2.setTop (mkF m 22 #[.val (.ref a), .val (.int (Int32.ofNat i)), .val (.int (0 : Int32)), .val (.int (Int32.ofNat i))] [(.ref tb)]))
  refine go (fun _ kont => XS.aloadN X2.here hx rfl (hb hby d_prog_102_method_5_22) rfl rfl kont) ?_
  show G (T2.setTop (mkF m 23 #[.val (.ref a), .val (.int (Int32.ofNat i)), .val (.int (0 : Int32)), .val (.int (Int32.ofNat i))] [(.ref a), (.ref tb)]))
  obtain ⟨T3, X3, e3, st3⟩ := getF X2 hx hZ hown (host := "") (Or.inl (hw _ (List.mem_of_getElem? (i := 15) rfl))) Via.refl e2 O.2.2.2.1 (g := (mkF m 23 #[.val (.ref a), .val (.int (Int32.ofNat i)), .val (.int (0 : Int32)), .val (.int (Int32.ofNat i))] [(.ref a), (.ref tb)])) rfl rfl (hb hby d_prog_102_method_5_23)
  refine go st3 ?_
  show G (T3.setTop (mkF m 26 #[.val (.ref a), .val (.int (Int32.ofNat i)), .val (.int (0 : Int32)), .val (.int (Int32.ofNat i))] [(.ref ix), (.ref tb)]))
  refine go (fun _ kont => XS.iloadN X3.here hx rfl (hb hby d_prog_102_method_5_26) rfl  kont) ?_
  show G (T3.setTop (mkF m 27 #[.val (.ref a), .val (.int (Int32.ofNat i)), .val (.int (0 : Int32)), .val (.int (Int32.ofNat i))] [(.int (0 : Int32)), (.ref ix), (.ref tb)]))
  obtain ⟨cl, Ar, Ov, Sl, Ml⟩ := id RX
  refine go (fun _ kont => X3.aaload hx (j := (0 : Int32)) (v := (.ref i0)) (by rw [e3]; exact Ar.1) (State.isArrayOf_alike hZ.alike Ar.2.1) rfl Ar.2.2 (own_hink Sl (by decide) (k := 0) (by decide) (Nat.le_of_ble_eq_true rfl)) (own_hatk Sl (k := 0) (by decide) rfl) (g := (mkF m 27 #[.val (.ref a), .val (.int (Int32.ofNat i)), .val (.int (0 : Int32)), .val (.int (Int32.ofNat i))] [(.int (0 : Int32)), (.ref ix), (.ref tb)])) rfl rfl (hb hby d_prog_102_method_5_27) _ kont) ?_
  show G (T3.setTop (mkF m 28 #[.val (.ref a), .val (.int (Int32.ofNat i)), .val (.int (0 : Int32)), .val (.int (Int32.ofNat i))] [(.ref i0), (.ref tb)]))
  refine go (fun _ kont => XS.iloadN X3.here hx rfl (hb hby d_prog_102_method_5_28) rfl  kont) ?_
  show G (T3.setTop (mkF m 29 #[.val (.ref a), .val (.int (Int32.ofNat i)), .val (.int (0 : Int32)), .val (.int (Int32.ofNat i))] [(.int (Int32.ofNat i)), (.ref i0), (.ref tb)]))
  obtain ⟨cl, Ar, Sl, Ml⟩ := id VI
  refine go (fun _ kont => X3.caload hx (j := (Int32.ofNat i)) (v := (.int (ys.getD i 0))) (by rw [e3]; exact Ar.1) (State.isArrayOf_alike hZ.alike Ar.2.1) Ar.2.2 (own_hink Sl (own_neg (by rw [own_ofN (by omega)]; omega)) (own_tnO (by omega)) (k := i) (by rw [List.length_map]; omega)) (own_hatk Sl (own_tnO (by omega)) (own_atI (k := i) (by omega))) (g := (mkF m 29 #[.val (.ref a), .val (.int (Int32.ofNat i)), .val (.int (0 : Int32)), .val (.int (Int32.ofNat i))] [(.int (Int32.ofNat i)), (.ref i0), (.ref tb)])) rfl rfl (hb hby d_prog_102_method_5_29) _ kont) ?_
  show G (T3.setTop (mkF m 30 #[.val (.ref a), .val (.int (Int32.ofNat i)), .val (.int (0 : Int32)), .val (.int (Int32.ofNat i))] [(.int (ys.getD i 0)), (.ref tb)]))
  rw [hyj]
  show G (T3.setTop (mkF m 30 #[.val (.ref a), .val (.int (Int32.ofNat i)), .val (.int (0 : Int32)), .val (.int (Int32.ofNat i))] [(.int (Int32.ofNat j)), (.ref tb)]))
  obtain ⟨cl, Ar, Sl, Ml⟩ := id VD
  refine go (fun _ kont => X3.daload hx (j := (Int32.ofNat j)) (v := (.double (ds.getD j 0))) (by rw [e3]; exact Ar.1) (State.isArrayOf_alike hZ.alike Ar.2.1) Ar.2.2 (own_hink Sl (own_neg (by rw [own_ofN (by omega)]; omega)) (own_tnO (by omega)) (k := j) (by rw [List.length_map]; omega)) (own_hatk Sl (own_tnO (by omega)) (own_atD (k := j) (by omega))) (g := (mkF m 30 #[.val (.ref a), .val (.int (Int32.ofNat i)), .val (.int (0 : Int32)), .val (.int (Int32.ofNat i))] [(.int (Int32.ofNat j)), (.ref tb)])) rfl rfl (hb hby d_prog_102_method_5_30) _ kont) ?_
  show G (T3.setTop (mkF m 31 #[.val (.ref a), .val (.int (Int32.ofNat i)), .val (.int (0 : Int32)), .val (.int (Int32.ofNat i))] [(.double (ds.getD j 0))]))
  refine go (fun _ kont => XS.goto X3.here hx rfl (pc0 := 31) (pc' := 42) rfl (hb hby d_prog_102_method_5_31) (by decide) (by decide) kont) ?_
  show G (T3.setTop (mkF m 42 #[.val (.ref a), .val (.int (Int32.ofNat i)), .val (.int (0 : Int32)), .val (.int (Int32.ofNat i))] [(.double (ds.getD j 0))]))
  rw [hG]
  exact own_retD X3 hx Bd.returns (hb hby d_prog_102_method_5_42) hlk (by decide) (by decide) ⟨by rw [hdj], N0, e3⟩
theorem own_ef_own_rm_law (m : MethodId) (x0 : Int32) (x1 : Int32) (x2 : Int32) (x3 : Int32) (x4 : Int32) (x5 : Int32) : entryFrame m #[(.int x0), (.int x1), (.int x2), (.int x3), (.int x4), (.int x5)] maxLocals = mkF m 0 #[.val (.int x0), .val (.int x1), .val (.int x2), .val (.int x3), .val (.int x4), .val (.int x5), .unset, .unset, .unset, .unset, .unset, .unset, .unset, .unset, .unset, .unset, .unset] [] := by first | (simp [entryFrame, mkF, argsToLocals, Value.category, maxLocals]; done) | rfl
set_option maxRecDepth 65536 in
set_option maxHeartbeats 40000000 in
theorem own_rm_law (l : Launch) (Z : State) (a0 : Array Value) (hw : ∀ d ∈ tables_1, d.before a0 Z = true) (ws : List Jvm.Cond) (p1 : Int32) (p2 : Int32) (p3 : Int32) (p4 : Int32) (p5 : Int32) (p6 : Int32) (h0 : Heap) (n0 : Nat) (Z0 : n0 ≤ h0.size)  :
    MetFree l x (head1 (Jvm.Cond.code x code maxLocals ret :: ws) room_1) (fun aq Uq => aq = #[(.int p1), (.int p2), (.int p3), (.int p4), (.int p5), (.int p6)] ∧ Z.Warmed39 Uq.vm ∧ Uq.heap = h0) (fun _ _ _ _ _ => True) (fun _ Uq oq Uq' => ∃ vq Lq, oq = .returned vq ∧ (own_Ql n0) vq Uq'.heap Lq ∧ FrameEnd Uq oq Uq' Lq room_1.cells room_1.slots) := by
  refine MetFree.of_bodySF (plainFor_of_name own_pn3) hisR ?_
  intro p e s m args below meth c s₁ Bd hml0 hP hK
  obtain ⟨rfl, hZ, hh⟩ := hP
  have hx := Bd.exec
  have hby := Bd.bytes
  have hml : c.maxLocals = 17 := hml0
  have hown : s.vm.findClass "com/example/knotweed/knotweed/engine/TransitionListGetNumberPinLaw" = some m.cls := findClass_of_methodNamed Bd.named
  have hnm := (name_of_methodNamed Bd.named Bd.method).1
  have X0 : Stand p l e room_1 s m #[(.int p1), (.int p2), (.int p3), (.int p4), (.int p5), (.int p6)] below meth c s₁ [] 0 0 := Stand.of_body Bd
  have e0 : s₁.heap = h0 := by rw [← hh, Bd.state]; rfl
  have N0 := Fr.nil n0
  have hlk : meth.locks = false := by first | exact BodyLoose.notSynchronized Bd | exact Body.notSynchronized Bd
  obtain ⟨G, hG⟩ : ∃ G : State → Prop, G = own_G p e below s room_1.cells room_1.slots ((own_Ql n0)) := ⟨_, rfl⟩
  have go : ∀ {S S' : State}, (∀ t, Steps p.tables e below S' t → Steps p.tables e below S t) → G S' → G S := by rw [hG]; exact own_to
  suffices hs : G (s₁.setTop (mkF m 0 #[.val (.int p1), .val (.int p2), .val (.int p3), .val (.int p4), .val (.int p5), .val (.int p6), .unset, .unset, .unset, .unset, .unset, .unset, .unset, .unset, .unset, .unset, .unset] [])) by
    rw [hG] at hs
    exact own_to (fun _ kont => castTop (own_ef_own_rm_law m p1 p2 p3 p4 p5 p6) kont) hs
  have rest : ∀ (v3 : Int32), G (s₁.setTop (mkF m 36 #[.val (.int p1), .val (.int p2), .val (.int p3), .val (.int p4), .val (.int p5), .val (.int p6), .val (.int (p5 &&& (3 : Int32))), .unset, .unset, .unset, .unset, .unset, .unset, .unset, .unset, .unset, .unset] [.int v3])) := by
    intro v3
    show G (s₁.setTop (mkF m 36 #[.val (.int p1), .val (.int p2), .val (.int p3), .val (.int p4), .val (.int p5), .val (.int p6), .val (.int (p5 &&& (3 : Int32))), .unset, .unset, .unset, .unset, .unset, .unset, .unset, .unset, .unset, .unset] [(.int v3)]))
    refine go (fun _ kont => XS.istore X0.here hx rfl (hb hby at_36) rfl (l' := #[.val (.int p1), .val (.int p2), .val (.int p3), .val (.int p4), .val (.int p5), .val (.int p6), .val (.int (p5 &&& (3 : Int32))), .val (.int v3), .unset, .unset, .unset, .unset, .unset, .unset, .unset, .unset, .unset]) rfl kont) ?_
    show G (s₁.setTop (mkF m 38 #[.val (.int p1), .val (.int p2), .val (.int p3), .val (.int p4), .val (.int p5), .val (.int p6), .val (.int (p5 &&& (3 : Int32))), .val (.int v3), .unset, .unset, .unset, .unset, .unset, .unset, .unset, .unset, .unset] []))
    refine go (fun _ kont => XS.iloadN X0.here hx rfl (hb hby at_38) rfl  kont) ?_
    show G (s₁.setTop (mkF m 39 #[.val (.int p1), .val (.int p2), .val (.int p3), .val (.int p4), .val (.int p5), .val (.int p6), .val (.int (p5 &&& (3 : Int32))), .val (.int v3), .unset, .unset, .unset, .unset, .unset, .unset, .unset, .unset, .unset] [(.int p1)]))
    refine go (fun _ kont => XS.i2dS X0.here hx rfl (hb hby at_39) rfl rfl kont) ?_
    show G (s₁.setTop (mkF m 40 #[.val (.int p1), .val (.int p2), .val (.int p3), .val (.int p4), .val (.int p5), .val (.int p6), .val (.int (p5 &&& (3 : Int32))), .val (.int v3), .unset, .unset, .unset, .unset, .unset, .unset, .unset, .unset, .unset] [(.double (FP.i2d p1))]))
    refine go (fun _ kont => XS.dstore X0.here hx rfl (hb hby at_40) rfl (l' := #[.val (.int p1), .val (.int p2), .val (.int p3), .val (.int p4), .val (.int p5), .val (.int p6), .val (.int (p5 &&& (3 : Int32))), .val (.int v3), .val (.double (FP.i2d p1)), .second, .unset, .unset, .unset, .unset, .unset, .unset, .unset]) rfl kont) ?_
    show G (s₁.setTop (mkF m 42 #[.val (.int p1), .val (.int p2), .val (.int p3), .val (.int p4), .val (.int p5), .val (.int p6), .val (.int (p5 &&& (3 : Int32))), .val (.int v3), .val (.double (FP.i2d p1)), .second, .unset, .unset, .unset, .unset, .unset, .unset, .unset] []))
    refine go (fun _ kont => XS.iloadN X0.here hx rfl (hb hby at_42) rfl  kont) ?_
    show G (s₁.setTop (mkF m 43 #[.val (.int p1), .val (.int p2), .val (.int p3), .val (.int p4), .val (.int p5), .val (.int p6), .val (.int (p5 &&& (3 : Int32))), .val (.int v3), .val (.double (FP.i2d p1)), .second, .unset, .unset, .unset, .unset, .unset, .unset, .unset] [(.int p2)]))
    refine go (fun _ kont => XS.i2dS X0.here hx rfl (hb hby at_43) rfl rfl kont) ?_
    show G (s₁.setTop (mkF m 44 #[.val (.int p1), .val (.int p2), .val (.int p3), .val (.int p4), .val (.int p5), .val (.int p6), .val (.int (p5 &&& (3 : Int32))), .val (.int v3), .val (.double (FP.i2d p1)), .second, .unset, .unset, .unset, .unset, .unset, .unset, .unset] [(.double (FP.i2d p2))]))
    refine go (fun _ kont => XS.dstore X0.here hx rfl (hb hby at_44) rfl (l' := #[.val (.int p1), .val (.int p2), .val (.int p3), .val (.int p4), .val (.int p5), .val (.int p6), .val (.int (p5 &&& (3 : Int32))), .val (.int v3), .val (.double (FP.i2d p1)), .second, .val (.double (FP.i2d p2)), .second, .unset, .unset, .unset, .unset, .unset]) rfl kont) ?_
    show G (s₁.setTop (mkF m 46 #[.val (.int p1), .val (.int p2), .val (.int p3), .val (.int p4), .val (.int p5), .val (.int p6), .val (.int (p5 &&& (3 : Int32))), .val (.int v3), .val (.double (FP.i2d p1)), .second, .val (.double (FP.i2d p2)), .second, .unset, .unset, .unset, .unset, .unset] []))
    refine go (fun _ kont => XS.iloadN X0.here hx rfl (hb hby at_46) rfl  kont) ?_
    show G (s₁.setTop (mkF m 47 #[.val (.int p1), .val (.int p2), .val (.int p3), .val (.int p4), .val (.int p5), .val (.int p6), .val (.int (p5 &&& (3 : Int32))), .val (.int v3), .val (.double (FP.i2d p1)), .second, .val (.double (FP.i2d p2)), .second, .unset, .unset, .unset, .unset, .unset] [(.int p3)]))
    refine go (fun _ kont => XS.i2dS X0.here hx rfl (hb hby at_47) rfl rfl kont) ?_
    show G (s₁.setTop (mkF m 48 #[.val (.int p1), .val (.int p2), .val (.int p3), .val (.int p4), .val (.int p5), .val (.int p6), .val (.int (p5 &&& (3 : Int32))), .val (.int v3), .val (.double (FP.i2d p1)), .second, .val (.double (FP.i2d p2)), .second, .unset, .unset, .unset, .unset, .unset] [(.double (FP.i2d p3))]))
    refine go (fun _ kont => XS.dstore X0.here hx rfl (hb hby at_48) rfl (l' := #[.val (.int p1), .val (.int p2), .val (.int p3), .val (.int p4), .val (.int p5), .val (.int p6), .val (.int (p5 &&& (3 : Int32))), .val (.int v3), .val (.double (FP.i2d p1)), .second, .val (.double (FP.i2d p2)), .second, .val (.double (FP.i2d p3)), .second, .unset, .unset, .unset]) rfl kont) ?_
    show G (s₁.setTop (mkF m 50 #[.val (.int p1), .val (.int p2), .val (.int p3), .val (.int p4), .val (.int p5), .val (.int p6), .val (.int (p5 &&& (3 : Int32))), .val (.int v3), .val (.double (FP.i2d p1)), .second, .val (.double (FP.i2d p2)), .second, .val (.double (FP.i2d p3)), .second, .unset, .unset, .unset] []))
    refine go (fun _ kont => XS.iload X0.here hx rfl (hb hby at_50) rfl  kont) ?_
    show G (s₁.setTop (mkF m 52 #[.val (.int p1), .val (.int p2), .val (.int p3), .val (.int p4), .val (.int p5), .val (.int p6), .val (.int (p5 &&& (3 : Int32))), .val (.int v3), .val (.double (FP.i2d p1)), .second, .val (.double (FP.i2d p2)), .second, .val (.double (FP.i2d p3)), .second, .unset, .unset, .unset] [(.int v3)]))
    refine go (fun _ kont => XS.i2dS X0.here hx rfl (hb hby at_52) rfl rfl kont) ?_
    show G (s₁.setTop (mkF m 53 #[.val (.int p1), .val (.int p2), .val (.int p3), .val (.int p4), .val (.int p5), .val (.int p6), .val (.int (p5 &&& (3 : Int32))), .val (.int v3), .val (.double (FP.i2d p1)), .second, .val (.double (FP.i2d p2)), .second, .val (.double (FP.i2d p3)), .second, .unset, .unset, .unset] [(.double (FP.i2d v3))]))
    refine go (fun _ kont => XS.dstore X0.here hx rfl (hb hby at_53) rfl (l' := #[.val (.int p1), .val (.int p2), .val (.int p3), .val (.int p4), .val (.int p5), .val (.int p6), .val (.int (p5 &&& (3 : Int32))), .val (.int v3), .val (.double (FP.i2d p1)), .second, .val (.double (FP.i2d p2)), .second, .val (.double (FP.i2d p3)), .second, .val (.double (FP.i2d v3)), .second, .unset]) rfl kont) ?_
    show G (s₁.setTop (mkF m 55 #[.val (.int p1), .val (.int p2), .val (.int p3), .val (.int p4), .val (.int p5), .val (.int p6), .val (.int (p5 &&& (3 : Int32))), .val (.int v3), .val (.double (FP.i2d p1)), .second, .val (.double (FP.i2d p2)), .second, .val (.double (FP.i2d p3)), .second, .val (.double (FP.i2d v3)), .second, .unset] []))
    obtain ⟨T1, h1, X1, e1, E1, A1, D1, -, st1⟩ := newO X0 hx hZ hown (hw _ (List.mem_of_getElem? (i := 0) rfl)) (hw _ (List.mem_of_getElem? (i := 1) rfl)) (hw _ (List.mem_of_getElem? (i := 2) rfl)) e0 (g := (mkF m 55 #[.val (.int p1), .val (.int p2), .val (.int p3), .val (.int p4), .val (.int p5), .val (.int p6), .val (.int (p5 &&& (3 : Int32))), .val (.int v3), .val (.double (FP.i2d p1)), .second, .val (.double (FP.i2d p2)), .second, .val (.double (FP.i2d p3)), .second, .val (.double (FP.i2d v3)), .second, .unset] [])) rfl (hb hby at_55) (by decide) (by decide)
    obtain ⟨b1, g1⟩ : ∃ z, z = h0.size := ⟨_, rfl⟩
    rw [← g1] at A1 D1 st1
    refine go st1 ?_
    show G (T1.setTop (mkF m 58 #[.val (.int p1), .val (.int p2), .val (.int p3), .val (.int p4), .val (.int p5), .val (.int p6), .val (.int (p5 &&& (3 : Int32))), .val (.int v3), .val (.double (FP.i2d p1)), .second, .val (.double (FP.i2d p2)), .second, .val (.double (FP.i2d p3)), .second, .val (.double (FP.i2d v3)), .second, .unset] [(.ref b1)]))
    have Z1 : n0 ≤ h1.size := Nat.le_trans Z0 E1.1
    have ga1 : n0 ≤ b1 := Nat.le_trans Z0 (Nat.le_of_eq g1.symm)
    refine go (fun _ kont => XS.dup X1.here hx rfl (hb hby at_58) rfl rfl kont) ?_
    show G (T1.setTop (mkF m 59 #[.val (.int p1), .val (.int p2), .val (.int p3), .val (.int p4), .val (.int p5), .val (.int p6), .val (.int (p5 &&& (3 : Int32))), .val (.int v3), .val (.double (FP.i2d p1)), .second, .val (.double (FP.i2d p2)), .second, .val (.double (FP.i2d p3)), .second, .val (.double (FP.i2d v3)), .second, .unset] [(.ref b1), (.ref b1)]))
    obtain ⟨_, _, ⟨T2, L2, k2, n2⟩, -, X2, ⟨Lc2, hQ2, l2, y2, z2⟩, st2⟩ := X1.specialBack hx (y := (⟨"com/example/knotweed/knotweed/engine/TransitionList", "<init>", "()V"⟩ : MethodName)) rfl hown (mvT hZ (hw _ (List.mem_of_getElem? (i := 3) rfl))) (mvT hZ (hw _ (List.mem_of_getElem? (i := 4) rfl))) (mvT hZ (hw _ (List.mem_of_getElem? (i := 5) rfl))) (by decide) (backOf (W := 1) (own_rm_ctor l Z a0 hw [] b1 h1 n0 Z1 (D1 (Or.inl (hw _ (List.mem_of_getElem? (i := 39) rfl))) (ty := .int) (by decide)) (D1 (Or.inl (hw _ (List.mem_of_getElem? (i := 12) rfl))) (ty := (.array (.array .int))) (by decide)) (D1 (Or.inl (hw _ (List.mem_of_getElem? (i := 16) rfl))) (ty := (.array (.array .char))) (by decide)) (D1 (Or.inl (hw _ (List.mem_of_getElem? (i := 19) rfl))) (ty := (.array .double)) (by decide)) (D1 (Or.inl (hw _ (List.mem_of_getElem? (i := 22) rfl))) (ty := (.array .long)) (by decide)) (D1 (Or.inl (hw _ (List.mem_of_getElem? (i := 32) rfl))) (ty := (.array .int)) (by decide)) (D1 (Or.inl (hw _ (List.mem_of_getElem? (i := 47) rfl))) (ty := (.array (.array .double))) (by decide)) (D1 (Or.inl (hw _ (List.mem_of_getElem? (i := 69) rfl))) (ty := .int) (by decide)) A1 ga1 A1.lt) hZ (hw _ (List.mem_of_getElem? (i := 5) rfl)) (hw _ (List.mem_of_getElem? (i := 2) rfl)) (by decide) (by decide)) (g := (mkF m 59 #[.val (.int p1), .val (.int p2), .val (.int p3), .val (.int p4), .val (.int p5), .val (.int p6), .val (.int (p5 &&& (3 : Int32))), .val (.int v3), .val (.double (FP.i2d p1)), .second, .val (.double (FP.i2d p2)), .second, .val (.double (FP.i2d p3)), .second, .val (.double (FP.i2d v3)), .second, .unset] [(.ref b1), (.ref b1)])) rfl (by rw [hml]; rfl) (Steps.refl _) (a := b1) (argsL := []) (rest := [(.ref b1)]) (lenOf own_pd6 rfl) rfl (by show 2 * 0 + _ ≤ _; exact Nat.le_of_eq rfl) (hb hby at_59) (fun _ _ => ⟨rfl, e1, (by decide : 1 + 5 ≤ _), (by decide : 8 + 112 ≤ _)⟩)
    dsimp only [Pt.U, Pt.locs, Pt.cells, Pt.slots] at X2 l2 y2 z2 st2 hQ2
    subst l2 y2 z2
    obtain ⟨rfl, N2q, Z2, tg, ix, tb, ks, ps, O, RT, RX, VD, VK, VP, ga, o1, o2, o3, o4, o5⟩ := hQ2
    have N2 := Fr.app N0 N2q
    have e2 : T2.heap = T2.heap := rfl
    refine go (fun _ kont => st2.trans kont) ?_
    show G (T2.setTop (mkF m 62 #[.val (.int p1), .val (.int p2), .val (.int p3), .val (.int p4), .val (.int p5), .val (.int p6), .val (.int (p5 &&& (3 : Int32))), .val (.int v3), .val (.double (FP.i2d p1)), .second, .val (.double (FP.i2d p2)), .second, .val (.double (FP.i2d p3)), .second, .val (.double (FP.i2d v3)), .second, .unset] [(.ref b1)]))
    refine go (fun _ kont => XS.astore X2.here hx rfl (hb hby at_62) rfl rfl (l' := #[.val (.int p1), .val (.int p2), .val (.int p3), .val (.int p4), .val (.int p5), .val (.int p6), .val (.int (p5 &&& (3 : Int32))), .val (.int v3), .val (.double (FP.i2d p1)), .second, .val (.double (FP.i2d p2)), .second, .val (.double (FP.i2d p3)), .second, .val (.double (FP.i2d v3)), .second, .val (.ref b1)]) rfl kont) ?_
    show G (T2.setTop (mkF m 64 #[.val (.int p1), .val (.int p2), .val (.int p3), .val (.int p4), .val (.int p5), .val (.int p6), .val (.int (p5 &&& (3 : Int32))), .val (.int v3), .val (.double (FP.i2d p1)), .second, .val (.double (FP.i2d p2)), .second, .val (.double (FP.i2d p3)), .second, .val (.double (FP.i2d v3)), .second, .val (.ref b1)] []))
    refine go (fun _ kont => XS.aload X2.here hx rfl (hb hby at_64) rfl rfl kont) ?_
    show G (T2.setTop (mkF m 66 #[.val (.int p1), .val (.int p2), .val (.int p3), .val (.int p4), .val (.int p5), .val (.int p6), .val (.int (p5 &&& (3 : Int32))), .val (.int v3), .val (.double (FP.i2d p1)), .second, .val (.double (FP.i2d p2)), .second, .val (.double (FP.i2d p3)), .second, .val (.double (FP.i2d v3)), .second, .val (.ref b1)] [(.ref b1)]))
    refine go (fun _ kont => XS.iload X2.here hx rfl (hb hby at_66) rfl  kont) ?_
    show G (T2.setTop (mkF m 68 #[.val (.int p1), .val (.int p2), .val (.int p3), .val (.int p4), .val (.int p5), .val (.int p6), .val (.int (p5 &&& (3 : Int32))), .val (.int v3), .val (.double (FP.i2d p1)), .second, .val (.double (FP.i2d p2)), .second, .val (.double (FP.i2d p3)), .second, .val (.double (FP.i2d v3)), .second, .val (.ref b1)] [(.int p6), (.ref b1)]))
    refine go (fun _ kont => XS.dload X2.here hx rfl (hb hby at_68) rfl  kont) ?_
    show G (T2.setTop (mkF m 70 #[.val (.int p1), .val (.int p2), .val (.int p3), .val (.int p4), .val (.int p5), .val (.int p6), .val (.int (p5 &&& (3 : Int32))), .val (.int v3), .val (.double (FP.i2d p1)), .second, .val (.double (FP.i2d p2)), .second, .val (.double (FP.i2d p3)), .second, .val (.double (FP.i2d v3)), .second, .val (.ref b1)] [(.double (FP.i2d p1)), (.int p6), (.ref b1)]))
    obtain ⟨cq3, kq3, qa3, qb3, qc3⟩ := isOf hZ e2 O.1
    obtain ⟨_, _, ⟨T3, L3, k3, n3⟩, -, X3, ⟨Lc3, hQ3, l3, y3, z3⟩, st3⟩ := X2.virtualBack hx (y := (⟨"com/example/knotweed/knotweed/engine/TransitionList", "add", "(ID)V"⟩ : MethodName)) (z := (⟨"com/example/knotweed/knotweed/engine/TransitionList", "add", "(ID)V"⟩ : MethodName)) hown (mvT hZ (hw _ (List.mem_of_getElem? (i := 33) rfl))) (mvT hZ (hw _ (List.mem_of_getElem? (i := 34) rfl))) (notFace_of_selects (args := #[]) (mvT hZ (hw _ (List.mem_of_getElem? (i := 36) rfl)))) (mvT hZ (hw _ (List.mem_of_getElem? (i := 36) rfl))) (mvT hZ (hw _ (List.mem_of_getElem? (i := 35) rfl))) (by decide) (backOf (W := 0) (own_rm_add0 l Z a0 hw [] b1 p6 (FP.i2d p1) T2.heap n0 Z2 [FP.i2d p1, FP.i2d p2, FP.i2d p3, FP.i2d v3] rfl 0 (Nat.le_refl _) tg ix tb ks ps (List.replicate 16 0) (List.replicate 32 0) (List.replicate 32 (-1)) O RT RX VD VK VP own_inv0 ga o1 o2 o3 o4 o5) hZ (hw _ (List.mem_of_getElem? (i := 37) rfl)) (hw _ (List.mem_of_getElem? (i := 2) rfl)) (by decide) (by decide)) qa3 qc3 (g := (mkF m 70 #[.val (.int p1), .val (.int p2), .val (.int p3), .val (.int p4), .val (.int p5), .val (.int p6), .val (.int (p5 &&& (3 : Int32))), .val (.int v3), .val (.double (FP.i2d p1)), .second, .val (.double (FP.i2d p2)), .second, .val (.double (FP.i2d p3)), .second, .val (.double (FP.i2d v3)), .second, .val (.ref b1)] [(.double (FP.i2d p1)), (.int p6), (.ref b1)])) rfl (by rw [hml]; rfl) (Steps.refl _) (argsL := [(.int p6), (.double (FP.i2d p1))]) (rest := []) (lenOf own_pd7 rfl) rfl (by show 2 * 0 + _ ≤ _; exact Nat.le_of_eq rfl) (hb hby at_70) (fun _ _ => ⟨rfl, e2, (by decide : 6 + 2 ≤ _), (by decide : 120 + 65536 ≤ _)⟩)
    dsimp only [Pt.U, Pt.locs, Pt.cells, Pt.slots] at X3 l3 y3 z3 st3 hQ3
    subst l3 y3 z3
    obtain ⟨rfl, N3q, Z3, L3L⟩ := hQ3
    have N3 := Fr.app N2 N3q
    have e3 : T3.heap = T3.heap := rfl
    refine go (fun _ kont => st3.trans kont) ?_
    show G (T3.setTop (mkF m 73 #[.val (.int p1), .val (.int p2), .val (.int p3), .val (.int p4), .val (.int p5), .val (.int p6), .val (.int (p5 &&& (3 : Int32))), .val (.int v3), .val (.double (FP.i2d p1)), .second, .val (.double (FP.i2d p2)), .second, .val (.double (FP.i2d p3)), .second, .val (.double (FP.i2d v3)), .second, .val (.ref b1)] []))
    have EX3 : Exa Z T3.heap b1 "com/example/knotweed/knotweed/engine/TransitionList" := by obtain ⟨_, _, _, _, _, _, _, _, _, _, _, _, _, O', _⟩ := L3L; exact O'.1
    refine go (fun _ kont => XS.aload X3.here hx rfl (hb hby at_73) rfl rfl kont) ?_
    show G (T3.setTop (mkF m 75 #[.val (.int p1), .val (.int p2), .val (.int p3), .val (.int p4), .val (.int p5), .val (.int p6), .val (.int (p5 &&& (3 : Int32))), .val (.int v3), .val (.double (FP.i2d p1)), .second, .val (.double (FP.i2d p2)), .second, .val (.double (FP.i2d p3)), .second, .val (.double (FP.i2d v3)), .second, .val (.ref b1)] [(.ref b1)]))
    refine go (fun _ kont => XS.iload X3.here hx rfl (hb hby at_75) rfl  kont) ?_
    show G (T3.setTop (mkF m 77 #[.val (.int p1), .val (.int p2), .val (.int p3), .val (.int p4), .val (.int p5), .val (.int p6), .val (.int (p5 &&& (3 : Int32))), .val (.int v3), .val (.double (FP.i2d p1)), .second, .val (.double (FP.i2d p2)), .second, .val (.double (FP.i2d p3)), .second, .val (.double (FP.i2d v3)), .second, .val (.ref b1)] [(.int p6), (.ref b1)]))
    refine go (fun _ kont => XS.iconst X3.here hx rfl (hb hby at_77) kont) ?_
    show G (T3.setTop (mkF m 78 #[.val (.int p1), .val (.int p2), .val (.int p3), .val (.int p4), .val (.int p5), .val (.int p6), .val (.int (p5 &&& (3 : Int32))), .val (.int v3), .val (.double (FP.i2d p1)), .second, .val (.double (FP.i2d p2)), .second, .val (.double (FP.i2d p3)), .second, .val (.double (FP.i2d v3)), .second, .val (.ref b1)] [(.int (1 : Int32)), (.int p6), (.ref b1)]))
    refine go (fun _ kont => XS.ixor X3.here hx rfl (hb hby at_78) rfl kont) ?_
    show G (T3.setTop (mkF m 79 #[.val (.int p1), .val (.int p2), .val (.int p3), .val (.int p4), .val (.int p5), .val (.int p6), .val (.int (p5 &&& (3 : Int32))), .val (.int v3), .val (.double (FP.i2d p1)), .second, .val (.double (FP.i2d p2)), .second, .val (.double (FP.i2d p3)), .second, .val (.double (FP.i2d v3)), .second, .val (.ref b1)] [(.int (p6 ^^^ (1 : Int32))), (.ref b1)]))
    refine go (fun _ kont => XS.dload X3.here hx rfl (hb hby at_79) rfl  kont) ?_
    show G (T3.setTop (mkF m 81 #[.val (.int p1), .val (.int p2), .val (.int p3), .val (.int p4), .val (.int p5), .val (.int p6), .val (.int (p5 &&& (3 : Int32))), .val (.int v3), .val (.double (FP.i2d p1)), .second, .val (.double (FP.i2d p2)), .second, .val (.double (FP.i2d p3)), .second, .val (.double (FP.i2d v3)), .second, .val (.ref b1)] [(.double (FP.i2d p2)), (.int (p6 ^^^ (1 : Int32))), (.ref b1)]))
    obtain ⟨cq4, kq4, qa4, qb4, qc4⟩ := isOf hZ e3 EX3
    obtain ⟨_, _, ⟨T4, L4, k4, n4⟩, -, X4, ⟨Lc4, hQ4, l4, y4, z4⟩, st4⟩ := X3.virtualBack hx (y := (⟨"com/example/knotweed/knotweed/engine/TransitionList", "add", "(ID)V"⟩ : MethodName)) (z := (⟨"com/example/knotweed/knotweed/engine/TransitionList", "add", "(ID)V"⟩ : MethodName)) hown (mvT hZ (hw _ (List.mem_of_getElem? (i := 33) rfl))) (mvT hZ (hw _ (List.mem_of_getElem? (i := 34) rfl))) (notFace_of_selects (args := #[]) (mvT hZ (hw _ (List.mem_of_getElem? (i := 36) rfl)))) (mvT hZ (hw _ (List.mem_of_getElem? (i := 36) rfl))) (mvT hZ (hw _ (List.mem_of_getElem? (i := 35) rfl))) (by decide) (backOf (W := 0) (own_rm_addk l Z a0 hw [] b1 (p6 ^^^ (1 : Int32)) (FP.i2d p2) T3.heap n0 Z3 1 (by decide) (by decide) [FP.i2d p1, FP.i2d p2, FP.i2d p3, FP.i2d v3] rfl L3L) hZ (hw _ (List.mem_of_getElem? (i := 37) rfl)) (hw _ (List.mem_of_getElem? (i := 2) rfl)) (by decide) (by decide)) qa4 qc4 (g := (mkF m 81 #[.val (.int p1), .val (.int p2), .val (.int p3), .val (.int p4), .val (.int p5), .val (.int p6), .val (.int (p5 &&& (3 : Int32))), .val (.int v3), .val (.double (FP.i2d p1)), .second, .val (.double (FP.i2d p2)), .second, .val (.double (FP.i2d p3)), .second, .val (.double (FP.i2d v3)), .second, .val (.ref b1)] [(.double (FP.i2d p2)), (.int (p6 ^^^ (1 : Int32))), (.ref b1)])) rfl (by rw [hml]; rfl) (Steps.refl _) (argsL := [(.int (p6 ^^^ (1 : Int32))), (.double (FP.i2d p2))]) (rest := []) (lenOf own_pd7 rfl) rfl (by show 2 * 0 + _ ≤ _; exact Nat.le_of_eq rfl) (hb hby at_81) (fun _ _ => ⟨rfl, e3, (by decide : 8 + 0 ≤ _), (by decide : 65656 + 0 ≤ _)⟩)
    dsimp only [Pt.U, Pt.locs, Pt.cells, Pt.slots] at X4 l4 y4 z4 st4 hQ4
    subst l4 y4 z4
    obtain ⟨rfl, N4q, Z4, L4L⟩ := hQ4
    have N4 := Fr.app N3 N4q
    have e4 : T4.heap = T4.heap := rfl
    refine go (fun _ kont => st4.trans kont) ?_
    show G (T4.setTop (mkF m 84 #[.val (.int p1), .val (.int p2), .val (.int p3), .val (.int p4), .val (.int p5), .val (.int p6), .val (.int (p5 &&& (3 : Int32))), .val (.int v3), .val (.double (FP.i2d p1)), .second, .val (.double (FP.i2d p2)), .second, .val (.double (FP.i2d p3)), .second, .val (.double (FP.i2d v3)), .second, .val (.ref b1)] []))
    have EX4 : Exa Z T4.heap b1 "com/example/knotweed/knotweed/engine/TransitionList" := by obtain ⟨_, _, _, _, _, _, _, _, _, _, _, _, _, O', _⟩ := L4L; exact O'.1
    refine go (fun _ kont => XS.aload X4.here hx rfl (hb hby at_84) rfl rfl kont) ?_
    show G (T4.setTop (mkF m 86 #[.val (.int p1), .val (.int p2), .val (.int p3), .val (.int p4), .val (.int p5), .val (.int p6), .val (.int (p5 &&& (3 : Int32))), .val (.int v3), .val (.double (FP.i2d p1)), .second, .val (.double (FP.i2d p2)), .second, .val (.double (FP.i2d p3)), .second, .val (.double (FP.i2d v3)), .second, .val (.ref b1)] [(.ref b1)]))
    refine go (fun _ kont => XS.iload X4.here hx rfl (hb hby at_86) rfl  kont) ?_
    show G (T4.setTop (mkF m 88 #[.val (.int p1), .val (.int p2), .val (.int p3), .val (.int p4), .val (.int p5), .val (.int p6), .val (.int (p5 &&& (3 : Int32))), .val (.int v3), .val (.double (FP.i2d p1)), .second, .val (.double (FP.i2d p2)), .second, .val (.double (FP.i2d p3)), .second, .val (.double (FP.i2d v3)), .second, .val (.ref b1)] [(.int p6), (.ref b1)]))
    refine go (fun _ kont => XS.iconst X4.here hx rfl (hb hby at_88) kont) ?_
    show G (T4.setTop (mkF m 89 #[.val (.int p1), .val (.int p2), .val (.int p3), .val (.int p4), .val (.int p5), .val (.int p6), .val (.int (p5 &&& (3 : Int32))), .val (.int v3), .val (.double (FP.i2d p1)), .second, .val (.double (FP.i2d p2)), .second, .val (.double (FP.i2d p3)), .second, .val (.double (FP.i2d v3)), .second, .val (.ref b1)] [(.int (2 : Int32)), (.int p6), (.ref b1)]))
    refine go (fun _ kont => XS.ixor X4.here hx rfl (hb hby at_89) rfl kont) ?_
    show G (T4.setTop (mkF m 90 #[.val (.int p1), .val (.int p2), .val (.int p3), .val (.int p4), .val (.int p5), .val (.int p6), .val (.int (p5 &&& (3 : Int32))), .val (.int v3), .val (.double (FP.i2d p1)), .second, .val (.double (FP.i2d p2)), .second, .val (.double (FP.i2d p3)), .second, .val (.double (FP.i2d v3)), .second, .val (.ref b1)] [(.int (p6 ^^^ (2 : Int32))), (.ref b1)]))
    refine go (fun _ kont => XS.dload X4.here hx rfl (hb hby at_90) rfl  kont) ?_
    show G (T4.setTop (mkF m 92 #[.val (.int p1), .val (.int p2), .val (.int p3), .val (.int p4), .val (.int p5), .val (.int p6), .val (.int (p5 &&& (3 : Int32))), .val (.int v3), .val (.double (FP.i2d p1)), .second, .val (.double (FP.i2d p2)), .second, .val (.double (FP.i2d p3)), .second, .val (.double (FP.i2d v3)), .second, .val (.ref b1)] [(.double (FP.i2d p3)), (.int (p6 ^^^ (2 : Int32))), (.ref b1)]))
    obtain ⟨cq5, kq5, qa5, qb5, qc5⟩ := isOf hZ e4 EX4
    obtain ⟨_, _, ⟨T5, L5, k5, n5⟩, -, X5, ⟨Lc5, hQ5, l5, y5, z5⟩, st5⟩ := X4.virtualBack hx (y := (⟨"com/example/knotweed/knotweed/engine/TransitionList", "add", "(ID)V"⟩ : MethodName)) (z := (⟨"com/example/knotweed/knotweed/engine/TransitionList", "add", "(ID)V"⟩ : MethodName)) hown (mvT hZ (hw _ (List.mem_of_getElem? (i := 33) rfl))) (mvT hZ (hw _ (List.mem_of_getElem? (i := 34) rfl))) (notFace_of_selects (args := #[]) (mvT hZ (hw _ (List.mem_of_getElem? (i := 36) rfl)))) (mvT hZ (hw _ (List.mem_of_getElem? (i := 36) rfl))) (mvT hZ (hw _ (List.mem_of_getElem? (i := 35) rfl))) (by decide) (backOf (W := 0) (own_rm_addk l Z a0 hw [] b1 (p6 ^^^ (2 : Int32)) (FP.i2d p3) T4.heap n0 Z4 2 (by decide) (by decide) [FP.i2d p1, FP.i2d p2, FP.i2d p3, FP.i2d v3] rfl L4L) hZ (hw _ (List.mem_of_getElem? (i := 37) rfl)) (hw _ (List.mem_of_getElem? (i := 2) rfl)) (by decide) (by decide)) qa5 qc5 (g := (mkF m 92 #[.val (.int p1), .val (.int p2), .val (.int p3), .val (.int p4), .val (.int p5), .val (.int p6), .val (.int (p5 &&& (3 : Int32))), .val (.int v3), .val (.double (FP.i2d p1)), .second, .val (.double (FP.i2d p2)), .second, .val (.double (FP.i2d p3)), .second, .val (.double (FP.i2d v3)), .second, .val (.ref b1)] [(.double (FP.i2d p3)), (.int (p6 ^^^ (2 : Int32))), (.ref b1)])) rfl (by rw [hml]; rfl) (Steps.refl _) (argsL := [(.int (p6 ^^^ (2 : Int32))), (.double (FP.i2d p3))]) (rest := []) (lenOf own_pd7 rfl) rfl (by show 2 * 0 + _ ≤ _; exact Nat.le_of_eq rfl) (hb hby at_92) (fun _ _ => ⟨rfl, e4, (by decide : 8 + 0 ≤ _), (by decide : 65656 + 0 ≤ _)⟩)
    dsimp only [Pt.U, Pt.locs, Pt.cells, Pt.slots] at X5 l5 y5 z5 st5 hQ5
    subst l5 y5 z5
    obtain ⟨rfl, N5q, Z5, L5L⟩ := hQ5
    have N5 := Fr.app N4 N5q
    have e5 : T5.heap = T5.heap := rfl
    refine go (fun _ kont => st5.trans kont) ?_
    show G (T5.setTop (mkF m 95 #[.val (.int p1), .val (.int p2), .val (.int p3), .val (.int p4), .val (.int p5), .val (.int p6), .val (.int (p5 &&& (3 : Int32))), .val (.int v3), .val (.double (FP.i2d p1)), .second, .val (.double (FP.i2d p2)), .second, .val (.double (FP.i2d p3)), .second, .val (.double (FP.i2d v3)), .second, .val (.ref b1)] []))
    have EX5 : Exa Z T5.heap b1 "com/example/knotweed/knotweed/engine/TransitionList" := by obtain ⟨_, _, _, _, _, _, _, _, _, _, _, _, _, O', _⟩ := L5L; exact O'.1
    refine go (fun _ kont => XS.aload X5.here hx rfl (hb hby at_95) rfl rfl kont) ?_
    show G (T5.setTop (mkF m 97 #[.val (.int p1), .val (.int p2), .val (.int p3), .val (.int p4), .val (.int p5), .val (.int p6), .val (.int (p5 &&& (3 : Int32))), .val (.int v3), .val (.double (FP.i2d p1)), .second, .val (.double (FP.i2d p2)), .second, .val (.double (FP.i2d p3)), .second, .val (.double (FP.i2d v3)), .second, .val (.ref b1)] [(.ref b1)]))
    refine go (fun _ kont => XS.iload X5.here hx rfl (hb hby at_97) rfl  kont) ?_
    show G (T5.setTop (mkF m 99 #[.val (.int p1), .val (.int p2), .val (.int p3), .val (.int p4), .val (.int p5), .val (.int p6), .val (.int (p5 &&& (3 : Int32))), .val (.int v3), .val (.double (FP.i2d p1)), .second, .val (.double (FP.i2d p2)), .second, .val (.double (FP.i2d p3)), .second, .val (.double (FP.i2d v3)), .second, .val (.ref b1)] [(.int p6), (.ref b1)]))
    refine go (fun _ kont => XS.iconst X5.here hx rfl (hb hby at_99) kont) ?_
    show G (T5.setTop (mkF m 100 #[.val (.int p1), .val (.int p2), .val (.int p3), .val (.int p4), .val (.int p5), .val (.int p6), .val (.int (p5 &&& (3 : Int32))), .val (.int v3), .val (.double (FP.i2d p1)), .second, .val (.double (FP.i2d p2)), .second, .val (.double (FP.i2d p3)), .second, .val (.double (FP.i2d v3)), .second, .val (.ref b1)] [(.int (3 : Int32)), (.int p6), (.ref b1)]))
    refine go (fun _ kont => XS.ixor X5.here hx rfl (hb hby at_100) rfl kont) ?_
    show G (T5.setTop (mkF m 101 #[.val (.int p1), .val (.int p2), .val (.int p3), .val (.int p4), .val (.int p5), .val (.int p6), .val (.int (p5 &&& (3 : Int32))), .val (.int v3), .val (.double (FP.i2d p1)), .second, .val (.double (FP.i2d p2)), .second, .val (.double (FP.i2d p3)), .second, .val (.double (FP.i2d v3)), .second, .val (.ref b1)] [(.int (p6 ^^^ (3 : Int32))), (.ref b1)]))
    refine go (fun _ kont => XS.dload X5.here hx rfl (hb hby at_101) rfl  kont) ?_
    show G (T5.setTop (mkF m 103 #[.val (.int p1), .val (.int p2), .val (.int p3), .val (.int p4), .val (.int p5), .val (.int p6), .val (.int (p5 &&& (3 : Int32))), .val (.int v3), .val (.double (FP.i2d p1)), .second, .val (.double (FP.i2d p2)), .second, .val (.double (FP.i2d p3)), .second, .val (.double (FP.i2d v3)), .second, .val (.ref b1)] [(.double (FP.i2d v3)), (.int (p6 ^^^ (3 : Int32))), (.ref b1)]))
    obtain ⟨cq6, kq6, qa6, qb6, qc6⟩ := isOf hZ e5 EX5
    obtain ⟨_, _, ⟨T6, L6, k6, n6⟩, -, X6, ⟨Lc6, hQ6, l6, y6, z6⟩, st6⟩ := X5.virtualBack hx (y := (⟨"com/example/knotweed/knotweed/engine/TransitionList", "add", "(ID)V"⟩ : MethodName)) (z := (⟨"com/example/knotweed/knotweed/engine/TransitionList", "add", "(ID)V"⟩ : MethodName)) hown (mvT hZ (hw _ (List.mem_of_getElem? (i := 33) rfl))) (mvT hZ (hw _ (List.mem_of_getElem? (i := 34) rfl))) (notFace_of_selects (args := #[]) (mvT hZ (hw _ (List.mem_of_getElem? (i := 36) rfl)))) (mvT hZ (hw _ (List.mem_of_getElem? (i := 36) rfl))) (mvT hZ (hw _ (List.mem_of_getElem? (i := 35) rfl))) (by decide) (backOf (W := 0) (own_rm_addk l Z a0 hw [] b1 (p6 ^^^ (3 : Int32)) (FP.i2d v3) T5.heap n0 Z5 3 (by decide) (by decide) [FP.i2d p1, FP.i2d p2, FP.i2d p3, FP.i2d v3] rfl L5L) hZ (hw _ (List.mem_of_getElem? (i := 37) rfl)) (hw _ (List.mem_of_getElem? (i := 2) rfl)) (by decide) (by decide)) qa6 qc6 (g := (mkF m 103 #[.val (.int p1), .val (.int p2), .val (.int p3), .val (.int p4), .val (.int p5), .val (.int p6), .val (.int (p5 &&& (3 : Int32))), .val (.int v3), .val (.double (FP.i2d p1)), .second, .val (.double (FP.i2d p2)), .second, .val (.double (FP.i2d p3)), .second, .val (.double (FP.i2d v3)), .second, .val (.ref b1)] [(.double (FP.i2d v3)), (.int (p6 ^^^ (3 : Int32))), (.ref b1)])) rfl (by rw [hml]; rfl) (Steps.refl _) (argsL := [(.int (p6 ^^^ (3 : Int32))), (.double (FP.i2d v3))]) (rest := []) (lenOf own_pd7 rfl) rfl (by show 2 * 0 + _ ≤ _; exact Nat.le_of_eq rfl) (hb hby at_103) (fun _ _ => ⟨rfl, e5, (by decide : 8 + 0 ≤ _), (by decide : 65656 + 0 ≤ _)⟩)
    dsimp only [Pt.U, Pt.locs, Pt.cells, Pt.slots] at X6 l6 y6 z6 st6 hQ6
    subst l6 y6 z6
    obtain ⟨rfl, N6q, Z6, L6L⟩ := hQ6
    have N6 := Fr.app N5 N6q
    have e6 : T6.heap = T6.heap := rfl
    refine go (fun _ kont => st6.trans kont) ?_
    show G (T6.setTop (mkF m 106 #[.val (.int p1), .val (.int p2), .val (.int p3), .val (.int p4), .val (.int p5), .val (.int p6), .val (.int (p5 &&& (3 : Int32))), .val (.int v3), .val (.double (FP.i2d p1)), .second, .val (.double (FP.i2d p2)), .second, .val (.double (FP.i2d p3)), .second, .val (.double (FP.i2d v3)), .second, .val (.ref b1)] []))
    have EX6 : Exa Z T6.heap b1 "com/example/knotweed/knotweed/engine/TransitionList" := by obtain ⟨_, _, _, _, _, _, _, _, _, _, _, _, _, O', _⟩ := L6L; exact O'.1
    refine go (fun _ kont => XS.aload X6.here hx rfl (hb hby at_106) rfl rfl kont) ?_
    show G (T6.setTop (mkF m 108 #[.val (.int p1), .val (.int p2), .val (.int p3), .val (.int p4), .val (.int p5), .val (.int p6), .val (.int (p5 &&& (3 : Int32))), .val (.int v3), .val (.double (FP.i2d p1)), .second, .val (.double (FP.i2d p2)), .second, .val (.double (FP.i2d p3)), .second, .val (.double (FP.i2d v3)), .second, .val (.ref b1)] [(.ref b1)]))
    refine go (fun _ kont => XS.iconst X6.here hx rfl (hb hby at_108) kont) ?_
    show G (T6.setTop (mkF m 109 #[.val (.int p1), .val (.int p2), .val (.int p3), .val (.int p4), .val (.int p5), .val (.int p6), .val (.int (p5 &&& (3 : Int32))), .val (.int v3), .val (.double (FP.i2d p1)), .second, .val (.double (FP.i2d p2)), .second, .val (.double (FP.i2d p3)), .second, .val (.double (FP.i2d v3)), .second, .val (.ref b1)] [(.int (0 : Int32)), (.ref b1)]))
    obtain ⟨cq7, kq7, qa7, qb7, qc7⟩ := isOf hZ e6 EX6
    obtain ⟨_, _, ⟨T7, L7, k7, n7⟩, -, X7, ⟨Lc7, hQ7, l7, y7, z7⟩, st7⟩ := X6.virtualBack hx (y := (⟨"com/example/knotweed/knotweed/engine/TransitionList", "getNumber", "(I)D"⟩ : MethodName)) (z := (⟨"com/example/knotweed/knotweed/engine/TransitionList", "getNumber", "(I)D"⟩ : MethodName)) hown (mvT hZ (hw _ (List.mem_of_getElem? (i := 71) rfl))) (mvT hZ (hw _ (List.mem_of_getElem? (i := 72) rfl))) (notFace_of_selects (args := #[]) (mvT hZ (hw _ (List.mem_of_getElem? (i := 74) rfl)))) (mvT hZ (hw _ (List.mem_of_getElem? (i := 74) rfl))) (mvT hZ (hw _ (List.mem_of_getElem? (i := 73) rfl))) (by decide) (backOf (W := 0) (own_rm_get l Z a0 hw [] b1 T6.heap n0 Z6 0 (by decide) [FP.i2d p1, FP.i2d p2, FP.i2d p3, FP.i2d v3] L6L) hZ (hw _ (List.mem_of_getElem? (i := 75) rfl)) (hw _ (List.mem_of_getElem? (i := 2) rfl)) (by decide) (by decide)) qa7 qc7 (g := (mkF m 109 #[.val (.int p1), .val (.int p2), .val (.int p3), .val (.int p4), .val (.int p5), .val (.int p6), .val (.int (p5 &&& (3 : Int32))), .val (.int v3), .val (.double (FP.i2d p1)), .second, .val (.double (FP.i2d p2)), .second, .val (.double (FP.i2d p3)), .second, .val (.double (FP.i2d v3)), .second, .val (.ref b1)] [(.int (0 : Int32)), (.ref b1)])) rfl (by rw [hml]; rfl) (Steps.refl _) (argsL := [(.int (0 : Int32))]) (rest := []) (lenOf own_pd8 rfl) rfl (by show 2 * 0 + _ ≤ _; exact Nat.le_of_eq rfl) (hb hby at_109) (fun _ _ => ⟨rfl, e6, (by decide : 8 + 0 ≤ _), (by decide : 65656 + 0 ≤ _)⟩)
    dsimp only [Pt.U, Pt.locs, Pt.cells, Pt.slots] at X7 l7 y7 z7 st7 hQ7
    subst l7 y7 z7
    obtain ⟨rfl, N7q, e7⟩ := hQ7
    have N7 := Fr.app N6 N7q
    refine go (fun _ kont => st7.trans kont) ?_
    show G (T7.setTop (mkF m 112 #[.val (.int p1), .val (.int p2), .val (.int p3), .val (.int p4), .val (.int p5), .val (.int p6), .val (.int (p5 &&& (3 : Int32))), .val (.int v3), .val (.double (FP.i2d p1)), .second, .val (.double (FP.i2d p2)), .second, .val (.double (FP.i2d p3)), .second, .val (.double (FP.i2d v3)), .second, .val (.ref b1)] [(.double (FP.i2d p1))]))
    refine go (fun _ kont => XS.dload X7.here hx rfl (hb hby at_112) rfl  kont) ?_
    show G (T7.setTop (mkF m 114 #[.val (.int p1), .val (.int p2), .val (.int p3), .val (.int p4), .val (.int p5), .val (.int p6), .val (.int (p5 &&& (3 : Int32))), .val (.int v3), .val (.double (FP.i2d p1)), .second, .val (.double (FP.i2d p2)), .second, .val (.double (FP.i2d p3)), .second, .val (.double (FP.i2d v3)), .second, .val (.ref b1)] [(.double (FP.i2d p1)), (.double (FP.i2d p1))]))
    refine go (fun _ kont => XS.dcmpS X7.here hx rfl (hb hby at_114) rfl (v := (0 : Int32)) (dcmpV_self (own_nn p1) _) kont) ?_
    show G (T7.setTop (mkF m 115 #[.val (.int p1), .val (.int p2), .val (.int p3), .val (.int p4), .val (.int p5), .val (.int p6), .val (.int (p5 &&& (3 : Int32))), .val (.int v3), .val (.double (FP.i2d p1)), .second, .val (.double (FP.i2d p2)), .second, .val (.double (FP.i2d p3)), .second, .val (.double (FP.i2d v3)), .second, .val (.ref b1)] [(.int (0 : Int32))]))
    refine go (fun _ kont => XS.ifNo X7.here hx rfl (hb hby at_115) rfl ((if0 _ _).trans (teq (by decide)).2) kont) ?_
    show G (T7.setTop (mkF m 118 #[.val (.int p1), .val (.int p2), .val (.int p3), .val (.int p4), .val (.int p5), .val (.int p6), .val (.int (p5 &&& (3 : Int32))), .val (.int v3), .val (.double (FP.i2d p1)), .second, .val (.double (FP.i2d p2)), .second, .val (.double (FP.i2d p3)), .second, .val (.double (FP.i2d v3)), .second, .val (.ref b1)] []))
    refine go (fun _ kont => XS.aload X7.here hx rfl (hb hby at_118) rfl rfl kont) ?_
    show G (T7.setTop (mkF m 120 #[.val (.int p1), .val (.int p2), .val (.int p3), .val (.int p4), .val (.int p5), .val (.int p6), .val (.int (p5 &&& (3 : Int32))), .val (.int v3), .val (.double (FP.i2d p1)), .second, .val (.double (FP.i2d p2)), .second, .val (.double (FP.i2d p3)), .second, .val (.double (FP.i2d v3)), .second, .val (.ref b1)] [(.ref b1)]))
    refine go (fun _ kont => XS.iconst X7.here hx rfl (hb hby at_120) kont) ?_
    show G (T7.setTop (mkF m 121 #[.val (.int p1), .val (.int p2), .val (.int p3), .val (.int p4), .val (.int p5), .val (.int p6), .val (.int (p5 &&& (3 : Int32))), .val (.int v3), .val (.double (FP.i2d p1)), .second, .val (.double (FP.i2d p2)), .second, .val (.double (FP.i2d p3)), .second, .val (.double (FP.i2d v3)), .second, .val (.ref b1)] [(.int (1 : Int32)), (.ref b1)]))
    obtain ⟨cq8, kq8, qa8, qb8, qc8⟩ := isOf hZ e7 EX6
    obtain ⟨_, _, ⟨T8, L8, k8, n8⟩, -, X8, ⟨Lc8, hQ8, l8, y8, z8⟩, st8⟩ := X7.virtualBack hx (y := (⟨"com/example/knotweed/knotweed/engine/TransitionList", "getNumber", "(I)D"⟩ : MethodName)) (z := (⟨"com/example/knotweed/knotweed/engine/TransitionList", "getNumber", "(I)D"⟩ : MethodName)) hown (mvT hZ (hw _ (List.mem_of_getElem? (i := 71) rfl))) (mvT hZ (hw _ (List.mem_of_getElem? (i := 72) rfl))) (notFace_of_selects (args := #[]) (mvT hZ (hw _ (List.mem_of_getElem? (i := 74) rfl)))) (mvT hZ (hw _ (List.mem_of_getElem? (i := 74) rfl))) (mvT hZ (hw _ (List.mem_of_getElem? (i := 73) rfl))) (by decide) (backOf (W := 0) (own_rm_get l Z a0 hw [] b1 T6.heap n0 Z6 1 (by decide) [FP.i2d p1, FP.i2d p2, FP.i2d p3, FP.i2d v3] L6L) hZ (hw _ (List.mem_of_getElem? (i := 75) rfl)) (hw _ (List.mem_of_getElem? (i := 2) rfl)) (by decide) (by decide)) qa8 qc8 (g := (mkF m 121 #[.val (.int p1), .val (.int p2), .val (.int p3), .val (.int p4), .val (.int p5), .val (.int p6), .val (.int (p5 &&& (3 : Int32))), .val (.int v3), .val (.double (FP.i2d p1)), .second, .val (.double (FP.i2d p2)), .second, .val (.double (FP.i2d p3)), .second, .val (.double (FP.i2d v3)), .second, .val (.ref b1)] [(.int (1 : Int32)), (.ref b1)])) rfl (by rw [hml]; rfl) (Steps.refl _) (argsL := [(.int (1 : Int32))]) (rest := []) (lenOf own_pd8 rfl) rfl (by show 2 * 0 + _ ≤ _; exact Nat.le_of_eq rfl) (hb hby at_121) (fun _ _ => ⟨rfl, e7, (by decide : 8 + 0 ≤ _), (by decide : 65656 + 0 ≤ _)⟩)
    dsimp only [Pt.U, Pt.locs, Pt.cells, Pt.slots] at X8 l8 y8 z8 st8 hQ8
    subst l8 y8 z8
    obtain ⟨rfl, N8q, e8⟩ := hQ8
    have N8 := Fr.app N7 N8q
    refine go (fun _ kont => st8.trans kont) ?_
    show G (T8.setTop (mkF m 124 #[.val (.int p1), .val (.int p2), .val (.int p3), .val (.int p4), .val (.int p5), .val (.int p6), .val (.int (p5 &&& (3 : Int32))), .val (.int v3), .val (.double (FP.i2d p1)), .second, .val (.double (FP.i2d p2)), .second, .val (.double (FP.i2d p3)), .second, .val (.double (FP.i2d v3)), .second, .val (.ref b1)] [(.double (FP.i2d p2))]))
    refine go (fun _ kont => XS.dload X8.here hx rfl (hb hby at_124) rfl  kont) ?_
    show G (T8.setTop (mkF m 126 #[.val (.int p1), .val (.int p2), .val (.int p3), .val (.int p4), .val (.int p5), .val (.int p6), .val (.int (p5 &&& (3 : Int32))), .val (.int v3), .val (.double (FP.i2d p1)), .second, .val (.double (FP.i2d p2)), .second, .val (.double (FP.i2d p3)), .second, .val (.double (FP.i2d v3)), .second, .val (.ref b1)] [(.double (FP.i2d p2)), (.double (FP.i2d p2))]))
    refine go (fun _ kont => XS.dcmpS X8.here hx rfl (hb hby at_126) rfl (v := (0 : Int32)) (dcmpV_self (own_nn p2) _) kont) ?_
    show G (T8.setTop (mkF m 127 #[.val (.int p1), .val (.int p2), .val (.int p3), .val (.int p4), .val (.int p5), .val (.int p6), .val (.int (p5 &&& (3 : Int32))), .val (.int v3), .val (.double (FP.i2d p1)), .second, .val (.double (FP.i2d p2)), .second, .val (.double (FP.i2d p3)), .second, .val (.double (FP.i2d v3)), .second, .val (.ref b1)] [(.int (0 : Int32))]))
    refine go (fun _ kont => XS.ifNo X8.here hx rfl (hb hby at_127) rfl ((if0 _ _).trans (teq (by decide)).2) kont) ?_
    show G (T8.setTop (mkF m 130 #[.val (.int p1), .val (.int p2), .val (.int p3), .val (.int p4), .val (.int p5), .val (.int p6), .val (.int (p5 &&& (3 : Int32))), .val (.int v3), .val (.double (FP.i2d p1)), .second, .val (.double (FP.i2d p2)), .second, .val (.double (FP.i2d p3)), .second, .val (.double (FP.i2d v3)), .second, .val (.ref b1)] []))
    refine go (fun _ kont => XS.aload X8.here hx rfl (hb hby at_130) rfl rfl kont) ?_
    show G (T8.setTop (mkF m 132 #[.val (.int p1), .val (.int p2), .val (.int p3), .val (.int p4), .val (.int p5), .val (.int p6), .val (.int (p5 &&& (3 : Int32))), .val (.int v3), .val (.double (FP.i2d p1)), .second, .val (.double (FP.i2d p2)), .second, .val (.double (FP.i2d p3)), .second, .val (.double (FP.i2d v3)), .second, .val (.ref b1)] [(.ref b1)]))
    refine go (fun _ kont => XS.iconst X8.here hx rfl (hb hby at_132) kont) ?_
    show G (T8.setTop (mkF m 133 #[.val (.int p1), .val (.int p2), .val (.int p3), .val (.int p4), .val (.int p5), .val (.int p6), .val (.int (p5 &&& (3 : Int32))), .val (.int v3), .val (.double (FP.i2d p1)), .second, .val (.double (FP.i2d p2)), .second, .val (.double (FP.i2d p3)), .second, .val (.double (FP.i2d v3)), .second, .val (.ref b1)] [(.int (2 : Int32)), (.ref b1)]))
    obtain ⟨cq9, kq9, qa9, qb9, qc9⟩ := isOf hZ e8 EX6
    obtain ⟨_, _, ⟨T9, L9, k9, n9⟩, -, X9, ⟨Lc9, hQ9, l9, y9, z9⟩, st9⟩ := X8.virtualBack hx (y := (⟨"com/example/knotweed/knotweed/engine/TransitionList", "getNumber", "(I)D"⟩ : MethodName)) (z := (⟨"com/example/knotweed/knotweed/engine/TransitionList", "getNumber", "(I)D"⟩ : MethodName)) hown (mvT hZ (hw _ (List.mem_of_getElem? (i := 71) rfl))) (mvT hZ (hw _ (List.mem_of_getElem? (i := 72) rfl))) (notFace_of_selects (args := #[]) (mvT hZ (hw _ (List.mem_of_getElem? (i := 74) rfl)))) (mvT hZ (hw _ (List.mem_of_getElem? (i := 74) rfl))) (mvT hZ (hw _ (List.mem_of_getElem? (i := 73) rfl))) (by decide) (backOf (W := 0) (own_rm_get l Z a0 hw [] b1 T6.heap n0 Z6 2 (by decide) [FP.i2d p1, FP.i2d p2, FP.i2d p3, FP.i2d v3] L6L) hZ (hw _ (List.mem_of_getElem? (i := 75) rfl)) (hw _ (List.mem_of_getElem? (i := 2) rfl)) (by decide) (by decide)) qa9 qc9 (g := (mkF m 133 #[.val (.int p1), .val (.int p2), .val (.int p3), .val (.int p4), .val (.int p5), .val (.int p6), .val (.int (p5 &&& (3 : Int32))), .val (.int v3), .val (.double (FP.i2d p1)), .second, .val (.double (FP.i2d p2)), .second, .val (.double (FP.i2d p3)), .second, .val (.double (FP.i2d v3)), .second, .val (.ref b1)] [(.int (2 : Int32)), (.ref b1)])) rfl (by rw [hml]; rfl) (Steps.refl _) (argsL := [(.int (2 : Int32))]) (rest := []) (lenOf own_pd8 rfl) rfl (by show 2 * 0 + _ ≤ _; exact Nat.le_of_eq rfl) (hb hby at_133) (fun _ _ => ⟨rfl, e8, (by decide : 8 + 0 ≤ _), (by decide : 65656 + 0 ≤ _)⟩)
    dsimp only [Pt.U, Pt.locs, Pt.cells, Pt.slots] at X9 l9 y9 z9 st9 hQ9
    subst l9 y9 z9
    obtain ⟨rfl, N9q, e9⟩ := hQ9
    have N9 := Fr.app N8 N9q
    refine go (fun _ kont => st9.trans kont) ?_
    show G (T9.setTop (mkF m 136 #[.val (.int p1), .val (.int p2), .val (.int p3), .val (.int p4), .val (.int p5), .val (.int p6), .val (.int (p5 &&& (3 : Int32))), .val (.int v3), .val (.double (FP.i2d p1)), .second, .val (.double (FP.i2d p2)), .second, .val (.double (FP.i2d p3)), .second, .val (.double (FP.i2d v3)), .second, .val (.ref b1)] [(.double (FP.i2d p3))]))
    refine go (fun _ kont => XS.dload X9.here hx rfl (hb hby at_136) rfl  kont) ?_
    show G (T9.setTop (mkF m 138 #[.val (.int p1), .val (.int p2), .val (.int p3), .val (.int p4), .val (.int p5), .val (.int p6), .val (.int (p5 &&& (3 : Int32))), .val (.int v3), .val (.double (FP.i2d p1)), .second, .val (.double (FP.i2d p2)), .second, .val (.double (FP.i2d p3)), .second, .val (.double (FP.i2d v3)), .second, .val (.ref b1)] [(.double (FP.i2d p3)), (.double (FP.i2d p3))]))
    refine go (fun _ kont => XS.dcmpS X9.here hx rfl (hb hby at_138) rfl (v := (0 : Int32)) (dcmpV_self (own_nn p3) _) kont) ?_
    show G (T9.setTop (mkF m 139 #[.val (.int p1), .val (.int p2), .val (.int p3), .val (.int p4), .val (.int p5), .val (.int p6), .val (.int (p5 &&& (3 : Int32))), .val (.int v3), .val (.double (FP.i2d p1)), .second, .val (.double (FP.i2d p2)), .second, .val (.double (FP.i2d p3)), .second, .val (.double (FP.i2d v3)), .second, .val (.ref b1)] [(.int (0 : Int32))]))
    refine go (fun _ kont => XS.ifNo X9.here hx rfl (hb hby at_139) rfl ((if0 _ _).trans (teq (by decide)).2) kont) ?_
    show G (T9.setTop (mkF m 142 #[.val (.int p1), .val (.int p2), .val (.int p3), .val (.int p4), .val (.int p5), .val (.int p6), .val (.int (p5 &&& (3 : Int32))), .val (.int v3), .val (.double (FP.i2d p1)), .second, .val (.double (FP.i2d p2)), .second, .val (.double (FP.i2d p3)), .second, .val (.double (FP.i2d v3)), .second, .val (.ref b1)] []))
    refine go (fun _ kont => XS.aload X9.here hx rfl (hb hby at_142) rfl rfl kont) ?_
    show G (T9.setTop (mkF m 144 #[.val (.int p1), .val (.int p2), .val (.int p3), .val (.int p4), .val (.int p5), .val (.int p6), .val (.int (p5 &&& (3 : Int32))), .val (.int v3), .val (.double (FP.i2d p1)), .second, .val (.double (FP.i2d p2)), .second, .val (.double (FP.i2d p3)), .second, .val (.double (FP.i2d v3)), .second, .val (.ref b1)] [(.ref b1)]))
    refine go (fun _ kont => XS.iconst X9.here hx rfl (hb hby at_144) kont) ?_
    show G (T9.setTop (mkF m 145 #[.val (.int p1), .val (.int p2), .val (.int p3), .val (.int p4), .val (.int p5), .val (.int p6), .val (.int (p5 &&& (3 : Int32))), .val (.int v3), .val (.double (FP.i2d p1)), .second, .val (.double (FP.i2d p2)), .second, .val (.double (FP.i2d p3)), .second, .val (.double (FP.i2d v3)), .second, .val (.ref b1)] [(.int (3 : Int32)), (.ref b1)]))
    obtain ⟨cq10, kq10, qa10, qb10, qc10⟩ := isOf hZ e9 EX6
    obtain ⟨_, _, ⟨T10, L10, k10, n10⟩, -, X10, ⟨Lc10, hQ10, l10, y10, z10⟩, st10⟩ := X9.virtualBack hx (y := (⟨"com/example/knotweed/knotweed/engine/TransitionList", "getNumber", "(I)D"⟩ : MethodName)) (z := (⟨"com/example/knotweed/knotweed/engine/TransitionList", "getNumber", "(I)D"⟩ : MethodName)) hown (mvT hZ (hw _ (List.mem_of_getElem? (i := 71) rfl))) (mvT hZ (hw _ (List.mem_of_getElem? (i := 72) rfl))) (notFace_of_selects (args := #[]) (mvT hZ (hw _ (List.mem_of_getElem? (i := 74) rfl)))) (mvT hZ (hw _ (List.mem_of_getElem? (i := 74) rfl))) (mvT hZ (hw _ (List.mem_of_getElem? (i := 73) rfl))) (by decide) (backOf (W := 0) (own_rm_get l Z a0 hw [] b1 T6.heap n0 Z6 3 (by decide) [FP.i2d p1, FP.i2d p2, FP.i2d p3, FP.i2d v3] L6L) hZ (hw _ (List.mem_of_getElem? (i := 75) rfl)) (hw _ (List.mem_of_getElem? (i := 2) rfl)) (by decide) (by decide)) qa10 qc10 (g := (mkF m 145 #[.val (.int p1), .val (.int p2), .val (.int p3), .val (.int p4), .val (.int p5), .val (.int p6), .val (.int (p5 &&& (3 : Int32))), .val (.int v3), .val (.double (FP.i2d p1)), .second, .val (.double (FP.i2d p2)), .second, .val (.double (FP.i2d p3)), .second, .val (.double (FP.i2d v3)), .second, .val (.ref b1)] [(.int (3 : Int32)), (.ref b1)])) rfl (by rw [hml]; rfl) (Steps.refl _) (argsL := [(.int (3 : Int32))]) (rest := []) (lenOf own_pd8 rfl) rfl (by show 2 * 0 + _ ≤ _; exact Nat.le_of_eq rfl) (hb hby at_145) (fun _ _ => ⟨rfl, e9, (by decide : 8 + 0 ≤ _), (by decide : 65656 + 0 ≤ _)⟩)
    dsimp only [Pt.U, Pt.locs, Pt.cells, Pt.slots] at X10 l10 y10 z10 st10 hQ10
    subst l10 y10 z10
    obtain ⟨rfl, N10q, e10⟩ := hQ10
    have N10 := Fr.app N9 N10q
    refine go (fun _ kont => st10.trans kont) ?_
    show G (T10.setTop (mkF m 148 #[.val (.int p1), .val (.int p2), .val (.int p3), .val (.int p4), .val (.int p5), .val (.int p6), .val (.int (p5 &&& (3 : Int32))), .val (.int v3), .val (.double (FP.i2d p1)), .second, .val (.double (FP.i2d p2)), .second, .val (.double (FP.i2d p3)), .second, .val (.double (FP.i2d v3)), .second, .val (.ref b1)] [(.double (FP.i2d v3))]))
    refine go (fun _ kont => XS.dload X10.here hx rfl (hb hby at_148) rfl  kont) ?_
    show G (T10.setTop (mkF m 150 #[.val (.int p1), .val (.int p2), .val (.int p3), .val (.int p4), .val (.int p5), .val (.int p6), .val (.int (p5 &&& (3 : Int32))), .val (.int v3), .val (.double (FP.i2d p1)), .second, .val (.double (FP.i2d p2)), .second, .val (.double (FP.i2d p3)), .second, .val (.double (FP.i2d v3)), .second, .val (.ref b1)] [(.double (FP.i2d v3)), (.double (FP.i2d v3))]))
    refine go (fun _ kont => XS.dcmpS X10.here hx rfl (hb hby at_150) rfl (v := (0 : Int32)) (dcmpV_self (own_nn v3) _) kont) ?_
    show G (T10.setTop (mkF m 151 #[.val (.int p1), .val (.int p2), .val (.int p3), .val (.int p4), .val (.int p5), .val (.int p6), .val (.int (p5 &&& (3 : Int32))), .val (.int v3), .val (.double (FP.i2d p1)), .second, .val (.double (FP.i2d p2)), .second, .val (.double (FP.i2d p3)), .second, .val (.double (FP.i2d v3)), .second, .val (.ref b1)] [(.int (0 : Int32))]))
    refine go (fun _ kont => XS.ifNo X10.here hx rfl (hb hby at_151) rfl ((if0 _ _).trans (teq (by decide)).2) kont) ?_
    show G (T10.setTop (mkF m 154 #[.val (.int p1), .val (.int p2), .val (.int p3), .val (.int p4), .val (.int p5), .val (.int p6), .val (.int (p5 &&& (3 : Int32))), .val (.int v3), .val (.double (FP.i2d p1)), .second, .val (.double (FP.i2d p2)), .second, .val (.double (FP.i2d p3)), .second, .val (.double (FP.i2d v3)), .second, .val (.ref b1)] []))
    refine go (fun _ kont => XS.iconst X10.here hx rfl (hb hby at_154) kont) ?_
    show G (T10.setTop (mkF m 155 #[.val (.int p1), .val (.int p2), .val (.int p3), .val (.int p4), .val (.int p5), .val (.int p6), .val (.int (p5 &&& (3 : Int32))), .val (.int v3), .val (.double (FP.i2d p1)), .second, .val (.double (FP.i2d p2)), .second, .val (.double (FP.i2d p3)), .second, .val (.double (FP.i2d v3)), .second, .val (.ref b1)] [(.int (1 : Int32))]))
    refine go (fun _ kont => XS.goto X10.here hx rfl (pc0 := 155) (pc' := 159) rfl (hb hby at_155) (by decide) (by decide) kont) ?_
    show G (T10.setTop (mkF m 159 #[.val (.int p1), .val (.int p2), .val (.int p3), .val (.int p4), .val (.int p5), .val (.int p6), .val (.int (p5 &&& (3 : Int32))), .val (.int v3), .val (.double (FP.i2d p1)), .second, .val (.double (FP.i2d p2)), .second, .val (.double (FP.i2d p3)), .second, .val (.double (FP.i2d v3)), .second, .val (.ref b1)] [(.int (1 : Int32))]))
    rw [hG]
    exact own_retN X10 hx (t := .boolean) Bd.returns (by simp) (hb hby at_159) hlk (by decide) (by decide) ⟨rfl, N10⟩
  refine go (fun _ kont => XS.iload X0.here hx rfl (hb hby at_0) rfl  kont) ?_
  show G (s₁.setTop (mkF m 2 #[.val (.int p1), .val (.int p2), .val (.int p3), .val (.int p4), .val (.int p5), .val (.int p6), .unset, .unset, .unset, .unset, .unset, .unset, .unset, .unset, .unset, .unset, .unset] [(.int p5)]))
  refine go (fun _ kont => XS.iconst X0.here hx rfl (hb hby at_2) kont) ?_
  show G (s₁.setTop (mkF m 3 #[.val (.int p1), .val (.int p2), .val (.int p3), .val (.int p4), .val (.int p5), .val (.int p6), .unset, .unset, .unset, .unset, .unset, .unset, .unset, .unset, .unset, .unset, .unset] [(.int (3 : Int32)), (.int p5)]))
  refine go (fun _ kont => XS.iand X0.here hx rfl (hb hby at_3) rfl kont) ?_
  show G (s₁.setTop (mkF m 4 #[.val (.int p1), .val (.int p2), .val (.int p3), .val (.int p4), .val (.int p5), .val (.int p6), .unset, .unset, .unset, .unset, .unset, .unset, .unset, .unset, .unset, .unset, .unset] [(.int (p5 &&& (3 : Int32)))]))
  refine go (fun _ kont => XS.istore X0.here hx rfl (hb hby at_4) rfl (l' := #[.val (.int p1), .val (.int p2), .val (.int p3), .val (.int p4), .val (.int p5), .val (.int p6), .val (.int (p5 &&& (3 : Int32))), .unset, .unset, .unset, .unset, .unset, .unset, .unset, .unset, .unset, .unset]) rfl kont) ?_
  show G (s₁.setTop (mkF m 6 #[.val (.int p1), .val (.int p2), .val (.int p3), .val (.int p4), .val (.int p5), .val (.int p6), .val (.int (p5 &&& (3 : Int32))), .unset, .unset, .unset, .unset, .unset, .unset, .unset, .unset, .unset, .unset] []))
  refine go (fun _ kont => XS.iload X0.here hx rfl (hb hby at_6) rfl  kont) ?_
  show G (s₁.setTop (mkF m 8 #[.val (.int p1), .val (.int p2), .val (.int p3), .val (.int p4), .val (.int p5), .val (.int p6), .val (.int (p5 &&& (3 : Int32))), .unset, .unset, .unset, .unset, .unset, .unset, .unset, .unset, .unset, .unset] [(.int (p5 &&& (3 : Int32)))]))
  by_cases hc8 : (p5 &&& (3 : Int32)) = (0 : Int32)
  · refine go (fun _ kont => XS.ifNo X0.here hx rfl (hb hby at_8) rfl ((if0 _ _).trans (teq hc8).2) kont) ?_
    show G (s₁.setTop (mkF m 11 #[.val (.int p1), .val (.int p2), .val (.int p3), .val (.int p4), .val (.int p5), .val (.int p6), .val (.int (p5 &&& (3 : Int32))), .unset, .unset, .unset, .unset, .unset, .unset, .unset, .unset, .unset, .unset] []))
    refine go (fun _ kont => XS.iloadN X0.here hx rfl (hb hby at_11) rfl  kont) ?_
    show G (s₁.setTop (mkF m 12 #[.val (.int p1), .val (.int p2), .val (.int p3), .val (.int p4), .val (.int p5), .val (.int p6), .val (.int (p5 &&& (3 : Int32))), .unset, .unset, .unset, .unset, .unset, .unset, .unset, .unset, .unset, .unset] [(.int p1)]))
    refine go (fun _ kont => XS.goto X0.here hx rfl (pc0 := 12) (pc' := 36) rfl (hb hby at_12) (by decide) (by decide) kont) ?_
    show G (s₁.setTop (mkF m 36 #[.val (.int p1), .val (.int p2), .val (.int p3), .val (.int p4), .val (.int p5), .val (.int p6), .val (.int (p5 &&& (3 : Int32))), .unset, .unset, .unset, .unset, .unset, .unset, .unset, .unset, .unset, .unset] [(.int p1)]))
    exact rest _
  · refine go (fun _ kont => XS.ifYes X0.here hx rfl (pc0 := 8) (pc' := 15) rfl (hb hby at_8) rfl ((if0 _ _).trans (feq hc8).2) (by decide) (by decide) kont) ?_
    show G (s₁.setTop (mkF m 15 #[.val (.int p1), .val (.int p2), .val (.int p3), .val (.int p4), .val (.int p5), .val (.int p6), .val (.int (p5 &&& (3 : Int32))), .unset, .unset, .unset, .unset, .unset, .unset, .unset, .unset, .unset, .unset] []))
    refine go (fun _ kont => XS.iload X0.here hx rfl (hb hby at_15) rfl  kont) ?_
    show G (s₁.setTop (mkF m 17 #[.val (.int p1), .val (.int p2), .val (.int p3), .val (.int p4), .val (.int p5), .val (.int p6), .val (.int (p5 &&& (3 : Int32))), .unset, .unset, .unset, .unset, .unset, .unset, .unset, .unset, .unset, .unset] [(.int (p5 &&& (3 : Int32)))]))
    refine go (fun _ kont => XS.iconst X0.here hx rfl (hb hby at_17) kont) ?_
    show G (s₁.setTop (mkF m 18 #[.val (.int p1), .val (.int p2), .val (.int p3), .val (.int p4), .val (.int p5), .val (.int p6), .val (.int (p5 &&& (3 : Int32))), .unset, .unset, .unset, .unset, .unset, .unset, .unset, .unset, .unset, .unset] [(.int (1 : Int32)), (.int (p5 &&& (3 : Int32)))]))
    by_cases hc18 : (p5 &&& (3 : Int32)) = (1 : Int32)
    · refine go (fun _ kont => XS.icmpNo X0.here hx rfl (hb hby at_18) rfl (teq hc18).2 kont) ?_
      show G (s₁.setTop (mkF m 21 #[.val (.int p1), .val (.int p2), .val (.int p3), .val (.int p4), .val (.int p5), .val (.int p6), .val (.int (p5 &&& (3 : Int32))), .unset, .unset, .unset, .unset, .unset, .unset, .unset, .unset, .unset, .unset] []))
      refine go (fun _ kont => XS.iloadN X0.here hx rfl (hb hby at_21) rfl  kont) ?_
      show G (s₁.setTop (mkF m 22 #[.val (.int p1), .val (.int p2), .val (.int p3), .val (.int p4), .val (.int p5), .val (.int p6), .val (.int (p5 &&& (3 : Int32))), .unset, .unset, .unset, .unset, .unset, .unset, .unset, .unset, .unset, .unset] [(.int p2)]))
      refine go (fun _ kont => XS.goto X0.here hx rfl (pc0 := 22) (pc' := 36) rfl (hb hby at_22) (by decide) (by decide) kont) ?_
      show G (s₁.setTop (mkF m 36 #[.val (.int p1), .val (.int p2), .val (.int p3), .val (.int p4), .val (.int p5), .val (.int p6), .val (.int (p5 &&& (3 : Int32))), .unset, .unset, .unset, .unset, .unset, .unset, .unset, .unset, .unset, .unset] [(.int p2)]))
      exact rest _
    · refine go (fun _ kont => XS.icmpYes X0.here hx rfl (pc0 := 18) (pc' := 25) rfl (hb hby at_18) rfl (feq hc18).2 (by decide) (by decide) kont) ?_
      show G (s₁.setTop (mkF m 25 #[.val (.int p1), .val (.int p2), .val (.int p3), .val (.int p4), .val (.int p5), .val (.int p6), .val (.int (p5 &&& (3 : Int32))), .unset, .unset, .unset, .unset, .unset, .unset, .unset, .unset, .unset, .unset] []))
      refine go (fun _ kont => XS.iload X0.here hx rfl (hb hby at_25) rfl  kont) ?_
      show G (s₁.setTop (mkF m 27 #[.val (.int p1), .val (.int p2), .val (.int p3), .val (.int p4), .val (.int p5), .val (.int p6), .val (.int (p5 &&& (3 : Int32))), .unset, .unset, .unset, .unset, .unset, .unset, .unset, .unset, .unset, .unset] [(.int (p5 &&& (3 : Int32)))]))
      refine go (fun _ kont => XS.iconst X0.here hx rfl (hb hby at_27) kont) ?_
      show G (s₁.setTop (mkF m 28 #[.val (.int p1), .val (.int p2), .val (.int p3), .val (.int p4), .val (.int p5), .val (.int p6), .val (.int (p5 &&& (3 : Int32))), .unset, .unset, .unset, .unset, .unset, .unset, .unset, .unset, .unset, .unset] [(.int (2 : Int32)), (.int (p5 &&& (3 : Int32)))]))
      by_cases hc28 : (p5 &&& (3 : Int32)) = (2 : Int32)
      · refine go (fun _ kont => XS.icmpNo X0.here hx rfl (hb hby at_28) rfl (teq hc28).2 kont) ?_
        show G (s₁.setTop (mkF m 31 #[.val (.int p1), .val (.int p2), .val (.int p3), .val (.int p4), .val (.int p5), .val (.int p6), .val (.int (p5 &&& (3 : Int32))), .unset, .unset, .unset, .unset, .unset, .unset, .unset, .unset, .unset, .unset] []))
        refine go (fun _ kont => XS.iloadN X0.here hx rfl (hb hby at_31) rfl  kont) ?_
        show G (s₁.setTop (mkF m 32 #[.val (.int p1), .val (.int p2), .val (.int p3), .val (.int p4), .val (.int p5), .val (.int p6), .val (.int (p5 &&& (3 : Int32))), .unset, .unset, .unset, .unset, .unset, .unset, .unset, .unset, .unset, .unset] [(.int p3)]))
        refine go (fun _ kont => XS.goto X0.here hx rfl (pc0 := 32) (pc' := 36) rfl (hb hby at_32) (by decide) (by decide) kont) ?_
        show G (s₁.setTop (mkF m 36 #[.val (.int p1), .val (.int p2), .val (.int p3), .val (.int p4), .val (.int p5), .val (.int p6), .val (.int (p5 &&& (3 : Int32))), .unset, .unset, .unset, .unset, .unset, .unset, .unset, .unset, .unset, .unset] [(.int p3)]))
        exact rest _
      · refine go (fun _ kont => XS.icmpYes X0.here hx rfl (pc0 := 28) (pc' := 35) rfl (hb hby at_28) rfl (feq hc28).2 (by decide) (by decide) kont) ?_
        show G (s₁.setTop (mkF m 35 #[.val (.int p1), .val (.int p2), .val (.int p3), .val (.int p4), .val (.int p5), .val (.int p6), .val (.int (p5 &&& (3 : Int32))), .unset, .unset, .unset, .unset, .unset, .unset, .unset, .unset, .unset, .unset] []))
        refine go (fun _ kont => XS.iloadN X0.here hx rfl (hb hby at_35) rfl  kont) ?_
        show G (s₁.setTop (mkF m 36 #[.val (.int p1), .val (.int p2), .val (.int p3), .val (.int p4), .val (.int p5), .val (.int p6), .val (.int (p5 &&& (3 : Int32))), .unset, .unset, .unset, .unset, .unset, .unset, .unset, .unset, .unset, .unset] [(.int p4)]))
        exact rest _
set_option maxRecDepth 65536 in
set_option maxHeartbeats 40000000 in
theorem comes_1 {Post : Tables → Env → Array Value → State → Outcome → State → Prop} (hpost : ∀ tb e args s v u, (limb_1_1.after args s (.returned v) u = true ∧ limb_1_2.after args s (.returned v) u = true ∧ True) → FrameEnd s (.returned v) u (Jvm.fieldLocs frame_1_writes args s ++ Jvm.arrayLocs frame_1_arrays args s ++ Jvm.staticLocs frame_1_statics s) 24 131392 → Post tb e args s (.returned v) u) :
    ArmFor flags0 classFile x code maxLocals ret World_1 tables_1 room_1 Calls_1 rest_1 Pre_1 Post := by
  intro l hfl _ _ p e ha hc hk s m args below hf hA hF happ hP
  obtain ⟨hcalls, hrest, hpre⟩ := hP
  obtain ⟨-, -, -, hnamed, -, -, -, hat⟩ := (Spec.applies_iff hf).mp happ
  obtain ⟨hg, hn⟩ := and_e (Cond.before_iff.mp (show (Jvm.Cond.and given_1 narrow_1).before args s = true from hpre))
  obtain ⟨hcnt, ha0⟩ := and_e hg
  obtain ⟨hk0, ha1⟩ := and_e ha0
  obtain ⟨hk1, ha2⟩ := and_e ha1
  obtain ⟨hk2, ha3⟩ := and_e ha2
  obtain ⟨hk3, ha4⟩ := and_e ha3
  obtain ⟨hk4, ha5⟩ := and_e ha4
  have hk5 := ha5
  obtain ⟨w0, w1, w2, w3, w4, w5, rfl⟩ : ∃ w0 w1 w2 w3 w4 w5 : Value, args = #[w0, w1, w2, w3, w4, w5] := by
    have hs : args.size = 6 := by simpa [Cond.value, given_1] using hcnt
    obtain ⟨L⟩ := args
    match L, hs with
    | [w0, w1, w2, w3, w4, w5], _ => exact ⟨w0, w1, w2, w3, w4, w5, rfl⟩
  have hw := fun d (hd : d ∈ tables_1) => atoms_spec (ws := Jvm.Cond.code x code maxLocals ret :: tables_1) hat d (List.mem_cons_of_mem _ hd)
  have hfit : Fit s := fun {y c} hc i hi => by
    obtain ⟨ha, rfl⟩ := Array.getElem?_eq_some_iff.mp hc
    have q := List.all_eq_true.mp ((Array.all_eq_true_iff_forall_mem.mp hF) _ (Array.getElem_mem ha)) i (List.mem_range.mpr hi)
    simpa [Array.getElem?_eq_getElem hi] using q
  obtain ⟨i0, ei0⟩ := is_v hk0
  obtain rfl : w0 = (.int i0) := Option.some.inj ei0
  obtain ⟨i1, ei1⟩ := is_v hk1
  obtain rfl : w1 = (.int i1) := Option.some.inj ei1
  obtain ⟨i2, ei2⟩ := is_v hk2
  obtain rfl : w2 = (.int i2) := Option.some.inj ei2
  obtain ⟨i3, ei3⟩ := is_v hk3
  obtain rfl : w3 = (.int i3) := Option.some.inj ei3
  obtain ⟨i4, ei4⟩ := is_v hk4
  obtain rfl : w4 = (.int i4) := Option.some.inj ei4
  obtain ⟨i5, ei5⟩ := is_v hk5
  obtain rfl : w5 = (.int i5) := Option.some.inj ei5
  obtain ⟨n, o, h1, h2, h3, _, L, rfl, ⟨rfl, N⟩, hq⟩ := own_rm_law l s _ hw tables_1 i0 i1 i2 i3 i4 i5 s.heap s.heap.size (Nat.le_refl _)  p e ha hc hk s m _ below hf ((Spec.applies_iff_loose hf).mp happ).1 ⟨rfl, State.Warmed39.refl s, rfl⟩ trivial
  refine ⟨n, _, h1, h2, h3, hpost _ _ _ _ _ _ ⟨Cond.after_iff.mpr rfl, Cond.after_iff.mpr (eq_i res_at (Term.int_eval (1)) rfl), trivial⟩ ⟨hq.1, hq.2.1, (hq.2.2.sift fun y hy => Or.inr (N y hy)).mono (by decide) (by decide)⟩⟩
theorem main_1_1 : Claimed_1_1 := comes_1 fun _ _ _ _ _ _ h hF => ⟨h.1, hF⟩
theorem main_1_2 : Claimed_1_2 := comes_1 fun _ _ _ _ _ _ h hF => ⟨h.2.1, hF⟩
end Jvm.Pilot.@@N@@
namespace Jvm.Pilot.@@N@@
open Jvm Jvm.ClassFile Sem Op Lib Jvm.Free Jvm.Stand Jvm.Pilot.@@N@@.Jvm.D
/-! MADE BY PROGRAM (witnessworld.py) out of the Statement's table words and the real class files: 20 classes; the members and pool entries that the words name. The judged class is class 1, her method 1. -/
namespace start1
open Jvm.ClassFile
def u (s : String) : CpInfo := .utf8 (stringToUtf16 s)
/-- a pool by its gaps: so many unusable entries, then the entry; so many at the end -/
def gap : Nat → List CpInfo → List CpInfo
  | 0, r => r
  | n + 1, r => .unusable :: gap n r
def poolList (es : List (Nat × CpInfo)) (last : Nat) : List CpInfo := es.foldr (fun e r => gap e.1 (e.2 :: r)) (gap last [])
def pool (es : List (Nat × CpInfo)) (last : Nat) : Array CpInfo := ⟨poolList es last⟩
def fileOf (pool : Array CpInfo) (this : Nat) (attrs : Array Attribute := #[]) (ms : Array MethodInfo := #[]) (fl : Nat := 33) (sup : Nat := 0) (ifs : Array Nat := #[]) (fds : Array FieldInfo := #[]) : ClassFile where
  minorVersion := 0
  majorVersion := 65
  constantPool := pool
  accessFlags := fl
  thisClass := this
  superClass := sup
  interfaces := ifs
  fields := fds
  methods := ms
  attributes := attrs
def plain (name : String) (sup : Option ClassId) : Class where
  name := name
  kind := .ordinary
  loader := none
  accessFlags := 33
  super := sup
  interfaces := #[]
  cf := none
  fields := #[]
  methods := #[]
  instanceTypes := #[]
  staticTypes := #[]
  resolved := #[]
  callSites := []
  init := .initialized
  statics := none
  mirror := none

def pool0 : Array CpInfo := pool [(5, u "<init>"), (0, u "()V"), (1, .class_ 10), (1, u "java/lang/Object")] 113

def k0c0 : Code := { maxStack := 0, maxLocals := 1, code := object_method_1_code, exceptionTable := #[], attributes := #[] }
def k0m0 : Method := { name := "<init>", desc := "()V", sig := { parameters := [], returnType := none }, accessFlags := 1, code := some k0c0 }
/-- java/lang/Object -/
def k0 : Class := { plain "java/lang/Object" none with
  accessFlags := 33
  interfaces := #[]
  cf := some (fileOf pool0 8 #[] #[{ accessFlags := 1, nameIndex := 5, descriptorIndex := 6, attributes := #[] }] 33 0 #[] #[])
  fields := #[]
  methods := #[k0m0]
  instanceTypes := #[]
  staticTypes := #[]
  resolved := Array.replicate 124 none
  statics := none }

def pool1 : Array CpInfo := pool [(2, .class_ 4), (0, .nameAndType 5 6), (0, u "java/lang/Object"), (0, u "<init>"), (0, u "()V"), (0, .class_ 8), (0, u "com/example/knotweed/knotweed/engine/TransitionList"), (0, .methodref 7 3), (0, .methodref 7 11), (0, .nameAndType 12 13), (0, u "add"), (0, u "(ID)V"), (0, .methodref 7 15), (0, .nameAndType 16 17), (0, u "getNumber"), (0, u "(I)D"), (0, .class_ 19), (0, u "com/example/knotweed/knotweed/engine/TransitionListGetNumberPinLaw"), (2, u "law"), (0, u "(IIIIII)Z")] 3

def k1m0 : Method := { name := "<init>", desc := "()V", sig := { parameters := [], returnType := none }, accessFlags := 1, code := none }
def k1c1 : Code := { maxStack := 4, maxLocals := 17, code := code, exceptionTable := #[], attributes := #[] }
def k1m1 : Method := { name := "law", desc := "(IIIIII)Z", sig := { parameters := [.int, .int, .int, .int, .int, .int], returnType := some .boolean }, accessFlags := 9, code := some k1c1 }
/-- com/example/knotweed/knotweed/engine/TransitionListGetNumberPinLaw -/
def k1 : Class := { plain "com/example/knotweed/knotweed/engine/TransitionListGetNumberPinLaw" (some 0) with
  accessFlags := 49
  interfaces := #[]
  cf := some (fileOf pool1 18 #[] #[{ accessFlags := 1, nameIndex := 5, descriptorIndex := 6, attributes := #[] }, { accessFlags := 9, nameIndex := 22, descriptorIndex := 23, attributes := #[] }] 49 2 #[] #[])
  fields := #[]
  methods := #[k1m0, k1m1]
  instanceTypes := #[]
  staticTypes := #[]
  resolved := Array.replicate 27 none
  statics := none }

def pool2 : Array CpInfo := pool [(3, .class_ 4), (0, u "com/example/knotweed/knotweed/engine/TransitionList"), (0, .methodref 6 7), (0, .class_ 8), (0, .nameAndType 9 10), (0, u "java/lang/Object"), (0, u "<init>"), (0, u "()V"), (0, .class_ 12), (0, u "[I"), (0, .fieldref 3 14), (0, .nameAndType 15 16), (0, u "targets"), (0, u "[[I"), (0, .class_ 18), (0, u "[C"), (0, .fieldref 3 20), (0, .nameAndType 21 22), (0, u "indices"), (0, u "[[C"), (0, .fieldref 3 24), (0, .nameAndType 25 26), (0, u "table"), (0, u "[D"), (0, .fieldref 3 28), (0, .nameAndType 29 30), (0, u "keys"), (0, u "[J"), (0, .methodref 3 32), (0, .nameAndType 33 34), (0, u "emptyPlaces"), (0, u "(I)[I"), (0, .fieldref 3 36), (0, .nameAndType 37 12), (0, u "places"), (0, .fieldref 3 39), (0, .nameAndType 40 41), (0, u "size"), (0, u "I"), (0, .methodref 3 43), (0, .nameAndType 44 45), (0, u "addBlock"), (0, u "(I)V"), (0, .fieldref 3 47), (0, .nameAndType 48 49), (0, u "numbers"), (0, u "[[D"), (0, .methodref 3 51), (0, .nameAndType 52 53), (0, u "indexOf"), (0, u "(D)I"), (7, .fieldref 3 62), (0, .nameAndType 63 41), (0, u "distinct"), (1, .class_ 67), (1, u "java/util/Arrays"), (2, .integer 32768), (18, .methodref 90 91), (0, .class_ 92), (0, .nameAndType 93 94), (0, u "java/lang/Double"), (0, u "doubleToRawLongBits"), (0, u "(D)J"), (0, .methodref 3 96), (0, .nameAndType 97 98), (0, u "slotOf"), (0, u "(J)I"), (0, .integer 65536), (3, .long 11400714819323198485), (3, .methodref 108 109), (0, .class_ 110), (0, .nameAndType 111 112), (0, u "java/lang/Integer"), (0, u "numberOfTrailingZeros"), (0, u "(I)I"), (0, .methodref 65 114), (0, .nameAndType 115 116), (0, u "fill"), (0, u "([II)V"), (1, u "MOST_DISTINCT"), (1, u "BLOCK_BITS"), (1, u "BLOCK"), (0, u "EMPTY"), (4, u "add"), (0, u "(ID)V"), (2, u "getNumber"), (0, u "(I)D")] 10

def k2c0 : Code := { maxStack := 2, maxLocals := 1, code := prog_102_method_1_code, exceptionTable := #[], attributes := #[] }
def k2m0 : Method := { name := "<init>", desc := "()V", sig := { parameters := [], returnType := none }, accessFlags := 0, code := some k2c0 }
def k2c1 : Code := { maxStack := 4, maxLocals := 7, code := prog_102_method_3_code, exceptionTable := #[], attributes := #[] }
def k2m1 : Method := { name := "add", desc := "(ID)V", sig := { parameters := [.int, .double], returnType := none }, accessFlags := 0, code := some k2c1 }
def k2c2 : Code := { maxStack := 3, maxLocals := 4, code := prog_102_method_5_code, exceptionTable := #[], attributes := #[] }
def k2m2 : Method := { name := "getNumber", desc := "(I)D", sig := { parameters := [.int], returnType := some .double }, accessFlags := 0, code := some k2c2 }
def k2c3 : Code := { maxStack := 4, maxLocals := 2, code := prog_102_method_11_code, exceptionTable := #[], attributes := #[] }
def k2m3 : Method := { name := "addBlock", desc := "(I)V", sig := { parameters := [.int], returnType := none }, accessFlags := 2, code := some k2c3 }
def k2c4 : Code := { maxStack := 4, maxLocals := 8, code := prog_102_method_12_code, exceptionTable := #[], attributes := #[] }
def k2m4 : Method := { name := "indexOf", desc := "(D)I", sig := { parameters := [.double], returnType := some .int }, accessFlags := 2, code := some k2c4 }
def k2c5 : Code := { maxStack := 4, maxLocals := 3, code := prog_102_method_13_code, exceptionTable := #[], attributes := #[] }
def k2m5 : Method := { name := "slotOf", desc := "(J)I", sig := { parameters := [.long], returnType := some .int }, accessFlags := 2, code := some k2c5 }
def k2c6 : Code := { maxStack := 2, maxLocals := 2, code := prog_102_method_15_code, exceptionTable := #[], attributes := #[] }
def k2m6 : Method := { name := "emptyPlaces", desc := "(I)[I", sig := { parameters := [.int], returnType := some (.array .int) }, accessFlags := 10, code := some k2c6 }
/-- com/example/knotweed/knotweed/engine/TransitionList -/
def k2 : Class := { plain "com/example/knotweed/knotweed/engine/TransitionList" (some 0) with
  accessFlags := 48
  interfaces := #[]
  cf := some (fileOf pool2 3 #[] #[{ accessFlags := 0, nameIndex := 9, descriptorIndex := 10, attributes := #[] }, { accessFlags := 0, nameIndex := 128, descriptorIndex := 129, attributes := #[] }, { accessFlags := 0, nameIndex := 132, descriptorIndex := 133, attributes := #[] }, { accessFlags := 2, nameIndex := 44, descriptorIndex := 45, attributes := #[] }, { accessFlags := 2, nameIndex := 52, descriptorIndex := 53, attributes := #[] }, { accessFlags := 2, nameIndex := 97, descriptorIndex := 98, attributes := #[] }, { accessFlags := 10, nameIndex := 33, descriptorIndex := 34, attributes := #[] }] 48 6 #[] #[{ accessFlags := 26, nameIndex := 118, descriptorIndex := 41, attributes := #[] }, { accessFlags := 26, nameIndex := 120, descriptorIndex := 41, attributes := #[] }, { accessFlags := 26, nameIndex := 122, descriptorIndex := 41, attributes := #[] }, { accessFlags := 26, nameIndex := 123, descriptorIndex := 41, attributes := #[] }, { accessFlags := 2, nameIndex := 40, descriptorIndex := 41, attributes := #[] }, { accessFlags := 2, nameIndex := 15, descriptorIndex := 16, attributes := #[] }, { accessFlags := 2, nameIndex := 21, descriptorIndex := 22, attributes := #[] }, { accessFlags := 2, nameIndex := 25, descriptorIndex := 26, attributes := #[] }, { accessFlags := 2, nameIndex := 63, descriptorIndex := 41, attributes := #[] }, { accessFlags := 2, nameIndex := 29, descriptorIndex := 30, attributes := #[] }, { accessFlags := 2, nameIndex := 37, descriptorIndex := 12, attributes := #[] }, { accessFlags := 2, nameIndex := 48, descriptorIndex := 49, attributes := #[] }])
  fields := #[{ name := "MOST_DISTINCT", type := .int, accessFlags := 26, slot := 0, constantValue := 0 }, { name := "BLOCK_BITS", type := .int, accessFlags := 26, slot := 1, constantValue := 0 }, { name := "BLOCK", type := .int, accessFlags := 26, slot := 2, constantValue := 0 }, { name := "EMPTY", type := .int, accessFlags := 26, slot := 3, constantValue := 0 }, { name := "size", type := .int, accessFlags := 2, slot := 0, constantValue := 0 }, { name := "targets", type := (.array (.array .int)), accessFlags := 2, slot := 1, constantValue := 0 }, { name := "indices", type := (.array (.array .char)), accessFlags := 2, slot := 2, constantValue := 0 }, { name := "table", type := (.array .double), accessFlags := 2, slot := 3, constantValue := 0 }, { name := "distinct", type := .int, accessFlags := 2, slot := 4, constantValue := 0 }, { name := "keys", type := (.array .long), accessFlags := 2, slot := 5, constantValue := 0 }, { name := "places", type := (.array .int), accessFlags := 2, slot := 6, constantValue := 0 }, { name := "numbers", type := (.array (.array .double)), accessFlags := 2, slot := 7, constantValue := 0 }]
  methods := #[k2m0, k2m1, k2m2, k2m3, k2m4, k2m5, k2m6]
  instanceTypes := #[.int, (.array (.array .int)), (.array (.array .char)), (.array .double), .int, (.array .long), (.array .int), (.array (.array .double))]
  staticTypes := #[.int, .int, .int, .int]
  resolved := Array.replicate 144 none
  statics := none }

def pool3 : Array CpInfo := pool [(2, .class_ 4), (1, u "java/lang/Object"), (0, u "<init>"), (0, u "()V"), (7, .class_ 16), (1, u "java/util/Arrays"), (57, .class_ 76), (1, u "java/util/Arrays$NaturalOrder"), (36, .class_ 115), (1, u "java/util/Arrays$LegacyMergeSort"), (1, u "Z"), (257, .class_ 376), (0, u "java/util/Arrays$ArrayList"), (68, u "$assertionsDisabled"), (269, u "MIN_ARRAY_SORT_GRAN"), (0, u "I"), (2, u "INSERTIONSORT_THRESHOLD"), (120, u "fill"), (4, u "([II)V"), (129, .class_ 976), (0, u "java/util/Arrays$ArrayItr")] 52

def k3m0 : Method := { name := "<init>", desc := "()V", sig := { parameters := [], returnType := none }, accessFlags := 2, code := none }
def k3c1 : Code := { maxStack := 3, maxLocals := 4, code := jdk_65_method_103_code, exceptionTable := #[], attributes := #[] }
def k3m1 : Method := { name := "fill", desc := "([II)V", sig := { parameters := [(.array .int), .int], returnType := none }, accessFlags := 9, code := some k3c1 }
/-- java/util/Arrays -/
def k3 : Class := { plain "java/util/Arrays" (some 0) with
  accessFlags := 49
  interfaces := #[]
  cf := some (fileOf pool3 14 #[.nestMembers #[975, 375, 113, 74]] #[{ accessFlags := 2, nameIndex := 5, descriptorIndex := 6, attributes := #[] }, { accessFlags := 9, nameIndex := 840, descriptorIndex := 845, attributes := #[] }] 49 2 #[] #[{ accessFlags := 26, nameIndex := 715, descriptorIndex := 716, attributes := #[] }, { accessFlags := 26, nameIndex := 719, descriptorIndex := 716, attributes := #[] }, { accessFlags := 4120, nameIndex := 445, descriptorIndex := 117, attributes := #[] }])
  fields := #[{ name := "MIN_ARRAY_SORT_GRAN", type := .int, accessFlags := 26, slot := 0, constantValue := 0 }, { name := "INSERTIONSORT_THRESHOLD", type := .int, accessFlags := 26, slot := 1, constantValue := 0 }, { name := "$assertionsDisabled", type := .boolean, accessFlags := 4120, slot := 2, constantValue := 0 }]
  methods := #[k3m0, k3m1]
  instanceTypes := #[]
  staticTypes := #[.int, .int, .boolean]
  resolved := Array.replicate 1029 none
  statics := none }

def pool4 : Array CpInfo := pool [(1, .class_ 2), (0, u "java/io/Serializable"), (0, .class_ 4), (0, u "java/lang/Object")] 2

/-- java/io/Serializable -/
def k4 : Class := { plain "java/io/Serializable" (some 0) with
  accessFlags := 1537
  interfaces := #[]
  cf := some (fileOf pool4 1 #[] #[] 1537 3 #[] #[])
  fields := #[]
  methods := #[]
  instanceTypes := #[]
  staticTypes := #[]
  resolved := Array.replicate 7 none
  statics := none }

def pool5 : Array CpInfo := pool [(2, .class_ 4), (1, u "java/lang/Object"), (0, u "<init>"), (0, u "()V"), (1, .class_ 10), (1, u "java/lang/Number"), (2, .class_ 14), (0, u "java/io/Serializable"), (0, u "serialVersionUID"), (0, u "J")] 20

def k5m0 : Method := { name := "<init>", desc := "()V", sig := { parameters := [], returnType := none }, accessFlags := 1, code := none }
/-- java/lang/Number -/
def k5 : Class := { plain "java/lang/Number" (some 0) with
  accessFlags := 1057
  interfaces := #[4]
  cf := some (fileOf pool5 8 #[] #[{ accessFlags := 1, nameIndex := 5, descriptorIndex := 6, attributes := #[] }] 1057 2 #[13] #[{ accessFlags := 26, nameIndex := 15, descriptorIndex := 16, attributes := #[] }])
  fields := #[{ name := "serialVersionUID", type := .long, accessFlags := 26, slot := 0, constantValue := 0 }]
  methods := #[k5m0]
  instanceTypes := #[]
  staticTypes := #[.long]
  resolved := Array.replicate 37 none
  statics := none }

def pool6 : Array CpInfo := pool [(1, .class_ 2), (0, u "java/lang/Comparable"), (0, .class_ 4), (0, u "java/lang/Object")] 7

/-- java/lang/Comparable -/
def k6 : Class := { plain "java/lang/Comparable" (some 0) with
  accessFlags := 1537
  interfaces := #[]
  cf := some (fileOf pool6 1 #[] #[] 1537 3 #[] #[])
  fields := #[]
  methods := #[]
  instanceTypes := #[]
  staticTypes := #[]
  resolved := Array.replicate 12 none
  statics := none }

def pool7 : Array CpInfo := pool [(1, .class_ 2), (0, u "java/lang/constant/Constable"), (0, .class_ 4), (0, u "java/lang/Object")] 6

/-- java/lang/constant/Constable -/
def k7 : Class := { plain "java/lang/constant/Constable" (some 0) with
  accessFlags := 1537
  interfaces := #[]
  cf := some (fileOf pool7 1 #[] #[] 1537 3 #[] #[])
  fields := #[]
  methods := #[]
  instanceTypes := #[]
  staticTypes := #[]
  resolved := Array.replicate 11 none
  statics := none }

def pool8 : Array CpInfo := pool [(1, .class_ 2), (0, u "java/lang/constant/ConstantDesc"), (0, .class_ 4), (0, u "java/lang/Object")] 32

/-- java/lang/constant/ConstantDesc -/
def k8 : Class := { plain "java/lang/constant/ConstantDesc" (some 0) with
  accessFlags := 1537
  interfaces := #[]
  cf := some (fileOf pool8 1 #[] #[] 1537 3 #[] #[])
  fields := #[]
  methods := #[]
  instanceTypes := #[]
  staticTypes := #[]
  resolved := Array.replicate 37 none
  statics := none }

def pool9 : Array CpInfo := pool [(1, .class_ 2), (0, u "java/lang/Double"), (46, u "(D)J"), (64, .class_ 116), (1, u "java/lang/Number"), (3, u "value"), (0, u "D"), (14, u "doubleToRawLongBits"), (36, u "TYPE"), (0, u "Ljava/lang/Class;"), (0, .class_ 176), (0, u "java/lang/Comparable"), (0, .class_ 178), (0, u "java/lang/constant/Constable"), (0, .class_ 180), (0, u "java/lang/constant/ConstantDesc"), (0, u "POSITIVE_INFINITY"), (3, u "NEGATIVE_INFINITY"), (2, u "NaN"), (2, u "MAX_VALUE"), (0, u "MIN_NORMAL"), (0, u "MIN_VALUE"), (2, u "SIZE"), (0, u "I"), (1, u "PRECISION"), (1, u "MAX_EXPONENT"), (1, u "MIN_EXPONENT"), (1, u "BYTES"), (3, u "serialVersionUID"), (0, u "J")] 79

def k9m0 : Method := { name := "doubleToRawLongBits", desc := "(D)J", sig := { parameters := [.double], returnType := some .long }, accessFlags := 265, code := none }
/-- java/lang/Double -/
def k9 : Class := { plain "java/lang/Double" (some 5) with
  accessFlags := 49
  interfaces := #[6, 7, 8]
  cf := some (fileOf pool9 1 #[] #[{ accessFlags := 265, nameIndex := 136, descriptorIndex := 49, attributes := #[] }] 49 114 #[175, 177, 179] #[{ accessFlags := 25, nameIndex := 181, descriptorIndex := 121, attributes := #[] }, { accessFlags := 25, nameIndex := 185, descriptorIndex := 121, attributes := #[] }, { accessFlags := 25, nameIndex := 188, descriptorIndex := 121, attributes := #[] }, { accessFlags := 25, nameIndex := 191, descriptorIndex := 121, attributes := #[] }, { accessFlags := 25, nameIndex := 192, descriptorIndex := 121, attributes := #[] }, { accessFlags := 25, nameIndex := 193, descriptorIndex := 121, attributes := #[] }, { accessFlags := 25, nameIndex := 196, descriptorIndex := 197, attributes := #[] }, { accessFlags := 25, nameIndex := 199, descriptorIndex := 197, attributes := #[] }, { accessFlags := 25, nameIndex := 201, descriptorIndex := 197, attributes := #[] }, { accessFlags := 25, nameIndex := 203, descriptorIndex := 197, attributes := #[] }, { accessFlags := 25, nameIndex := 205, descriptorIndex := 197, attributes := #[] }, { accessFlags := 25, nameIndex := 173, descriptorIndex := 174, attributes := #[] }, { accessFlags := 18, nameIndex := 120, descriptorIndex := 121, attributes := #[] }, { accessFlags := 26, nameIndex := 209, descriptorIndex := 210, attributes := #[] }])
  fields := #[{ name := "POSITIVE_INFINITY", type := .double, accessFlags := 25, slot := 0, constantValue := 0 }, { name := "NEGATIVE_INFINITY", type := .double, accessFlags := 25, slot := 1, constantValue := 0 }, { name := "NaN", type := .double, accessFlags := 25, slot := 2, constantValue := 0 }, { name := "MAX_VALUE", type := .double, accessFlags := 25, slot := 3, constantValue := 0 }, { name := "MIN_NORMAL", type := .double, accessFlags := 25, slot := 4, constantValue := 0 }, { name := "MIN_VALUE", type := .double, accessFlags := 25, slot := 5, constantValue := 0 }, { name := "SIZE", type := .int, accessFlags := 25, slot := 6, constantValue := 0 }, { name := "PRECISION", type := .int, accessFlags := 25, slot := 7, constantValue := 0 }, { name := "MAX_EXPONENT", type := .int, accessFlags := 25, slot := 8, constantValue := 0 }, { name := "MIN_EXPONENT", type := .int, accessFlags := 25, slot := 9, constantValue := 0 }, { name := "BYTES", type := .int, accessFlags := 25, slot := 10, constantValue := 0 }, { name := "TYPE", type := (.object "java/lang/Class"), accessFlags := 25, slot := 11, constantValue := 0 }, { name := "value", type := .double, accessFlags := 18, slot := 0, constantValue := 0 }, { name := "serialVersionUID", type := .long, accessFlags := 26, slot := 12, constantValue := 0 }]
  methods := #[k9m0]
  instanceTypes := #[.double]
  staticTypes := #[.double, .double, .double, .double, .double, .double, .int, .int, .int, .int, .int, (.object "java/lang/Class"), .long]
  resolved := Array.replicate 290 none
  statics := none }

def pool10 : Array CpInfo := pool [(1, .class_ 2), (0, u "java/lang/Integer"), (16, u "digits"), (0, u "[C"), (33, u "(I)I"), (30, u "DigitOnes"), (0, u "[B"), (2, u "DigitTens"), (99, .class_ 190), (0, u "java/lang/Integer$IntegerCache"), (3, u "I"), (8, .class_ 204), (0, u "java/lang/Number"), (2, u "value"), (56, .integer 65536), (37, u "TYPE"), (0, u "Ljava/lang/Class;"), (0, .class_ 305), (0, u "java/lang/Comparable"), (0, .class_ 307), (0, u "java/lang/constant/Constable"), (0, .class_ 309), (0, u "java/lang/constant/ConstantDesc"), (0, u "MIN_VALUE"), (1, u "MAX_VALUE"), (3, u "SIZE"), (1, u "BYTES"), (1, u "serialVersionUID"), (0, u "J"), (84, u "numberOfTrailingZeros")] 46

def k10c0 : Code := { maxStack := 3, maxLocals := 2, code := jdk_33_method_48_code, exceptionTable := #[], attributes := #[] }
def k10m0 : Method := { name := "numberOfTrailingZeros", desc := "(I)I", sig := { parameters := [.int], returnType := some .int }, accessFlags := 9, code := some k10c0 }
/-- java/lang/Integer -/
def k10 : Class := { plain "java/lang/Integer" (some 5) with
  accessFlags := 49
  interfaces := #[6, 7, 8]
  cf := some (fileOf pool10 1 #[.nestMembers #[189]] #[{ accessFlags := 9, nameIndex := 406, descriptorIndex := 54, attributes := #[] }] 49 203 #[304, 306, 308] #[{ accessFlags := 25, nameIndex := 310, descriptorIndex := 194, attributes := #[] }, { accessFlags := 25, nameIndex := 312, descriptorIndex := 194, attributes := #[] }, { accessFlags := 25, nameIndex := 302, descriptorIndex := 303, attributes := #[] }, { accessFlags := 24, nameIndex := 19, descriptorIndex := 20, attributes := #[] }, { accessFlags := 24, nameIndex := 89, descriptorIndex := 86, attributes := #[] }, { accessFlags := 24, nameIndex := 85, descriptorIndex := 86, attributes := #[] }, { accessFlags := 18, nameIndex := 207, descriptorIndex := 194, attributes := #[] }, { accessFlags := 25, nameIndex := 316, descriptorIndex := 194, attributes := #[] }, { accessFlags := 25, nameIndex := 318, descriptorIndex := 194, attributes := #[] }, { accessFlags := 26, nameIndex := 320, descriptorIndex := 321, attributes := #[] }])
  fields := #[{ name := "MIN_VALUE", type := .int, accessFlags := 25, slot := 0, constantValue := 0 }, { name := "MAX_VALUE", type := .int, accessFlags := 25, slot := 1, constantValue := 0 }, { name := "TYPE", type := (.object "java/lang/Class"), accessFlags := 25, slot := 2, constantValue := 0 }, { name := "digits", type := (.array .char), accessFlags := 24, slot := 3, constantValue := 0 }, { name := "DigitTens", type := (.array .byte), accessFlags := 24, slot := 4, constantValue := 0 }, { name := "DigitOnes", type := (.array .byte), accessFlags := 24, slot := 5, constantValue := 0 }, { name := "value", type := .int, accessFlags := 18, slot := 0, constantValue := 0 }, { name := "SIZE", type := .int, accessFlags := 25, slot := 6, constantValue := 0 }, { name := "BYTES", type := .int, accessFlags := 25, slot := 7, constantValue := 0 }, { name := "serialVersionUID", type := .long, accessFlags := 26, slot := 8, constantValue := 0 }]
  methods := #[k10m0]
  instanceTypes := #[.int]
  staticTypes := #[.int, .int, (.object "java/lang/Class"), (.array .char), (.array .byte), (.array .byte), .int, .int, .long]
  resolved := Array.replicate 453 none
  statics := none }

def pool11 : Array CpInfo := pool [(1, u "java/lang/Cloneable"), (0, .class_ 1), (0, u "java/lang/Object"), (0, .class_ 3)] 3

/-- java/lang/Cloneable -/
def k11 : Class := { plain "java/lang/Cloneable" (some 0) with
  accessFlags := 1537
  interfaces := #[]
  cf := some (fileOf pool11 2 #[] #[] 1537 4 #[] #[])
  fields := #[]
  methods := #[]
  instanceTypes := #[]
  staticTypes := #[]
  resolved := Array.replicate 8 none
  statics := none }

/-- the primitive byte -/
def k12 : Class := { plain "byte" none with kind := .primitive 'B', accessFlags := 0x411 }
/-- [B -/
def k13 : Class := { plain "[B" (some 0) with kind := .array 12 .byte, interfaces := #[11, 4], accessFlags := 1041 }

/-- the primitive char -/
def k14 : Class := { plain "char" none with kind := .primitive 'C', accessFlags := 0x411 }
/-- [C -/
def k15 : Class := { plain "[C" (some 0) with kind := .array 14 .char, interfaces := #[11, 4], accessFlags := 1041 }

/-- the primitive int -/
def k16 : Class := { plain "int" none with kind := .primitive 'I', accessFlags := 0x411 }
/-- [I -/
def k17 : Class := { plain "[I" (some 0) with kind := .array 16 .int, interfaces := #[11, 4], accessFlags := 1041 }

/-- the primitive long -/
def k18 : Class := { plain "long" none with kind := .primitive 'J', accessFlags := 0x411 }
/-- [J -/
def k19 : Class := { plain "[J" (some 0) with kind := .array 18 .long, interfaces := #[11, 4], accessFlags := 1041 }

def k20 : Class := { plain "double" none with kind := .primitive 'D', accessFlags := 0x411 }
def k21 : Class := { plain "[D" (some 0) with kind := .array 20 .double, interfaces := #[11, 4], accessFlags := 1041 }
def k22 : Class := { plain "[[I" (some 0) with kind := .array 17 (.array .int), interfaces := #[11, 4], accessFlags := 1041 }
def k23 : Class := { plain "[[C" (some 0) with kind := .array 15 (.array .char), interfaces := #[11, 4], accessFlags := 1041 }
def heap : Heap := #[]
def classes : Array Class := #[k0, k1, k2, k3, k4, k5, k6, k7, k8, k9, k10, k11, k12, k13, k14, k15, k16, k17, k18, k19, k20, k21, k22, k23]
def interned : List (Array UInt16 × Addr) := []
def slotsUsed : Nat := 0
def theMethod : MethodId := ⟨1, 1⟩
def args0 : Array Value := #[.int 1, .int 2, .int 3, .int 4, .int 5, .int 6]
def aboutOver (below : List Frame) : State where
  vm := { classes := classes, interned := interned.toArray }
  heap := heap
  slotsUsed := slotsUsed
  threads := #[{ frames := .invoking theMethod args0 :: below }]
def below0 : List Frame := [.native { method := ⟨0, 0⟩, args := #[] }]
def about1 : State := aboutOver below0
def p0 : Program := .bare "" "" ""
def e0 : Env := launch0.env 0 0 0
theorem w_frames : about1.frames = Frame.invoking theMethod args0 :: below0 := rfl
set_option maxRecDepth 65536 in
theorem w_args : argsFit about1.vm theMethod args0 = true := by decide +kernel
set_option maxRecDepth 65536 in
theorem w_heap : heapFits about1 = true := by decide +kernel
set_option maxRecDepth 65536 in
theorem w_runnable : about1.curStatus? = some .runnable := by decide +kernel
set_option maxRecDepth 65536 in
theorem w_alone : about1.alone = true := by decide +kernel
set_option maxRecDepth 65536 in
theorem w_named : about1.methodNamed? x = some theMethod := by decide +kernel
set_option maxRecDepth 65536 in
theorem w_hears : about1.hears theMethod below0 = true := by decide +kernel
set_option maxRecDepth 65536 in
theorem w_ripe : about1.ripe theMethod args0 below0 = true := by decide +kernel
theorem w_running : about1.status = .running := rfl
set_option maxRecDepth 65536 in
theorem w_room : about1.hasRoom e0.platform room_1 = true :=
  launch0.hasRoom_least _ room_1 (by decide +kernel) (by decide +kernel) (by decide +kernel) (by decide +kernel) (by decide +kernel) (by decide +kernel)
theorem allAtoms_all (ts : List Jvm.Cond) (a : Array Jvm.Value) (st : Jvm.State) : (allAtoms ts).before a st = ts.all (fun c => c.before a st) := by
  induction ts with
  | nil => rfl
  | cons c t ih =>
    show (Jvm.Cond.and c (allAtoms t)).before a st = _
    rw [Jvm.Cond.before_and, ih, List.all_cons]
def words1 : List Jvm.Cond := Jvm.Cond.code x code maxLocals ret :: tables_1
/-- a 'code' word, met by the world's own term for the bytes: nothing is compared byte by byte -/
theorem code_word {y : MethodName} {bytes : ByteArray} {mx : Nat} {rt : Option FieldType} {a : Array Value} {s : State} {m : MethodId} {meth : Method} {c : Code} (h1 : s.methodNamed? y = some m) (h2 : s.vm.method? m = some meth) (h3 : meth.code = some c) (h4 : c.code = bytes)
    (h5 : (c.maxLocals == mx && c.exceptionTable.isEmpty && decide (c.maxStack ≤ mostOperands) && decide (meth.sig.returnType = rt) && !meth.locks && decide (parseMethodDescriptor y.desc = some meth.sig)) = true) : (Jvm.Cond.code y bytes mx rt).before a s = true := by
  simp only [Bool.and_eq_true, beq_iff_eq, Bool.not_eq_true', decide_eq_true_eq] at h5
  obtain ⟨⟨⟨⟨⟨g1, g2⟩, g3⟩, g4⟩, g5⟩, g6⟩ := h5
  simp [Cond.before, Cond.holds, Cond.value, h1, h2, h3, h4, g1, g2, g3, g4, g5, g6]
def isCode : Jvm.Cond → Bool
  | .code _ _ _ _ => true
  | _ => false
theorem all_split {L : List Jvm.Cond} {P : Jvm.Cond → Bool} (h1 : L.all (fun c => isCode c || P c) = true) (h2 : ∀ c ∈ L.filter isCode, P c = true) : L.all P = true := by
  refine List.all_eq_true.mpr fun c hc => ?_
  have h := List.all_eq_true.mp h1 c hc
  rcases Bool.eq_false_or_eq_true (isCode c) with hi | hi
  · exact h2 c (List.mem_filter.mpr ⟨hc, hi⟩)
  · simpa [hi] using h
set_option maxRecDepth 65536 in
theorem w_c0 : (Jvm.Cond.code x code maxLocals ret).before args0 about1 = true := code_word (m := ⟨1, 1⟩) (meth := k1m1) (c := k1c1) (by decide +kernel) rfl rfl rfl (by decide +kernel)
set_option maxRecDepth 65536 in
theorem w_c1 : (Jvm.Cond.code ({ cls := "com/example/knotweed/knotweed/engine/TransitionList", name := "<init>", desc := "()V" } : Jvm.MethodName) prog_102_method_1_code (1 : Nat) (Option.none : Option Jvm.ClassFile.FieldType)).before args0 about1 = true := code_word (m := ⟨2, 0⟩) (meth := k2m0) (c := k2c0) (by decide +kernel) rfl rfl rfl (by decide +kernel)
set_option maxRecDepth 65536 in
theorem w_c2 : (Jvm.Cond.code ({ cls := "java/lang/Object", name := "<init>", desc := "()V" } : Jvm.MethodName) object_method_1_code (1 : Nat) (Option.none : Option Jvm.ClassFile.FieldType)).before args0 about1 = true := code_word (m := ⟨0, 0⟩) (meth := k0m0) (c := k0c0) (by decide +kernel) rfl rfl rfl (by decide +kernel)
set_option maxRecDepth 65536 in
theorem w_c3 : (Jvm.Cond.code ({ cls := "com/example/knotweed/knotweed/engine/TransitionList", name := "emptyPlaces", desc := "(I)[I" } : Jvm.MethodName) prog_102_method_15_code (2 : Nat) (Option.some (Jvm.ClassFile.FieldType.array Jvm.ClassFile.FieldType.int))).before args0 about1 = true := code_word (m := ⟨2, 6⟩) (meth := k2m6) (c := k2c6) (by decide +kernel) rfl rfl rfl (by decide +kernel)
set_option maxRecDepth 65536 in
theorem w_c4 : (Jvm.Cond.code ({ cls := "java/util/Arrays", name := "fill", desc := "([II)V" } : Jvm.MethodName) jdk_65_method_103_code (4 : Nat) (Option.none : Option Jvm.ClassFile.FieldType)).before args0 about1 = true := code_word (m := ⟨3, 1⟩) (meth := k3m1) (c := k3c1) (by decide +kernel) rfl rfl rfl (by decide +kernel)
set_option maxRecDepth 65536 in
theorem w_c5 : (Jvm.Cond.code ({ cls := "com/example/knotweed/knotweed/engine/TransitionList", name := "add", desc := "(ID)V" } : Jvm.MethodName) prog_102_method_3_code (7 : Nat) (Option.none : Option Jvm.ClassFile.FieldType)).before args0 about1 = true := code_word (m := ⟨2, 1⟩) (meth := k2m1) (c := k2c1) (by decide +kernel) rfl rfl rfl (by decide +kernel)
set_option maxRecDepth 65536 in
theorem w_c6 : (Jvm.Cond.code ({ cls := "com/example/knotweed/knotweed/engine/TransitionList", name := "addBlock", desc := "(I)V" } : Jvm.MethodName) prog_102_method_11_code (2 : Nat) (Option.none : Option Jvm.ClassFile.FieldType)).before args0 about1 = true := code_word (m := ⟨2, 3⟩) (meth := k2m3) (c := k2c3) (by decide +kernel) rfl rfl rfl (by decide +kernel)
set_option maxRecDepth 65536 in
theorem w_c7 : (Jvm.Cond.code ({ cls := "com/example/knotweed/knotweed/engine/TransitionList", name := "indexOf", desc := "(D)I" } : Jvm.MethodName) prog_102_method_12_code (8 : Nat) (Option.some Jvm.ClassFile.FieldType.int)).before args0 about1 = true := code_word (m := ⟨2, 4⟩) (meth := k2m4) (c := k2c4) (by decide +kernel) rfl rfl rfl (by decide +kernel)
set_option maxRecDepth 65536 in
theorem w_c8 : (Jvm.Cond.code ({ cls := "com/example/knotweed/knotweed/engine/TransitionList", name := "slotOf", desc := "(J)I" } : Jvm.MethodName) prog_102_method_13_code (3 : Nat) (Option.some Jvm.ClassFile.FieldType.int)).before args0 about1 = true := code_word (m := ⟨2, 5⟩) (meth := k2m5) (c := k2c5) (by decide +kernel) rfl rfl rfl (by decide +kernel)
set_option maxRecDepth 65536 in
theorem w_c9 : (Jvm.Cond.code ({ cls := "java/lang/Integer", name := "numberOfTrailingZeros", desc := "(I)I" } : Jvm.MethodName) jdk_33_method_48_code (2 : Nat) (Option.some Jvm.ClassFile.FieldType.int)).before args0 about1 = true := code_word (m := ⟨10, 0⟩) (meth := k10m0) (c := k10c0) (by decide +kernel) rfl rfl rfl (by decide +kernel)
set_option maxRecDepth 65536 in
theorem w_c10 : (Jvm.Cond.code ({ cls := "com/example/knotweed/knotweed/engine/TransitionList", name := "getNumber", desc := "(I)D" } : Jvm.MethodName) prog_102_method_5_code (4 : Nat) (Option.some Jvm.ClassFile.FieldType.double)).before args0 about1 = true := code_word (m := ⟨2, 2⟩) (meth := k2m2) (c := k2c2) (by decide +kernel) rfl rfl rfl (by decide +kernel)
def codes1 : List Jvm.Cond := [Jvm.Cond.code x code maxLocals ret, Jvm.Cond.code ({ cls := "com/example/knotweed/knotweed/engine/TransitionList", name := "<init>", desc := "()V" } : Jvm.MethodName) prog_102_method_1_code (1 : Nat) (Option.none : Option Jvm.ClassFile.FieldType), Jvm.Cond.code ({ cls := "java/lang/Object", name := "<init>", desc := "()V" } : Jvm.MethodName) object_method_1_code (1 : Nat) (Option.none : Option Jvm.ClassFile.FieldType), Jvm.Cond.code ({ cls := "com/example/knotweed/knotweed/engine/TransitionList", name := "emptyPlaces", desc := "(I)[I" } : Jvm.MethodName) prog_102_method_15_code (2 : Nat) (Option.some (Jvm.ClassFile.FieldType.array Jvm.ClassFile.FieldType.int)), Jvm.Cond.code ({ cls := "java/util/Arrays", name := "fill", desc := "([II)V" } : Jvm.MethodName) jdk_65_method_103_code (4 : Nat) (Option.none : Option Jvm.ClassFile.FieldType), Jvm.Cond.code ({ cls := "com/example/knotweed/knotweed/engine/TransitionList", name := "add", desc := "(ID)V" } : Jvm.MethodName) prog_102_method_3_code (7 : Nat) (Option.none : Option Jvm.ClassFile.FieldType), Jvm.Cond.code ({ cls := "com/example/knotweed/knotweed/engine/TransitionList", name := "addBlock", desc := "(I)V" } : Jvm.MethodName) prog_102_method_11_code (2 : Nat) (Option.none : Option Jvm.ClassFile.FieldType), Jvm.Cond.code ({ cls := "com/example/knotweed/knotweed/engine/TransitionList", name := "indexOf", desc := "(D)I" } : Jvm.MethodName) prog_102_method_12_code (8 : Nat) (Option.some Jvm.ClassFile.FieldType.int), Jvm.Cond.code ({ cls := "com/example/knotweed/knotweed/engine/TransitionList", name := "slotOf", desc := "(J)I" } : Jvm.MethodName) prog_102_method_13_code (3 : Nat) (Option.some Jvm.ClassFile.FieldType.int), Jvm.Cond.code ({ cls := "java/lang/Integer", name := "numberOfTrailingZeros", desc := "(I)I" } : Jvm.MethodName) jdk_33_method_48_code (2 : Nat) (Option.some Jvm.ClassFile.FieldType.int), Jvm.Cond.code ({ cls := "com/example/knotweed/knotweed/engine/TransitionList", name := "getNumber", desc := "(I)D" } : Jvm.MethodName) prog_102_method_5_code (4 : Nat) (Option.some Jvm.ClassFile.FieldType.double)]
set_option maxRecDepth 65536 in
theorem codes_eq : words1.filter isCode = codes1 := rfl
theorem w_codes : ∀ c ∈ words1.filter isCode, c.before args0 about1 = true := by
  rw [codes_eq]
  intro c hc
  simp only [codes1, List.mem_cons, List.not_mem_nil, or_false] at hc
  rcases hc with rfl | rfl | rfl | rfl | rfl | rfl | rfl | rfl | rfl | rfl | rfl
  · exact w_c0
  · exact w_c1
  · exact w_c2
  · exact w_c3
  · exact w_c4
  · exact w_c5
  · exact w_c6
  · exact w_c7
  · exact w_c8
  · exact w_c9
  · exact w_c10
set_option maxRecDepth 65536 in
theorem w_t1 : (words1.take 24).all (fun c => isCode c || c.before args0 about1) = true := by decide +kernel
set_option maxRecDepth 65536 in
theorem w_t2 : ((words1.drop 24).take 24).all (fun c => isCode c || c.before args0 about1) = true := by decide +kernel
set_option maxRecDepth 65536 in
theorem w_t3 : (((words1.drop 24).drop 24).take 24).all (fun c => isCode c || c.before args0 about1) = true := by decide +kernel
set_option maxRecDepth 65536 in
theorem w_t4 : (((words1.drop 24).drop 24).drop 24).all (fun c => isCode c || c.before args0 about1) = true := by decide +kernel
theorem w_tables : (allAtoms (Jvm.Cond.code x code maxLocals ret :: tables_1)).before args0 about1 = true := by
  rw [allAtoms_all]
  show words1.all (fun c => c.before args0 about1) = true
  refine all_split ?_ w_codes
  rw [← List.take_append_drop 24 words1, List.all_append, w_t1, ← List.take_append_drop 24 (words1.drop 24), List.all_append, w_t2, ← List.take_append_drop 24 ((words1.drop 24).drop 24), List.all_append, w_t3, w_t4]
  rfl
set_option maxRecDepth 65536 in
theorem w_case : (Jvm.Cond.and given_1 narrow_1).before args0 about1 = true := by decide +kernel
theorem w_applies : (headSpec (Jvm.Cond.code x code maxLocals ret :: tables_1) room_1).applies x e0.platform about1 = true :=
  (Spec.applies_iff w_frames).mpr ⟨w_running, w_runnable, w_alone, w_named, w_hears, w_ripe, w_room, w_tables⟩
theorem atStart : AtStart classFile x code maxLocals ret World_1 tables_1 room_1 Calls_1 rest_1 Pre_1 launch0 p0 e0 about1 theMethod args0 below0 :=
  ⟨lists_1, trivial, launch0.admits_env _ _ _, launch0.least_env, fairChoices_fair.cas, fairChoices_fair.clock, w_frames, w_args, w_heap, w_applies, trivial, trivial, w_case⟩
end start1
theorem witness_1 : WitnessClaimed_1 := ⟨start1.p0, start1.e0, start1.about1, start1.theMethod, start1.args0, start1.below0, start1.atStart⟩
end Jvm.Pilot.@@N@@
