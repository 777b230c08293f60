import JvmDerived
import JvmDerived.Pilot.@@N@@Statement
import JvmDerived.Pilot.@@N@@Code
set_option linter.unusedVariables false
set_option linter.unusedSimpArgs false
namespace Jvm.Pilot.@@N@@
open Jvm Jvm.ClassFile Sem Op Lib Jvm.Free Jvm.Stand Jvm.LawKit Jvm.RoadKit Bundle Jvm.Pilot.@@N@@.Jvm.D
section OwnLayer
variable {p : Program} {l : Launch} {e : Env} {R : Room} {s : State} {m : MethodId} {args : Array Value} {below : List Frame} {meth : Method} {c : Code} {T : State} {locs : List Loc} {cells slots : Nat}
/-- what is to be shown from the state S on: the run comes back, Q holds of what it leaves -/
def own_G (p : Program) (e : Env) (below : List Frame) (s : State) (k n : Nat) (Q : Option Value → Heap → List Loc → Prop) (S : State) : Prop :=
  ∃ t o, Steps p.tables e below S t ∧ t.status = .running ∧ Ended t below o ∧ ∃ v L, o = .returned v ∧ Q v t.heap L ∧ FrameEnd s o t L k n
theorem own_to {k n : Nat} {Q : Option Value → Heap → List Loc → Prop} {S S' : State} (h : ∀ t, Steps p.tables e below S' t → Steps p.tables e below S t) (g : own_G p e below s k n Q S') : own_G p e below s k n Q S := by
  obtain ⟨t, o, h1, h2⟩ := g
  exact ⟨t, o, h t h1, h2⟩
theorem own_retI {k n : Nat} {Q : Option Value → Heap → List Loc → Prop} (X : Stand p l e R s m args below meth c T locs cells slots) (hx : p.tables.exec = Jvm.exec) {pc : Nat} {Ls : Array Slot} {z : Int32} (hret : meth.sig.returnType = some .int) (hd : decode c.code pc = .ok (.ireturn, 1)) (hlk : meth.locks = false) (hk : cells ≤ k) (hn : slots ≤ n) (hq : Q (some (.int z)) T.heap locs) :
    own_G p e below s k n Q (T.setTop (mkF m pc Ls [.int z])) := by
  obtain ⟨fs, hr, hrun, hended, hW, hsame⟩ := X.leave (v := some (.int z)) (fun h => by rw [hret] at h; cases h) hlk
  exact ⟨_, _, X.ireturnOut hx hret rfl (Or.inl rfl) hd hr, hrun, hended, _, _, rfl, hq, ⟨_, rfl⟩, hW, hsame.mono hk hn⟩
theorem own_retN {k n : Nat} {Q : Option Value → Heap → List Loc → Prop} (X : Stand p l e R s m args below meth c T locs cells slots) (hx : p.tables.exec = Jvm.exec) {pc : Nat} {Ls : Array Slot} {z : Int32} {t : FieldType} {rest : List Value} (hret : meth.sig.returnType = some t) (ht : t = .boolean ∨ t = .byte ∨ t = .char ∨ t = .short) (hd : decode c.code pc = .ok (.ireturn, 1)) (hlk : meth.locks = false) (hk : cells ≤ k) (hn : slots ≤ n) (hq : Q (some (.int (nar t z))) T.heap locs) :
    own_G p e below s k n Q (T.setTop (mkF m pc Ls (.int z :: rest))) := by
  obtain ⟨fs, hr, hrun, hended, hW, hsame⟩ := X.leave (v := some (.int (nar t z))) (fun h => by rw [hret] at h; cases h) hlk
  exact ⟨_, _, retN X hx hret ht hd hr, hrun, hended, _, _, rfl, hq, ⟨_, rfl⟩, hW, hsame.mono hk hn⟩
theorem own_retJ {k n : Nat} {Q : Option Value → Heap → List Loc → Prop} (X : Stand p l e R s m args below meth c T locs cells slots) (hx : p.tables.exec = Jvm.exec) {pc : Nat} {Ls : Array Slot} {z : Int64} (hret : meth.sig.returnType = some .long) (hd : decode c.code pc = .ok (.lreturn, 1)) (hlk : meth.locks = false) (hk : cells ≤ k) (hn : slots ≤ n) (hq : Q (some (.long z)) T.heap locs) :
    own_G p e below s k n Q (T.setTop (mkF m pc Ls [.long z])) := by
  obtain ⟨fs, hr, hrun, hended, hW, hsame⟩ := X.leave (v := some (.long z)) (fun h => by rw [hret] at h; cases h) hlk
  exact ⟨_, _, X.lreturnOut hx hret hd hr, hrun, hended, _, _, rfl, hq, ⟨_, rfl⟩, hW, hsame.mono hk hn⟩
theorem own_retA {k n : Nat} {Q : Option Value → Heap → List Loc → Prop} (X : Stand p l e R s m args below meth c T locs cells slots) (hx : p.tables.exec = Jvm.exec) {pc : Nat} {Ls : Array Slot} {w : Value} {t : FieldType} (hw : w.isRef = true) (hret : meth.sig.returnType = some t) (ht : t.isReference = true) (hd : decode c.code pc = .ok (.areturn, 1)) (hlk : meth.locks = false) (hk : cells ≤ k) (hn : slots ≤ n) (hq : Q (some w) T.heap locs) :
    own_G p e below s k n Q (T.setTop (mkF m pc Ls [w])) := by
  obtain ⟨fs, hr, hrun, hended, hW, hsame⟩ := X.leave (v := some w) (fun h => by rw [hret] at h; cases h) hlk
  exact ⟨_, _, X.areturnOut hx hw hret ht hd hr, hrun, hended, _, _, rfl, hq, ⟨_, rfl⟩, hW, hsame.mono hk hn⟩
theorem own_retV {k n : Nat} {Q : Option Value → Heap → List Loc → Prop} (X : Stand p l e R s m args below meth c T locs cells slots) (hx : p.tables.exec = Jvm.exec) {pc : Nat} {Ls : Array Slot} (hret : meth.sig.returnType = none) (hd : decode c.code pc = .ok (.return_, 1)) (hlk : meth.locks = false) (hk : cells ≤ k) (hn : slots ≤ n) (hq : Q none T.heap locs) :
    own_G p e below s k n Q (T.setTop (mkF m pc Ls [])) := by
  obtain ⟨fs, hr, hrun, hended, hW, hsame⟩ := X.leave (v := none) (fun _ => rfl) hlk
  exact ⟨_, _, X.returnOut hx hret hd hr, hrun, hended, _, _, rfl, hq, ⟨_, rfl⟩, hW, hsame.mono hk hn⟩
end OwnLayer
/-- a callee that leaves the heap as it was and returns r -/
def own_Qp (r : Option Value) (h0 : Heap) (n0 : Nat) (v : Option Value) (h : Heap) (L : List Loc) : Prop := v = r ∧ Fr n0 L ∧ h = h0
/-- the law itself -/
def own_Ql (n0 : Nat) (v : Option Value) (h : Heap) (L : List Loc) : Prop := v = some (.int 1) ∧ Fr n0 L
/-- a reference's int field, out of the case's words -/
theorem own_ord {args : Array Value} {s : State} {t : Jvm.Term} {C n d : String} {k : Int32} {x : Addr} (ht : t.eval args s none [] s = some (.ref x)) (h : (Jvm.Cond.eq (.field t C n d) (.int k)).value args s none s [] = some true) : s.fieldOf? x C n d = some (.int k) := by
  obtain ⟨u, w, e1, e2, K1, K2⟩ := cmp_v (Or.inl h)
  have e3 : some w = some (.int k) := e2.symm.trans (Term.int_eval k)
  obtain rfl := Option.some.inj e3
  obtain ⟨z, rfl⟩ := K2
  have e4 := gotT (Cond.eq_ints e1 e2) h
  rw [fld_at ht] at e1
  rw [e1, e4]
theorem own_ord_ne {s : State} {C n d : String} {x y : Addr} {k k' : Int32} (h : s.fieldOf? x C n d = some (.int k)) (h' : s.fieldOf? y C n d = some (.int k')) (hk : k ≠ k') : ¬ (x = y) := fun q => by
  subst q
  rw [h] at h'
  exact hk (Value.int.inj (Option.some.inj h'))
theorem own_pn0 : plainName "com/example/keyspace/keyspace/protocol/Decimal" = true := by first | (simp [plainName, overriddenIn]; done) | decide +kernel
theorem own_pn1 : plainName "com/example/keyspace/keyspace/protocol/DecimalPutPinLaw" = true := by first | (simp [plainName, overriddenIn]; done) | decide +kernel
theorem own_pd0 : parseMethodDescriptor "(J[BI)I" = some ⟨[.long, .array .byte, .int], some .int⟩ := by decide +kernel
theorem own_pd1 : parseMethodDescriptor "([BII)J" = some ⟨[.array .byte, .int, .int], some .long⟩ := by decide +kernel
theorem d_prog_21_method_5_0 : decode prog_21_method_5_code 0 = .ok (.lload_n 0, 1) := by decide +kernel
theorem d_prog_21_method_5_1 : decode prog_21_method_5_code 1 = .ok (.lconst 0, 1) := by decide +kernel
theorem d_prog_21_method_5_2 : decode prog_21_method_5_code 2 = .ok (.lcmp, 1) := by decide +kernel
theorem d_prog_21_method_5_3 : decode prog_21_method_5_code 3 = .ok (.ifCond .ge 7, 3) := by decide +kernel
theorem d_prog_21_method_5_6 : decode prog_21_method_5_code 6 = .ok (.lload_n 0, 1) := by decide +kernel
theorem d_prog_21_method_5_7 : decode prog_21_method_5_code 7 = .ok (.goto 5, 3) := by decide +kernel
theorem d_prog_21_method_5_10 : decode prog_21_method_5_code 10 = .ok (.lload_n 0, 1) := by decide +kernel
theorem d_prog_21_method_5_11 : decode prog_21_method_5_code 11 = .ok (.lneg, 1) := by decide +kernel
theorem d_prog_21_method_5_12 : decode prog_21_method_5_code 12 = .ok (.lstore 4, 2) := by decide +kernel
theorem d_prog_21_method_5_14 : decode prog_21_method_5_code 14 = .ok (.iconst 1, 1) := by decide +kernel
theorem d_prog_21_method_5_15 : decode prog_21_method_5_code 15 = .ok (.istore 6, 2) := by decide +kernel
theorem d_prog_21_method_5_17 : decode prog_21_method_5_code 17 = .ok (.lload 4, 2) := by decide +kernel
theorem d_prog_21_method_5_19 : decode prog_21_method_5_code 19 = .ok (.ldc2_w 21, 3) := by decide +kernel
theorem d_prog_21_method_5_22 : decode prog_21_method_5_code 22 = .ok (.ldiv, 1) := by decide +kernel
theorem d_prog_21_method_5_23 : decode prog_21_method_5_code 23 = .ok (.lstore 7, 2) := by decide +kernel
theorem d_prog_21_method_5_25 : decode prog_21_method_5_code 25 = .ok (.lload 7, 2) := by decide +kernel
theorem d_prog_21_method_5_27 : decode prog_21_method_5_code 27 = .ok (.lconst 0, 1) := by decide +kernel
theorem d_prog_21_method_5_28 : decode prog_21_method_5_code 28 = .ok (.lcmp, 1) := by decide +kernel
theorem d_prog_21_method_5_29 : decode prog_21_method_5_code 29 = .ok (.ifCond .eq 17, 3) := by decide +kernel
theorem d_prog_21_method_5_32 : decode prog_21_method_5_code 32 = .ok (.iinc 6 1, 3) := by decide +kernel
theorem d_prog_21_method_5_35 : decode prog_21_method_5_code 35 = .ok (.lload 7, 2) := by decide +kernel
theorem d_prog_21_method_5_37 : decode prog_21_method_5_code 37 = .ok (.ldc2_w 21, 3) := by decide +kernel
theorem d_prog_21_method_5_40 : decode prog_21_method_5_code 40 = .ok (.ldiv, 1) := by decide +kernel
theorem d_prog_21_method_5_41 : decode prog_21_method_5_code 41 = .ok (.lstore 7, 2) := by decide +kernel
theorem d_prog_21_method_5_43 : decode prog_21_method_5_code 43 = .ok (.goto (-18), 3) := by decide +kernel
theorem d_prog_21_method_5_46 : decode prog_21_method_5_code 46 = .ok (.lload_n 0, 1) := by decide +kernel
theorem d_prog_21_method_5_47 : decode prog_21_method_5_code 47 = .ok (.lconst 0, 1) := by decide +kernel
theorem d_prog_21_method_5_48 : decode prog_21_method_5_code 48 = .ok (.lcmp, 1) := by decide +kernel
theorem d_prog_21_method_5_49 : decode prog_21_method_5_code 49 = .ok (.ifCond .ge 12, 3) := by decide +kernel
theorem d_prog_21_method_5_52 : decode prog_21_method_5_code 52 = .ok (.iload_n 3, 1) := by decide +kernel
theorem d_prog_21_method_5_53 : decode prog_21_method_5_code 53 = .ok (.iload 6, 2) := by decide +kernel
theorem d_prog_21_method_5_55 : decode prog_21_method_5_code 55 = .ok (.iadd, 1) := by decide +kernel
theorem d_prog_21_method_5_56 : decode prog_21_method_5_code 56 = .ok (.iconst 1, 1) := by decide +kernel
theorem d_prog_21_method_5_57 : decode prog_21_method_5_code 57 = .ok (.iadd, 1) := by decide +kernel
theorem d_prog_21_method_5_58 : decode prog_21_method_5_code 58 = .ok (.goto 7, 3) := by decide +kernel
theorem d_prog_21_method_5_61 : decode prog_21_method_5_code 61 = .ok (.iload_n 3, 1) := by decide +kernel
theorem d_prog_21_method_5_62 : decode prog_21_method_5_code 62 = .ok (.iload 6, 2) := by decide +kernel
theorem d_prog_21_method_5_64 : decode prog_21_method_5_code 64 = .ok (.iadd, 1) := by decide +kernel
theorem d_prog_21_method_5_65 : decode prog_21_method_5_code 65 = .ok (.istore 7, 2) := by decide +kernel
theorem d_prog_21_method_5_67 : decode prog_21_method_5_code 67 = .ok (.iload 7, 2) := by decide +kernel
theorem d_prog_21_method_5_69 : decode prog_21_method_5_code 69 = .ok (.iconst 1, 1) := by decide +kernel
theorem d_prog_21_method_5_70 : decode prog_21_method_5_code 70 = .ok (.isub, 1) := by decide +kernel
theorem d_prog_21_method_5_71 : decode prog_21_method_5_code 71 = .ok (.istore 8, 2) := by decide +kernel
theorem d_prog_21_method_5_73 : decode prog_21_method_5_code 73 = .ok (.iload 8, 2) := by decide +kernel
theorem d_prog_21_method_5_75 : decode prog_21_method_5_code 75 = .ok (.iload 7, 2) := by decide +kernel
theorem d_prog_21_method_5_77 : decode prog_21_method_5_code 77 = .ok (.iload 6, 2) := by decide +kernel
theorem d_prog_21_method_5_79 : decode prog_21_method_5_code 79 = .ok (.isub, 1) := by decide +kernel
theorem d_prog_21_method_5_80 : decode prog_21_method_5_code 80 = .ok (.if_icmp .lt 33, 3) := by decide +kernel
theorem d_prog_21_method_5_83 : decode prog_21_method_5_code 83 = .ok (.aload_n 2, 1) := by decide +kernel
theorem d_prog_21_method_5_84 : decode prog_21_method_5_code 84 = .ok (.iload 8, 2) := by decide +kernel
theorem d_prog_21_method_5_86 : decode prog_21_method_5_code 86 = .ok (.ldc2_w 35, 3) := by decide +kernel
theorem d_prog_21_method_5_89 : decode prog_21_method_5_code 89 = .ok (.lload 4, 2) := by decide +kernel
theorem d_prog_21_method_5_91 : decode prog_21_method_5_code 91 = .ok (.ldc2_w 21, 3) := by decide +kernel
theorem d_prog_21_method_5_94 : decode prog_21_method_5_code 94 = .ok (.lrem, 1) := by decide +kernel
theorem d_prog_21_method_5_95 : decode prog_21_method_5_code 95 = .ok (.lsub, 1) := by decide +kernel
theorem d_prog_21_method_5_96 : decode prog_21_method_5_code 96 = .ok (.l2i, 1) := by decide +kernel
theorem d_prog_21_method_5_97 : decode prog_21_method_5_code 97 = .ok (.i2b, 1) := by decide +kernel
theorem d_prog_21_method_5_98 : decode prog_21_method_5_code 98 = .ok (.bastore, 1) := by decide +kernel
theorem d_prog_21_method_5_99 : decode prog_21_method_5_code 99 = .ok (.lload 4, 2) := by decide +kernel
theorem d_prog_21_method_5_101 : decode prog_21_method_5_code 101 = .ok (.ldc2_w 21, 3) := by decide +kernel
theorem d_prog_21_method_5_104 : decode prog_21_method_5_code 104 = .ok (.ldiv, 1) := by decide +kernel
theorem d_prog_21_method_5_105 : decode prog_21_method_5_code 105 = .ok (.lstore 4, 2) := by decide +kernel
theorem d_prog_21_method_5_107 : decode prog_21_method_5_code 107 = .ok (.iinc 8 (-1), 3) := by decide +kernel
theorem d_prog_21_method_5_110 : decode prog_21_method_5_code 110 = .ok (.goto (-37), 3) := by decide +kernel
theorem d_prog_21_method_5_113 : decode prog_21_method_5_code 113 = .ok (.lload_n 0, 1) := by decide +kernel
theorem d_prog_21_method_5_114 : decode prog_21_method_5_code 114 = .ok (.lconst 0, 1) := by decide +kernel
theorem d_prog_21_method_5_115 : decode prog_21_method_5_code 115 = .ok (.lcmp, 1) := by decide +kernel
theorem d_prog_21_method_5_116 : decode prog_21_method_5_code 116 = .ok (.ifCond .ge 8, 3) := by decide +kernel
theorem d_prog_21_method_5_119 : decode prog_21_method_5_code 119 = .ok (.aload_n 2, 1) := by decide +kernel
theorem d_prog_21_method_5_120 : decode prog_21_method_5_code 120 = .ok (.iload_n 3, 1) := by decide +kernel
theorem d_prog_21_method_5_121 : decode prog_21_method_5_code 121 = .ok (.bipush 45, 2) := by decide +kernel
theorem d_prog_21_method_5_123 : decode prog_21_method_5_code 123 = .ok (.bastore, 1) := by decide +kernel
theorem d_prog_21_method_5_124 : decode prog_21_method_5_code 124 = .ok (.iload 7, 2) := by decide +kernel
theorem d_prog_21_method_5_126 : decode prog_21_method_5_code 126 = .ok (.ireturn, 1) := by decide +kernel
theorem d_prog_21_method_3_0 : decode prog_21_method_3_code 0 = .ok (.iload_n 1, 1) := by decide +kernel
theorem d_prog_21_method_3_1 : decode prog_21_method_3_code 1 = .ok (.iload_n 2, 1) := by decide +kernel
theorem d_prog_21_method_3_2 : decode prog_21_method_3_code 2 = .ok (.if_icmp .ge 15, 3) := by decide +kernel
theorem d_prog_21_method_3_5 : decode prog_21_method_3_code 5 = .ok (.aload_n 0, 1) := by decide +kernel
theorem d_prog_21_method_3_6 : decode prog_21_method_3_code 6 = .ok (.iload_n 1, 1) := by decide +kernel
theorem d_prog_21_method_3_7 : decode prog_21_method_3_code 7 = .ok (.baload, 1) := by decide +kernel
theorem d_prog_21_method_3_8 : decode prog_21_method_3_code 8 = .ok (.bipush 45, 2) := by decide +kernel
theorem d_prog_21_method_3_10 : decode prog_21_method_3_code 10 = .ok (.if_icmp .ne 7, 3) := by decide +kernel
theorem d_prog_21_method_3_13 : decode prog_21_method_3_code 13 = .ok (.iconst 1, 1) := by decide +kernel
theorem d_prog_21_method_3_14 : decode prog_21_method_3_code 14 = .ok (.goto 4, 3) := by decide +kernel
theorem d_prog_21_method_3_17 : decode prog_21_method_3_code 17 = .ok (.iconst 0, 1) := by decide +kernel
theorem d_prog_21_method_3_18 : decode prog_21_method_3_code 18 = .ok (.istore_n 3, 1) := by decide +kernel
theorem d_prog_21_method_3_19 : decode prog_21_method_3_code 19 = .ok (.iload_n 3, 1) := by decide +kernel
theorem d_prog_21_method_3_20 : decode prog_21_method_3_code 20 = .ok (.ifCond .eq 9, 3) := by decide +kernel
theorem d_prog_21_method_3_23 : decode prog_21_method_3_code 23 = .ok (.iload_n 1, 1) := by decide +kernel
theorem d_prog_21_method_3_24 : decode prog_21_method_3_code 24 = .ok (.iconst 1, 1) := by decide +kernel
theorem d_prog_21_method_3_25 : decode prog_21_method_3_code 25 = .ok (.iadd, 1) := by decide +kernel
theorem d_prog_21_method_3_26 : decode prog_21_method_3_code 26 = .ok (.goto 4, 3) := by decide +kernel
theorem d_prog_21_method_3_29 : decode prog_21_method_3_code 29 = .ok (.iload_n 1, 1) := by decide +kernel
theorem d_prog_21_method_3_30 : decode prog_21_method_3_code 30 = .ok (.istore 4, 2) := by decide +kernel
theorem d_prog_21_method_3_32 : decode prog_21_method_3_code 32 = .ok (.iload 4, 2) := by decide +kernel
theorem d_prog_21_method_3_34 : decode prog_21_method_3_code 34 = .ok (.iload_n 2, 1) := by decide +kernel
theorem d_prog_21_method_3_35 : decode prog_21_method_3_code 35 = .ok (.if_icmp .ge 24, 3) := by decide +kernel
theorem d_prog_21_method_3_38 : decode prog_21_method_3_code 38 = .ok (.aload_n 0, 1) := by decide +kernel
theorem d_prog_21_method_3_39 : decode prog_21_method_3_code 39 = .ok (.iload 4, 2) := by decide +kernel
theorem d_prog_21_method_3_41 : decode prog_21_method_3_code 41 = .ok (.baload, 1) := by decide +kernel
theorem d_prog_21_method_3_42 : decode prog_21_method_3_code 42 = .ok (.bipush 48, 2) := by decide +kernel
theorem d_prog_21_method_3_44 : decode prog_21_method_3_code 44 = .ok (.if_icmp .ne 22, 3) := by decide +kernel
theorem d_prog_21_method_3_47 : decode prog_21_method_3_code 47 = .ok (.iload_n 3, 1) := by decide +kernel
theorem d_prog_21_method_3_48 : decode prog_21_method_3_code 48 = .ok (.ifCond .ne 11, 3) := by decide +kernel
theorem d_prog_21_method_3_51 : decode prog_21_method_3_code 51 = .ok (.iload_n 2, 1) := by decide +kernel
theorem d_prog_21_method_3_52 : decode prog_21_method_3_code 52 = .ok (.iload 4, 2) := by decide +kernel
theorem d_prog_21_method_3_54 : decode prog_21_method_3_code 54 = .ok (.isub, 1) := by decide +kernel
theorem d_prog_21_method_3_55 : decode prog_21_method_3_code 55 = .ok (.iconst 1, 1) := by decide +kernel
theorem d_prog_21_method_3_56 : decode prog_21_method_3_code 56 = .ok (.if_icmp .le 10, 3) := by decide +kernel
theorem d_prog_21_method_3_66 : decode prog_21_method_3_code 66 = .ok (.lconst 0, 1) := by decide +kernel
theorem d_prog_21_method_3_67 : decode prog_21_method_3_code 67 = .ok (.lstore 5, 2) := by decide +kernel
theorem d_prog_21_method_3_69 : decode prog_21_method_3_code 69 = .ok (.iload 4, 2) := by decide +kernel
theorem d_prog_21_method_3_71 : decode prog_21_method_3_code 71 = .ok (.istore 7, 2) := by decide +kernel
theorem d_prog_21_method_3_73 : decode prog_21_method_3_code 73 = .ok (.iload 7, 2) := by decide +kernel
theorem d_prog_21_method_3_75 : decode prog_21_method_3_code 75 = .ok (.iload_n 2, 1) := by decide +kernel
theorem d_prog_21_method_3_76 : decode prog_21_method_3_code 76 = .ok (.if_icmp .ge 82, 3) := by decide +kernel
theorem d_prog_21_method_3_79 : decode prog_21_method_3_code 79 = .ok (.aload_n 0, 1) := by decide +kernel
theorem d_prog_21_method_3_80 : decode prog_21_method_3_code 80 = .ok (.iload 7, 2) := by decide +kernel
theorem d_prog_21_method_3_82 : decode prog_21_method_3_code 82 = .ok (.baload, 1) := by decide +kernel
theorem d_prog_21_method_3_83 : decode prog_21_method_3_code 83 = .ok (.bipush 48, 2) := by decide +kernel
theorem d_prog_21_method_3_85 : decode prog_21_method_3_code 85 = .ok (.isub, 1) := by decide +kernel
theorem d_prog_21_method_3_86 : decode prog_21_method_3_code 86 = .ok (.istore 8, 2) := by decide +kernel
theorem d_prog_21_method_3_88 : decode prog_21_method_3_code 88 = .ok (.iload 8, 2) := by decide +kernel
theorem d_prog_21_method_3_90 : decode prog_21_method_3_code 90 = .ok (.ifCond .lt 19, 3) := by decide +kernel
theorem d_prog_21_method_3_93 : decode prog_21_method_3_code 93 = .ok (.iload 8, 2) := by decide +kernel
theorem d_prog_21_method_3_95 : decode prog_21_method_3_code 95 = .ok (.bipush 9, 2) := by decide +kernel
theorem d_prog_21_method_3_97 : decode prog_21_method_3_code 97 = .ok (.if_icmp .gt 12, 3) := by decide +kernel
theorem d_prog_21_method_3_100 : decode prog_21_method_3_code 100 = .ok (.lload 5, 2) := by decide +kernel
theorem d_prog_21_method_3_102 : decode prog_21_method_3_code 102 = .ok (.ldc2_w 19, 3) := by decide +kernel
theorem d_prog_21_method_3_105 : decode prog_21_method_3_code 105 = .ok (.lcmp, 1) := by decide +kernel
theorem d_prog_21_method_3_106 : decode prog_21_method_3_code 106 = .ok (.ifCond .ge 10, 3) := by decide +kernel
theorem d_prog_21_method_3_116 : decode prog_21_method_3_code 116 = .ok (.lload 5, 2) := by decide +kernel
theorem d_prog_21_method_3_118 : decode prog_21_method_3_code 118 = .ok (.ldc2_w 21, 3) := by decide +kernel
theorem d_prog_21_method_3_121 : decode prog_21_method_3_code 121 = .ok (.lmul, 1) := by decide +kernel
theorem d_prog_21_method_3_122 : decode prog_21_method_3_code 122 = .ok (.lstore 5, 2) := by decide +kernel
theorem d_prog_21_method_3_124 : decode prog_21_method_3_code 124 = .ok (.lload 5, 2) := by decide +kernel
theorem d_prog_21_method_3_126 : decode prog_21_method_3_code 126 = .ok (.ldc2_w 23, 3) := by decide +kernel
theorem d_prog_21_method_3_129 : decode prog_21_method_3_code 129 = .ok (.iload 8, 2) := by decide +kernel
theorem d_prog_21_method_3_131 : decode prog_21_method_3_code 131 = .ok (.i2l, 1) := by decide +kernel
theorem d_prog_21_method_3_132 : decode prog_21_method_3_code 132 = .ok (.ladd, 1) := by decide +kernel
theorem d_prog_21_method_3_133 : decode prog_21_method_3_code 133 = .ok (.lcmp, 1) := by decide +kernel
theorem d_prog_21_method_3_134 : decode prog_21_method_3_code 134 = .ok (.ifCond .ge 10, 3) := by decide +kernel
theorem d_prog_21_method_3_144 : decode prog_21_method_3_code 144 = .ok (.lload 5, 2) := by decide +kernel
theorem d_prog_21_method_3_146 : decode prog_21_method_3_code 146 = .ok (.iload 8, 2) := by decide +kernel
theorem d_prog_21_method_3_148 : decode prog_21_method_3_code 148 = .ok (.i2l, 1) := by decide +kernel
theorem d_prog_21_method_3_149 : decode prog_21_method_3_code 149 = .ok (.lsub, 1) := by decide +kernel
theorem d_prog_21_method_3_150 : decode prog_21_method_3_code 150 = .ok (.lstore 5, 2) := by decide +kernel
theorem d_prog_21_method_3_152 : decode prog_21_method_3_code 152 = .ok (.iinc 7 1, 3) := by decide +kernel
theorem d_prog_21_method_3_155 : decode prog_21_method_3_code 155 = .ok (.goto (-82), 3) := by decide +kernel
theorem d_prog_21_method_3_158 : decode prog_21_method_3_code 158 = .ok (.iload_n 3, 1) := by decide +kernel
theorem d_prog_21_method_3_159 : decode prog_21_method_3_code 159 = .ok (.ifCond .ne 19, 3) := by decide +kernel
theorem d_prog_21_method_3_162 : decode prog_21_method_3_code 162 = .ok (.lload 5, 2) := by decide +kernel
theorem d_prog_21_method_3_164 : decode prog_21_method_3_code 164 = .ok (.ldc2_w 23, 3) := by decide +kernel
theorem d_prog_21_method_3_167 : decode prog_21_method_3_code 167 = .ok (.lcmp, 1) := by decide +kernel
theorem d_prog_21_method_3_168 : decode prog_21_method_3_code 168 = .ok (.ifCond .ne 10, 3) := by decide +kernel
theorem d_prog_21_method_3_178 : decode prog_21_method_3_code 178 = .ok (.iload_n 3, 1) := by decide +kernel
theorem d_prog_21_method_3_179 : decode prog_21_method_3_code 179 = .ok (.ifCond .eq 8, 3) := by decide +kernel
theorem d_prog_21_method_3_182 : decode prog_21_method_3_code 182 = .ok (.lload 5, 2) := by decide +kernel
theorem d_prog_21_method_3_184 : decode prog_21_method_3_code 184 = .ok (.goto 6, 3) := by decide +kernel
theorem d_prog_21_method_3_187 : decode prog_21_method_3_code 187 = .ok (.lload 5, 2) := by decide +kernel
theorem d_prog_21_method_3_189 : decode prog_21_method_3_code 189 = .ok (.lneg, 1) := by decide +kernel
theorem d_prog_21_method_3_190 : decode prog_21_method_3_code 190 = .ok (.lreturn, 1) := by decide +kernel
section OwnArr
variable {Z : State} {h h' : Heap} {a b : Addr} {ty : FieldType} {vs : List Value} {xs : List Int32} {ys : List Int64}
/-- the array at a holds just the values vs -/
def own_V (Z : State) (h : Heap) (a : Addr) (ty : FieldType) (vs : List Value) : Prop := ∃ c : Cell, Arr Z h a c ty ∧ c.slots.toList = vs ∧ vs.length < 2 ^ 31
theorem own_V_lt (F : own_V Z h a ty vs) : a < h.size := by obtain ⟨c, A, -⟩ := F; exact A.lt
theorem own_V_ext (F : own_V Z h a ty vs) (E : Ext h h') : own_V Z h' a ty vs := by obtain ⟨c, A, r⟩ := F; exact ⟨c, A.ext E, r⟩
theorem own_V_other {sl : Nat} {v : Value} (F : own_V Z h b ty vs) (W : Wr h h' a sl v) (q : b ≠ a) : own_V Z h' b ty vs := by obtain ⟨c, A, r⟩ := F; exact ⟨c, A.other W q, r⟩
theorem own_V_keep {ws : List Addr} (F : own_V Z h a ty vs) (K : Keep h h' ws) (q : a ∉ ws) : own_V Z h' a ty vs := by
  obtain ⟨c, A, r⟩ := F
  exact ⟨c, ⟨K.2.1 a c A.1 q, A.2⟩, r⟩
theorem own_V_set {j : Int32} {k : Nat} {v : Value} (F : own_V Z h a ty vs) (W : Wr h h' a j.toNatClampNeg v) (hj : j.toNatClampNeg = k) : own_V Z h' a ty (vs.set k v) := by
  obtain ⟨c, A, r, q⟩ := F
  subst hj r
  refine ⟨_, A.same W, ?_, ?_⟩
  · simp [Cell.setSlot]
  · rw [List.length_set]; exact q
theorem own_V_new {k : ClassId} {n : Int32} {m : Nat} (A : Arr Z h a (newA k ty n) ty) (hm : n.toNatClampNeg = m) (hn : m < 2 ^ 31) : own_V Z h a ty (List.replicate m (defaultValue ty)) := by
  subst hm
  refine ⟨_, A, by simp [newA], ?_⟩
  rw [List.length_replicate]; exact hn
theorem own_tn {j : Int32} (h0 : 0 ≤ j.toInt) : (j.toNatClampNeg : Int) = j.toInt := by
  show ((j.toInt.toNat : Nat) : Int) = j.toInt
  omega
theorem own_neg {j : Int32} (h0 : 0 ≤ j.toInt) : ¬ j < 0 := by
  rw [Int32.lt_iff_toInt_lt, show (0 : Int32).toInt = 0 from rfl]; omega
theorem own_hin {c : Cell} {j : Int32} (S : c.slots.toList = vs) (h0 : 0 ≤ j.toInt) (h1 : j.toInt < vs.length) : ¬ (j < 0 ∨ c.slots.size ≤ j.toNatClampNeg) := by
  have e := own_tn h0
  have e2 : c.slots.size = vs.length := by rw [← S]; simp
  intro q
  rcases q with q | q
  · exact own_neg h0 q
  · omega
theorem own_hink {c : Cell} {j : Int32} {k : Nat} (S : c.slots.toList = vs) (h0 : ¬ j < 0) (hj : j.toNatClampNeg = k) (hk : k < vs.length) : ¬ (j < 0 ∨ c.slots.size ≤ j.toNatClampNeg) := by
  have e2 : c.slots.size = vs.length := by rw [← S]; simp
  intro q
  rcases q with q | q
  · exact h0 q
  · omega
theorem own_hatk {c : Cell} {j : Int32} {k : Nat} {v : Value} (S : c.slots.toList = vs) (hj : j.toNatClampNeg = k) (hv : vs[k]? = some v) : c.slots[j.toNatClampNeg]? = some v := by
  rw [hj, ← hv, ← S]; simp
theorem own_hatkD {c : Cell} {j : Int32} {v : Value} (S : c.slots.toList = vs) (hv : vs[j.toNatClampNeg]? = some v) : c.slots[j.toNatClampNeg]? = some v := own_hatk S rfl hv
theorem own_hatI {c : Cell} {j : Int32} (S : c.slots.toList = xs.map Value.int) (h0 : 0 ≤ j.toInt) (h1 : j.toInt < xs.length) : c.slots[j.toNatClampNeg]? = some (.int (xs.getD j.toNatClampNeg 0)) := by
  have e := own_tn h0
  have hl : j.toNatClampNeg < xs.length := by omega
  refine own_hatk S rfl ?_
  simp [hl]
theorem own_hatJ {c : Cell} {j : Int32} (S : c.slots.toList = ys.map Value.long) (h0 : 0 ≤ j.toInt) (h1 : j.toInt < ys.length) : c.slots[j.toNatClampNeg]? = some (.long (ys.getD j.toNatClampNeg 0)) := by
  have e := own_tn h0
  have hl : j.toNatClampNeg < ys.length := by omega
  refine own_hatk S rfl ?_
  simp [hl]
theorem own_len {c : Cell} {n : Int32} (S : c.slots.toList = vs) (hn : n.toInt = vs.length) : c.slots.size.toInt32 = n := by
  have e2 : c.slots.size = vs.length := by rw [← S]; simp
  have e := own_tn (j := n) (by omega)
  refine len_of ?_ (own_neg (by omega))
  omega
end OwnArr
theorem own_ofN {d : Nat} (h : d < 2147483648) : (Int32.ofNat d).toInt = d := Int32.toInt_ofNat_of_lt (by omega)
theorem own_tnO {d : Nat} (h : d < 2147483648) : (Int32.ofNat d).toNatClampNeg = d := by
  have := own_tn (j := Int32.ofNat d) (by rw [own_ofN h]; omega)
  rw [own_ofN h] at this; omega
theorem own_ltO {d k : Nat} (h : d < 2147483648) (hk : k < 2147483648) : Int32.ofNat d < Int32.ofNat k ↔ d < k := by
  rw [Int32.lt_iff_toInt_lt, own_ofN h, own_ofN hk]; omega
theorem own_eqO {d k : Nat} (h : d < 2147483648) (hk : k < 2147483648) : Int32.ofNat d = Int32.ofNat k ↔ d = k := by
  rw [← Int32.toInt_inj, own_ofN h, own_ofN hk]; omega
theorem own_pred {d : Nat} (h1 : 1 ≤ d) : Int32.ofNat d - (1 : Int32) = Int32.ofNat (d - 1) := by
  have e : Int32.ofNat d = Int32.ofNat (d - 1) + (1 : Int32) := by
    rw [show (1 : Int32) = Int32.ofNat 1 from rfl, ← Int32.ofNat_add]; congr 1; omega
  rw [e, Int32.add_sub_cancel]
theorem own_addk (p k : Nat) : Int32.ofNat p + Int32.ofNat k = Int32.ofNat (p + k) := (Int32.ofNat_add p k).symm
theorem own_subk {p k : Nat} (h : k ≤ p) : Int32.ofNat p - Int32.ofNat k = Int32.ofNat (p - k) := by
  have e : Int32.ofNat p = Int32.ofNat (p - k) + Int32.ofNat k := by
    rw [own_addk]; congr 1; omega
  rw [e, Int32.add_sub_cancel]
theorem own_atI {xs : List Int32} {k : Nat} (h : k < xs.length) : (xs.map Value.int)[k]? = some (.int (xs.getD k 0)) := by simp [h]
theorem own_atJ {xs : List Int64} {k : Nat} (h : k < xs.length) : (xs.map Value.long)[k]? = some (.long (xs.getD k 0)) := by simp [h]
theorem own_toN {x : Int32} (h : 0 ≤ x.toInt) : x = Int32.ofNat x.toInt.toNat := by
  apply Int32.toInt_inj.mp
  have := x.toInt_lt
  rw [own_ofN (by omega)]; omega
theorem own_ni_0 {a : Addr} : a ∉ ([] : List Addr) := List.not_mem_nil
theorem own_ni_1 {a x : Addr} (h : a ≠ x) : a ∉ [x] := by simp [h]
theorem own_ni_2 {a x y : Addr} (h : a ≠ x) (h' : a ≠ y) : a ∉ [x, y] := by simp [h, h']
theorem own_ni_3 {a x y z : Addr} (h : a ≠ x) (h' : a ≠ y) (h'' : a ≠ z) : a ∉ [x, y, z] := by simp [h, h', h'']
theorem own_sub_0 {P : Addr → Prop} : ∀ x ∈ ([] : List Addr), P x := fun x h => absurd h List.not_mem_nil
theorem own_sub_1 {P : Addr → Prop} {a : Addr} (h : P a) : ∀ x ∈ [a], P x := fun x q => by
  obtain rfl : x = a := by simpa using q
  exact h
theorem own_rep {n j : Nat} {x : Int32} (h : j < n) : (List.replicate n x).getD j 0 = x := by simp [h]
theorem own_toI64 {n : Nat} (h : n < 9223372036854775808) : (Int64.ofNat n).toInt = n := Int64.toInt_ofNat_of_lt (by omega)
theorem own_divO {a b : Nat} (ha : a < 2147483648) (hb : b < 2147483648) (h0 : 0 < b) : Int32.ofNat a / Int32.ofNat b = Int32.ofNat (a / b) := by
  apply Int32.toInt_inj.mp
  have hlt : a / b < 2147483648 := Nat.lt_of_le_of_lt (Nat.div_le_self _ _) ha
  have hb1 : Int32.ofNat b ≠ -1 := fun q => by
    have := congrArg Int32.toInt q
    rw [own_ofN hb, show (-1 : Int32).toInt = -1 by decide] at this
    omega
  rw [(c_idiv (Int32.ofNat a) (Int32.ofNat b) b (own_ofN hb) hb1).1 (by rw [own_ofN ha]; omega), own_ofN ha, own_ofN hlt]
  exact (Int.natCast_ediv a b).symm
theorem own_remO {a b : Nat} (ha : a < 2147483648) (hb : b < 2147483648) (h0 : 0 < b) : Int32.ofNat a - (Int32.ofNat a / Int32.ofNat b) * Int32.ofNat b = Int32.ofNat (a % b) := by
  rw [irem_eq_mod]
  apply Int32.toInt_inj.mp
  have hlt : a % b < 2147483648 := Nat.lt_of_le_of_lt (Nat.mod_le _ _) ha
  rw [(c_irem (Int32.ofNat a) (Int32.ofNat b) b (own_ofN hb)).1 (by rw [own_ofN ha]; omega), own_ofN ha, own_ofN hlt]
  exact (Int.natCast_emod a b).symm
theorem own_divJ {a b : Nat} (ha : a < 9223372036854775808) (hb : b < 9223372036854775808) (h0 : 0 < b) : Int64.ofNat a / Int64.ofNat b = Int64.ofNat (a / b) := by
  apply Int64.toInt_inj.mp
  have hlt : a / b < 9223372036854775808 := Nat.lt_of_le_of_lt (Nat.div_le_self _ _) ha
  have hb1 : Int64.ofNat b ≠ -1 := fun q => by
    have := congrArg Int64.toInt q
    rw [own_toI64 hb, show (-1 : Int64).toInt = -1 by decide] at this
    omega
  rw [(c_ldiv (Int64.ofNat a) (Int64.ofNat b) b (own_toI64 hb) hb1).1 (by rw [own_toI64 ha]; omega), own_toI64 ha, own_toI64 hlt]
  exact (Int.natCast_ediv a b).symm
theorem own_remJ {a b : Nat} (ha : a < 9223372036854775808) (hb : b < 9223372036854775808) (h0 : 0 < b) : Int64.ofNat a - (Int64.ofNat a / Int64.ofNat b) * Int64.ofNat b = Int64.ofNat (a % b) := by
  apply Int64.toInt_inj.mp
  have hlt : a % b < 9223372036854775808 := Nat.lt_of_le_of_lt (Nat.mod_le _ _) ha
  rw [(c_lrem (Int64.ofNat a) (Int64.ofNat b) b (own_toI64 hb)).1 (by rw [own_toI64 ha]; omega), own_toI64 ha, own_toI64 hlt]
  exact (Int.natCast_emod a b).symm
theorem own_i2l {n : Nat} (h : n < 2147483648) : (Int32.ofNat n).toInt64 = Int64.ofNat n := by
  apply Int64.toInt_inj.mp
  rw [c_i2l, own_ofN h, own_toI64 (by omega)]
theorem own_l2i {n : Nat} (h : n < 2147483648) : (Int64.ofNat n).toInt32 = Int32.ofNat n := by
  apply Int32.toInt_inj.mp
  have h1 := c_l2i (Int64.ofNat n)
  have h2 := rng32 (Int64.ofNat n).toInt32
  rw [own_toI64 (by omega)] at h1
  rw [own_ofN h]; omega
theorem own_i2c {n : Nat} (h : n < 65536) : (Int32.ofNat n).toUInt32.toUInt16.toUInt32.toInt32 = Int32.ofNat n := by
  apply Int32.toInt_inj.mp
  have h1 := c_i2c (Int32.ofNat n)
  rw [own_ofN (by omega)] at h1 ⊢
  omega
theorem own_narC {n : Nat} (h : n < 65536) : nar .char (Int32.ofNat n) = Int32.ofNat n := own_i2c h
theorem own_getset {xs : List Int32} {i j : Nat} {v : Int32} (h : i < xs.length) : (xs.set i v).getD j 0 = if j = i then v else xs.getD j 0 := by
  by_cases hj : j = i
  · subst hj; simp [h]
  · simp [hj, Ne.symm hj]
theorem own_dec {i : Int32} {u : Nat} (hi : i.toInt = (u : Int) - 1) (hu : 1 ≤ u) : (i + (-1 : Int32)).toInt = ((u - 1 : Nat) : Int) - 1 := by
  have h1 := c_iadd i (-1 : Int32)
  have h2 := rng32 (i + (-1 : Int32))
  have h3 := rng32 i
  rw [show (-1 : Int32).toInt = -1 by decide] at h1
  omega
theorem own_preI {u : Nat} (hu : u < 2147483648) : (Int32.ofNat u - (1 : Int32)).toInt = (u : Int) - 1 := by
  have h1 := c_isub (Int32.ofNat u) (1 : Int32)
  have h2 := rng32 (Int32.ofNat u - (1 : Int32))
  rw [own_ofN hu, show (1 : Int32).toInt = 1 by decide] at h1
  omega

def own_ng (M : Nat) : Int64 := Int64.ofInt (-(M : Int))
theorem own_ngi {M : Nat} (h : M ≤ 9223372036854775808) : (own_ng M).toInt = -(M : Int) := by
  have h1 := rng64 (own_ng M)
  have h2 := bm64 (-(M : Int))
  have h3 : (own_ng M).toInt = (-(M : Int)).bmod (2 ^ 64) := Int64.toInt_ofInt
  omega
theorem own_ng_div {M : Nat} (h : M ≤ 9223372036854775808) : own_ng M / (10 : Int64) = own_ng (M / 10) := by
  apply Int64.toInt_inj.mp
  have h1 := c_ldiv (own_ng M) (10 : Int64) 10 (by decide) (by decide)
  rw [own_ngi h] at h1
  rw [own_ngi (by omega)]
  by_cases h0 : M = 0
  · subst h0
    exact h1.1 (by omega)
  · rw [h1.2 (by omega)]
    omega
theorem own_ng_rem {M : Nat} (h : M ≤ 9223372036854775808) : own_ng M - (own_ng M / (10 : Int64)) * (10 : Int64) = own_ng (M % 10) := by
  apply Int64.toInt_inj.mp
  have h1 := c_lrem (own_ng M) (10 : Int64) 10 (by decide)
  rw [own_ngi h] at h1
  rw [own_ngi (by omega)]
  by_cases h0 : M = 0
  · subst h0
    exact h1.1 (by omega)
  · rw [h1.2 (by omega)]
    omega
theorem own_s48 {r : Nat} (h : r < 10) : (48 : Int64) - own_ng r = Int64.ofNat (48 + r) := by
  apply Int64.toInt_inj.mp
  have h1 := c_lsub (48 : Int64) (own_ng r)
  have h2 := rng64 ((48 : Int64) - own_ng r)
  rw [own_ngi (by omega), show (48 : Int64).toInt = 48 by decide] at h1
  rw [own_toI64 (by omega)]
  omega
theorem own_ng_mul {q : Nat} (h : q * 10 ≤ 9223372036854775808) : own_ng q * (10 : Int64) = own_ng (q * 10) := by
  apply Int64.toInt_inj.mp
  have h1 := c_lmul (own_ng q) (10 : Int64)
  have h2 := rng64 (own_ng q * (10 : Int64))
  rw [own_ngi (by omega), show (10 : Int64).toInt = 10 by decide] at h1
  rw [own_ngi h]
  omega
theorem own_ng_sub {a r : Nat} (h : a + r ≤ 9223372036854775808) (hr : r < 10) : own_ng a - Int64.ofNat r = own_ng (a + r) := by
  apply Int64.toInt_inj.mp
  have h1 := c_lsub (own_ng a) (Int64.ofNat r)
  have h2 := rng64 (own_ng a - Int64.ofNat r)
  rw [own_ngi (by omega), own_toI64 (by omega)] at h1
  rw [own_ngi h]
  omega
theorem own_ng0 {M : Nat} (h : M ≤ 9223372036854775808) : own_ng M = (0 : Int64) ↔ M = 0 := by
  rw [← Int64.toInt_inj, own_ngi h, show (0 : Int64).toInt = 0 by decide]
  omega
theorem own_i2b {n : Nat} (h : n < 128) : (Int32.ofNat n).toInt8.toInt32 = Int32.ofNat n := by
  apply Int32.toInt_inj.mp
  have h1 := c_i2b (Int32.ofNat n)
  rw [own_ofN (by omega)] at h1 ⊢
  omega
theorem own_narB {n : Nat} (h : n < 128) : nar .byte (Int32.ofNat n) = Int32.ofNat n := own_i2b h
theorem own_neg_of {v : Int64} (h : v < (0 : Int64)) : v = own_ng v.toInt.natAbs := by
  apply Int64.toInt_inj.mp
  have h1 := rng64 v
  rw [Int64.lt_iff_toInt_lt, show (0 : Int64).toInt = 0 by decide] at h
  rw [own_ngi (by omega)]; omega
theorem own_neg_of' {v : Int64} (h : ¬ v < (0 : Int64)) : -v = own_ng v.toInt.natAbs := by
  apply Int64.toInt_inj.mp
  have h1 := rng64 v
  have h2 := c_lneg v
  have h3 := rng64 (-v)
  rw [Int64.lt_iff_toInt_lt, show (0 : Int64).toInt = 0 by decide] at h
  rw [own_ngi (by omega)]; omega
theorem own_nneg {v : Int64} (h : ¬ v < (0 : Int64)) : -(own_ng v.toInt.natAbs) = v := by
  rw [← own_neg_of' h]
  apply Int64.toInt_inj.mp
  have h1 := rng64 v
  have h2 := c_lneg v
  have h3 := rng64 (-v)
  have h4 := c_lneg (-v)
  have h5 := rng64 (-(-v))
  rw [Int64.lt_iff_toInt_lt, show (0 : Int64).toInt = 0 by decide] at h
  omega
theorem own_absb (v : Int64) : v.toInt.natAbs ≤ 9223372036854775808 := by have := rng64 v; omega
theorem own_p10 : ∀ d, d < 20 → 18 < d → 9223372036854775808 < 10 ^ d := by decide +kernel
/-- place j, when the places from u on are written -/
def own_dg (N A D u : Nat) (j : Nat) : Int32 := if u ≤ j ∧ j < A + D then Int32.ofNat (48 + N / 10 ^ (A + D - 1 - j) % 10) else 0
theorem own_dg_step {N A D u : Nat} {zs : List Int32} (hu : A < u) (hu2 : u ≤ A + D) (hAD : A + D ≤ 30) (hl : zs.length = 30) (H : ∀ j, j < 30 → zs.getD j 0 = own_dg N A D u j) : ∀ j, j < 30 → (zs.set (u - 1) (Int32.ofNat (48 + N / 10 ^ (A + D - u) % 10))).getD j 0 = own_dg N A D (u - 1) j := by
  intro j hj
  rw [own_getset (by omega)]
  by_cases h : j = u - 1
  · rw [if_pos h, own_dg, if_pos (by omega), show A + D - 1 - j = A + D - u by omega]
  · rw [if_neg h, H j hj, own_dg, own_dg]
    by_cases h2 : u ≤ j ∧ j < A + D
    · rw [if_pos h2, if_pos (by omega)]
    · rw [if_neg h2, if_neg (by omega)]
theorem own_div10 {N A D u : Nat} (hu : A < u) (hu2 : u ≤ A + D) : N / 10 ^ (A + D - u) / 10 = N / 10 ^ (A + D - (u - 1)) := by
  rw [Nat.div_div_eq_div_mul, ← Nat.pow_succ, show A + D - (u - 1) = (A + D - u).succ by omega]
theorem own_div1 (N d : Nat) : N / 10 ^ d / 10 = N / 10 ^ (d + 1) := by
  rw [Nat.div_div_eq_div_mul, ← Nat.pow_succ]
/-- M has d digits -/
def own_dd (M d : Nat) : Prop := 1 ≤ d ∧ d ≤ 19 ∧ M / 10 ^ d = 0 ∧ (d = 1 ∨ M / 10 ^ (d - 1) ≠ 0)
def own_out (M A g d : Nat) (j : Nat) : Int32 := if g = 1 ∧ j = A then (45 : Int32) else own_dg M (A + g) d (A + g) j
theorem own_lead {M d : Nat} (h : own_dd M d) (h0 : M / 10 ^ (d - 1) % 10 = 0) : M = 0 ∧ d = 1 := by
  obtain ⟨h1, h2, h3, h4⟩ := h
  have e : M / 10 ^ d = M / 10 ^ (d - 1) / 10 := by rw [own_div1]; congr 2; omega
  rw [e] at h3
  have h5 : M / 10 ^ (d - 1) = 0 := by omega
  rcases h4 with h4 | h4
  · subst h4
    rw [show (1 : Nat) - 1 = 0 from rfl, Nat.pow_zero, Nat.div_one] at h5
    exact ⟨h5, rfl⟩
  · exact absurd h5 h4
theorem own_ltJ (a b : Int64) : a < b ↔ a.toInt < b.toInt := Int64.lt_iff_toInt_lt

theorem own_out_neg {M A d : Nat} {zs : List Int32} (hA : A < 30) (hl : zs.length = 30) (hz : ∀ j, j < 30 → zs.getD j 0 = own_dg M (A + 1) d (A + 1) j) : ∀ j, j < 30 → (zs.set A (45 : Int32)).getD j 0 = own_out M A 1 d j := by
  intro j hj
  rw [own_getset (by omega), own_out]
  by_cases q : j = A
  · rw [if_pos q, if_pos ⟨rfl, q⟩]
  · rw [if_neg q, if_neg (fun z => q z.2)]; exact hz j hj
theorem own_out_pos {M A d : Nat} {zs : List Int32} (hz : ∀ j, j < 30 → zs.getD j 0 = own_dg M (A + 0) d (A + 0) j) : ∀ j, j < 30 → zs.getD j 0 = own_out M A 0 d j := by
  intro j hj
  rw [own_out, if_neg (fun z => absurd z.1 (by decide))]; exact hz j hj

theorem own_m7 (x : Int32) : ∃ n : Nat, n ≤ 7 ∧ (x &&& (7 : Int32)) = Int32.ofNat n := by
  have h1 := c_mask x (7 : Int32) 3 (by decide) (by decide)
  exact ⟨_, by omega, own_toN (by omega)⟩

theorem own_ef_own_rm_put (m : MethodId) (x0 : Int64) (x1 : Addr) (x2 : Int32) : entryFrame m #[(.long x0), (.ref x1), (.int x2)] 9 = mkF m 0 #[.val (.long x0), .second, .val (.ref x1), .val (.int x2), .unset, .unset, .unset, .unset, .unset] [] := by first | (simp [entryFrame, mkF, argsToLocals, Value.category]; done) | rfl
def own_Q_put (Z : State) (h0 : Heap) (n0 : Nat) (v : Int64) (b : Addr) (M A g : Nat) (r : Option Value) (h : Heap) (L : List Loc) : Prop := (∃ d : Nat, own_dd M d ∧ r = some (.int (Int32.ofNat (A + g + d))) ∧ ∃ zs : List Int32, zs.length = 30 ∧ own_V Z h b .byte (zs.map Value.int) ∧ ∀ j, j < 30 → zs.getD j 0 = own_out M A g d j) ∧ Fr n0 L ∧ Keep h0 h [b]
set_option maxRecDepth 65536 in
set_option maxHeartbeats 40000000 in
theorem own_rm_put (l : Launch) (Z : State) (a0 : Array Value) (hw : ∀ d ∈ tables_1, d.before a0 Z = true) (ws : List Jvm.Cond) (v : Int64) (b : Addr) (h0 : Heap) (n0 : Nat) (Z0 : n0 ≤ h0.size) (M A g : Nat) (hM : M = v.toInt.natAbs) (hng : (v < (0 : Int64) ∧ g = 1) ∨ (¬ v < (0 : Int64) ∧ g = 0)) (hA : A ≤ 7) (ys : List Int32) (hyl : ys.length = 30) (V : own_V Z h0 b .byte (ys.map Value.int)) (hys : ∀ j, j < 30 → ys.getD j 0 = 0) (ga : n0 ≤ b) :
    MetFree l (⟨"com/example/keyspace/keyspace/protocol/Decimal", "put", "(J[BI)I"⟩ : MethodName) (head1 (Jvm.Cond.code (⟨"com/example/keyspace/keyspace/protocol/Decimal", "put", "(J[BI)I"⟩ : MethodName) prog_21_method_5_code 9 (some .int) :: ws) ({ frames := 0, cells := 0, slots := 0, locals := 0 } : Room)) (fun aq Uq => aq = #[(.long v), (.ref b), (.int (Int32.ofNat A))] ∧ Z.Warmed39 Uq.vm ∧ Uq.heap = h0) (fun _ _ _ _ _ => True) (fun _ Uq oq Uq' => ∃ vq Lq, oq = .returned vq ∧ (own_Q_put Z h0 n0 v b M A g) vq Uq'.heap Lq ∧ FrameEnd Uq oq Uq' Lq ({ frames := 0, cells := 0, slots := 0, locals := 0 } : Room).cells ({ frames := 0, cells := 0, slots := 0, locals := 0 } : Room).slots) := by
  refine MetFree.of_bodySF (plainFor_of_name own_pn0) hisR ?_
  intro p e s m args below meth c s₁ Bd hml0 hP hK
  obtain ⟨rfl, hZ, hh⟩ := hP
  have hx := Bd.exec
  have hby := Bd.bytes
  have hml : c.maxLocals = 9 := hml0
  have hown : s.vm.findClass "com/example/keyspace/keyspace/protocol/Decimal" = some m.cls := findClass_of_methodNamed Bd.named
  have hnm := (name_of_methodNamed Bd.named Bd.method).1
  have X0 : Stand p l e ({ frames := 0, cells := 0, slots := 0, locals := 0 } : Room) s m #[(.long v), (.ref b), (.int (Int32.ofNat A))] below meth c s₁ [] 0 0 := Stand.of_body Bd
  have e0 : s₁.heap = h0 := by rw [← hh, Bd.state]; rfl
  have N0 := Fr.nil n0
  have hlk : meth.locks = false := by first | exact BodyLoose.notSynchronized Bd | exact Body.notSynchronized Bd
  obtain ⟨G, hG⟩ : ∃ G : State → Prop, G = own_G p e below s ({ frames := 0, cells := 0, slots := 0, locals := 0 } : Room).cells ({ frames := 0, cells := 0, slots := 0, locals := 0 } : Room).slots ((own_Q_put Z h0 n0 v b M A g)) := ⟨_, rfl⟩
  have go : ∀ {S S' : State}, (∀ t, Steps p.tables e below S' t → Steps p.tables e below S t) → G S' → G S := by rw [hG]; exact own_to
  suffices hs : G (s₁.setTop (mkF m 0 #[.val (.long v), .second, .val (.ref b), .val (.int (Int32.ofNat A)), .unset, .unset, .unset, .unset, .unset] [])) by
    rw [hG] at hs
    exact own_to (fun _ kont => castTop (own_ef_own_rm_put m v b (Int32.ofNat A)) kont) hs
  have hMb : M ≤ 9223372036854775808 := by rw [hM]; exact own_absb v
  have loop2 : ∀ (d : Nat), own_dd M d → ∀ (k u : Nat), u - (A + g) < k → A + g ≤ u → u ≤ A + g + d → ∀ (i : Int32), i.toInt = (u : Int) - 1 → ∀ (zs : List Int32) (T' : State) (h' : Heap) (ls : List Loc), zs.length = 30 → own_V Z h' b .byte (zs.map Value.int) → (∀ j, j < 30 → zs.getD j 0 = own_dg M (A + g) d u j) → Keep h0 h' [b] → Fr n0 ls → Stand p l e ({ frames := 0, cells := 0, slots := 0, locals := 0 } : Room) s m #[(.long v), (.ref b), (.int (Int32.ofNat A))] below meth c T' ls 0 0 → T'.heap = h' → G (T'.setTop (mkF m 73 #[.val (.long v), .second, .val (.ref b), .val (.int (Int32.ofNat A)), .val (.long (own_ng (M / 10 ^ (A + g + d - u)))), .second, .val (.int (Int32.ofNat d)), .val (.int (Int32.ofNat (A + g + d))), .val (.int i)] [])) := by
    intro d hd k
    obtain ⟨hd1, hd19, hdz, hdl⟩ := hd
    induction k with
    | zero => intro u hk; omega
    | succ k ih =>
      intro u hk hAu hu i hi zs T' h' ls hzl Vz hz K' N' X' e'
      have hg1 : g ≤ 1 := by omega
      have hR : (M / 10 ^ (A + g + d - u)) ≤ 9223372036854775808 := Nat.le_trans (Nat.div_le_self _ _) hMb
      show G (T'.setTop (mkF m 73 #[.val (.long v), .second, .val (.ref b), .val (.int (Int32.ofNat A)), .val (.long (own_ng (M / 10 ^ (A + g + d - u)))), .second, .val (.int (Int32.ofNat d)), .val (.int (Int32.ofNat (A + g + d))), .val (.int i)] []))
      refine go (fun _ kont => XS.iload X'.here hx rfl (hb hby d_prog_21_method_5_73) rfl  kont) ?_
      show G (T'.setTop (mkF m 75 #[.val (.long v), .second, .val (.ref b), .val (.int (Int32.ofNat A)), .val (.long (own_ng (M / 10 ^ (A + g + d - u)))), .second, .val (.int (Int32.ofNat d)), .val (.int (Int32.ofNat (A + g + d))), .val (.int i)] [(.int i)]))
      refine go (fun _ kont => XS.iload X'.here hx rfl (hb hby d_prog_21_method_5_75) rfl  kont) ?_
      show G (T'.setTop (mkF m 77 #[.val (.long v), .second, .val (.ref b), .val (.int (Int32.ofNat A)), .val (.long (own_ng (M / 10 ^ (A + g + d - u)))), .second, .val (.int (Int32.ofNat d)), .val (.int (Int32.ofNat (A + g + d))), .val (.int i)] [(.int (Int32.ofNat (A + g + d))), (.int i)]))
      refine go (fun _ kont => XS.iload X'.here hx rfl (hb hby d_prog_21_method_5_77) rfl  kont) ?_
      show G (T'.setTop (mkF m 79 #[.val (.long v), .second, .val (.ref b), .val (.int (Int32.ofNat A)), .val (.long (own_ng (M / 10 ^ (A + g + d - u)))), .second, .val (.int (Int32.ofNat d)), .val (.int (Int32.ofNat (A + g + d))), .val (.int i)] [(.int (Int32.ofNat d)), (.int (Int32.ofNat (A + g + d))), (.int i)]))
      refine go (fun _ kont => XS.isub X'.here hx rfl (hb hby d_prog_21_method_5_79) rfl kont) ?_
      show G (T'.setTop (mkF m 80 #[.val (.long v), .second, .val (.ref b), .val (.int (Int32.ofNat A)), .val (.long (own_ng (M / 10 ^ (A + g + d - u)))), .second, .val (.int (Int32.ofNat d)), .val (.int (Int32.ofNat (A + g + d))), .val (.int i)] [(.int ((Int32.ofNat (A + g + d)) - (Int32.ofNat d))), (.int i)]))
      rw [show ((Int32.ofNat (A + g + d)) - (Int32.ofNat d)) = (Int32.ofNat (A + g)) from (by rw [own_subk (by omega)]; congr 1; omega)]
      show G (T'.setTop (mkF m 80 #[.val (.long v), .second, .val (.ref b), .val (.int (Int32.ofNat A)), .val (.long (own_ng (M / 10 ^ (A + g + d - u)))), .second, .val (.int (Int32.ofNat d)), .val (.int (Int32.ofNat (A + g + d))), .val (.int i)] [(.int (Int32.ofNat (A + g))), (.int i)]))
      by_cases hc80 : i < (Int32.ofNat (A + g))
      · refine go (fun _ kont => XS.icmpYes X'.here hx rfl (pc0 := 80) (pc' := 113) rfl (hb hby d_prog_21_method_5_80) rfl (tlt hc80).1 (by decide) (by decide) kont) ?_
        show G (T'.setTop (mkF m 113 #[.val (.long v), .second, .val (.ref b), .val (.int (Int32.ofNat A)), .val (.long (own_ng (M / 10 ^ (A + g + d - u)))), .second, .val (.int (Int32.ofNat d)), .val (.int (Int32.ofNat (A + g + d))), .val (.int i)] []))
        rw [Int32.lt_iff_toInt_lt, own_ofN (by omega), hi] at hc80
        have hu' : u = A + g := by omega
        subst hu'
        rcases hng with ⟨hv, hg⟩ | ⟨hv, hg⟩
        · subst hg
          show G (T'.setTop (mkF m 113 #[.val (.long v), .second, .val (.ref b), .val (.int (Int32.ofNat A)), .val (.long (own_ng (M / 10 ^ (A + 1 + d - (A + 1))))), .second, .val (.int (Int32.ofNat d)), .val (.int (Int32.ofNat (A + 1 + d))), .val (.int i)] []))
          refine go (fun _ kont => XS.lloadN X'.here hx rfl (hb hby d_prog_21_method_5_113) rfl  kont) ?_
          show G (T'.setTop (mkF m 114 #[.val (.long v), .second, .val (.ref b), .val (.int (Int32.ofNat A)), .val (.long (own_ng (M / 10 ^ (A + 1 + d - (A + 1))))), .second, .val (.int (Int32.ofNat d)), .val (.int (Int32.ofNat (A + 1 + d))), .val (.int i)] [(.long v)]))
          refine go (fun _ kont => XS.lconst X'.here hx rfl (hb hby d_prog_21_method_5_114) kont) ?_
          show G (T'.setTop (mkF m 115 #[.val (.long v), .second, .val (.ref b), .val (.int (Int32.ofNat A)), .val (.long (own_ng (M / 10 ^ (A + 1 + d - (A + 1))))), .second, .val (.int (Int32.ofNat d)), .val (.int (Int32.ofNat (A + 1 + d))), .val (.int i)] [(.long (0 : Int64)), (.long v)]))
          refine go (fun _ kont => XS.lcmp X'.here hx rfl (hb hby d_prog_21_method_5_115) rfl kont) ?_
          show G (T'.setTop (mkF m 116 #[.val (.long v), .second, .val (.ref b), .val (.int (Int32.ofNat A)), .val (.long (own_ng (M / 10 ^ (A + 1 + d - (A + 1))))), .second, .val (.int (Int32.ofNat d)), .val (.int (Int32.ofNat (A + 1 + d))), .val (.int i)] [(.int (lcmpW v (0 : Int64)))]))
          refine go (fun _ kont => XS.ifNo X'.here hx rfl (hb hby d_prog_21_method_5_116) rfl ((if0 _ _).trans (tlt ((lw_lt _ _).mpr hv)).2.1) kont) ?_
          show G (T'.setTop (mkF m 119 #[.val (.long v), .second, .val (.ref b), .val (.int (Int32.ofNat A)), .val (.long (own_ng (M / 10 ^ (A + 1 + d - (A + 1))))), .second, .val (.int (Int32.ofNat d)), .val (.int (Int32.ofNat (A + 1 + d))), .val (.int i)] []))
          refine go (fun _ kont => XS.aloadN X'.here hx rfl (hb hby d_prog_21_method_5_119) rfl rfl kont) ?_
          show G (T'.setTop (mkF m 120 #[.val (.long v), .second, .val (.ref b), .val (.int (Int32.ofNat A)), .val (.long (own_ng (M / 10 ^ (A + 1 + d - (A + 1))))), .second, .val (.int (Int32.ofNat d)), .val (.int (Int32.ofNat (A + 1 + d))), .val (.int i)] [(.ref b)]))
          refine go (fun _ kont => XS.iloadN X'.here hx rfl (hb hby d_prog_21_method_5_120) rfl  kont) ?_
          show G (T'.setTop (mkF m 121 #[.val (.long v), .second, .val (.ref b), .val (.int (Int32.ofNat A)), .val (.long (own_ng (M / 10 ^ (A + 1 + d - (A + 1))))), .second, .val (.int (Int32.ofNat d)), .val (.int (Int32.ofNat (A + 1 + d))), .val (.int i)] [(.int (Int32.ofNat A)), (.ref b)]))
          refine go (fun _ kont => XS.bipush X'.here hx rfl (hb hby d_prog_21_method_5_121) kont) ?_
          show G (T'.setTop (mkF m 123 #[.val (.long v), .second, .val (.ref b), .val (.int (Int32.ofNat A)), .val (.long (own_ng (M / 10 ^ (A + 1 + d - (A + 1))))), .second, .val (.int (Int32.ofNat d)), .val (.int (Int32.ofNat (A + 1 + d))), .val (.int i)] [(.int (45 : Int32)), (.int (Int32.ofNat A)), (.ref b)]))
          obtain ⟨cl, Ar, Sl, Ml⟩ := id Vz
          obtain ⟨T1, h1, X1, e1, W1, st1⟩ := stB X' hx hZ e' Ar (j := (Int32.ofNat A)) (own_hink Sl (own_neg (by rw [own_ofN (by omega)]; omega)) (k := A) (own_tnO (by omega)) (by rw [List.length_map]; omega)) (g := (mkF m 123 #[.val (.long v), .second, .val (.ref b), .val (.int (Int32.ofNat A)), .val (.long (own_ng (M / 10 ^ (A + 1 + d - (A + 1))))), .second, .val (.int (Int32.ofNat d)), .val (.int (Int32.ofNat (A + 1 + d))), .val (.int i)] [(.int (45 : Int32)), (.int (Int32.ofNat A)), (.ref b)])) rfl rfl (hb hby d_prog_21_method_5_123)
          refine go st1 ?_
          show G (T1.setTop (mkF m 124 #[.val (.long v), .second, .val (.ref b), .val (.int (Int32.ofNat A)), .val (.long (own_ng (M / 10 ^ (A + 1 + d - (A + 1))))), .second, .val (.int (Int32.ofNat d)), .val (.int (Int32.ofNat (A + 1 + d))), .val (.int i)] []))
          have V1 : own_V Z h1 b .byte ((zs.set A (45 : Int32)).map Value.int) := by rw [List.map_set]; exact own_V_set Vz W1 (own_tnO (by omega))
          have K1 := K'.wr W1 (Or.inl (List.mem_of_getElem? (i := 0) rfl))
          have N1 := Fr.snoc X1 N' ga
          refine go (fun _ kont => XS.iload X1.here hx rfl (hb hby d_prog_21_method_5_124) rfl  kont) ?_
          show G (T1.setTop (mkF m 126 #[.val (.long v), .second, .val (.ref b), .val (.int (Int32.ofNat A)), .val (.long (own_ng (M / 10 ^ (A + 1 + d - (A + 1))))), .second, .val (.int (Int32.ofNat d)), .val (.int (Int32.ofNat (A + 1 + d))), .val (.int i)] [(.int (Int32.ofNat (A + 1 + d)))]))
          rw [hG]
          exact own_retI X1 hx Bd.returns (hb hby d_prog_21_method_5_126) hlk (by decide) (by decide) (by rw [e1]; exact ⟨⟨d, ⟨hd1, hd19, hdz, hdl⟩, rfl, _, by rw [List.length_set]; exact hzl, V1, own_out_neg (by omega) hzl hz⟩, N1, K1⟩)
        · subst hg
          show G (T'.setTop (mkF m 113 #[.val (.long v), .second, .val (.ref b), .val (.int (Int32.ofNat A)), .val (.long (own_ng (M / 10 ^ (A + 0 + d - (A + 0))))), .second, .val (.int (Int32.ofNat d)), .val (.int (Int32.ofNat (A + 0 + d))), .val (.int i)] []))
          refine go (fun _ kont => XS.lloadN X'.here hx rfl (hb hby d_prog_21_method_5_113) rfl  kont) ?_
          show G (T'.setTop (mkF m 114 #[.val (.long v), .second, .val (.ref b), .val (.int (Int32.ofNat A)), .val (.long (own_ng (M / 10 ^ (A + 0 + d - (A + 0))))), .second, .val (.int (Int32.ofNat d)), .val (.int (Int32.ofNat (A + 0 + d))), .val (.int i)] [(.long v)]))
          refine go (fun _ kont => XS.lconst X'.here hx rfl (hb hby d_prog_21_method_5_114) kont) ?_
          show G (T'.setTop (mkF m 115 #[.val (.long v), .second, .val (.ref b), .val (.int (Int32.ofNat A)), .val (.long (own_ng (M / 10 ^ (A + 0 + d - (A + 0))))), .second, .val (.int (Int32.ofNat d)), .val (.int (Int32.ofNat (A + 0 + d))), .val (.int i)] [(.long (0 : Int64)), (.long v)]))
          refine go (fun _ kont => XS.lcmp X'.here hx rfl (hb hby d_prog_21_method_5_115) rfl kont) ?_
          show G (T'.setTop (mkF m 116 #[.val (.long v), .second, .val (.ref b), .val (.int (Int32.ofNat A)), .val (.long (own_ng (M / 10 ^ (A + 0 + d - (A + 0))))), .second, .val (.int (Int32.ofNat d)), .val (.int (Int32.ofNat (A + 0 + d))), .val (.int i)] [(.int (lcmpW v (0 : Int64)))]))
          refine go (fun _ kont => XS.ifYes X'.here hx rfl (pc0 := 116) (pc' := 124) rfl (hb hby d_prog_21_method_5_116) rfl ((if0 _ _).trans (flt (mt (lw_lt _ _).mp hv)).2.1) (by decide) (by decide) kont) ?_
          show G (T'.setTop (mkF m 124 #[.val (.long v), .second, .val (.ref b), .val (.int (Int32.ofNat A)), .val (.long (own_ng (M / 10 ^ (A + 0 + d - (A + 0))))), .second, .val (.int (Int32.ofNat d)), .val (.int (Int32.ofNat (A + 0 + d))), .val (.int i)] []))
          refine go (fun _ kont => XS.iload X'.here hx rfl (hb hby d_prog_21_method_5_124) rfl  kont) ?_
          show G (T'.setTop (mkF m 126 #[.val (.long v), .second, .val (.ref b), .val (.int (Int32.ofNat A)), .val (.long (own_ng (M / 10 ^ (A + 0 + d - (A + 0))))), .second, .val (.int (Int32.ofNat d)), .val (.int (Int32.ofNat (A + 0 + d))), .val (.int i)] [(.int (Int32.ofNat (A + 0 + d)))]))
          rw [hG]
          exact own_retI X' hx Bd.returns (hb hby d_prog_21_method_5_126) hlk (by decide) (by decide) (by rw [e']; exact ⟨⟨d, ⟨hd1, hd19, hdz, hdl⟩, rfl, zs, hzl, Vz, own_out_pos hz⟩, N', K'⟩)
      · refine go (fun _ kont => XS.icmpNo X'.here hx rfl (hb hby d_prog_21_method_5_80) rfl (flt hc80).1 kont) ?_
        show G (T'.setTop (mkF m 83 #[.val (.long v), .second, .val (.ref b), .val (.int (Int32.ofNat A)), .val (.long (own_ng (M / 10 ^ (A + g + d - u)))), .second, .val (.int (Int32.ofNat d)), .val (.int (Int32.ofNat (A + g + d))), .val (.int i)] []))
        rw [Int32.lt_iff_toInt_lt, own_ofN (by omega), hi] at hc80
        refine go (fun _ kont => XS.aloadN X'.here hx rfl (hb hby d_prog_21_method_5_83) rfl rfl kont) ?_
        show G (T'.setTop (mkF m 84 #[.val (.long v), .second, .val (.ref b), .val (.int (Int32.ofNat A)), .val (.long (own_ng (M / 10 ^ (A + g + d - u)))), .second, .val (.int (Int32.ofNat d)), .val (.int (Int32.ofNat (A + g + d))), .val (.int i)] [(.ref b)]))
        refine go (fun _ kont => XS.iload X'.here hx rfl (hb hby d_prog_21_method_5_84) rfl  kont) ?_
        show G (T'.setTop (mkF m 86 #[.val (.long v), .second, .val (.ref b), .val (.int (Int32.ofNat A)), .val (.long (own_ng (M / 10 ^ (A + g + d - u)))), .second, .val (.int (Int32.ofNat d)), .val (.int (Int32.ofNat (A + g + d))), .val (.int i)] [(.int i), (.ref b)]))
        refine go (fun _ kont => X'.ldc2Long hx hown (mvT hZ (hw _ (List.mem_of_getElem? (i := 8) rfl))) (g := (mkF m 86 #[.val (.long v), .second, .val (.ref b), .val (.int (Int32.ofNat A)), .val (.long (own_ng (M / 10 ^ (A + g + d - u)))), .second, .val (.int (Int32.ofNat d)), .val (.int (Int32.ofNat (A + g + d))), .val (.int i)] [(.int i), (.ref b)])) rfl (hb hby d_prog_21_method_5_86) _ kont) ?_
        show G (T'.setTop (mkF m 89 #[.val (.long v), .second, .val (.ref b), .val (.int (Int32.ofNat A)), .val (.long (own_ng (M / 10 ^ (A + g + d - u)))), .second, .val (.int (Int32.ofNat d)), .val (.int (Int32.ofNat (A + g + d))), .val (.int i)] [(.long (48 : Int64)), (.int i), (.ref b)]))
        refine go (fun _ kont => XS.lload X'.here hx rfl (hb hby d_prog_21_method_5_89) rfl  kont) ?_
        show G (T'.setTop (mkF m 91 #[.val (.long v), .second, .val (.ref b), .val (.int (Int32.ofNat A)), .val (.long (own_ng (M / 10 ^ (A + g + d - u)))), .second, .val (.int (Int32.ofNat d)), .val (.int (Int32.ofNat (A + g + d))), .val (.int i)] [(.long (own_ng (M / 10 ^ (A + g + d - u)))), (.long (48 : Int64)), (.int i), (.ref b)]))
        refine go (fun _ kont => X'.ldc2Long hx hown (mvT hZ (hw _ (List.mem_of_getElem? (i := 7) rfl))) (g := (mkF m 91 #[.val (.long v), .second, .val (.ref b), .val (.int (Int32.ofNat A)), .val (.long (own_ng (M / 10 ^ (A + g + d - u)))), .second, .val (.int (Int32.ofNat d)), .val (.int (Int32.ofNat (A + g + d))), .val (.int i)] [(.long (own_ng (M / 10 ^ (A + g + d - u)))), (.long (48 : Int64)), (.int i), (.ref b)])) rfl (hb hby d_prog_21_method_5_91) _ kont) ?_
        show G (T'.setTop (mkF m 94 #[.val (.long v), .second, .val (.ref b), .val (.int (Int32.ofNat A)), .val (.long (own_ng (M / 10 ^ (A + g + d - u)))), .second, .val (.int (Int32.ofNat d)), .val (.int (Int32.ofNat (A + g + d))), .val (.int i)] [(.long (10 : Int64)), (.long (own_ng (M / 10 ^ (A + g + d - u)))), (.long (48 : Int64)), (.int i), (.ref b)]))
        refine go (fun _ kont => XS.lrem X'.here hx rfl (hb hby d_prog_21_method_5_94) rfl (by decide) kont) ?_
        show G (T'.setTop (mkF m 95 #[.val (.long v), .second, .val (.ref b), .val (.int (Int32.ofNat A)), .val (.long (own_ng (M / 10 ^ (A + g + d - u)))), .second, .val (.int (Int32.ofNat d)), .val (.int (Int32.ofNat (A + g + d))), .val (.int i)] [(.long ((own_ng (M / 10 ^ (A + g + d - u))) - ((own_ng (M / 10 ^ (A + g + d - u))) / (10 : Int64)) * (10 : Int64))), (.long (48 : Int64)), (.int i), (.ref b)]))
        rw [show ((own_ng (M / 10 ^ (A + g + d - u))) - ((own_ng (M / 10 ^ (A + g + d - u))) / (10 : Int64)) * (10 : Int64)) = (own_ng ((M / 10 ^ (A + g + d - u)) % 10)) from own_ng_rem hR]
        show G (T'.setTop (mkF m 95 #[.val (.long v), .second, .val (.ref b), .val (.int (Int32.ofNat A)), .val (.long (own_ng (M / 10 ^ (A + g + d - u)))), .second, .val (.int (Int32.ofNat d)), .val (.int (Int32.ofNat (A + g + d))), .val (.int i)] [(.long (own_ng ((M / 10 ^ (A + g + d - u)) % 10))), (.long (48 : Int64)), (.int i), (.ref b)]))
        refine go (fun _ kont => XS.lsub X'.here hx rfl (hb hby d_prog_21_method_5_95) rfl kont) ?_
        show G (T'.setTop (mkF m 96 #[.val (.long v), .second, .val (.ref b), .val (.int (Int32.ofNat A)), .val (.long (own_ng (M / 10 ^ (A + g + d - u)))), .second, .val (.int (Int32.ofNat d)), .val (.int (Int32.ofNat (A + g + d))), .val (.int i)] [(.long ((48 : Int64) - (own_ng ((M / 10 ^ (A + g + d - u)) % 10)))), (.int i), (.ref b)]))
        rw [show ((48 : Int64) - (own_ng ((M / 10 ^ (A + g + d - u)) % 10))) = (Int64.ofNat (48 + (M / 10 ^ (A + g + d - u)) % 10)) from own_s48 (by omega)]
        show G (T'.setTop (mkF m 96 #[.val (.long v), .second, .val (.ref b), .val (.int (Int32.ofNat A)), .val (.long (own_ng (M / 10 ^ (A + g + d - u)))), .second, .val (.int (Int32.ofNat d)), .val (.int (Int32.ofNat (A + g + d))), .val (.int i)] [(.long (Int64.ofNat (48 + (M / 10 ^ (A + g + d - u)) % 10))), (.int i), (.ref b)]))
        refine go (fun _ kont => XS.l2i X'.here hx rfl (hb hby d_prog_21_method_5_96) rfl kont) ?_
        show G (T'.setTop (mkF m 97 #[.val (.long v), .second, .val (.ref b), .val (.int (Int32.ofNat A)), .val (.long (own_ng (M / 10 ^ (A + g + d - u)))), .second, .val (.int (Int32.ofNat d)), .val (.int (Int32.ofNat (A + g + d))), .val (.int i)] [(.int (Int64.ofNat (48 + (M / 10 ^ (A + g + d - u)) % 10)).toInt32), (.int i), (.ref b)]))
        rw [show (Int64.ofNat (48 + (M / 10 ^ (A + g + d - u)) % 10)).toInt32 = (Int32.ofNat (48 + (M / 10 ^ (A + g + d - u)) % 10)) from own_l2i (by omega)]
        show G (T'.setTop (mkF m 97 #[.val (.long v), .second, .val (.ref b), .val (.int (Int32.ofNat A)), .val (.long (own_ng (M / 10 ^ (A + g + d - u)))), .second, .val (.int (Int32.ofNat d)), .val (.int (Int32.ofNat (A + g + d))), .val (.int i)] [(.int (Int32.ofNat (48 + (M / 10 ^ (A + g + d - u)) % 10))), (.int i), (.ref b)]))
        refine go (fun _ kont => XS.i2b X'.here hx rfl (hb hby d_prog_21_method_5_97) rfl kont) ?_
        show G (T'.setTop (mkF m 98 #[.val (.long v), .second, .val (.ref b), .val (.int (Int32.ofNat A)), .val (.long (own_ng (M / 10 ^ (A + g + d - u)))), .second, .val (.int (Int32.ofNat d)), .val (.int (Int32.ofNat (A + g + d))), .val (.int i)] [(.int (Int32.ofNat (48 + (M / 10 ^ (A + g + d - u)) % 10)).toInt8.toInt32), (.int i), (.ref b)]))
        rw [show (Int32.ofNat (48 + (M / 10 ^ (A + g + d - u)) % 10)).toInt8.toInt32 = (Int32.ofNat (48 + (M / 10 ^ (A + g + d - u)) % 10)) from own_i2b (by omega)]
        show G (T'.setTop (mkF m 98 #[.val (.long v), .second, .val (.ref b), .val (.int (Int32.ofNat A)), .val (.long (own_ng (M / 10 ^ (A + g + d - u)))), .second, .val (.int (Int32.ofNat d)), .val (.int (Int32.ofNat (A + g + d))), .val (.int i)] [(.int (Int32.ofNat (48 + (M / 10 ^ (A + g + d - u)) % 10))), (.int i), (.ref b)]))
        obtain ⟨cl, Ar, Sl, Ml⟩ := id Vz
        have hik : i.toNatClampNeg = u - 1 := by have := own_tn (j := i) (by omega); omega
        obtain ⟨T2, h2, X2, e2, W2, st2⟩ := stB X' hx hZ e' Ar (j := i) (own_hink Sl (own_neg (by omega)) (k := u - 1) hik (by rw [List.length_map]; omega)) (g := (mkF m 98 #[.val (.long v), .second, .val (.ref b), .val (.int (Int32.ofNat A)), .val (.long (own_ng (M / 10 ^ (A + g + d - u)))), .second, .val (.int (Int32.ofNat d)), .val (.int (Int32.ofNat (A + g + d))), .val (.int i)] [(.int (Int32.ofNat (48 + (M / 10 ^ (A + g + d - u)) % 10))), (.int i), (.ref b)])) rfl rfl (hb hby d_prog_21_method_5_98)
        refine go st2 ?_
        show G (T2.setTop (mkF m 99 #[.val (.long v), .second, .val (.ref b), .val (.int (Int32.ofNat A)), .val (.long (own_ng (M / 10 ^ (A + g + d - u)))), .second, .val (.int (Int32.ofNat d)), .val (.int (Int32.ofNat (A + g + d))), .val (.int i)] []))
        rw [own_narB (by omega)] at W2
        have V2 : own_V Z h2 b .byte ((zs.set (u - 1) (Int32.ofNat (48 + (M / 10 ^ (A + g + d - u)) % 10))).map Value.int) := by rw [List.map_set]; exact own_V_set Vz W2 hik
        have K2 := K'.wr W2 (Or.inl (List.mem_of_getElem? (i := 0) rfl))
        have N2 := Fr.snoc X2 N' ga
        refine go (fun _ kont => XS.lload X2.here hx rfl (hb hby d_prog_21_method_5_99) rfl  kont) ?_
        show G (T2.setTop (mkF m 101 #[.val (.long v), .second, .val (.ref b), .val (.int (Int32.ofNat A)), .val (.long (own_ng (M / 10 ^ (A + g + d - u)))), .second, .val (.int (Int32.ofNat d)), .val (.int (Int32.ofNat (A + g + d))), .val (.int i)] [(.long (own_ng (M / 10 ^ (A + g + d - u))))]))
        refine go (fun _ kont => X2.ldc2Long hx hown (mvT hZ (hw _ (List.mem_of_getElem? (i := 7) rfl))) (g := (mkF m 101 #[.val (.long v), .second, .val (.ref b), .val (.int (Int32.ofNat A)), .val (.long (own_ng (M / 10 ^ (A + g + d - u)))), .second, .val (.int (Int32.ofNat d)), .val (.int (Int32.ofNat (A + g + d))), .val (.int i)] [(.long (own_ng (M / 10 ^ (A + g + d - u))))])) rfl (hb hby d_prog_21_method_5_101) _ kont) ?_
        show G (T2.setTop (mkF m 104 #[.val (.long v), .second, .val (.ref b), .val (.int (Int32.ofNat A)), .val (.long (own_ng (M / 10 ^ (A + g + d - u)))), .second, .val (.int (Int32.ofNat d)), .val (.int (Int32.ofNat (A + g + d))), .val (.int i)] [(.long (10 : Int64)), (.long (own_ng (M / 10 ^ (A + g + d - u))))]))
        refine go (fun _ kont => XS.ldiv X2.here hx rfl (hb hby d_prog_21_method_5_104) rfl (by decide) kont) ?_
        show G (T2.setTop (mkF m 105 #[.val (.long v), .second, .val (.ref b), .val (.int (Int32.ofNat A)), .val (.long (own_ng (M / 10 ^ (A + g + d - u)))), .second, .val (.int (Int32.ofNat d)), .val (.int (Int32.ofNat (A + g + d))), .val (.int i)] [(.long ((own_ng (M / 10 ^ (A + g + d - u))) / (10 : Int64)))]))
        rw [show ((own_ng (M / 10 ^ (A + g + d - u))) / (10 : Int64)) = (own_ng ((M / 10 ^ (A + g + d - u)) / 10)) from own_ng_div hR]
        show G (T2.setTop (mkF m 105 #[.val (.long v), .second, .val (.ref b), .val (.int (Int32.ofNat A)), .val (.long (own_ng (M / 10 ^ (A + g + d - u)))), .second, .val (.int (Int32.ofNat d)), .val (.int (Int32.ofNat (A + g + d))), .val (.int i)] [(.long (own_ng ((M / 10 ^ (A + g + d - u)) / 10)))]))
        rw [show (M / 10 ^ (A + g + d - u)) / 10 = (M / 10 ^ (A + g + d - (u - 1))) from own_div10 (by omega) (by omega)]
        show G (T2.setTop (mkF m 105 #[.val (.long v), .second, .val (.ref b), .val (.int (Int32.ofNat A)), .val (.long (own_ng (M / 10 ^ (A + g + d - u)))), .second, .val (.int (Int32.ofNat d)), .val (.int (Int32.ofNat (A + g + d))), .val (.int i)] [(.long (own_ng ((M / 10 ^ (A + g + d - (u - 1))))))]))
        refine go (fun _ kont => XS.lstore X2.here hx rfl (hb hby d_prog_21_method_5_105) rfl (l' := #[.val (.long v), .second, .val (.ref b), .val (.int (Int32.ofNat A)), .val (.long (own_ng ((M / 10 ^ (A + g + d - (u - 1)))))), .second, .val (.int (Int32.ofNat d)), .val (.int (Int32.ofNat (A + g + d))), .val (.int i)]) rfl kont) ?_
        show G (T2.setTop (mkF m 107 #[.val (.long v), .second, .val (.ref b), .val (.int (Int32.ofNat A)), .val (.long (own_ng ((M / 10 ^ (A + g + d - (u - 1)))))), .second, .val (.int (Int32.ofNat d)), .val (.int (Int32.ofNat (A + g + d))), .val (.int i)] []))
        refine go (fun _ kont => XS.iinc X2.here hx rfl (hb hby d_prog_21_method_5_107) rfl (l' := #[.val (.long v), .second, .val (.ref b), .val (.int (Int32.ofNat A)), .val (.long (own_ng ((M / 10 ^ (A + g + d - (u - 1)))))), .second, .val (.int (Int32.ofNat d)), .val (.int (Int32.ofNat (A + g + d))), .val (.int (i + (-1 : Int32)))]) rfl kont) ?_
        show G (T2.setTop (mkF m 110 #[.val (.long v), .second, .val (.ref b), .val (.int (Int32.ofNat A)), .val (.long (own_ng ((M / 10 ^ (A + g + d - (u - 1)))))), .second, .val (.int (Int32.ofNat d)), .val (.int (Int32.ofNat (A + g + d))), .val (.int (i + (-1 : Int32)))] []))
        refine go (fun _ kont => XS.goto X2.here hx rfl (pc0 := 110) (pc' := 73) rfl (hb hby d_prog_21_method_5_110) (by decide) (by decide) kont) ?_
        show G (T2.setTop (mkF m 73 #[.val (.long v), .second, .val (.ref b), .val (.int (Int32.ofNat A)), .val (.long (own_ng ((M / 10 ^ (A + g + d - (u - 1)))))), .second, .val (.int (Int32.ofNat d)), .val (.int (Int32.ofNat (A + g + d))), .val (.int (i + (-1 : Int32)))] []))
        exact ih (u - 1) (by omega) (by omega) (by omega) _ (own_dec hi (by omega)) _ _ _ _ (by rw [List.length_set]; exact hzl) V2 (own_dg_step (by omega) (by omega) (by omega) hzl hz) K2 N2 X2 e2
  have loop1 : ∀ (k d : Nat), 20 - d < k → 1 ≤ d → d ≤ 19 → (d = 1 ∨ M / 10 ^ (d - 1) ≠ 0) → ∀ (T' : State), Stand p l e ({ frames := 0, cells := 0, slots := 0, locals := 0 } : Room) s m #[(.long v), (.ref b), (.int (Int32.ofNat A))] below meth c T' [] 0 0 → T'.heap = h0 → G (T'.setTop (mkF m 25 #[.val (.long v), .second, .val (.ref b), .val (.int (Int32.ofNat A)), .val (.long (own_ng M)), .second, .val (.int (Int32.ofNat d)), .val (.long (own_ng (M / 10 ^ d))), .second] [])) := by
    intro k
    induction k with
    | zero => intro d hk; omega
    | succ k ih =>
      intro d hk hd1 hd19 hdl T' X' e'
      have hQ : M / 10 ^ d ≤ 9223372036854775808 := Nat.le_trans (Nat.div_le_self _ _) hMb
      have hg1 : g ≤ 1 := by omega
      show G (T'.setTop (mkF m 25 #[.val (.long v), .second, .val (.ref b), .val (.int (Int32.ofNat A)), .val (.long (own_ng M)), .second, .val (.int (Int32.ofNat d)), .val (.long (own_ng (M / 10 ^ d))), .second] []))
      refine go (fun _ kont => XS.lload X'.here hx rfl (hb hby d_prog_21_method_5_25) rfl  kont) ?_
      show G (T'.setTop (mkF m 27 #[.val (.long v), .second, .val (.ref b), .val (.int (Int32.ofNat A)), .val (.long (own_ng M)), .second, .val (.int (Int32.ofNat d)), .val (.long (own_ng (M / 10 ^ d))), .second] [(.long (own_ng (M / 10 ^ d)))]))
      refine go (fun _ kont => XS.lconst X'.here hx rfl (hb hby d_prog_21_method_5_27) kont) ?_
      show G (T'.setTop (mkF m 28 #[.val (.long v), .second, .val (.ref b), .val (.int (Int32.ofNat A)), .val (.long (own_ng M)), .second, .val (.int (Int32.ofNat d)), .val (.long (own_ng (M / 10 ^ d))), .second] [(.long (0 : Int64)), (.long (own_ng (M / 10 ^ d)))]))
      refine go (fun _ kont => XS.lcmp X'.here hx rfl (hb hby d_prog_21_method_5_28) rfl kont) ?_
      show G (T'.setTop (mkF m 29 #[.val (.long v), .second, .val (.ref b), .val (.int (Int32.ofNat A)), .val (.long (own_ng M)), .second, .val (.int (Int32.ofNat d)), .val (.long (own_ng (M / 10 ^ d))), .second] [(.int (lcmpW (own_ng (M / 10 ^ d)) (0 : Int64)))]))
      by_cases hc29 : (own_ng (M / 10 ^ d)) = (0 : Int64)
      · refine go (fun _ kont => XS.ifYes X'.here hx rfl (pc0 := 29) (pc' := 46) rfl (hb hby d_prog_21_method_5_29) rfl ((if0 _ _).trans (teq ((lw_eq _ _).mpr hc29)).1) (by decide) (by decide) kont) ?_
        show G (T'.setTop (mkF m 46 #[.val (.long v), .second, .val (.ref b), .val (.int (Int32.ofNat A)), .val (.long (own_ng M)), .second, .val (.int (Int32.ofNat d)), .val (.long (own_ng (M / 10 ^ d))), .second] []))
        rw [own_ng0 hQ] at hc29
        have hdd : own_dd M d := ⟨hd1, hd19, hc29, hdl⟩
        have at65 : G (T'.setTop (mkF m 65 #[.val (.long v), .second, .val (.ref b), .val (.int (Int32.ofNat A)), .val (.long (own_ng M)), .second, .val (.int (Int32.ofNat d)), .val (.long (own_ng (M / 10 ^ d))), .second] [.int (Int32.ofNat (A + g + d))])) := by
          show G (T'.setTop (mkF m 65 #[.val (.long v), .second, .val (.ref b), .val (.int (Int32.ofNat A)), .val (.long (own_ng M)), .second, .val (.int (Int32.ofNat d)), .val (.long (own_ng (M / 10 ^ d))), .second] [(.int (Int32.ofNat (A + g + d)))]))
          refine go (fun _ kont => XS.istore X'.here hx rfl (hb hby d_prog_21_method_5_65) rfl (l' := #[.val (.long v), .second, .val (.ref b), .val (.int (Int32.ofNat A)), .val (.long (own_ng M)), .second, .val (.int (Int32.ofNat d)), .val (.int (Int32.ofNat (A + g + d))), .unset]) rfl kont) ?_
          show G (T'.setTop (mkF m 67 #[.val (.long v), .second, .val (.ref b), .val (.int (Int32.ofNat A)), .val (.long (own_ng M)), .second, .val (.int (Int32.ofNat d)), .val (.int (Int32.ofNat (A + g + d))), .unset] []))
          refine go (fun _ kont => XS.iload X'.here hx rfl (hb hby d_prog_21_method_5_67) rfl  kont) ?_
          show G (T'.setTop (mkF m 69 #[.val (.long v), .second, .val (.ref b), .val (.int (Int32.ofNat A)), .val (.long (own_ng M)), .second, .val (.int (Int32.ofNat d)), .val (.int (Int32.ofNat (A + g + d))), .unset] [(.int (Int32.ofNat (A + g + d)))]))
          refine go (fun _ kont => XS.iconst X'.here hx rfl (hb hby d_prog_21_method_5_69) kont) ?_
          show G (T'.setTop (mkF m 70 #[.val (.long v), .second, .val (.ref b), .val (.int (Int32.ofNat A)), .val (.long (own_ng M)), .second, .val (.int (Int32.ofNat d)), .val (.int (Int32.ofNat (A + g + d))), .unset] [(.int (1 : Int32)), (.int (Int32.ofNat (A + g + d)))]))
          refine go (fun _ kont => XS.isub X'.here hx rfl (hb hby d_prog_21_method_5_70) rfl kont) ?_
          show G (T'.setTop (mkF m 71 #[.val (.long v), .second, .val (.ref b), .val (.int (Int32.ofNat A)), .val (.long (own_ng M)), .second, .val (.int (Int32.ofNat d)), .val (.int (Int32.ofNat (A + g + d))), .unset] [(.int ((Int32.ofNat (A + g + d)) - (1 : Int32)))]))
          refine go (fun _ kont => XS.istore X'.here hx rfl (hb hby d_prog_21_method_5_71) rfl (l' := #[.val (.long v), .second, .val (.ref b), .val (.int (Int32.ofNat A)), .val (.long (own_ng M)), .second, .val (.int (Int32.ofNat d)), .val (.int (Int32.ofNat (A + g + d))), .val (.int ((Int32.ofNat (A + g + d)) - (1 : Int32)))]) rfl kont) ?_
          show G (T'.setTop (mkF m 73 #[.val (.long v), .second, .val (.ref b), .val (.int (Int32.ofNat A)), .val (.long (own_ng M)), .second, .val (.int (Int32.ofNat d)), .val (.int (Int32.ofNat (A + g + d))), .val (.int ((Int32.ofNat (A + g + d)) - (1 : Int32)))] []))
          have hst := loop2 d hdd (A + g + d - (A + g) + 1) (A + g + d) (by omega) (by omega) (by omega) _ (own_preI (by omega)) ys _ _ _ hyl V (fun j hj => by rw [hys j hj, own_dg, if_neg (by omega)]) (Keep.refl _ _) N0 X' e'
          rw [Nat.sub_self, Nat.pow_zero, Nat.div_one] at hst
          exact hst
        rcases hng with ⟨hv, hg⟩ | ⟨hv, hg⟩
        · show G (T'.setTop (mkF m 46 #[.val (.long v), .second, .val (.ref b), .val (.int (Int32.ofNat A)), .val (.long (own_ng M)), .second, .val (.int (Int32.ofNat d)), .val (.long (own_ng (M / 10 ^ d))), .second] []))
          refine go (fun _ kont => XS.lloadN X'.here hx rfl (hb hby d_prog_21_method_5_46) rfl  kont) ?_
          show G (T'.setTop (mkF m 47 #[.val (.long v), .second, .val (.ref b), .val (.int (Int32.ofNat A)), .val (.long (own_ng M)), .second, .val (.int (Int32.ofNat d)), .val (.long (own_ng (M / 10 ^ d))), .second] [(.long v)]))
          refine go (fun _ kont => XS.lconst X'.here hx rfl (hb hby d_prog_21_method_5_47) kont) ?_
          show G (T'.setTop (mkF m 48 #[.val (.long v), .second, .val (.ref b), .val (.int (Int32.ofNat A)), .val (.long (own_ng M)), .second, .val (.int (Int32.ofNat d)), .val (.long (own_ng (M / 10 ^ d))), .second] [(.long (0 : Int64)), (.long v)]))
          refine go (fun _ kont => XS.lcmp X'.here hx rfl (hb hby d_prog_21_method_5_48) rfl kont) ?_
          show G (T'.setTop (mkF m 49 #[.val (.long v), .second, .val (.ref b), .val (.int (Int32.ofNat A)), .val (.long (own_ng M)), .second, .val (.int (Int32.ofNat d)), .val (.long (own_ng (M / 10 ^ d))), .second] [(.int (lcmpW v (0 : Int64)))]))
          refine go (fun _ kont => XS.ifNo X'.here hx rfl (hb hby d_prog_21_method_5_49) rfl ((if0 _ _).trans (tlt ((lw_lt _ _).mpr hv)).2.1) kont) ?_
          show G (T'.setTop (mkF m 52 #[.val (.long v), .second, .val (.ref b), .val (.int (Int32.ofNat A)), .val (.long (own_ng M)), .second, .val (.int (Int32.ofNat d)), .val (.long (own_ng (M / 10 ^ d))), .second] []))
          refine go (fun _ kont => XS.iloadN X'.here hx rfl (hb hby d_prog_21_method_5_52) rfl  kont) ?_
          show G (T'.setTop (mkF m 53 #[.val (.long v), .second, .val (.ref b), .val (.int (Int32.ofNat A)), .val (.long (own_ng M)), .second, .val (.int (Int32.ofNat d)), .val (.long (own_ng (M / 10 ^ d))), .second] [(.int (Int32.ofNat A))]))
          refine go (fun _ kont => XS.iload X'.here hx rfl (hb hby d_prog_21_method_5_53) rfl  kont) ?_
          show G (T'.setTop (mkF m 55 #[.val (.long v), .second, .val (.ref b), .val (.int (Int32.ofNat A)), .val (.long (own_ng M)), .second, .val (.int (Int32.ofNat d)), .val (.long (own_ng (M / 10 ^ d))), .second] [(.int (Int32.ofNat d)), (.int (Int32.ofNat A))]))
          refine go (fun _ kont => XS.iadd X'.here hx rfl (hb hby d_prog_21_method_5_55) rfl kont) ?_
          show G (T'.setTop (mkF m 56 #[.val (.long v), .second, .val (.ref b), .val (.int (Int32.ofNat A)), .val (.long (own_ng M)), .second, .val (.int (Int32.ofNat d)), .val (.long (own_ng (M / 10 ^ d))), .second] [(.int ((Int32.ofNat A) + (Int32.ofNat d)))]))
          refine go (fun _ kont => XS.iconst X'.here hx rfl (hb hby d_prog_21_method_5_56) kont) ?_
          show G (T'.setTop (mkF m 57 #[.val (.long v), .second, .val (.ref b), .val (.int (Int32.ofNat A)), .val (.long (own_ng M)), .second, .val (.int (Int32.ofNat d)), .val (.long (own_ng (M / 10 ^ d))), .second] [(.int (1 : Int32)), (.int ((Int32.ofNat A) + (Int32.ofNat d)))]))
          refine go (fun _ kont => XS.iadd X'.here hx rfl (hb hby d_prog_21_method_5_57) rfl kont) ?_
          show G (T'.setTop (mkF m 58 #[.val (.long v), .second, .val (.ref b), .val (.int (Int32.ofNat A)), .val (.long (own_ng M)), .second, .val (.int (Int32.ofNat d)), .val (.long (own_ng (M / 10 ^ d))), .second] [(.int (((Int32.ofNat A) + (Int32.ofNat d)) + (1 : Int32)))]))
          refine go (fun _ kont => XS.goto X'.here hx rfl (pc0 := 58) (pc' := 65) rfl (hb hby d_prog_21_method_5_58) (by decide) (by decide) kont) ?_
          show G (T'.setTop (mkF m 65 #[.val (.long v), .second, .val (.ref b), .val (.int (Int32.ofNat A)), .val (.long (own_ng M)), .second, .val (.int (Int32.ofNat d)), .val (.long (own_ng (M / 10 ^ d))), .second] [(.int (((Int32.ofNat A) + (Int32.ofNat d)) + (1 : Int32)))]))
          rw [show (((Int32.ofNat A) + (Int32.ofNat d)) + (1 : Int32)) = Int32.ofNat (A + g + d) from by rw [hg]; rw [own_addk, show (1 : Int32) = Int32.ofNat 1 from rfl, own_addk]; congr 1; omega]
          exact at65
        · show G (T'.setTop (mkF m 46 #[.val (.long v), .second, .val (.ref b), .val (.int (Int32.ofNat A)), .val (.long (own_ng M)), .second, .val (.int (Int32.ofNat d)), .val (.long (own_ng (M / 10 ^ d))), .second] []))
          refine go (fun _ kont => XS.lloadN X'.here hx rfl (hb hby d_prog_21_method_5_46) rfl  kont) ?_
          show G (T'.setTop (mkF m 47 #[.val (.long v), .second, .val (.ref b), .val (.int (Int32.ofNat A)), .val (.long (own_ng M)), .second, .val (.int (Int32.ofNat d)), .val (.long (own_ng (M / 10 ^ d))), .second] [(.long v)]))
          refine go (fun _ kont => XS.lconst X'.here hx rfl (hb hby d_prog_21_method_5_47) kont) ?_
          show G (T'.setTop (mkF m 48 #[.val (.long v), .second, .val (.ref b), .val (.int (Int32.ofNat A)), .val (.long (own_ng M)), .second, .val (.int (Int32.ofNat d)), .val (.long (own_ng (M / 10 ^ d))), .second] [(.long (0 : Int64)), (.long v)]))
          refine go (fun _ kont => XS.lcmp X'.here hx rfl (hb hby d_prog_21_method_5_48) rfl kont) ?_
          show G (T'.setTop (mkF m 49 #[.val (.long v), .second, .val (.ref b), .val (.int (Int32.ofNat A)), .val (.long (own_ng M)), .second, .val (.int (Int32.ofNat d)), .val (.long (own_ng (M / 10 ^ d))), .second] [(.int (lcmpW v (0 : Int64)))]))
          refine go (fun _ kont => XS.ifYes X'.here hx rfl (pc0 := 49) (pc' := 61) rfl (hb hby d_prog_21_method_5_49) rfl ((if0 _ _).trans (flt (mt (lw_lt _ _).mp hv)).2.1) (by decide) (by decide) kont) ?_
          show G (T'.setTop (mkF m 61 #[.val (.long v), .second, .val (.ref b), .val (.int (Int32.ofNat A)), .val (.long (own_ng M)), .second, .val (.int (Int32.ofNat d)), .val (.long (own_ng (M / 10 ^ d))), .second] []))
          refine go (fun _ kont => XS.iloadN X'.here hx rfl (hb hby d_prog_21_method_5_61) rfl  kont) ?_
          show G (T'.setTop (mkF m 62 #[.val (.long v), .second, .val (.ref b), .val (.int (Int32.ofNat A)), .val (.long (own_ng M)), .second, .val (.int (Int32.ofNat d)), .val (.long (own_ng (M / 10 ^ d))), .second] [(.int (Int32.ofNat A))]))
          refine go (fun _ kont => XS.iload X'.here hx rfl (hb hby d_prog_21_method_5_62) rfl  kont) ?_
          show G (T'.setTop (mkF m 64 #[.val (.long v), .second, .val (.ref b), .val (.int (Int32.ofNat A)), .val (.long (own_ng M)), .second, .val (.int (Int32.ofNat d)), .val (.long (own_ng (M / 10 ^ d))), .second] [(.int (Int32.ofNat d)), (.int (Int32.ofNat A))]))
          refine go (fun _ kont => XS.iadd X'.here hx rfl (hb hby d_prog_21_method_5_64) rfl kont) ?_
          show G (T'.setTop (mkF m 65 #[.val (.long v), .second, .val (.ref b), .val (.int (Int32.ofNat A)), .val (.long (own_ng M)), .second, .val (.int (Int32.ofNat d)), .val (.long (own_ng (M / 10 ^ d))), .second] [(.int ((Int32.ofNat A) + (Int32.ofNat d)))]))
          rw [show ((Int32.ofNat A) + (Int32.ofNat d)) = Int32.ofNat (A + g + d) from by rw [hg]; rw [own_addk]; congr 1]
          exact at65
      · refine go (fun _ kont => XS.ifNo X'.here hx rfl (hb hby d_prog_21_method_5_29) rfl ((if0 _ _).trans (feq (mt (lw_eq _ _).mp hc29)).1) kont) ?_
        show G (T'.setTop (mkF m 32 #[.val (.long v), .second, .val (.ref b), .val (.int (Int32.ofNat A)), .val (.long (own_ng M)), .second, .val (.int (Int32.ofNat d)), .val (.long (own_ng (M / 10 ^ d))), .second] []))
        rw [own_ng0 hQ] at hc29
        refine go (fun _ kont => XS.iinc X'.here hx rfl (hb hby d_prog_21_method_5_32) rfl (l' := #[.val (.long v), .second, .val (.ref b), .val (.int (Int32.ofNat A)), .val (.long (own_ng M)), .second, .val (.int ((Int32.ofNat d) + (1 : Int32))), .val (.long (own_ng (M / 10 ^ d))), .second]) rfl kont) ?_
        show G (T'.setTop (mkF m 35 #[.val (.long v), .second, .val (.ref b), .val (.int (Int32.ofNat A)), .val (.long (own_ng M)), .second, .val (.int ((Int32.ofNat d) + (1 : Int32))), .val (.long (own_ng (M / 10 ^ d))), .second] []))
        have hd18 : d ≤ 18 := by
          apply Classical.byContradiction; intro q
          have q1 := own_p10 d (by omega) (by omega)
          exact hc29 (Nat.div_eq_of_lt (by omega))
        rw [show ((Int32.ofNat d) + (1 : Int32)) = (Int32.ofNat (d + 1)) from own_addk d 1]
        show G (T'.setTop (mkF m 35 #[.val (.long v), .second, .val (.ref b), .val (.int (Int32.ofNat A)), .val (.long (own_ng M)), .second, .val (.int (Int32.ofNat (d + 1))), .val (.long (own_ng (M / 10 ^ d))), .second] []))
        refine go (fun _ kont => XS.lload X'.here hx rfl (hb hby d_prog_21_method_5_35) rfl  kont) ?_
        show G (T'.setTop (mkF m 37 #[.val (.long v), .second, .val (.ref b), .val (.int (Int32.ofNat A)), .val (.long (own_ng M)), .second, .val (.int (Int32.ofNat (d + 1))), .val (.long (own_ng (M / 10 ^ d))), .second] [(.long (own_ng (M / 10 ^ d)))]))
        refine go (fun _ kont => X'.ldc2Long hx hown (mvT hZ (hw _ (List.mem_of_getElem? (i := 7) rfl))) (g := (mkF m 37 #[.val (.long v), .second, .val (.ref b), .val (.int (Int32.ofNat A)), .val (.long (own_ng M)), .second, .val (.int (Int32.ofNat (d + 1))), .val (.long (own_ng (M / 10 ^ d))), .second] [(.long (own_ng (M / 10 ^ d)))])) rfl (hb hby d_prog_21_method_5_37) _ kont) ?_
        show G (T'.setTop (mkF m 40 #[.val (.long v), .second, .val (.ref b), .val (.int (Int32.ofNat A)), .val (.long (own_ng M)), .second, .val (.int (Int32.ofNat (d + 1))), .val (.long (own_ng (M / 10 ^ d))), .second] [(.long (10 : Int64)), (.long (own_ng (M / 10 ^ d)))]))
        refine go (fun _ kont => XS.ldiv X'.here hx rfl (hb hby d_prog_21_method_5_40) rfl (by decide) kont) ?_
        show G (T'.setTop (mkF m 41 #[.val (.long v), .second, .val (.ref b), .val (.int (Int32.ofNat A)), .val (.long (own_ng M)), .second, .val (.int (Int32.ofNat (d + 1))), .val (.long (own_ng (M / 10 ^ d))), .second] [(.long ((own_ng (M / 10 ^ d)) / (10 : Int64)))]))
        rw [show ((own_ng (M / 10 ^ d)) / (10 : Int64)) = (own_ng (M / 10 ^ d / 10)) from own_ng_div hQ]
        show G (T'.setTop (mkF m 41 #[.val (.long v), .second, .val (.ref b), .val (.int (Int32.ofNat A)), .val (.long (own_ng M)), .second, .val (.int (Int32.ofNat (d + 1))), .val (.long (own_ng (M / 10 ^ d))), .second] [(.long (own_ng (M / 10 ^ d / 10)))]))
        rw [show (M / 10 ^ d / 10) = (M / 10 ^ (d + 1)) from own_div1 M d]
        show G (T'.setTop (mkF m 41 #[.val (.long v), .second, .val (.ref b), .val (.int (Int32.ofNat A)), .val (.long (own_ng M)), .second, .val (.int (Int32.ofNat (d + 1))), .val (.long (own_ng (M / 10 ^ d))), .second] [(.long (own_ng (M / 10 ^ (d + 1))))]))
        refine go (fun _ kont => XS.lstore X'.here hx rfl (hb hby d_prog_21_method_5_41) rfl (l' := #[.val (.long v), .second, .val (.ref b), .val (.int (Int32.ofNat A)), .val (.long (own_ng M)), .second, .val (.int (Int32.ofNat (d + 1))), .val (.long (own_ng (M / 10 ^ (d + 1)))), .second]) rfl kont) ?_
        show G (T'.setTop (mkF m 43 #[.val (.long v), .second, .val (.ref b), .val (.int (Int32.ofNat A)), .val (.long (own_ng M)), .second, .val (.int (Int32.ofNat (d + 1))), .val (.long (own_ng (M / 10 ^ (d + 1)))), .second] []))
        refine go (fun _ kont => XS.goto X'.here hx rfl (pc0 := 43) (pc' := 25) rfl (hb hby d_prog_21_method_5_43) (by decide) (by decide) kont) ?_
        show G (T'.setTop (mkF m 25 #[.val (.long v), .second, .val (.ref b), .val (.int (Int32.ofNat A)), .val (.long (own_ng M)), .second, .val (.int (Int32.ofNat (d + 1))), .val (.long (own_ng (M / 10 ^ (d + 1)))), .second] []))
        exact ih (d + 1) (by omega) (by omega) (by omega) (Or.inr (by rw [Nat.add_sub_cancel]; exact hc29)) _ X' e'
  have at12 : G (s₁.setTop (mkF m 12 #[.val (.long v), .second, .val (.ref b), .val (.int (Int32.ofNat A)), .unset, .unset, .unset, .unset, .unset] [.long (own_ng M)])) := by
    show G (s₁.setTop (mkF m 12 #[.val (.long v), .second, .val (.ref b), .val (.int (Int32.ofNat A)), .unset, .unset, .unset, .unset, .unset] [(.long (own_ng M))]))
    refine go (fun _ kont => XS.lstore X0.here hx rfl (hb hby d_prog_21_method_5_12) rfl (l' := #[.val (.long v), .second, .val (.ref b), .val (.int (Int32.ofNat A)), .val (.long (own_ng M)), .second, .unset, .unset, .unset]) rfl kont) ?_
    show G (s₁.setTop (mkF m 14 #[.val (.long v), .second, .val (.ref b), .val (.int (Int32.ofNat A)), .val (.long (own_ng M)), .second, .unset, .unset, .unset] []))
    refine go (fun _ kont => XS.iconst X0.here hx rfl (hb hby d_prog_21_method_5_14) kont) ?_
    show G (s₁.setTop (mkF m 15 #[.val (.long v), .second, .val (.ref b), .val (.int (Int32.ofNat A)), .val (.long (own_ng M)), .second, .unset, .unset, .unset] [(.int (1 : Int32))]))
    refine go (fun _ kont => XS.istore X0.here hx rfl (hb hby d_prog_21_method_5_15) rfl (l' := #[.val (.long v), .second, .val (.ref b), .val (.int (Int32.ofNat A)), .val (.long (own_ng M)), .second, .val (.int (1 : Int32)), .unset, .unset]) rfl kont) ?_
    show G (s₁.setTop (mkF m 17 #[.val (.long v), .second, .val (.ref b), .val (.int (Int32.ofNat A)), .val (.long (own_ng M)), .second, .val (.int (1 : Int32)), .unset, .unset] []))
    refine go (fun _ kont => XS.lload X0.here hx rfl (hb hby d_prog_21_method_5_17) rfl  kont) ?_
    show G (s₁.setTop (mkF m 19 #[.val (.long v), .second, .val (.ref b), .val (.int (Int32.ofNat A)), .val (.long (own_ng M)), .second, .val (.int (1 : Int32)), .unset, .unset] [(.long (own_ng M))]))
    refine go (fun _ kont => X0.ldc2Long hx hown (mvT hZ (hw _ (List.mem_of_getElem? (i := 7) rfl))) (g := (mkF m 19 #[.val (.long v), .second, .val (.ref b), .val (.int (Int32.ofNat A)), .val (.long (own_ng M)), .second, .val (.int (1 : Int32)), .unset, .unset] [(.long (own_ng M))])) rfl (hb hby d_prog_21_method_5_19) _ kont) ?_
    show G (s₁.setTop (mkF m 22 #[.val (.long v), .second, .val (.ref b), .val (.int (Int32.ofNat A)), .val (.long (own_ng M)), .second, .val (.int (1 : Int32)), .unset, .unset] [(.long (10 : Int64)), (.long (own_ng M))]))
    refine go (fun _ kont => XS.ldiv X0.here hx rfl (hb hby d_prog_21_method_5_22) rfl (by decide) kont) ?_
    show G (s₁.setTop (mkF m 23 #[.val (.long v), .second, .val (.ref b), .val (.int (Int32.ofNat A)), .val (.long (own_ng M)), .second, .val (.int (1 : Int32)), .unset, .unset] [(.long ((own_ng M) / (10 : Int64)))]))
    rw [show ((own_ng M) / (10 : Int64)) = (own_ng (M / 10)) from own_ng_div hMb]
    show G (s₁.setTop (mkF m 23 #[.val (.long v), .second, .val (.ref b), .val (.int (Int32.ofNat A)), .val (.long (own_ng M)), .second, .val (.int (1 : Int32)), .unset, .unset] [(.long (own_ng (M / 10)))]))
    refine go (fun _ kont => XS.lstore X0.here hx rfl (hb hby d_prog_21_method_5_23) rfl (l' := #[.val (.long v), .second, .val (.ref b), .val (.int (Int32.ofNat A)), .val (.long (own_ng M)), .second, .val (.int (1 : Int32)), .val (.long (own_ng (M / 10))), .second]) rfl kont) ?_
    show G (s₁.setTop (mkF m 25 #[.val (.long v), .second, .val (.ref b), .val (.int (Int32.ofNat A)), .val (.long (own_ng M)), .second, .val (.int (1 : Int32)), .val (.long (own_ng (M / 10))), .second] []))
    have hst := loop1 20 1 (by omega) (by omega) (by omega) (Or.inl rfl) _ X0 e0
    rw [Nat.pow_one] at hst
    exact hst
  refine go (fun _ kont => XS.lloadN X0.here hx rfl (hb hby d_prog_21_method_5_0) rfl  kont) ?_
  show G (s₁.setTop (mkF m 1 #[.val (.long v), .second, .val (.ref b), .val (.int (Int32.ofNat A)), .unset, .unset, .unset, .unset, .unset] [(.long v)]))
  refine go (fun _ kont => XS.lconst X0.here hx rfl (hb hby d_prog_21_method_5_1) kont) ?_
  show G (s₁.setTop (mkF m 2 #[.val (.long v), .second, .val (.ref b), .val (.int (Int32.ofNat A)), .unset, .unset, .unset, .unset, .unset] [(.long (0 : Int64)), (.long v)]))
  refine go (fun _ kont => XS.lcmp X0.here hx rfl (hb hby d_prog_21_method_5_2) rfl kont) ?_
  show G (s₁.setTop (mkF m 3 #[.val (.long v), .second, .val (.ref b), .val (.int (Int32.ofNat A)), .unset, .unset, .unset, .unset, .unset] [(.int (lcmpW v (0 : Int64)))]))
  by_cases hc3 : v < (0 : Int64)
  · refine go (fun _ kont => XS.ifNo X0.here hx rfl (hb hby d_prog_21_method_5_3) rfl ((if0 _ _).trans (tlt ((lw_lt _ _).mpr hc3)).2.1) kont) ?_
    show G (s₁.setTop (mkF m 6 #[.val (.long v), .second, .val (.ref b), .val (.int (Int32.ofNat A)), .unset, .unset, .unset, .unset, .unset] []))
    refine go (fun _ kont => XS.lloadN X0.here hx rfl (hb hby d_prog_21_method_5_6) rfl  kont) ?_
    show G (s₁.setTop (mkF m 7 #[.val (.long v), .second, .val (.ref b), .val (.int (Int32.ofNat A)), .unset, .unset, .unset, .unset, .unset] [(.long v)]))
    refine go (fun _ kont => XS.goto X0.here hx rfl (pc0 := 7) (pc' := 12) rfl (hb hby d_prog_21_method_5_7) (by decide) (by decide) kont) ?_
    show G (s₁.setTop (mkF m 12 #[.val (.long v), .second, .val (.ref b), .val (.int (Int32.ofNat A)), .unset, .unset, .unset, .unset, .unset] [(.long v)]))
    have q12 := at12
    rw [← (show v = own_ng M from by rw [hM]; exact own_neg_of hc3)] at q12
    exact q12
  · refine go (fun _ kont => XS.ifYes X0.here hx rfl (pc0 := 3) (pc' := 10) rfl (hb hby d_prog_21_method_5_3) rfl ((if0 _ _).trans (flt (mt (lw_lt _ _).mp hc3)).2.1) (by decide) (by decide) kont) ?_
    show G (s₁.setTop (mkF m 10 #[.val (.long v), .second, .val (.ref b), .val (.int (Int32.ofNat A)), .unset, .unset, .unset, .unset, .unset] []))
    refine go (fun _ kont => XS.lloadN X0.here hx rfl (hb hby d_prog_21_method_5_10) rfl  kont) ?_
    show G (s₁.setTop (mkF m 11 #[.val (.long v), .second, .val (.ref b), .val (.int (Int32.ofNat A)), .unset, .unset, .unset, .unset, .unset] [(.long v)]))
    refine go (fun _ kont => XS.lneg X0.here hx rfl (hb hby d_prog_21_method_5_11) rfl kont) ?_
    show G (s₁.setTop (mkF m 12 #[.val (.long v), .second, .val (.ref b), .val (.int (Int32.ofNat A)), .unset, .unset, .unset, .unset, .unset] [(.long (-v))]))
    have q12 := at12
    rw [← (show (-v) = own_ng M from by rw [hM]; exact own_neg_of' hc3)] at q12
    exact q12
theorem own_ef_own_rm_parse (m : MethodId) (x0 : Addr) (x1 : Int32) (x2 : Int32) : entryFrame m #[(.ref x0), (.int x1), (.int x2)] 9 = mkF m 0 #[.val (.ref x0), .val (.int x1), .val (.int x2), .unset, .unset, .unset, .unset, .unset, .unset] [] := by first | (simp [entryFrame, mkF, argsToLocals, Value.category]; done) | rfl
set_option maxRecDepth 65536 in
set_option maxHeartbeats 40000000 in
theorem own_rm_parse (l : Launch) (Z : State) (a0 : Array Value) (hw : ∀ d ∈ tables_1, d.before a0 Z = true) (ws : List Jvm.Cond) (b : Addr) (h0 : Heap) (n0 : Nat) (Z0 : n0 ≤ h0.size) (v : Int64) (M A g d : Nat) (hM : M = v.toInt.natAbs) (hng : (v < (0 : Int64) ∧ g = 1) ∨ (¬ v < (0 : Int64) ∧ g = 0)) (hA : A ≤ 7) (hd : own_dd M d) (zs : List Int32) (hzl : zs.length = 30) (V : own_V Z h0 b .byte (zs.map Value.int)) (hz : ∀ j, j < 30 → zs.getD j 0 = own_out M A g d j) :
    MetFree l (⟨"com/example/keyspace/keyspace/protocol/Decimal", "parseLong", "([BII)J"⟩ : MethodName) (head1 (Jvm.Cond.code (⟨"com/example/keyspace/keyspace/protocol/Decimal", "parseLong", "([BII)J"⟩ : MethodName) prog_21_method_3_code 9 (some .long) :: ws) ({ frames := 0, cells := 0, slots := 0, locals := 0 } : Room)) (fun aq Uq => aq = #[(.ref b), (.int (Int32.ofNat A)), (.int (Int32.ofNat (A + g + d)))] ∧ Z.Warmed39 Uq.vm ∧ Uq.heap = h0) (fun _ _ _ _ _ => True) (fun _ Uq oq Uq' => ∃ vq Lq, oq = .returned vq ∧ (own_Qp (some (.long v)) h0 n0) vq Uq'.heap Lq ∧ FrameEnd Uq oq Uq' Lq ({ frames := 0, cells := 0, slots := 0, locals := 0 } : Room).cells ({ frames := 0, cells := 0, slots := 0, locals := 0 } : Room).slots) := by
  refine MetFree.of_bodySF (plainFor_of_name own_pn0) hisR ?_
  intro p e s m args below meth c s₁ Bd hml0 hP hK
  obtain ⟨rfl, hZ, hh⟩ := hP
  have hx := Bd.exec
  have hby := Bd.bytes
  have hml : c.maxLocals = 9 := hml0
  have hown : s.vm.findClass "com/example/keyspace/keyspace/protocol/Decimal" = some m.cls := findClass_of_methodNamed Bd.named
  have hnm := (name_of_methodNamed Bd.named Bd.method).1
  have X0 : Stand p l e ({ frames := 0, cells := 0, slots := 0, locals := 0 } : Room) s m #[(.ref b), (.int (Int32.ofNat A)), (.int (Int32.ofNat (A + g + d)))] below meth c s₁ [] 0 0 := Stand.of_body Bd
  have e0 : s₁.heap = h0 := by rw [← hh, Bd.state]; rfl
  have N0 := Fr.nil n0
  have hlk : meth.locks = false := by first | exact BodyLoose.notSynchronized Bd | exact Body.notSynchronized Bd
  obtain ⟨G, hG⟩ : ∃ G : State → Prop, G = own_G p e below s ({ frames := 0, cells := 0, slots := 0, locals := 0 } : Room).cells ({ frames := 0, cells := 0, slots := 0, locals := 0 } : Room).slots ((own_Qp (some (.long v)) h0 n0)) := ⟨_, rfl⟩
  have go : ∀ {S S' : State}, (∀ t, Steps p.tables e below S' t → Steps p.tables e below S t) → G S' → G S := by rw [hG]; exact own_to
  suffices hs : G (s₁.setTop (mkF m 0 #[.val (.ref b), .val (.int (Int32.ofNat A)), .val (.int (Int32.ofNat (A + g + d))), .unset, .unset, .unset, .unset, .unset, .unset] [])) by
    rw [hG] at hs
    exact own_to (fun _ kont => castTop (own_ef_own_rm_parse m b (Int32.ofNat A) (Int32.ofNat (A + g + d))) kont) hs
  have hMb : M ≤ 9223372036854775808 := by rw [hM]; exact own_absb v
  have hMp : g = 0 → M < 9223372036854775808 := by
    intro q
    have h1 := rng64 v
    rcases hng with ⟨q1, q2⟩ | ⟨q1, q2⟩
    · omega
    · rw [own_ltJ, show (0 : Int64).toInt = 0 by decide] at q1; omega
  have hM1 : g = 1 → M ≠ 0 := by
    intro q
    rcases hng with ⟨q1, q2⟩ | ⟨q1, q2⟩
    · rw [own_ltJ, show (0 : Int64).toInt = 0 by decide] at q1; omega
    · omega
  have hg01 : g = 1 ∨ g = 0 := by omega
  have hdd := hd
  obtain ⟨hd1, hd19, hdz, hdl⟩ := hd
  obtain ⟨cl, Ar, Sl, Ml⟩ := id V
  have hdig : ∀ t, t < d → zs.getD (A + g + t) 0 = Int32.ofNat (48 + M / 10 ^ (d - 1 - t) % 10) := by
    intro t ht
    rw [hz _ (by omega), own_out, if_neg (by omega), own_dg, if_pos (by omega), show A + g + d - 1 - (A + g + t) = d - 1 - t by omega]
  have loop : ∀ (k t : Nat), d - t < k → t ≤ d → ∀ (s8 : Slot), One s8 → ∀ (T' : State), Stand p l e ({ frames := 0, cells := 0, slots := 0, locals := 0 } : Room) s m #[(.ref b), (.int (Int32.ofNat A)), (.int (Int32.ofNat (A + g + d)))] below meth c T' [] 0 0 → T'.heap = h0 → G (T'.setTop (mkF m 73 #[.val (.ref b), .val (.int (Int32.ofNat A)), .val (.int (Int32.ofNat (A + g + d))), .val (.int (Int32.ofNat g)), .val (.int (Int32.ofNat (A + g))), .val (.long (own_ng (M / 10 ^ (d - t)))), .second, .val (.int (Int32.ofNat (A + g + t))), s8] [])) := by
    intro k
    induction k with
    | zero => intro t hk; omega
    | succ k ih =>
      intro t hk htd s8 hs8 T' X' e'
      show G (T'.setTop (mkF m 73 #[.val (.ref b), .val (.int (Int32.ofNat A)), .val (.int (Int32.ofNat (A + g + d))), .val (.int (Int32.ofNat g)), .val (.int (Int32.ofNat (A + g))), .val (.long (own_ng (M / 10 ^ (d - t)))), .second, .val (.int (Int32.ofNat (A + g + t))), s8] []))
      refine go (fun _ kont => XS.iload X'.here hx rfl (hb hby d_prog_21_method_3_73) rfl  kont) ?_
      show G (T'.setTop (mkF m 75 #[.val (.ref b), .val (.int (Int32.ofNat A)), .val (.int (Int32.ofNat (A + g + d))), .val (.int (Int32.ofNat g)), .val (.int (Int32.ofNat (A + g))), .val (.long (own_ng (M / 10 ^ (d - t)))), .second, .val (.int (Int32.ofNat (A + g + t))), s8] [(.int (Int32.ofNat (A + g + t)))]))
      refine go (fun _ kont => XS.iloadN X'.here hx rfl (hb hby d_prog_21_method_3_75) rfl  kont) ?_
      show G (T'.setTop (mkF m 76 #[.val (.ref b), .val (.int (Int32.ofNat A)), .val (.int (Int32.ofNat (A + g + d))), .val (.int (Int32.ofNat g)), .val (.int (Int32.ofNat (A + g))), .val (.long (own_ng (M / 10 ^ (d - t)))), .second, .val (.int (Int32.ofNat (A + g + t))), s8] [(.int (Int32.ofNat (A + g + d))), (.int (Int32.ofNat (A + g + t)))]))
      by_cases hc76 : (Int32.ofNat (A + g + t)) < (Int32.ofNat (A + g + d))
      · refine go (fun _ kont => XS.icmpNo X'.here hx rfl (hb hby d_prog_21_method_3_76) rfl (tlt hc76).2.1 kont) ?_
        show G (T'.setTop (mkF m 79 #[.val (.ref b), .val (.int (Int32.ofNat A)), .val (.int (Int32.ofNat (A + g + d))), .val (.int (Int32.ofNat g)), .val (.int (Int32.ofNat (A + g))), .val (.long (own_ng (M / 10 ^ (d - t)))), .second, .val (.int (Int32.ofNat (A + g + t))), s8] []))
        rw [own_ltO (by omega) (by omega)] at hc76
        have hY : (M / 10 ^ (d - t)) = M / 10 ^ (d - 1 - t) / 10 := by rw [own_div1]; congr 2; omega
        have hYb : M / 10 ^ (d - 1 - t) ≤ 9223372036854775808 := Nat.le_trans (Nat.div_le_self _ _) hMb
        refine go (fun _ kont => XS.aloadN X'.here hx rfl (hb hby d_prog_21_method_3_79) rfl rfl kont) ?_
        show G (T'.setTop (mkF m 80 #[.val (.ref b), .val (.int (Int32.ofNat A)), .val (.int (Int32.ofNat (A + g + d))), .val (.int (Int32.ofNat g)), .val (.int (Int32.ofNat (A + g))), .val (.long (own_ng (M / 10 ^ (d - t)))), .second, .val (.int (Int32.ofNat (A + g + t))), s8] [(.ref b)]))
        refine go (fun _ kont => XS.iload X'.here hx rfl (hb hby d_prog_21_method_3_80) rfl  kont) ?_
        show G (T'.setTop (mkF m 82 #[.val (.ref b), .val (.int (Int32.ofNat A)), .val (.int (Int32.ofNat (A + g + d))), .val (.int (Int32.ofNat g)), .val (.int (Int32.ofNat (A + g))), .val (.long (own_ng (M / 10 ^ (d - t)))), .second, .val (.int (Int32.ofNat (A + g + t))), s8] [(.int (Int32.ofNat (A + g + t))), (.ref b)]))
        refine go (fun _ kont => X'.baloadBytes hx (j := (Int32.ofNat (A + g + t))) (v := (.int (zs.getD (A + g + t) 0))) (by rw [e']; exact Ar.1) (State.isArrayOf_alike hZ.alike Ar.2.1) Ar.2.2 (own_hink Sl (own_neg (by rw [own_ofN (by omega)]; omega)) (own_tnO (by omega)) (k := A + g + t) (by rw [List.length_map]; omega)) (own_hatk Sl (own_tnO (by omega)) (own_atI (k := A + g + t) (by omega))) (g := (mkF m 82 #[.val (.ref b), .val (.int (Int32.ofNat A)), .val (.int (Int32.ofNat (A + g + d))), .val (.int (Int32.ofNat g)), .val (.int (Int32.ofNat (A + g))), .val (.long (own_ng (M / 10 ^ (d - t)))), .second, .val (.int (Int32.ofNat (A + g + t))), s8] [(.int (Int32.ofNat (A + g + t))), (.ref b)])) rfl rfl (hb hby d_prog_21_method_3_82) _ kont) ?_
        show G (T'.setTop (mkF m 83 #[.val (.ref b), .val (.int (Int32.ofNat A)), .val (.int (Int32.ofNat (A + g + d))), .val (.int (Int32.ofNat g)), .val (.int (Int32.ofNat (A + g))), .val (.long (own_ng (M / 10 ^ (d - t)))), .second, .val (.int (Int32.ofNat (A + g + t))), s8] [(.int (zs.getD (A + g + t) 0))]))
        rw [hdig t (by omega)]
        show G (T'.setTop (mkF m 83 #[.val (.ref b), .val (.int (Int32.ofNat A)), .val (.int (Int32.ofNat (A + g + d))), .val (.int (Int32.ofNat g)), .val (.int (Int32.ofNat (A + g))), .val (.long (own_ng (M / 10 ^ (d - t)))), .second, .val (.int (Int32.ofNat (A + g + t))), s8] [(.int (Int32.ofNat (48 + (M / 10 ^ (d - 1 - t) % 10))))]))
        refine go (fun _ kont => XS.bipush X'.here hx rfl (hb hby d_prog_21_method_3_83) kont) ?_
        show G (T'.setTop (mkF m 85 #[.val (.ref b), .val (.int (Int32.ofNat A)), .val (.int (Int32.ofNat (A + g + d))), .val (.int (Int32.ofNat g)), .val (.int (Int32.ofNat (A + g))), .val (.long (own_ng (M / 10 ^ (d - t)))), .second, .val (.int (Int32.ofNat (A + g + t))), s8] [(.int (48 : Int32)), (.int (Int32.ofNat (48 + (M / 10 ^ (d - 1 - t) % 10))))]))
        refine go (fun _ kont => XS.isub X'.here hx rfl (hb hby d_prog_21_method_3_85) rfl kont) ?_
        show G (T'.setTop (mkF m 86 #[.val (.ref b), .val (.int (Int32.ofNat A)), .val (.int (Int32.ofNat (A + g + d))), .val (.int (Int32.ofNat g)), .val (.int (Int32.ofNat (A + g))), .val (.long (own_ng (M / 10 ^ (d - t)))), .second, .val (.int (Int32.ofNat (A + g + t))), s8] [(.int ((Int32.ofNat (48 + (M / 10 ^ (d - 1 - t) % 10))) - (48 : Int32)))]))
        rw [show ((Int32.ofNat (48 + (M / 10 ^ (d - 1 - t) % 10))) - (48 : Int32)) = (Int32.ofNat (M / 10 ^ (d - 1 - t) % 10)) from (by rw [show (48 : Int32) = Int32.ofNat 48 from rfl, own_subk (by omega)]; congr 1; omega)]
        show G (T'.setTop (mkF m 86 #[.val (.ref b), .val (.int (Int32.ofNat A)), .val (.int (Int32.ofNat (A + g + d))), .val (.int (Int32.ofNat g)), .val (.int (Int32.ofNat (A + g))), .val (.long (own_ng (M / 10 ^ (d - t)))), .second, .val (.int (Int32.ofNat (A + g + t))), s8] [(.int (Int32.ofNat (M / 10 ^ (d - 1 - t) % 10)))]))
        refine go (fun _ kont => XS.istore X'.here hx rfl (hb hby d_prog_21_method_3_86) rfl (l' := #[.val (.ref b), .val (.int (Int32.ofNat A)), .val (.int (Int32.ofNat (A + g + d))), .val (.int (Int32.ofNat g)), .val (.int (Int32.ofNat (A + g))), .val (.long (own_ng (M / 10 ^ (d - t)))), .second, .val (.int (Int32.ofNat (A + g + t))), .val (.int (Int32.ofNat (M / 10 ^ (d - 1 - t) % 10)))]) (by rcases hs8 with rfl | ⟨w, rfl, hw⟩ <;> first | rfl | (cases w <;> first | rfl | (simp [Value.category] at hw))) kont) ?_
        show G (T'.setTop (mkF m 88 #[.val (.ref b), .val (.int (Int32.ofNat A)), .val (.int (Int32.ofNat (A + g + d))), .val (.int (Int32.ofNat g)), .val (.int (Int32.ofNat (A + g))), .val (.long (own_ng (M / 10 ^ (d - t)))), .second, .val (.int (Int32.ofNat (A + g + t))), .val (.int (Int32.ofNat (M / 10 ^ (d - 1 - t) % 10)))] []))
        refine go (fun _ kont => XS.iload X'.here hx rfl (hb hby d_prog_21_method_3_88) rfl  kont) ?_
        show G (T'.setTop (mkF m 90 #[.val (.ref b), .val (.int (Int32.ofNat A)), .val (.int (Int32.ofNat (A + g + d))), .val (.int (Int32.ofNat g)), .val (.int (Int32.ofNat (A + g))), .val (.long (own_ng (M / 10 ^ (d - t)))), .second, .val (.int (Int32.ofNat (A + g + t))), .val (.int (Int32.ofNat (M / 10 ^ (d - 1 - t) % 10)))] [(.int (Int32.ofNat (M / 10 ^ (d - 1 - t) % 10)))]))
        refine go (fun _ kont => XS.ifNo X'.here hx rfl (hb hby d_prog_21_method_3_90) rfl ((if0 _ _).trans (flt (own_neg (by rw [own_ofN (by omega)]; omega))).1) kont) ?_
        show G (T'.setTop (mkF m 93 #[.val (.ref b), .val (.int (Int32.ofNat A)), .val (.int (Int32.ofNat (A + g + d))), .val (.int (Int32.ofNat g)), .val (.int (Int32.ofNat (A + g))), .val (.long (own_ng (M / 10 ^ (d - t)))), .second, .val (.int (Int32.ofNat (A + g + t))), .val (.int (Int32.ofNat (M / 10 ^ (d - 1 - t) % 10)))] []))
        refine go (fun _ kont => XS.iload X'.here hx rfl (hb hby d_prog_21_method_3_93) rfl  kont) ?_
        show G (T'.setTop (mkF m 95 #[.val (.ref b), .val (.int (Int32.ofNat A)), .val (.int (Int32.ofNat (A + g + d))), .val (.int (Int32.ofNat g)), .val (.int (Int32.ofNat (A + g))), .val (.long (own_ng (M / 10 ^ (d - t)))), .second, .val (.int (Int32.ofNat (A + g + t))), .val (.int (Int32.ofNat (M / 10 ^ (d - 1 - t) % 10)))] [(.int (Int32.ofNat (M / 10 ^ (d - 1 - t) % 10)))]))
        refine go (fun _ kont => XS.bipush X'.here hx rfl (hb hby d_prog_21_method_3_95) kont) ?_
        show G (T'.setTop (mkF m 97 #[.val (.ref b), .val (.int (Int32.ofNat A)), .val (.int (Int32.ofNat (A + g + d))), .val (.int (Int32.ofNat g)), .val (.int (Int32.ofNat (A + g))), .val (.long (own_ng (M / 10 ^ (d - t)))), .second, .val (.int (Int32.ofNat (A + g + t))), .val (.int (Int32.ofNat (M / 10 ^ (d - 1 - t) % 10)))] [(.int (9 : Int32)), (.int (Int32.ofNat (M / 10 ^ (d - 1 - t) % 10)))]))
        refine go (fun _ kont => XS.icmpNo X'.here hx rfl (hb hby d_prog_21_method_3_97) rfl (flt (fun q => by have q' := (own_ltO (d := 9) (k := (M / 10 ^ (d - 1 - t) % 10)) (by omega) (by omega)).mp q; omega)).2.2.1 kont) ?_
        show G (T'.setTop (mkF m 100 #[.val (.ref b), .val (.int (Int32.ofNat A)), .val (.int (Int32.ofNat (A + g + d))), .val (.int (Int32.ofNat g)), .val (.int (Int32.ofNat (A + g))), .val (.long (own_ng (M / 10 ^ (d - t)))), .second, .val (.int (Int32.ofNat (A + g + t))), .val (.int (Int32.ofNat (M / 10 ^ (d - 1 - t) % 10)))] []))
        refine go (fun _ kont => XS.lload X'.here hx rfl (hb hby d_prog_21_method_3_100) rfl  kont) ?_
        show G (T'.setTop (mkF m 102 #[.val (.ref b), .val (.int (Int32.ofNat A)), .val (.int (Int32.ofNat (A + g + d))), .val (.int (Int32.ofNat g)), .val (.int (Int32.ofNat (A + g))), .val (.long (own_ng (M / 10 ^ (d - t)))), .second, .val (.int (Int32.ofNat (A + g + t))), .val (.int (Int32.ofNat (M / 10 ^ (d - 1 - t) % 10)))] [(.long (own_ng (M / 10 ^ (d - t))))]))
        refine go (fun _ kont => X'.ldc2Long hx hown (mvT hZ (hw _ (List.mem_of_getElem? (i := 12) rfl))) (g := (mkF m 102 #[.val (.ref b), .val (.int (Int32.ofNat A)), .val (.int (Int32.ofNat (A + g + d))), .val (.int (Int32.ofNat g)), .val (.int (Int32.ofNat (A + g))), .val (.long (own_ng (M / 10 ^ (d - t)))), .second, .val (.int (Int32.ofNat (A + g + t))), .val (.int (Int32.ofNat (M / 10 ^ (d - 1 - t) % 10)))] [(.long (own_ng (M / 10 ^ (d - t))))])) rfl (hb hby d_prog_21_method_3_102) _ kont) ?_
        show G (T'.setTop (mkF m 105 #[.val (.ref b), .val (.int (Int32.ofNat A)), .val (.int (Int32.ofNat (A + g + d))), .val (.int (Int32.ofNat g)), .val (.int (Int32.ofNat (A + g))), .val (.long (own_ng (M / 10 ^ (d - t)))), .second, .val (.int (Int32.ofNat (A + g + t))), .val (.int (Int32.ofNat (M / 10 ^ (d - 1 - t) % 10)))] [(.long (-922337203685477580 : Int64)), (.long (own_ng (M / 10 ^ (d - t))))]))
        refine go (fun _ kont => XS.lcmp X'.here hx rfl (hb hby d_prog_21_method_3_105) rfl kont) ?_
        show G (T'.setTop (mkF m 106 #[.val (.ref b), .val (.int (Int32.ofNat A)), .val (.int (Int32.ofNat (A + g + d))), .val (.int (Int32.ofNat g)), .val (.int (Int32.ofNat (A + g))), .val (.long (own_ng (M / 10 ^ (d - t)))), .second, .val (.int (Int32.ofNat (A + g + t))), .val (.int (Int32.ofNat (M / 10 ^ (d - 1 - t) % 10)))] [(.int (lcmpW (own_ng (M / 10 ^ (d - t))) (-922337203685477580 : Int64)))]))
        refine go (fun _ kont => XS.ifYes X'.here hx rfl (pc0 := 106) (pc' := 116) rfl (hb hby d_prog_21_method_3_106) rfl ((if0 _ _).trans (flt (mt (lw_lt _ _).mp (fun q => by rw [own_ltJ, own_ngi (by omega), show (-922337203685477580 : Int64).toInt = -922337203685477580 by decide] at q; omega))).2.1) (by decide) (by decide) kont) ?_
        show G (T'.setTop (mkF m 116 #[.val (.ref b), .val (.int (Int32.ofNat A)), .val (.int (Int32.ofNat (A + g + d))), .val (.int (Int32.ofNat g)), .val (.int (Int32.ofNat (A + g))), .val (.long (own_ng (M / 10 ^ (d - t)))), .second, .val (.int (Int32.ofNat (A + g + t))), .val (.int (Int32.ofNat (M / 10 ^ (d - 1 - t) % 10)))] []))
        refine go (fun _ kont => XS.lload X'.here hx rfl (hb hby d_prog_21_method_3_116) rfl  kont) ?_
        show G (T'.setTop (mkF m 118 #[.val (.ref b), .val (.int (Int32.ofNat A)), .val (.int (Int32.ofNat (A + g + d))), .val (.int (Int32.ofNat g)), .val (.int (Int32.ofNat (A + g))), .val (.long (own_ng (M / 10 ^ (d - t)))), .second, .val (.int (Int32.ofNat (A + g + t))), .val (.int (Int32.ofNat (M / 10 ^ (d - 1 - t) % 10)))] [(.long (own_ng (M / 10 ^ (d - t))))]))
        refine go (fun _ kont => X'.ldc2Long hx hown (mvT hZ (hw _ (List.mem_of_getElem? (i := 7) rfl))) (g := (mkF m 118 #[.val (.ref b), .val (.int (Int32.ofNat A)), .val (.int (Int32.ofNat (A + g + d))), .val (.int (Int32.ofNat g)), .val (.int (Int32.ofNat (A + g))), .val (.long (own_ng (M / 10 ^ (d - t)))), .second, .val (.int (Int32.ofNat (A + g + t))), .val (.int (Int32.ofNat (M / 10 ^ (d - 1 - t) % 10)))] [(.long (own_ng (M / 10 ^ (d - t))))])) rfl (hb hby d_prog_21_method_3_118) _ kont) ?_
        show G (T'.setTop (mkF m 121 #[.val (.ref b), .val (.int (Int32.ofNat A)), .val (.int (Int32.ofNat (A + g + d))), .val (.int (Int32.ofNat g)), .val (.int (Int32.ofNat (A + g))), .val (.long (own_ng (M / 10 ^ (d - t)))), .second, .val (.int (Int32.ofNat (A + g + t))), .val (.int (Int32.ofNat (M / 10 ^ (d - 1 - t) % 10)))] [(.long (10 : Int64)), (.long (own_ng (M / 10 ^ (d - t))))]))
        refine go (fun _ kont => XS.lmul X'.here hx rfl (hb hby d_prog_21_method_3_121) rfl kont) ?_
        show G (T'.setTop (mkF m 122 #[.val (.ref b), .val (.int (Int32.ofNat A)), .val (.int (Int32.ofNat (A + g + d))), .val (.int (Int32.ofNat g)), .val (.int (Int32.ofNat (A + g))), .val (.long (own_ng (M / 10 ^ (d - t)))), .second, .val (.int (Int32.ofNat (A + g + t))), .val (.int (Int32.ofNat (M / 10 ^ (d - 1 - t) % 10)))] [(.long ((own_ng (M / 10 ^ (d - t))) * (10 : Int64)))]))
        rw [show ((own_ng (M / 10 ^ (d - t))) * (10 : Int64)) = (own_ng ((M / 10 ^ (d - t)) * 10)) from own_ng_mul (by omega)]
        show G (T'.setTop (mkF m 122 #[.val (.ref b), .val (.int (Int32.ofNat A)), .val (.int (Int32.ofNat (A + g + d))), .val (.int (Int32.ofNat g)), .val (.int (Int32.ofNat (A + g))), .val (.long (own_ng (M / 10 ^ (d - t)))), .second, .val (.int (Int32.ofNat (A + g + t))), .val (.int (Int32.ofNat (M / 10 ^ (d - 1 - t) % 10)))] [(.long (own_ng ((M / 10 ^ (d - t)) * 10)))]))
        refine go (fun _ kont => XS.lstore X'.here hx rfl (hb hby d_prog_21_method_3_122) rfl (l' := #[.val (.ref b), .val (.int (Int32.ofNat A)), .val (.int (Int32.ofNat (A + g + d))), .val (.int (Int32.ofNat g)), .val (.int (Int32.ofNat (A + g))), .val (.long (own_ng ((M / 10 ^ (d - t)) * 10))), .second, .val (.int (Int32.ofNat (A + g + t))), .val (.int (Int32.ofNat (M / 10 ^ (d - 1 - t) % 10)))]) rfl kont) ?_
        show G (T'.setTop (mkF m 124 #[.val (.ref b), .val (.int (Int32.ofNat A)), .val (.int (Int32.ofNat (A + g + d))), .val (.int (Int32.ofNat g)), .val (.int (Int32.ofNat (A + g))), .val (.long (own_ng ((M / 10 ^ (d - t)) * 10))), .second, .val (.int (Int32.ofNat (A + g + t))), .val (.int (Int32.ofNat (M / 10 ^ (d - 1 - t) % 10)))] []))
        refine go (fun _ kont => XS.lload X'.here hx rfl (hb hby d_prog_21_method_3_124) rfl  kont) ?_
        show G (T'.setTop (mkF m 126 #[.val (.ref b), .val (.int (Int32.ofNat A)), .val (.int (Int32.ofNat (A + g + d))), .val (.int (Int32.ofNat g)), .val (.int (Int32.ofNat (A + g))), .val (.long (own_ng ((M / 10 ^ (d - t)) * 10))), .second, .val (.int (Int32.ofNat (A + g + t))), .val (.int (Int32.ofNat (M / 10 ^ (d - 1 - t) % 10)))] [(.long (own_ng ((M / 10 ^ (d - t)) * 10)))]))
        refine go (fun _ kont => X'.ldc2Long hx hown (mvT hZ (hw _ (List.mem_of_getElem? (i := 13) rfl))) (g := (mkF m 126 #[.val (.ref b), .val (.int (Int32.ofNat A)), .val (.int (Int32.ofNat (A + g + d))), .val (.int (Int32.ofNat g)), .val (.int (Int32.ofNat (A + g))), .val (.long (own_ng ((M / 10 ^ (d - t)) * 10))), .second, .val (.int (Int32.ofNat (A + g + t))), .val (.int (Int32.ofNat (M / 10 ^ (d - 1 - t) % 10)))] [(.long (own_ng ((M / 10 ^ (d - t)) * 10)))])) rfl (hb hby d_prog_21_method_3_126) _ kont) ?_
        show G (T'.setTop (mkF m 129 #[.val (.ref b), .val (.int (Int32.ofNat A)), .val (.int (Int32.ofNat (A + g + d))), .val (.int (Int32.ofNat g)), .val (.int (Int32.ofNat (A + g))), .val (.long (own_ng ((M / 10 ^ (d - t)) * 10))), .second, .val (.int (Int32.ofNat (A + g + t))), .val (.int (Int32.ofNat (M / 10 ^ (d - 1 - t) % 10)))] [(.long (-9223372036854775808 : Int64)), (.long (own_ng ((M / 10 ^ (d - t)) * 10)))]))
        refine go (fun _ kont => XS.iload X'.here hx rfl (hb hby d_prog_21_method_3_129) rfl  kont) ?_
        show G (T'.setTop (mkF m 131 #[.val (.ref b), .val (.int (Int32.ofNat A)), .val (.int (Int32.ofNat (A + g + d))), .val (.int (Int32.ofNat g)), .val (.int (Int32.ofNat (A + g))), .val (.long (own_ng ((M / 10 ^ (d - t)) * 10))), .second, .val (.int (Int32.ofNat (A + g + t))), .val (.int (Int32.ofNat (M / 10 ^ (d - 1 - t) % 10)))] [(.int (Int32.ofNat (M / 10 ^ (d - 1 - t) % 10))), (.long (-9223372036854775808 : Int64)), (.long (own_ng ((M / 10 ^ (d - t)) * 10)))]))
        refine go (fun _ kont => XS.i2l X'.here hx rfl (hb hby d_prog_21_method_3_131) rfl kont) ?_
        show G (T'.setTop (mkF m 132 #[.val (.ref b), .val (.int (Int32.ofNat A)), .val (.int (Int32.ofNat (A + g + d))), .val (.int (Int32.ofNat g)), .val (.int (Int32.ofNat (A + g))), .val (.long (own_ng ((M / 10 ^ (d - t)) * 10))), .second, .val (.int (Int32.ofNat (A + g + t))), .val (.int (Int32.ofNat (M / 10 ^ (d - 1 - t) % 10)))] [(.long (Int32.ofNat (M / 10 ^ (d - 1 - t) % 10)).toInt64), (.long (-9223372036854775808 : Int64)), (.long (own_ng ((M / 10 ^ (d - t)) * 10)))]))
        rw [show (Int32.ofNat (M / 10 ^ (d - 1 - t) % 10)).toInt64 = (Int64.ofNat (M / 10 ^ (d - 1 - t) % 10)) from own_i2l (by omega)]
        show G (T'.setTop (mkF m 132 #[.val (.ref b), .val (.int (Int32.ofNat A)), .val (.int (Int32.ofNat (A + g + d))), .val (.int (Int32.ofNat g)), .val (.int (Int32.ofNat (A + g))), .val (.long (own_ng ((M / 10 ^ (d - t)) * 10))), .second, .val (.int (Int32.ofNat (A + g + t))), .val (.int (Int32.ofNat (M / 10 ^ (d - 1 - t) % 10)))] [(.long (Int64.ofNat (M / 10 ^ (d - 1 - t) % 10))), (.long (-9223372036854775808 : Int64)), (.long (own_ng ((M / 10 ^ (d - t)) * 10)))]))
        refine go (fun _ kont => XS.ladd X'.here hx rfl (hb hby d_prog_21_method_3_132) rfl kont) ?_
        show G (T'.setTop (mkF m 133 #[.val (.ref b), .val (.int (Int32.ofNat A)), .val (.int (Int32.ofNat (A + g + d))), .val (.int (Int32.ofNat g)), .val (.int (Int32.ofNat (A + g))), .val (.long (own_ng ((M / 10 ^ (d - t)) * 10))), .second, .val (.int (Int32.ofNat (A + g + t))), .val (.int (Int32.ofNat (M / 10 ^ (d - 1 - t) % 10)))] [(.long ((-9223372036854775808 : Int64) + (Int64.ofNat (M / 10 ^ (d - 1 - t) % 10)))), (.long (own_ng ((M / 10 ^ (d - t)) * 10)))]))
        refine go (fun _ kont => XS.lcmp X'.here hx rfl (hb hby d_prog_21_method_3_133) rfl kont) ?_
        show G (T'.setTop (mkF m 134 #[.val (.ref b), .val (.int (Int32.ofNat A)), .val (.int (Int32.ofNat (A + g + d))), .val (.int (Int32.ofNat g)), .val (.int (Int32.ofNat (A + g))), .val (.long (own_ng ((M / 10 ^ (d - t)) * 10))), .second, .val (.int (Int32.ofNat (A + g + t))), .val (.int (Int32.ofNat (M / 10 ^ (d - 1 - t) % 10)))] [(.int (lcmpW (own_ng ((M / 10 ^ (d - t)) * 10)) ((-9223372036854775808 : Int64) + (Int64.ofNat (M / 10 ^ (d - 1 - t) % 10)))))]))
        refine go (fun _ kont => XS.ifYes X'.here hx rfl (pc0 := 134) (pc' := 144) rfl (hb hby d_prog_21_method_3_134) rfl ((if0 _ _).trans (flt (mt (lw_lt _ _).mp (fun q => by have h1 := c_ladd (-9223372036854775808 : Int64) (Int64.ofNat (M / 10 ^ (d - 1 - t) % 10)); have h2 := rng64 ((-9223372036854775808 : Int64) + Int64.ofNat (M / 10 ^ (d - 1 - t) % 10)); rw [own_toI64 (by omega), show (-9223372036854775808 : Int64).toInt = -9223372036854775808 by decide] at h1; rw [own_ltJ, own_ngi (by omega)] at q; omega))).2.1) (by decide) (by decide) kont) ?_
        show G (T'.setTop (mkF m 144 #[.val (.ref b), .val (.int (Int32.ofNat A)), .val (.int (Int32.ofNat (A + g + d))), .val (.int (Int32.ofNat g)), .val (.int (Int32.ofNat (A + g))), .val (.long (own_ng ((M / 10 ^ (d - t)) * 10))), .second, .val (.int (Int32.ofNat (A + g + t))), .val (.int (Int32.ofNat (M / 10 ^ (d - 1 - t) % 10)))] []))
        refine go (fun _ kont => XS.lload X'.here hx rfl (hb hby d_prog_21_method_3_144) rfl  kont) ?_
        show G (T'.setTop (mkF m 146 #[.val (.ref b), .val (.int (Int32.ofNat A)), .val (.int (Int32.ofNat (A + g + d))), .val (.int (Int32.ofNat g)), .val (.int (Int32.ofNat (A + g))), .val (.long (own_ng ((M / 10 ^ (d - t)) * 10))), .second, .val (.int (Int32.ofNat (A + g + t))), .val (.int (Int32.ofNat (M / 10 ^ (d - 1 - t) % 10)))] [(.long (own_ng ((M / 10 ^ (d - t)) * 10)))]))
        refine go (fun _ kont => XS.iload X'.here hx rfl (hb hby d_prog_21_method_3_146) rfl  kont) ?_
        show G (T'.setTop (mkF m 148 #[.val (.ref b), .val (.int (Int32.ofNat A)), .val (.int (Int32.ofNat (A + g + d))), .val (.int (Int32.ofNat g)), .val (.int (Int32.ofNat (A + g))), .val (.long (own_ng ((M / 10 ^ (d - t)) * 10))), .second, .val (.int (Int32.ofNat (A + g + t))), .val (.int (Int32.ofNat (M / 10 ^ (d - 1 - t) % 10)))] [(.int (Int32.ofNat (M / 10 ^ (d - 1 - t) % 10))), (.long (own_ng ((M / 10 ^ (d - t)) * 10)))]))
        refine go (fun _ kont => XS.i2l X'.here hx rfl (hb hby d_prog_21_method_3_148) rfl kont) ?_
        show G (T'.setTop (mkF m 149 #[.val (.ref b), .val (.int (Int32.ofNat A)), .val (.int (Int32.ofNat (A + g + d))), .val (.int (Int32.ofNat g)), .val (.int (Int32.ofNat (A + g))), .val (.long (own_ng ((M / 10 ^ (d - t)) * 10))), .second, .val (.int (Int32.ofNat (A + g + t))), .val (.int (Int32.ofNat (M / 10 ^ (d - 1 - t) % 10)))] [(.long (Int32.ofNat (M / 10 ^ (d - 1 - t) % 10)).toInt64), (.long (own_ng ((M / 10 ^ (d - t)) * 10)))]))
        rw [show (Int32.ofNat (M / 10 ^ (d - 1 - t) % 10)).toInt64 = (Int64.ofNat (M / 10 ^ (d - 1 - t) % 10)) from own_i2l (by omega)]
        show G (T'.setTop (mkF m 149 #[.val (.ref b), .val (.int (Int32.ofNat A)), .val (.int (Int32.ofNat (A + g + d))), .val (.int (Int32.ofNat g)), .val (.int (Int32.ofNat (A + g))), .val (.long (own_ng ((M / 10 ^ (d - t)) * 10))), .second, .val (.int (Int32.ofNat (A + g + t))), .val (.int (Int32.ofNat (M / 10 ^ (d - 1 - t) % 10)))] [(.long (Int64.ofNat (M / 10 ^ (d - 1 - t) % 10))), (.long (own_ng ((M / 10 ^ (d - t)) * 10)))]))
        refine go (fun _ kont => XS.lsub X'.here hx rfl (hb hby d_prog_21_method_3_149) rfl kont) ?_
        show G (T'.setTop (mkF m 150 #[.val (.ref b), .val (.int (Int32.ofNat A)), .val (.int (Int32.ofNat (A + g + d))), .val (.int (Int32.ofNat g)), .val (.int (Int32.ofNat (A + g))), .val (.long (own_ng ((M / 10 ^ (d - t)) * 10))), .second, .val (.int (Int32.ofNat (A + g + t))), .val (.int (Int32.ofNat (M / 10 ^ (d - 1 - t) % 10)))] [(.long ((own_ng ((M / 10 ^ (d - t)) * 10)) - (Int64.ofNat (M / 10 ^ (d - 1 - t) % 10))))]))
        rw [show ((own_ng ((M / 10 ^ (d - t)) * 10)) - (Int64.ofNat (M / 10 ^ (d - 1 - t) % 10))) = (own_ng (M / 10 ^ (d - (t + 1)))) from (by rw [own_ng_sub (by omega) (by omega)]; congr 1; rw [show d - (t + 1) = d - 1 - t by omega]; omega)]
        show G (T'.setTop (mkF m 150 #[.val (.ref b), .val (.int (Int32.ofNat A)), .val (.int (Int32.ofNat (A + g + d))), .val (.int (Int32.ofNat g)), .val (.int (Int32.ofNat (A + g))), .val (.long (own_ng ((M / 10 ^ (d - t)) * 10))), .second, .val (.int (Int32.ofNat (A + g + t))), .val (.int (Int32.ofNat (M / 10 ^ (d - 1 - t) % 10)))] [(.long (own_ng (M / 10 ^ (d - (t + 1)))))]))
        refine go (fun _ kont => XS.lstore X'.here hx rfl (hb hby d_prog_21_method_3_150) rfl (l' := #[.val (.ref b), .val (.int (Int32.ofNat A)), .val (.int (Int32.ofNat (A + g + d))), .val (.int (Int32.ofNat g)), .val (.int (Int32.ofNat (A + g))), .val (.long (own_ng (M / 10 ^ (d - (t + 1))))), .second, .val (.int (Int32.ofNat (A + g + t))), .val (.int (Int32.ofNat (M / 10 ^ (d - 1 - t) % 10)))]) rfl kont) ?_
        show G (T'.setTop (mkF m 152 #[.val (.ref b), .val (.int (Int32.ofNat A)), .val (.int (Int32.ofNat (A + g + d))), .val (.int (Int32.ofNat g)), .val (.int (Int32.ofNat (A + g))), .val (.long (own_ng (M / 10 ^ (d - (t + 1))))), .second, .val (.int (Int32.ofNat (A + g + t))), .val (.int (Int32.ofNat (M / 10 ^ (d - 1 - t) % 10)))] []))
        refine go (fun _ kont => XS.iinc X'.here hx rfl (hb hby d_prog_21_method_3_152) rfl (l' := #[.val (.ref b), .val (.int (Int32.ofNat A)), .val (.int (Int32.ofNat (A + g + d))), .val (.int (Int32.ofNat g)), .val (.int (Int32.ofNat (A + g))), .val (.long (own_ng (M / 10 ^ (d - (t + 1))))), .second, .val (.int ((Int32.ofNat (A + g + t)) + (1 : Int32))), .val (.int (Int32.ofNat (M / 10 ^ (d - 1 - t) % 10)))]) rfl kont) ?_
        show G (T'.setTop (mkF m 155 #[.val (.ref b), .val (.int (Int32.ofNat A)), .val (.int (Int32.ofNat (A + g + d))), .val (.int (Int32.ofNat g)), .val (.int (Int32.ofNat (A + g))), .val (.long (own_ng (M / 10 ^ (d - (t + 1))))), .second, .val (.int ((Int32.ofNat (A + g + t)) + (1 : Int32))), .val (.int (Int32.ofNat (M / 10 ^ (d - 1 - t) % 10)))] []))
        refine go (fun _ kont => XS.goto X'.here hx rfl (pc0 := 155) (pc' := 73) rfl (hb hby d_prog_21_method_3_155) (by decide) (by decide) kont) ?_
        show G (T'.setTop (mkF m 73 #[.val (.ref b), .val (.int (Int32.ofNat A)), .val (.int (Int32.ofNat (A + g + d))), .val (.int (Int32.ofNat g)), .val (.int (Int32.ofNat (A + g))), .val (.long (own_ng (M / 10 ^ (d - (t + 1))))), .second, .val (.int ((Int32.ofNat (A + g + t)) + (1 : Int32))), .val (.int (Int32.ofNat (M / 10 ^ (d - 1 - t) % 10)))] []))
        rw [show Int32.ofNat (A + g + t) + (1 : Int32) = Int32.ofNat (A + g + (t + 1)) from own_addk (A + g + t) 1]
        exact ih (t + 1) (by omega) (by omega) _ (One.val rfl) _ X' e'
      · refine go (fun _ kont => XS.icmpYes X'.here hx rfl (pc0 := 76) (pc' := 158) rfl (hb hby d_prog_21_method_3_76) rfl (flt hc76).2.1 (by decide) (by decide) kont) ?_
        show G (T'.setTop (mkF m 158 #[.val (.ref b), .val (.int (Int32.ofNat A)), .val (.int (Int32.ofNat (A + g + d))), .val (.int (Int32.ofNat g)), .val (.int (Int32.ofNat (A + g))), .val (.long (own_ng (M / 10 ^ (d - t)))), .second, .val (.int (Int32.ofNat (A + g + t))), s8] []))
        rw [own_ltO (by omega) (by omega)] at hc76
        have htd' : t = d := by omega
        rw [show (M / 10 ^ (d - t)) = M by rw [htd', Nat.sub_self, Nat.pow_zero, Nat.div_one]]
        show G (T'.setTop (mkF m 158 #[.val (.ref b), .val (.int (Int32.ofNat A)), .val (.int (Int32.ofNat (A + g + d))), .val (.int (Int32.ofNat g)), .val (.int (Int32.ofNat (A + g))), .val (.long (own_ng M)), .second, .val (.int (Int32.ofNat (A + g + t))), s8] []))
        rcases hng with ⟨hv, hg⟩ | ⟨hv, hg⟩
        · rw [show Int32.ofNat g = (1 : Int32) from by rw [hg]; rfl]
          show G (T'.setTop (mkF m 158 #[.val (.ref b), .val (.int (Int32.ofNat A)), .val (.int (Int32.ofNat (A + g + d))), .val (.int (1 : Int32)), .val (.int (Int32.ofNat (A + g))), .val (.long (own_ng M)), .second, .val (.int (Int32.ofNat (A + g + t))), s8] []))
          refine go (fun _ kont => XS.iloadN X'.here hx rfl (hb hby d_prog_21_method_3_158) rfl  kont) ?_
          show G (T'.setTop (mkF m 159 #[.val (.ref b), .val (.int (Int32.ofNat A)), .val (.int (Int32.ofNat (A + g + d))), .val (.int (1 : Int32)), .val (.int (Int32.ofNat (A + g))), .val (.long (own_ng M)), .second, .val (.int (Int32.ofNat (A + g + t))), s8] [(.int (1 : Int32))]))
          refine go (fun _ kont => XS.ifYes X'.here hx rfl (pc0 := 159) (pc' := 178) rfl (hb hby d_prog_21_method_3_159) rfl ((if0 _ _).trans (feq (by decide)).2) (by decide) (by decide) kont) ?_
          show G (T'.setTop (mkF m 178 #[.val (.ref b), .val (.int (Int32.ofNat A)), .val (.int (Int32.ofNat (A + g + d))), .val (.int (1 : Int32)), .val (.int (Int32.ofNat (A + g))), .val (.long (own_ng M)), .second, .val (.int (Int32.ofNat (A + g + t))), s8] []))
          refine go (fun _ kont => XS.iloadN X'.here hx rfl (hb hby d_prog_21_method_3_178) rfl  kont) ?_
          show G (T'.setTop (mkF m 179 #[.val (.ref b), .val (.int (Int32.ofNat A)), .val (.int (Int32.ofNat (A + g + d))), .val (.int (1 : Int32)), .val (.int (Int32.ofNat (A + g))), .val (.long (own_ng M)), .second, .val (.int (Int32.ofNat (A + g + t))), s8] [(.int (1 : Int32))]))
          refine go (fun _ kont => XS.ifNo X'.here hx rfl (hb hby d_prog_21_method_3_179) rfl ((if0 _ _).trans (feq (by decide)).1) kont) ?_
          show G (T'.setTop (mkF m 182 #[.val (.ref b), .val (.int (Int32.ofNat A)), .val (.int (Int32.ofNat (A + g + d))), .val (.int (1 : Int32)), .val (.int (Int32.ofNat (A + g))), .val (.long (own_ng M)), .second, .val (.int (Int32.ofNat (A + g + t))), s8] []))
          refine go (fun _ kont => XS.lload X'.here hx rfl (hb hby d_prog_21_method_3_182) rfl  kont) ?_
          show G (T'.setTop (mkF m 184 #[.val (.ref b), .val (.int (Int32.ofNat A)), .val (.int (Int32.ofNat (A + g + d))), .val (.int (1 : Int32)), .val (.int (Int32.ofNat (A + g))), .val (.long (own_ng M)), .second, .val (.int (Int32.ofNat (A + g + t))), s8] [(.long (own_ng M))]))
          refine go (fun _ kont => XS.goto X'.here hx rfl (pc0 := 184) (pc' := 190) rfl (hb hby d_prog_21_method_3_184) (by decide) (by decide) kont) ?_
          show G (T'.setTop (mkF m 190 #[.val (.ref b), .val (.int (Int32.ofNat A)), .val (.int (Int32.ofNat (A + g + d))), .val (.int (1 : Int32)), .val (.int (Int32.ofNat (A + g))), .val (.long (own_ng M)), .second, .val (.int (Int32.ofNat (A + g + t))), s8] [(.long (own_ng M))]))
          rw [hG]
          exact own_retJ X' hx Bd.returns (hb hby d_prog_21_method_3_190) hlk (by decide) (by decide) ⟨by rw [hM, ← own_neg_of hv], N0, e'⟩
        · rw [show Int32.ofNat g = (0 : Int32) from by rw [hg]; rfl]
          show G (T'.setTop (mkF m 158 #[.val (.ref b), .val (.int (Int32.ofNat A)), .val (.int (Int32.ofNat (A + g + d))), .val (.int (0 : Int32)), .val (.int (Int32.ofNat (A + g))), .val (.long (own_ng M)), .second, .val (.int (Int32.ofNat (A + g + t))), s8] []))
          refine go (fun _ kont => XS.iloadN X'.here hx rfl (hb hby d_prog_21_method_3_158) rfl  kont) ?_
          show G (T'.setTop (mkF m 159 #[.val (.ref b), .val (.int (Int32.ofNat A)), .val (.int (Int32.ofNat (A + g + d))), .val (.int (0 : Int32)), .val (.int (Int32.ofNat (A + g))), .val (.long (own_ng M)), .second, .val (.int (Int32.ofNat (A + g + t))), s8] [(.int (0 : Int32))]))
          refine go (fun _ kont => XS.ifNo X'.here hx rfl (hb hby d_prog_21_method_3_159) rfl ((if0 _ _).trans (teq (by decide)).2) kont) ?_
          show G (T'.setTop (mkF m 162 #[.val (.ref b), .val (.int (Int32.ofNat A)), .val (.int (Int32.ofNat (A + g + d))), .val (.int (0 : Int32)), .val (.int (Int32.ofNat (A + g))), .val (.long (own_ng M)), .second, .val (.int (Int32.ofNat (A + g + t))), s8] []))
          refine go (fun _ kont => XS.lload X'.here hx rfl (hb hby d_prog_21_method_3_162) rfl  kont) ?_
          show G (T'.setTop (mkF m 164 #[.val (.ref b), .val (.int (Int32.ofNat A)), .val (.int (Int32.ofNat (A + g + d))), .val (.int (0 : Int32)), .val (.int (Int32.ofNat (A + g))), .val (.long (own_ng M)), .second, .val (.int (Int32.ofNat (A + g + t))), s8] [(.long (own_ng M))]))
          refine go (fun _ kont => X'.ldc2Long hx hown (mvT hZ (hw _ (List.mem_of_getElem? (i := 13) rfl))) (g := (mkF m 164 #[.val (.ref b), .val (.int (Int32.ofNat A)), .val (.int (Int32.ofNat (A + g + d))), .val (.int (0 : Int32)), .val (.int (Int32.ofNat (A + g))), .val (.long (own_ng M)), .second, .val (.int (Int32.ofNat (A + g + t))), s8] [(.long (own_ng M))])) rfl (hb hby d_prog_21_method_3_164) _ kont) ?_
          show G (T'.setTop (mkF m 167 #[.val (.ref b), .val (.int (Int32.ofNat A)), .val (.int (Int32.ofNat (A + g + d))), .val (.int (0 : Int32)), .val (.int (Int32.ofNat (A + g))), .val (.long (own_ng M)), .second, .val (.int (Int32.ofNat (A + g + t))), s8] [(.long (-9223372036854775808 : Int64)), (.long (own_ng M))]))
          refine go (fun _ kont => XS.lcmp X'.here hx rfl (hb hby d_prog_21_method_3_167) rfl kont) ?_
          show G (T'.setTop (mkF m 168 #[.val (.ref b), .val (.int (Int32.ofNat A)), .val (.int (Int32.ofNat (A + g + d))), .val (.int (0 : Int32)), .val (.int (Int32.ofNat (A + g))), .val (.long (own_ng M)), .second, .val (.int (Int32.ofNat (A + g + t))), s8] [(.int (lcmpW (own_ng M) (-9223372036854775808 : Int64)))]))
          refine go (fun _ kont => XS.ifYes X'.here hx rfl (pc0 := 168) (pc' := 178) rfl (hb hby d_prog_21_method_3_168) rfl ((if0 _ _).trans (feq (mt (lw_eq _ _).mp (fun q => by have := congrArg Int64.toInt q; rw [own_ngi hMb, show (-9223372036854775808 : Int64).toInt = -9223372036854775808 by decide] at this; have := hMp hg; omega))).2) (by decide) (by decide) kont) ?_
          show G (T'.setTop (mkF m 178 #[.val (.ref b), .val (.int (Int32.ofNat A)), .val (.int (Int32.ofNat (A + g + d))), .val (.int (0 : Int32)), .val (.int (Int32.ofNat (A + g))), .val (.long (own_ng M)), .second, .val (.int (Int32.ofNat (A + g + t))), s8] []))
          refine go (fun _ kont => XS.iloadN X'.here hx rfl (hb hby d_prog_21_method_3_178) rfl  kont) ?_
          show G (T'.setTop (mkF m 179 #[.val (.ref b), .val (.int (Int32.ofNat A)), .val (.int (Int32.ofNat (A + g + d))), .val (.int (0 : Int32)), .val (.int (Int32.ofNat (A + g))), .val (.long (own_ng M)), .second, .val (.int (Int32.ofNat (A + g + t))), s8] [(.int (0 : Int32))]))
          refine go (fun _ kont => XS.ifYes X'.here hx rfl (pc0 := 179) (pc' := 187) rfl (hb hby d_prog_21_method_3_179) rfl ((if0 _ _).trans (teq (by decide)).1) (by decide) (by decide) kont) ?_
          show G (T'.setTop (mkF m 187 #[.val (.ref b), .val (.int (Int32.ofNat A)), .val (.int (Int32.ofNat (A + g + d))), .val (.int (0 : Int32)), .val (.int (Int32.ofNat (A + g))), .val (.long (own_ng M)), .second, .val (.int (Int32.ofNat (A + g + t))), s8] []))
          refine go (fun _ kont => XS.lload X'.here hx rfl (hb hby d_prog_21_method_3_187) rfl  kont) ?_
          show G (T'.setTop (mkF m 189 #[.val (.ref b), .val (.int (Int32.ofNat A)), .val (.int (Int32.ofNat (A + g + d))), .val (.int (0 : Int32)), .val (.int (Int32.ofNat (A + g))), .val (.long (own_ng M)), .second, .val (.int (Int32.ofNat (A + g + t))), s8] [(.long (own_ng M))]))
          refine go (fun _ kont => XS.lneg X'.here hx rfl (hb hby d_prog_21_method_3_189) rfl kont) ?_
          show G (T'.setTop (mkF m 190 #[.val (.ref b), .val (.int (Int32.ofNat A)), .val (.int (Int32.ofNat (A + g + d))), .val (.int (0 : Int32)), .val (.int (Int32.ofNat (A + g))), .val (.long (own_ng M)), .second, .val (.int (Int32.ofNat (A + g + t))), s8] [(.long (-(own_ng M)))]))
          rw [hG]
          exact own_retJ X' hx Bd.returns (hb hby d_prog_21_method_3_190) hlk (by decide) (by decide) ⟨by rw [hM, own_nneg hv], N0, e'⟩
  have at66 : G (s₁.setTop (mkF m 66 #[.val (.ref b), .val (.int (Int32.ofNat A)), .val (.int (Int32.ofNat (A + g + d))), .val (.int (Int32.ofNat g)), .val (.int (Int32.ofNat (A + g))), .unset, .unset, .unset, .unset] [])) := by
    show G (s₁.setTop (mkF m 66 #[.val (.ref b), .val (.int (Int32.ofNat A)), .val (.int (Int32.ofNat (A + g + d))), .val (.int (Int32.ofNat g)), .val (.int (Int32.ofNat (A + g))), .unset, .unset, .unset, .unset] []))
    refine go (fun _ kont => XS.lconst X0.here hx rfl (hb hby d_prog_21_method_3_66) kont) ?_
    show G (s₁.setTop (mkF m 67 #[.val (.ref b), .val (.int (Int32.ofNat A)), .val (.int (Int32.ofNat (A + g + d))), .val (.int (Int32.ofNat g)), .val (.int (Int32.ofNat (A + g))), .unset, .unset, .unset, .unset] [(.long (0 : Int64))]))
    refine go (fun _ kont => XS.lstore X0.here hx rfl (hb hby d_prog_21_method_3_67) rfl (l' := #[.val (.ref b), .val (.int (Int32.ofNat A)), .val (.int (Int32.ofNat (A + g + d))), .val (.int (Int32.ofNat g)), .val (.int (Int32.ofNat (A + g))), .val (.long (0 : Int64)), .second, .unset, .unset]) rfl kont) ?_
    show G (s₁.setTop (mkF m 69 #[.val (.ref b), .val (.int (Int32.ofNat A)), .val (.int (Int32.ofNat (A + g + d))), .val (.int (Int32.ofNat g)), .val (.int (Int32.ofNat (A + g))), .val (.long (0 : Int64)), .second, .unset, .unset] []))
    refine go (fun _ kont => XS.iload X0.here hx rfl (hb hby d_prog_21_method_3_69) rfl  kont) ?_
    show G (s₁.setTop (mkF m 71 #[.val (.ref b), .val (.int (Int32.ofNat A)), .val (.int (Int32.ofNat (A + g + d))), .val (.int (Int32.ofNat g)), .val (.int (Int32.ofNat (A + g))), .val (.long (0 : Int64)), .second, .unset, .unset] [(.int (Int32.ofNat (A + g)))]))
    refine go (fun _ kont => XS.istore X0.here hx rfl (hb hby d_prog_21_method_3_71) rfl (l' := #[.val (.ref b), .val (.int (Int32.ofNat A)), .val (.int (Int32.ofNat (A + g + d))), .val (.int (Int32.ofNat g)), .val (.int (Int32.ofNat (A + g))), .val (.long (0 : Int64)), .second, .val (.int (Int32.ofNat (A + g))), .unset]) rfl kont) ?_
    show G (s₁.setTop (mkF m 73 #[.val (.ref b), .val (.int (Int32.ofNat A)), .val (.int (Int32.ofNat (A + g + d))), .val (.int (Int32.ofNat g)), .val (.int (Int32.ofNat (A + g))), .val (.long (0 : Int64)), .second, .val (.int (Int32.ofNat (A + g))), .unset] []))
    have hst := loop (d + 1) 0 (by omega) (by omega) .unset One.u _ X0 e0
    rw [Nat.sub_zero, hdz, Nat.add_zero, show own_ng 0 = (0 : Int64) by decide] at hst
    exact hst
  have at32 : G (s₁.setTop (mkF m 32 #[.val (.ref b), .val (.int (Int32.ofNat A)), .val (.int (Int32.ofNat (A + g + d))), .val (.int (Int32.ofNat g)), .val (.int (Int32.ofNat (A + g))), .unset, .unset, .unset, .unset] [])) := by
    show G (s₁.setTop (mkF m 32 #[.val (.ref b), .val (.int (Int32.ofNat A)), .val (.int (Int32.ofNat (A + g + d))), .val (.int (Int32.ofNat g)), .val (.int (Int32.ofNat (A + g))), .unset, .unset, .unset, .unset] []))
    refine go (fun _ kont => XS.iload X0.here hx rfl (hb hby d_prog_21_method_3_32) rfl  kont) ?_
    show G (s₁.setTop (mkF m 34 #[.val (.ref b), .val (.int (Int32.ofNat A)), .val (.int (Int32.ofNat (A + g + d))), .val (.int (Int32.ofNat g)), .val (.int (Int32.ofNat (A + g))), .unset, .unset, .unset, .unset] [(.int (Int32.ofNat (A + g)))]))
    refine go (fun _ kont => XS.iloadN X0.here hx rfl (hb hby d_prog_21_method_3_34) rfl  kont) ?_
    show G (s₁.setTop (mkF m 35 #[.val (.ref b), .val (.int (Int32.ofNat A)), .val (.int (Int32.ofNat (A + g + d))), .val (.int (Int32.ofNat g)), .val (.int (Int32.ofNat (A + g))), .unset, .unset, .unset, .unset] [(.int (Int32.ofNat (A + g + d))), (.int (Int32.ofNat (A + g)))]))
    refine go (fun _ kont => XS.icmpNo X0.here hx rfl (hb hby d_prog_21_method_3_35) rfl (tlt ((own_ltO (by omega) (by omega)).mpr (by omega))).2.1 kont) ?_
    show G (s₁.setTop (mkF m 38 #[.val (.ref b), .val (.int (Int32.ofNat A)), .val (.int (Int32.ofNat (A + g + d))), .val (.int (Int32.ofNat g)), .val (.int (Int32.ofNat (A + g))), .unset, .unset, .unset, .unset] []))
    refine go (fun _ kont => XS.aloadN X0.here hx rfl (hb hby d_prog_21_method_3_38) rfl rfl kont) ?_
    show G (s₁.setTop (mkF m 39 #[.val (.ref b), .val (.int (Int32.ofNat A)), .val (.int (Int32.ofNat (A + g + d))), .val (.int (Int32.ofNat g)), .val (.int (Int32.ofNat (A + g))), .unset, .unset, .unset, .unset] [(.ref b)]))
    refine go (fun _ kont => XS.iload X0.here hx rfl (hb hby d_prog_21_method_3_39) rfl  kont) ?_
    show G (s₁.setTop (mkF m 41 #[.val (.ref b), .val (.int (Int32.ofNat A)), .val (.int (Int32.ofNat (A + g + d))), .val (.int (Int32.ofNat g)), .val (.int (Int32.ofNat (A + g))), .unset, .unset, .unset, .unset] [(.int (Int32.ofNat (A + g))), (.ref b)]))
    refine go (fun _ kont => X0.baloadBytes hx (j := (Int32.ofNat (A + g))) (v := (.int (zs.getD (A + g) 0))) (by rw [e0]; exact Ar.1) (State.isArrayOf_alike hZ.alike Ar.2.1) Ar.2.2 (own_hink Sl (own_neg (by rw [own_ofN (by omega)]; omega)) (own_tnO (by omega)) (k := A + g) (by rw [List.length_map]; omega)) (own_hatk Sl (own_tnO (by omega)) (own_atI (k := A + g) (by omega))) (g := (mkF m 41 #[.val (.ref b), .val (.int (Int32.ofNat A)), .val (.int (Int32.ofNat (A + g + d))), .val (.int (Int32.ofNat g)), .val (.int (Int32.ofNat (A + g))), .unset, .unset, .unset, .unset] [(.int (Int32.ofNat (A + g))), (.ref b)])) rfl rfl (hb hby d_prog_21_method_3_41) _ kont) ?_
    show G (s₁.setTop (mkF m 42 #[.val (.ref b), .val (.int (Int32.ofNat A)), .val (.int (Int32.ofNat (A + g + d))), .val (.int (Int32.ofNat g)), .val (.int (Int32.ofNat (A + g))), .unset, .unset, .unset, .unset] [(.int (zs.getD (A + g) 0))]))
    have hd0 := hdig 0 (by omega)
    rw [Nat.add_zero, Nat.sub_zero] at hd0
    rw [hd0]
    show G (s₁.setTop (mkF m 42 #[.val (.ref b), .val (.int (Int32.ofNat A)), .val (.int (Int32.ofNat (A + g + d))), .val (.int (Int32.ofNat g)), .val (.int (Int32.ofNat (A + g))), .unset, .unset, .unset, .unset] [(.int (Int32.ofNat (48 + M / 10 ^ (d - 1) % 10)))]))
    refine go (fun _ kont => XS.bipush X0.here hx rfl (hb hby d_prog_21_method_3_42) kont) ?_
    show G (s₁.setTop (mkF m 44 #[.val (.ref b), .val (.int (Int32.ofNat A)), .val (.int (Int32.ofNat (A + g + d))), .val (.int (Int32.ofNat g)), .val (.int (Int32.ofNat (A + g))), .unset, .unset, .unset, .unset] [(.int (48 : Int32)), (.int (Int32.ofNat (48 + M / 10 ^ (d - 1) % 10)))]))
    by_cases hc44 : (Int32.ofNat (48 + M / 10 ^ (d - 1) % 10)) = (48 : Int32)
    · refine go (fun _ kont => XS.icmpNo X0.here hx rfl (hb hby d_prog_21_method_3_44) rfl (teq hc44).2 kont) ?_
      show G (s₁.setTop (mkF m 47 #[.val (.ref b), .val (.int (Int32.ofNat A)), .val (.int (Int32.ofNat (A + g + d))), .val (.int (Int32.ofNat g)), .val (.int (Int32.ofNat (A + g))), .unset, .unset, .unset, .unset] []))
      rw [show (Int32.ofNat (48 + M / 10 ^ (d - 1) % 10)) = (48 : Int32) ↔ 48 + M / 10 ^ (d - 1) % 10 = 48 from own_eqO (d := 48 + M / 10 ^ (d - 1) % 10) (k := 48) (by omega) (by omega)] at hc44
      obtain ⟨hM0, hdo⟩ := own_lead hdd (by omega)
      have hg0 : g = 0 := hg01.resolve_left (fun q => absurd hM0 (hM1 q))
      refine go (fun _ kont => XS.iloadN X0.here hx rfl (hb hby d_prog_21_method_3_47) rfl  kont) ?_
      show G (s₁.setTop (mkF m 48 #[.val (.ref b), .val (.int (Int32.ofNat A)), .val (.int (Int32.ofNat (A + g + d))), .val (.int (Int32.ofNat g)), .val (.int (Int32.ofNat (A + g))), .unset, .unset, .unset, .unset] [(.int (Int32.ofNat g))]))
      refine go (fun _ kont => XS.ifNo X0.here hx rfl (hb hby d_prog_21_method_3_48) rfl ((if0 _ _).trans (teq (by rw [hg0]; rfl)).2) kont) ?_
      show G (s₁.setTop (mkF m 51 #[.val (.ref b), .val (.int (Int32.ofNat A)), .val (.int (Int32.ofNat (A + g + d))), .val (.int (Int32.ofNat g)), .val (.int (Int32.ofNat (A + g))), .unset, .unset, .unset, .unset] []))
      refine go (fun _ kont => XS.iloadN X0.here hx rfl (hb hby d_prog_21_method_3_51) rfl  kont) ?_
      show G (s₁.setTop (mkF m 52 #[.val (.ref b), .val (.int (Int32.ofNat A)), .val (.int (Int32.ofNat (A + g + d))), .val (.int (Int32.ofNat g)), .val (.int (Int32.ofNat (A + g))), .unset, .unset, .unset, .unset] [(.int (Int32.ofNat (A + g + d)))]))
      refine go (fun _ kont => XS.iload X0.here hx rfl (hb hby d_prog_21_method_3_52) rfl  kont) ?_
      show G (s₁.setTop (mkF m 54 #[.val (.ref b), .val (.int (Int32.ofNat A)), .val (.int (Int32.ofNat (A + g + d))), .val (.int (Int32.ofNat g)), .val (.int (Int32.ofNat (A + g))), .unset, .unset, .unset, .unset] [(.int (Int32.ofNat (A + g))), (.int (Int32.ofNat (A + g + d)))]))
      refine go (fun _ kont => XS.isub X0.here hx rfl (hb hby d_prog_21_method_3_54) rfl kont) ?_
      show G (s₁.setTop (mkF m 55 #[.val (.ref b), .val (.int (Int32.ofNat A)), .val (.int (Int32.ofNat (A + g + d))), .val (.int (Int32.ofNat g)), .val (.int (Int32.ofNat (A + g))), .unset, .unset, .unset, .unset] [(.int ((Int32.ofNat (A + g + d)) - (Int32.ofNat (A + g))))]))
      refine go (fun _ kont => XS.iconst X0.here hx rfl (hb hby d_prog_21_method_3_55) kont) ?_
      show G (s₁.setTop (mkF m 56 #[.val (.ref b), .val (.int (Int32.ofNat A)), .val (.int (Int32.ofNat (A + g + d))), .val (.int (Int32.ofNat g)), .val (.int (Int32.ofNat (A + g))), .unset, .unset, .unset, .unset] [(.int (1 : Int32)), (.int ((Int32.ofNat (A + g + d)) - (Int32.ofNat (A + g))))]))
      rw [show ((Int32.ofNat (A + g + d)) - (Int32.ofNat (A + g))) = (Int32.ofNat d) from (by rw [own_subk (by omega)]; congr 1; omega)]
      show G (s₁.setTop (mkF m 56 #[.val (.ref b), .val (.int (Int32.ofNat A)), .val (.int (Int32.ofNat (A + g + d))), .val (.int (Int32.ofNat g)), .val (.int (Int32.ofNat (A + g))), .unset, .unset, .unset, .unset] [(.int (1 : Int32)), (.int (Int32.ofNat d))]))
      refine go (fun _ kont => XS.icmpYes X0.here hx rfl (pc0 := 56) (pc' := 66) rfl (hb hby d_prog_21_method_3_56) rfl (flt (fun q => by have q' := (own_ltO (d := 1) (k := d) (by omega) (by omega)).mp q; omega)).2.2.2 (by decide) (by decide) kont) ?_
      show G (s₁.setTop (mkF m 66 #[.val (.ref b), .val (.int (Int32.ofNat A)), .val (.int (Int32.ofNat (A + g + d))), .val (.int (Int32.ofNat g)), .val (.int (Int32.ofNat (A + g))), .unset, .unset, .unset, .unset] []))
      exact at66
    · refine go (fun _ kont => XS.icmpYes X0.here hx rfl (pc0 := 44) (pc' := 66) rfl (hb hby d_prog_21_method_3_44) rfl (feq hc44).2 (by decide) (by decide) kont) ?_
      show G (s₁.setTop (mkF m 66 #[.val (.ref b), .val (.int (Int32.ofNat A)), .val (.int (Int32.ofNat (A + g + d))), .val (.int (Int32.ofNat g)), .val (.int (Int32.ofNat (A + g))), .unset, .unset, .unset, .unset] []))
      rw [show (Int32.ofNat (48 + M / 10 ^ (d - 1) % 10)) = (48 : Int32) ↔ 48 + M / 10 ^ (d - 1) % 10 = 48 from own_eqO (d := 48 + M / 10 ^ (d - 1) % 10) (k := 48) (by omega) (by omega)] at hc44
      exact at66
  rcases hg01 with hg | hg
  · show G (s₁.setTop (mkF m 0 #[.val (.ref b), .val (.int (Int32.ofNat A)), .val (.int (Int32.ofNat (A + g + d))), .unset, .unset, .unset, .unset, .unset, .unset] []))
    refine go (fun _ kont => XS.iloadN X0.here hx rfl (hb hby d_prog_21_method_3_0) rfl  kont) ?_
    show G (s₁.setTop (mkF m 1 #[.val (.ref b), .val (.int (Int32.ofNat A)), .val (.int (Int32.ofNat (A + g + d))), .unset, .unset, .unset, .unset, .unset, .unset] [(.int (Int32.ofNat A))]))
    refine go (fun _ kont => XS.iloadN X0.here hx rfl (hb hby d_prog_21_method_3_1) rfl  kont) ?_
    show G (s₁.setTop (mkF m 2 #[.val (.ref b), .val (.int (Int32.ofNat A)), .val (.int (Int32.ofNat (A + g + d))), .unset, .unset, .unset, .unset, .unset, .unset] [(.int (Int32.ofNat (A + g + d))), (.int (Int32.ofNat A))]))
    refine go (fun _ kont => XS.icmpNo X0.here hx rfl (hb hby d_prog_21_method_3_2) rfl (tlt ((own_ltO (by omega) (by omega)).mpr (by omega))).2.1 kont) ?_
    show G (s₁.setTop (mkF m 5 #[.val (.ref b), .val (.int (Int32.ofNat A)), .val (.int (Int32.ofNat (A + g + d))), .unset, .unset, .unset, .unset, .unset, .unset] []))
    refine go (fun _ kont => XS.aloadN X0.here hx rfl (hb hby d_prog_21_method_3_5) rfl rfl kont) ?_
    show G (s₁.setTop (mkF m 6 #[.val (.ref b), .val (.int (Int32.ofNat A)), .val (.int (Int32.ofNat (A + g + d))), .unset, .unset, .unset, .unset, .unset, .unset] [(.ref b)]))
    refine go (fun _ kont => XS.iloadN X0.here hx rfl (hb hby d_prog_21_method_3_6) rfl  kont) ?_
    show G (s₁.setTop (mkF m 7 #[.val (.ref b), .val (.int (Int32.ofNat A)), .val (.int (Int32.ofNat (A + g + d))), .unset, .unset, .unset, .unset, .unset, .unset] [(.int (Int32.ofNat A)), (.ref b)]))
    refine go (fun _ kont => X0.baloadBytes hx (j := (Int32.ofNat A)) (v := (.int (zs.getD (A) 0))) (by rw [e0]; exact Ar.1) (State.isArrayOf_alike hZ.alike Ar.2.1) Ar.2.2 (own_hink Sl (own_neg (by rw [own_ofN (by omega)]; omega)) (own_tnO (by omega)) (k := A) (by rw [List.length_map]; omega)) (own_hatk Sl (own_tnO (by omega)) (own_atI (k := A) (by omega))) (g := (mkF m 7 #[.val (.ref b), .val (.int (Int32.ofNat A)), .val (.int (Int32.ofNat (A + g + d))), .unset, .unset, .unset, .unset, .unset, .unset] [(.int (Int32.ofNat A)), (.ref b)])) rfl rfl (hb hby d_prog_21_method_3_7) _ kont) ?_
    show G (s₁.setTop (mkF m 8 #[.val (.ref b), .val (.int (Int32.ofNat A)), .val (.int (Int32.ofNat (A + g + d))), .unset, .unset, .unset, .unset, .unset, .unset] [(.int (zs.getD (A) 0))]))
    refine go (fun _ kont => XS.bipush X0.here hx rfl (hb hby d_prog_21_method_3_8) kont) ?_
    show G (s₁.setTop (mkF m 10 #[.val (.ref b), .val (.int (Int32.ofNat A)), .val (.int (Int32.ofNat (A + g + d))), .unset, .unset, .unset, .unset, .unset, .unset] [(.int (45 : Int32)), (.int (zs.getD (A) 0))]))
    refine go (fun _ kont => XS.icmpNo X0.here hx rfl (hb hby d_prog_21_method_3_10) rfl (teq (by rw [hz A (by omega), own_out, if_pos ⟨hg, rfl⟩])).2 kont) ?_
    show G (s₁.setTop (mkF m 13 #[.val (.ref b), .val (.int (Int32.ofNat A)), .val (.int (Int32.ofNat (A + g + d))), .unset, .unset, .unset, .unset, .unset, .unset] []))
    refine go (fun _ kont => XS.iconst X0.here hx rfl (hb hby d_prog_21_method_3_13) kont) ?_
    show G (s₁.setTop (mkF m 14 #[.val (.ref b), .val (.int (Int32.ofNat A)), .val (.int (Int32.ofNat (A + g + d))), .unset, .unset, .unset, .unset, .unset, .unset] [(.int (1 : Int32))]))
    refine go (fun _ kont => XS.goto X0.here hx rfl (pc0 := 14) (pc' := 18) rfl (hb hby d_prog_21_method_3_14) (by decide) (by decide) kont) ?_
    show G (s₁.setTop (mkF m 18 #[.val (.ref b), .val (.int (Int32.ofNat A)), .val (.int (Int32.ofNat (A + g + d))), .unset, .unset, .unset, .unset, .unset, .unset] [(.int (1 : Int32))]))
    refine go (fun _ kont => XS.istoreN X0.here hx rfl (hb hby d_prog_21_method_3_18) rfl (l' := #[.val (.ref b), .val (.int (Int32.ofNat A)), .val (.int (Int32.ofNat (A + g + d))), .val (.int (1 : Int32)), .unset, .unset, .unset, .unset, .unset]) rfl kont) ?_
    show G (s₁.setTop (mkF m 19 #[.val (.ref b), .val (.int (Int32.ofNat A)), .val (.int (Int32.ofNat (A + g + d))), .val (.int (1 : Int32)), .unset, .unset, .unset, .unset, .unset] []))
    refine go (fun _ kont => XS.iloadN X0.here hx rfl (hb hby d_prog_21_method_3_19) rfl  kont) ?_
    show G (s₁.setTop (mkF m 20 #[.val (.ref b), .val (.int (Int32.ofNat A)), .val (.int (Int32.ofNat (A + g + d))), .val (.int (1 : Int32)), .unset, .unset, .unset, .unset, .unset] [(.int (1 : Int32))]))
    refine go (fun _ kont => XS.ifNo X0.here hx rfl (hb hby d_prog_21_method_3_20) rfl ((if0 _ _).trans (feq (by decide)).1) kont) ?_
    show G (s₁.setTop (mkF m 23 #[.val (.ref b), .val (.int (Int32.ofNat A)), .val (.int (Int32.ofNat (A + g + d))), .val (.int (1 : Int32)), .unset, .unset, .unset, .unset, .unset] []))
    refine go (fun _ kont => XS.iloadN X0.here hx rfl (hb hby d_prog_21_method_3_23) rfl  kont) ?_
    show G (s₁.setTop (mkF m 24 #[.val (.ref b), .val (.int (Int32.ofNat A)), .val (.int (Int32.ofNat (A + g + d))), .val (.int (1 : Int32)), .unset, .unset, .unset, .unset, .unset] [(.int (Int32.ofNat A))]))
    refine go (fun _ kont => XS.iconst X0.here hx rfl (hb hby d_prog_21_method_3_24) kont) ?_
    show G (s₁.setTop (mkF m 25 #[.val (.ref b), .val (.int (Int32.ofNat A)), .val (.int (Int32.ofNat (A + g + d))), .val (.int (1 : Int32)), .unset, .unset, .unset, .unset, .unset] [(.int (1 : Int32)), (.int (Int32.ofNat A))]))
    refine go (fun _ kont => XS.iadd X0.here hx rfl (hb hby d_prog_21_method_3_25) rfl kont) ?_
    show G (s₁.setTop (mkF m 26 #[.val (.ref b), .val (.int (Int32.ofNat A)), .val (.int (Int32.ofNat (A + g + d))), .val (.int (1 : Int32)), .unset, .unset, .unset, .unset, .unset] [(.int ((Int32.ofNat A) + (1 : Int32)))]))
    refine go (fun _ kont => XS.goto X0.here hx rfl (pc0 := 26) (pc' := 30) rfl (hb hby d_prog_21_method_3_26) (by decide) (by decide) kont) ?_
    show G (s₁.setTop (mkF m 30 #[.val (.ref b), .val (.int (Int32.ofNat A)), .val (.int (Int32.ofNat (A + g + d))), .val (.int (1 : Int32)), .unset, .unset, .unset, .unset, .unset] [(.int ((Int32.ofNat A) + (1 : Int32)))]))
    refine go (fun _ kont => XS.istore X0.here hx rfl (hb hby d_prog_21_method_3_30) rfl (l' := #[.val (.ref b), .val (.int (Int32.ofNat A)), .val (.int (Int32.ofNat (A + g + d))), .val (.int (1 : Int32)), .val (.int ((Int32.ofNat A) + (1 : Int32))), .unset, .unset, .unset, .unset]) rfl kont) ?_
    show G (s₁.setTop (mkF m 32 #[.val (.ref b), .val (.int (Int32.ofNat A)), .val (.int (Int32.ofNat (A + g + d))), .val (.int (1 : Int32)), .val (.int ((Int32.ofNat A) + (1 : Int32))), .unset, .unset, .unset, .unset] []))
    have e1 : ((Int32.ofNat A) + (1 : Int32)) = Int32.ofNat (A + g) := by rw [hg]; exact own_addk A 1
    have e2 : Int32.ofNat g = (1 : Int32) := by rw [hg]; rfl
    rw [e1]
    rw [e2] at at32
    exact at32
  · show G (s₁.setTop (mkF m 0 #[.val (.ref b), .val (.int (Int32.ofNat A)), .val (.int (Int32.ofNat (A + g + d))), .unset, .unset, .unset, .unset, .unset, .unset] []))
    refine go (fun _ kont => XS.iloadN X0.here hx rfl (hb hby d_prog_21_method_3_0) rfl  kont) ?_
    show G (s₁.setTop (mkF m 1 #[.val (.ref b), .val (.int (Int32.ofNat A)), .val (.int (Int32.ofNat (A + g + d))), .unset, .unset, .unset, .unset, .unset, .unset] [(.int (Int32.ofNat A))]))
    refine go (fun _ kont => XS.iloadN X0.here hx rfl (hb hby d_prog_21_method_3_1) rfl  kont) ?_
    show G (s₁.setTop (mkF m 2 #[.val (.ref b), .val (.int (Int32.ofNat A)), .val (.int (Int32.ofNat (A + g + d))), .unset, .unset, .unset, .unset, .unset, .unset] [(.int (Int32.ofNat (A + g + d))), (.int (Int32.ofNat A))]))
    refine go (fun _ kont => XS.icmpNo X0.here hx rfl (hb hby d_prog_21_method_3_2) rfl (tlt ((own_ltO (by omega) (by omega)).mpr (by omega))).2.1 kont) ?_
    show G (s₁.setTop (mkF m 5 #[.val (.ref b), .val (.int (Int32.ofNat A)), .val (.int (Int32.ofNat (A + g + d))), .unset, .unset, .unset, .unset, .unset, .unset] []))
    refine go (fun _ kont => XS.aloadN X0.here hx rfl (hb hby d_prog_21_method_3_5) rfl rfl kont) ?_
    show G (s₁.setTop (mkF m 6 #[.val (.ref b), .val (.int (Int32.ofNat A)), .val (.int (Int32.ofNat (A + g + d))), .unset, .unset, .unset, .unset, .unset, .unset] [(.ref b)]))
    refine go (fun _ kont => XS.iloadN X0.here hx rfl (hb hby d_prog_21_method_3_6) rfl  kont) ?_
    show G (s₁.setTop (mkF m 7 #[.val (.ref b), .val (.int (Int32.ofNat A)), .val (.int (Int32.ofNat (A + g + d))), .unset, .unset, .unset, .unset, .unset, .unset] [(.int (Int32.ofNat A)), (.ref b)]))
    refine go (fun _ kont => X0.baloadBytes hx (j := (Int32.ofNat A)) (v := (.int (zs.getD (A) 0))) (by rw [e0]; exact Ar.1) (State.isArrayOf_alike hZ.alike Ar.2.1) Ar.2.2 (own_hink Sl (own_neg (by rw [own_ofN (by omega)]; omega)) (own_tnO (by omega)) (k := A) (by rw [List.length_map]; omega)) (own_hatk Sl (own_tnO (by omega)) (own_atI (k := A) (by omega))) (g := (mkF m 7 #[.val (.ref b), .val (.int (Int32.ofNat A)), .val (.int (Int32.ofNat (A + g + d))), .unset, .unset, .unset, .unset, .unset, .unset] [(.int (Int32.ofNat A)), (.ref b)])) rfl rfl (hb hby d_prog_21_method_3_7) _ kont) ?_
    show G (s₁.setTop (mkF m 8 #[.val (.ref b), .val (.int (Int32.ofNat A)), .val (.int (Int32.ofNat (A + g + d))), .unset, .unset, .unset, .unset, .unset, .unset] [(.int (zs.getD (A) 0))]))
    refine go (fun _ kont => XS.bipush X0.here hx rfl (hb hby d_prog_21_method_3_8) kont) ?_
    show G (s₁.setTop (mkF m 10 #[.val (.ref b), .val (.int (Int32.ofNat A)), .val (.int (Int32.ofNat (A + g + d))), .unset, .unset, .unset, .unset, .unset, .unset] [(.int (45 : Int32)), (.int (zs.getD (A) 0))]))
    refine go (fun _ kont => XS.icmpYes X0.here hx rfl (pc0 := 10) (pc' := 17) rfl (hb hby d_prog_21_method_3_10) rfl (feq (fun q => by have h0' := hdig 0 (by omega); rw [show A + g + 0 = A by omega] at h0'; rw [h0'] at q; have q' := (own_eqO (d := 48 + M / 10 ^ (d - 1 - 0) % 10) (k := 45) (by omega) (by omega)).mp q; omega)).2 (by decide) (by decide) kont) ?_
    show G (s₁.setTop (mkF m 17 #[.val (.ref b), .val (.int (Int32.ofNat A)), .val (.int (Int32.ofNat (A + g + d))), .unset, .unset, .unset, .unset, .unset, .unset] []))
    refine go (fun _ kont => XS.iconst X0.here hx rfl (hb hby d_prog_21_method_3_17) kont) ?_
    show G (s₁.setTop (mkF m 18 #[.val (.ref b), .val (.int (Int32.ofNat A)), .val (.int (Int32.ofNat (A + g + d))), .unset, .unset, .unset, .unset, .unset, .unset] [(.int (0 : Int32))]))
    refine go (fun _ kont => XS.istoreN X0.here hx rfl (hb hby d_prog_21_method_3_18) rfl (l' := #[.val (.ref b), .val (.int (Int32.ofNat A)), .val (.int (Int32.ofNat (A + g + d))), .val (.int (0 : Int32)), .unset, .unset, .unset, .unset, .unset]) rfl kont) ?_
    show G (s₁.setTop (mkF m 19 #[.val (.ref b), .val (.int (Int32.ofNat A)), .val (.int (Int32.ofNat (A + g + d))), .val (.int (0 : Int32)), .unset, .unset, .unset, .unset, .unset] []))
    refine go (fun _ kont => XS.iloadN X0.here hx rfl (hb hby d_prog_21_method_3_19) rfl  kont) ?_
    show G (s₁.setTop (mkF m 20 #[.val (.ref b), .val (.int (Int32.ofNat A)), .val (.int (Int32.ofNat (A + g + d))), .val (.int (0 : Int32)), .unset, .unset, .unset, .unset, .unset] [(.int (0 : Int32))]))
    refine go (fun _ kont => XS.ifYes X0.here hx rfl (pc0 := 20) (pc' := 29) rfl (hb hby d_prog_21_method_3_20) rfl ((if0 _ _).trans (teq (by decide)).1) (by decide) (by decide) kont) ?_
    show G (s₁.setTop (mkF m 29 #[.val (.ref b), .val (.int (Int32.ofNat A)), .val (.int (Int32.ofNat (A + g + d))), .val (.int (0 : Int32)), .unset, .unset, .unset, .unset, .unset] []))
    refine go (fun _ kont => XS.iloadN X0.here hx rfl (hb hby d_prog_21_method_3_29) rfl  kont) ?_
    show G (s₁.setTop (mkF m 30 #[.val (.ref b), .val (.int (Int32.ofNat A)), .val (.int (Int32.ofNat (A + g + d))), .val (.int (0 : Int32)), .unset, .unset, .unset, .unset, .unset] [(.int (Int32.ofNat A))]))
    refine go (fun _ kont => XS.istore X0.here hx rfl (hb hby d_prog_21_method_3_30) rfl (l' := #[.val (.ref b), .val (.int (Int32.ofNat A)), .val (.int (Int32.ofNat (A + g + d))), .val (.int (0 : Int32)), .val (.int (Int32.ofNat A)), .unset, .unset, .unset, .unset]) rfl kont) ?_
    show G (s₁.setTop (mkF m 32 #[.val (.ref b), .val (.int (Int32.ofNat A)), .val (.int (Int32.ofNat (A + g + d))), .val (.int (0 : Int32)), .val (.int (Int32.ofNat A)), .unset, .unset, .unset, .unset] []))
    have e1 : Int32.ofNat (A + g) = Int32.ofNat A := by rw [hg, Nat.add_zero]
    have e2 : Int32.ofNat g = (0 : Int32) := by rw [hg]; rfl
    rw [e1, e2] at at32
    exact at32
theorem own_ef_own_rm_law (m : MethodId) (x0 : Int64) (x1 : Int32) (x2 : Int32) : entryFrame m #[(.long x0), (.int x1), (.int x2)] maxLocals = mkF m 0 #[.val (.long x0), .second, .val (.int x1), .val (.int x2), .unset, .unset, .unset, .unset, .unset, .unset, .unset] [] := by first | (simp [entryFrame, mkF, argsToLocals, Value.category, maxLocals]; done) | rfl
set_option maxRecDepth 65536 in
set_option maxHeartbeats 40000000 in
theorem own_rm_law (l : Launch) (Z : State) (a0 : Array Value) (hw : ∀ d ∈ tables_1, d.before a0 Z = true) (ws : List Jvm.Cond) (p1 : Int64) (p2 : Int32) (p3 : Int32) (h0 : Heap) (n0 : Nat) (Z0 : n0 ≤ h0.size)  :
    MetFree l x (head1 (Jvm.Cond.code x code maxLocals ret :: ws) room_1) (fun aq Uq => aq = #[(.long p1), (.int p2), (.int p3)] ∧ Z.Warmed39 Uq.vm ∧ Uq.heap = h0) (fun _ _ _ _ _ => True) (fun _ Uq oq Uq' => ∃ vq Lq, oq = .returned vq ∧ (own_Ql n0) vq Uq'.heap Lq ∧ FrameEnd Uq oq Uq' Lq room_1.cells room_1.slots) := by
  refine MetFree.of_bodySF (plainFor_of_name own_pn1) hisR ?_
  intro p e s m args below meth c s₁ Bd hml0 hP hK
  obtain ⟨rfl, hZ, hh⟩ := hP
  have hx := Bd.exec
  have hby := Bd.bytes
  have hml : c.maxLocals = 11 := hml0
  have hown : s.vm.findClass "com/example/keyspace/keyspace/protocol/DecimalPutPinLaw" = some m.cls := findClass_of_methodNamed Bd.named
  have hnm := (name_of_methodNamed Bd.named Bd.method).1
  have X0 : Stand p l e room_1 s m #[(.long p1), (.int p2), (.int p3)] below meth c s₁ [] 0 0 := Stand.of_body Bd
  have e0 : s₁.heap = h0 := by rw [← hh, Bd.state]; rfl
  have N0 := Fr.nil n0
  have hlk : meth.locks = false := by first | exact BodyLoose.notSynchronized Bd | exact Body.notSynchronized Bd
  obtain ⟨G, hG⟩ : ∃ G : State → Prop, G = own_G p e below s room_1.cells room_1.slots ((own_Ql n0)) := ⟨_, rfl⟩
  have go : ∀ {S S' : State}, (∀ t, Steps p.tables e below S' t → Steps p.tables e below S t) → G S' → G S := by rw [hG]; exact own_to
  suffices hs : G (s₁.setTop (mkF m 0 #[.val (.long p1), .second, .val (.int p2), .val (.int p3), .unset, .unset, .unset, .unset, .unset, .unset, .unset] [])) by
    rw [hG] at hs
    exact own_to (fun _ kont => castTop (own_ef_own_rm_law m p1 p2 p3) kont) hs
  have rest : ∀ (v : Int64), G (s₁.setTop (mkF m 63 #[.val (.long p1), .second, .val (.int p2), .val (.int p3), .val (.long v), .second, .val (.int (p2 &&& (3 : Int32))), .unset, .unset, .unset, .unset] [])) := by
    intro v
    show G (s₁.setTop (mkF m 63 #[.val (.long p1), .second, .val (.int p2), .val (.int p3), .val (.long v), .second, .val (.int (p2 &&& (3 : Int32))), .unset, .unset, .unset, .unset] []))
    refine go (fun _ kont => XS.iloadN X0.here hx rfl (hb hby at_63) rfl  kont) ?_
    show G (s₁.setTop (mkF m 64 #[.val (.long p1), .second, .val (.int p2), .val (.int p3), .val (.long v), .second, .val (.int (p2 &&& (3 : Int32))), .unset, .unset, .unset, .unset] [(.int p3)]))
    refine go (fun _ kont => XS.bipush X0.here hx rfl (hb hby at_64) kont) ?_
    show G (s₁.setTop (mkF m 66 #[.val (.long p1), .second, .val (.int p2), .val (.int p3), .val (.long v), .second, .val (.int (p2 &&& (3 : Int32))), .unset, .unset, .unset, .unset] [(.int (7 : Int32)), (.int p3)]))
    refine go (fun _ kont => XS.iand X0.here hx rfl (hb hby at_66) rfl kont) ?_
    show G (s₁.setTop (mkF m 67 #[.val (.long p1), .second, .val (.int p2), .val (.int p3), .val (.long v), .second, .val (.int (p2 &&& (3 : Int32))), .unset, .unset, .unset, .unset] [(.int (p3 &&& (7 : Int32)))]))
    obtain ⟨A, hA, eA⟩ := own_m7 p3
    rw [eA]
    show G (s₁.setTop (mkF m 67 #[.val (.long p1), .second, .val (.int p2), .val (.int p3), .val (.long v), .second, .val (.int (p2 &&& (3 : Int32))), .unset, .unset, .unset, .unset] [(.int (Int32.ofNat A))]))
    obtain ⟨g, hng⟩ : ∃ g : Nat, (v < (0 : Int64) ∧ g = 1) ∨ (¬ v < (0 : Int64) ∧ g = 0) := by
      by_cases q : v < (0 : Int64)
      · exact ⟨1, Or.inl ⟨q, rfl⟩⟩
      · exact ⟨0, Or.inr ⟨q, rfl⟩⟩
    obtain ⟨M, hM⟩ : ∃ M, M = v.toInt.natAbs := ⟨_, rfl⟩
    refine go (fun _ kont => XS.istore X0.here hx rfl (hb hby at_67) rfl (l' := #[.val (.long p1), .second, .val (.int p2), .val (.int p3), .val (.long v), .second, .val (.int (p2 &&& (3 : Int32))), .val (.int (Int32.ofNat A)), .unset, .unset, .unset]) rfl kont) ?_
    show G (s₁.setTop (mkF m 69 #[.val (.long p1), .second, .val (.int p2), .val (.int p3), .val (.long v), .second, .val (.int (p2 &&& (3 : Int32))), .val (.int (Int32.ofNat A)), .unset, .unset, .unset] []))
    refine go (fun _ kont => XS.bipush X0.here hx rfl (hb hby at_69) kont) ?_
    show G (s₁.setTop (mkF m 71 #[.val (.long p1), .second, .val (.int p2), .val (.int p3), .val (.long v), .second, .val (.int (p2 &&& (3 : Int32))), .val (.int (Int32.ofNat A)), .unset, .unset, .unset] [(.int (30 : Int32))]))
    obtain ⟨T1, h1, k1, X1, e1, E1, A1, st1⟩ := newP X0 hx hZ (hw _ (List.mem_of_getElem? (i := 2) rfl)) e0 (g := (mkF m 71 #[.val (.long p1), .second, .val (.int p2), .val (.int p3), .val (.long v), .second, .val (.int (p2 &&& (3 : Int32))), .val (.int (Int32.ofNat A)), .unset, .unset, .unset] [(.int (30 : Int32))])) rfl (hb hby at_71) rfl (by decide) (cap := 30) (by decide) (by decide) (by decide) (by decide)
    obtain ⟨b1, g1⟩ : ∃ z, z = h0.size := ⟨_, rfl⟩
    rw [← g1] at A1 st1
    refine go st1 ?_
    show G (T1.setTop (mkF m 73 #[.val (.long p1), .second, .val (.int p2), .val (.int p3), .val (.long v), .second, .val (.int (p2 &&& (3 : Int32))), .val (.int (Int32.ofNat A)), .unset, .unset, .unset] [(.ref b1)]))
    have V1 : own_V Z h1 b1 .byte [(.int 0), (.int 0), (.int 0), (.int 0), (.int 0), (.int 0), (.int 0), (.int 0), (.int 0), (.int 0), (.int 0), (.int 0), (.int 0), (.int 0), (.int 0), (.int 0), (.int 0), (.int 0), (.int 0), (.int 0), (.int 0), (.int 0), (.int 0), (.int 0), (.int 0), (.int 0), (.int 0), (.int 0), (.int 0), (.int 0)] := own_V_new A1 (m := 30) (by decide) (by decide)
    have Z1 : n0 ≤ h1.size := Nat.le_trans Z0 E1.1
    have ga_b1 : n0 ≤ b1 := Nat.le_trans Z0 (Nat.le_of_eq g1.symm)
    refine go (fun _ kont => XS.astore X1.here hx rfl (hb hby at_73) rfl rfl (l' := #[.val (.long p1), .second, .val (.int p2), .val (.int p3), .val (.long v), .second, .val (.int (p2 &&& (3 : Int32))), .val (.int (Int32.ofNat A)), .val (.ref b1), .unset, .unset]) rfl kont) ?_
    show G (T1.setTop (mkF m 75 #[.val (.long p1), .second, .val (.int p2), .val (.int p3), .val (.long v), .second, .val (.int (p2 &&& (3 : Int32))), .val (.int (Int32.ofNat A)), .val (.ref b1), .unset, .unset] []))
    refine go (fun _ kont => XS.lload X1.here hx rfl (hb hby at_75) rfl  kont) ?_
    show G (T1.setTop (mkF m 77 #[.val (.long p1), .second, .val (.int p2), .val (.int p3), .val (.long v), .second, .val (.int (p2 &&& (3 : Int32))), .val (.int (Int32.ofNat A)), .val (.ref b1), .unset, .unset] [(.long v)]))
    refine go (fun _ kont => XS.aload X1.here hx rfl (hb hby at_77) rfl rfl kont) ?_
    show G (T1.setTop (mkF m 79 #[.val (.long p1), .second, .val (.int p2), .val (.int p3), .val (.long v), .second, .val (.int (p2 &&& (3 : Int32))), .val (.int (Int32.ofNat A)), .val (.ref b1), .unset, .unset] [(.ref b1), (.long v)]))
    refine go (fun _ kont => XS.iload X1.here hx rfl (hb hby at_79) rfl  kont) ?_
    show G (T1.setTop (mkF m 81 #[.val (.long p1), .second, .val (.int p2), .val (.int p3), .val (.long v), .second, .val (.int (p2 &&& (3 : Int32))), .val (.int (Int32.ofNat A)), .val (.ref b1), .unset, .unset] [(.int (Int32.ofNat A)), (.ref b1), (.long v)]))
    have VX : own_V Z h1 b1 .byte ((List.replicate 30 (0 : Int32)).map Value.int) := V1
    obtain ⟨_, _, ⟨T2, L2, k2, n2⟩, -, X2, ⟨Lc2, hQ2, l2, y2, z2⟩, st2⟩ := Jvm.LawKit.callS X1 hx (y := (⟨"com/example/keyspace/keyspace/protocol/Decimal", "put", "(J[BI)I"⟩ : MethodName)) hown (mvT hZ (hw _ (List.mem_of_getElem? (i := 3) rfl))) (mvT hZ (hw _ (List.mem_of_getElem? (i := 4) rfl))) (mvT hZ (hw _ (List.mem_of_getElem? (i := 5) rfl))) (mvT hZ (hw _ (List.mem_of_getElem? (i := 6) rfl))) (by decide) (backOf (W := 0) (own_rm_put l Z a0 hw [] v b1 h1 n0 Z1 M A g hM hng hA (List.replicate 30 (0 : Int32)) rfl VX (fun j hj => own_rep hj) ga_b1) hZ (hw _ (List.mem_of_getElem? (i := 6) rfl)) (hw _ (List.mem_of_getElem? (i := 5) rfl)) (by decide) (by decide)) (g := (mkF m 81 #[.val (.long p1), .second, .val (.int p2), .val (.int p3), .val (.long v), .second, .val (.int (p2 &&& (3 : Int32))), .val (.int (Int32.ofNat A)), .val (.ref b1), .unset, .unset] [(.int (Int32.ofNat A)), (.ref b1), (.long v)])) rfl (by rw [hml]; rfl) (argsL := [(.long v), (.ref b1), (.int (Int32.ofNat A))]) (rest := []) (lenOf own_pd0 rfl) rfl (by show 2 * 0 + _ ≤ _; exact Nat.le_of_eq rfl) (hb hby at_81) (fun _ _ => ⟨rfl, e1, (by decide : 1 + 0 ≤ _), (by decide : 30 + 0 ≤ _)⟩)
    dsimp only [Pt.U, Pt.locs, Pt.cells, Pt.slots] at X2 l2 y2 z2 st2 hQ2
    subst l2 y2 z2
    obtain ⟨⟨d, hd, rfl, zs, hzl, V2, hz⟩, N2q, K2⟩ := hQ2
    have N2 := Fr.app N0 N2q
    have e2 : T2.heap = T2.heap := rfl
    refine go st2 ?_
    show G (T2.setTop (mkF m 84 #[.val (.long p1), .second, .val (.int p2), .val (.int p3), .val (.long v), .second, .val (.int (p2 &&& (3 : Int32))), .val (.int (Int32.ofNat A)), .val (.ref b1), .unset, .unset] [(.int (Int32.ofNat (A + g + d)))]))
    have Z2 : n0 ≤ T2.heap.size := Nat.le_trans Z1 K2.1
    have hdd := hd
    obtain ⟨hd1, hd19, hdz, hdl⟩ := hd
    obtain ⟨cl, Ar, Sl, Ml⟩ := id V2
    refine go (fun _ kont => XS.istore X2.here hx rfl (hb hby at_84) rfl (l' := #[.val (.long p1), .second, .val (.int p2), .val (.int p3), .val (.long v), .second, .val (.int (p2 &&& (3 : Int32))), .val (.int (Int32.ofNat A)), .val (.ref b1), .val (.int (Int32.ofNat (A + g + d))), .unset]) rfl kont) ?_
    show G (T2.setTop (mkF m 86 #[.val (.long p1), .second, .val (.int p2), .val (.int p3), .val (.long v), .second, .val (.int (p2 &&& (3 : Int32))), .val (.int (Int32.ofNat A)), .val (.ref b1), .val (.int (Int32.ofNat (A + g + d))), .unset] []))
    refine go (fun _ kont => XS.iload X2.here hx rfl (hb hby at_86) rfl  kont) ?_
    show G (T2.setTop (mkF m 88 #[.val (.long p1), .second, .val (.int p2), .val (.int p3), .val (.long v), .second, .val (.int (p2 &&& (3 : Int32))), .val (.int (Int32.ofNat A)), .val (.ref b1), .val (.int (Int32.ofNat (A + g + d))), .unset] [(.int (Int32.ofNat (A + g + d)))]))
    refine go (fun _ kont => XS.iload X2.here hx rfl (hb hby at_88) rfl  kont) ?_
    show G (T2.setTop (mkF m 90 #[.val (.long p1), .second, .val (.int p2), .val (.int p3), .val (.long v), .second, .val (.int (p2 &&& (3 : Int32))), .val (.int (Int32.ofNat A)), .val (.ref b1), .val (.int (Int32.ofNat (A + g + d))), .unset] [(.int (Int32.ofNat A)), (.int (Int32.ofNat (A + g + d)))]))
    refine go (fun _ kont => XS.isub X2.here hx rfl (hb hby at_90) rfl kont) ?_
    show G (T2.setTop (mkF m 91 #[.val (.long p1), .second, .val (.int p2), .val (.int p3), .val (.long v), .second, .val (.int (p2 &&& (3 : Int32))), .val (.int (Int32.ofNat A)), .val (.ref b1), .val (.int (Int32.ofNat (A + g + d))), .unset] [(.int ((Int32.ofNat (A + g + d)) - (Int32.ofNat A)))]))
    rw [show ((Int32.ofNat (A + g + d)) - (Int32.ofNat A)) = (Int32.ofNat (g + d)) from (by rw [own_subk (by omega)]; congr 1; omega)]
    show G (T2.setTop (mkF m 91 #[.val (.long p1), .second, .val (.int p2), .val (.int p3), .val (.long v), .second, .val (.int (p2 &&& (3 : Int32))), .val (.int (Int32.ofNat A)), .val (.ref b1), .val (.int (Int32.ofNat (A + g + d))), .unset] [(.int (Int32.ofNat (g + d)))]))
    refine go (fun _ kont => XS.istore X2.here hx rfl (hb hby at_91) rfl (l' := #[.val (.long p1), .second, .val (.int p2), .val (.int p3), .val (.long v), .second, .val (.int (p2 &&& (3 : Int32))), .val (.int (Int32.ofNat A)), .val (.ref b1), .val (.int (Int32.ofNat (A + g + d))), .val (.int (Int32.ofNat (g + d)))]) rfl kont) ?_
    show G (T2.setTop (mkF m 93 #[.val (.long p1), .second, .val (.int p2), .val (.int p3), .val (.long v), .second, .val (.int (p2 &&& (3 : Int32))), .val (.int (Int32.ofNat A)), .val (.ref b1), .val (.int (Int32.ofNat (A + g + d))), .val (.int (Int32.ofNat (g + d)))] []))
    refine go (fun _ kont => XS.iload X2.here hx rfl (hb hby at_93) rfl  kont) ?_
    show G (T2.setTop (mkF m 95 #[.val (.long p1), .second, .val (.int p2), .val (.int p3), .val (.long v), .second, .val (.int (p2 &&& (3 : Int32))), .val (.int (Int32.ofNat A)), .val (.ref b1), .val (.int (Int32.ofNat (A + g + d))), .val (.int (Int32.ofNat (g + d)))] [(.int (Int32.ofNat (g + d)))]))
    refine go (fun _ kont => XS.iconst X2.here hx rfl (hb hby at_95) kont) ?_
    show G (T2.setTop (mkF m 96 #[.val (.long p1), .second, .val (.int p2), .val (.int p3), .val (.long v), .second, .val (.int (p2 &&& (3 : Int32))), .val (.int (Int32.ofNat A)), .val (.ref b1), .val (.int (Int32.ofNat (A + g + d))), .val (.int (Int32.ofNat (g + d)))] [(.int (1 : Int32)), (.int (Int32.ofNat (g + d)))]))
    refine go (fun _ kont => XS.icmpNo X2.here hx rfl (hb hby at_96) rfl (flt (fun q => by have q' := (own_ltO (d := g + d) (k := 1) (by omega) (by omega)).mp q; omega)).1 kont) ?_
    show G (T2.setTop (mkF m 99 #[.val (.long p1), .second, .val (.int p2), .val (.int p3), .val (.long v), .second, .val (.int (p2 &&& (3 : Int32))), .val (.int (Int32.ofNat A)), .val (.ref b1), .val (.int (Int32.ofNat (A + g + d))), .val (.int (Int32.ofNat (g + d)))] []))
    refine go (fun _ kont => XS.iload X2.here hx rfl (hb hby at_99) rfl  kont) ?_
    show G (T2.setTop (mkF m 101 #[.val (.long p1), .second, .val (.int p2), .val (.int p3), .val (.long v), .second, .val (.int (p2 &&& (3 : Int32))), .val (.int (Int32.ofNat A)), .val (.ref b1), .val (.int (Int32.ofNat (A + g + d))), .val (.int (Int32.ofNat (g + d)))] [(.int (Int32.ofNat (g + d)))]))
    refine go (fun _ kont => XS.bipush X2.here hx rfl (hb hby at_101) kont) ?_
    show G (T2.setTop (mkF m 103 #[.val (.long p1), .second, .val (.int p2), .val (.int p3), .val (.long v), .second, .val (.int (p2 &&& (3 : Int32))), .val (.int (Int32.ofNat A)), .val (.ref b1), .val (.int (Int32.ofNat (A + g + d))), .val (.int (Int32.ofNat (g + d)))] [(.int (20 : Int32)), (.int (Int32.ofNat (g + d)))]))
    refine go (fun _ kont => XS.icmpYes X2.here hx rfl (pc0 := 103) (pc' := 108) rfl (hb hby at_103) rfl (flt (fun q => by have q' := (own_ltO (d := 20) (k := g + d) (by omega) (by omega)).mp q; omega)).2.2.2 (by decide) (by decide) kont) ?_
    show G (T2.setTop (mkF m 108 #[.val (.long p1), .second, .val (.int p2), .val (.int p3), .val (.long v), .second, .val (.int (p2 &&& (3 : Int32))), .val (.int (Int32.ofNat A)), .val (.ref b1), .val (.int (Int32.ofNat (A + g + d))), .val (.int (Int32.ofNat (g + d)))] []))
    refine go (fun _ kont => XS.iload X2.here hx rfl (hb hby at_108) rfl  kont) ?_
    show G (T2.setTop (mkF m 110 #[.val (.long p1), .second, .val (.int p2), .val (.int p3), .val (.long v), .second, .val (.int (p2 &&& (3 : Int32))), .val (.int (Int32.ofNat A)), .val (.ref b1), .val (.int (Int32.ofNat (A + g + d))), .val (.int (Int32.ofNat (g + d)))] [(.int (Int32.ofNat A))]))
    have at125 : G (T2.setTop (mkF m 125 #[.val (.long p1), .second, .val (.int p2), .val (.int p3), .val (.long v), .second, .val (.int (p2 &&& (3 : Int32))), .val (.int (Int32.ofNat A)), .val (.ref b1), .val (.int (Int32.ofNat (A + g + d))), .val (.int (Int32.ofNat (g + d)))] [])) := by
      show G (T2.setTop (mkF m 125 #[.val (.long p1), .second, .val (.int p2), .val (.int p3), .val (.long v), .second, .val (.int (p2 &&& (3 : Int32))), .val (.int (Int32.ofNat A)), .val (.ref b1), .val (.int (Int32.ofNat (A + g + d))), .val (.int (Int32.ofNat (g + d)))] []))
      refine go (fun _ kont => XS.aload X2.here hx rfl (hb hby at_125) rfl rfl kont) ?_
      show G (T2.setTop (mkF m 127 #[.val (.long p1), .second, .val (.int p2), .val (.int p3), .val (.long v), .second, .val (.int (p2 &&& (3 : Int32))), .val (.int (Int32.ofNat A)), .val (.ref b1), .val (.int (Int32.ofNat (A + g + d))), .val (.int (Int32.ofNat (g + d)))] [(.ref b1)]))
      refine go (fun _ kont => XS.iload X2.here hx rfl (hb hby at_127) rfl  kont) ?_
      show G (T2.setTop (mkF m 129 #[.val (.long p1), .second, .val (.int p2), .val (.int p3), .val (.long v), .second, .val (.int (p2 &&& (3 : Int32))), .val (.int (Int32.ofNat A)), .val (.ref b1), .val (.int (Int32.ofNat (A + g + d))), .val (.int (Int32.ofNat (g + d)))] [(.int (Int32.ofNat (A + g + d))), (.ref b1)]))
      refine go (fun _ kont => X2.baloadBytes hx (j := (Int32.ofNat (A + g + d))) (v := (.int (zs.getD (A + g + d) 0))) (by rw [e2]; exact Ar.1) (State.isArrayOf_alike hZ.alike Ar.2.1) Ar.2.2 (own_hink Sl (own_neg (by rw [own_ofN (by omega)]; omega)) (own_tnO (by omega)) (k := A + g + d) (by rw [List.length_map]; omega)) (own_hatk Sl (own_tnO (by omega)) (own_atI (k := A + g + d) (by omega))) (g := (mkF m 129 #[.val (.long p1), .second, .val (.int p2), .val (.int p3), .val (.long v), .second, .val (.int (p2 &&& (3 : Int32))), .val (.int (Int32.ofNat A)), .val (.ref b1), .val (.int (Int32.ofNat (A + g + d))), .val (.int (Int32.ofNat (g + d)))] [(.int (Int32.ofNat (A + g + d))), (.ref b1)])) rfl rfl (hb hby at_129) _ kont) ?_
      show G (T2.setTop (mkF m 130 #[.val (.long p1), .second, .val (.int p2), .val (.int p3), .val (.long v), .second, .val (.int (p2 &&& (3 : Int32))), .val (.int (Int32.ofNat A)), .val (.ref b1), .val (.int (Int32.ofNat (A + g + d))), .val (.int (Int32.ofNat (g + d)))] [(.int (zs.getD (A + g + d) 0))]))
      refine go (fun _ kont => XS.ifYes X2.here hx rfl (pc0 := 130) (pc' := 135) rfl (hb hby at_130) rfl ((if0 _ _).trans (teq (by rw [hz _ (by omega), own_out, if_neg (by omega), own_dg, if_neg (by omega)])).1) (by decide) (by decide) kont) ?_
      show G (T2.setTop (mkF m 135 #[.val (.long p1), .second, .val (.int p2), .val (.int p3), .val (.long v), .second, .val (.int (p2 &&& (3 : Int32))), .val (.int (Int32.ofNat A)), .val (.ref b1), .val (.int (Int32.ofNat (A + g + d))), .val (.int (Int32.ofNat (g + d)))] []))
      rcases hng with ⟨hv, hg⟩ | ⟨hv, hg⟩
      · show G (T2.setTop (mkF m 135 #[.val (.long p1), .second, .val (.int p2), .val (.int p3), .val (.long v), .second, .val (.int (p2 &&& (3 : Int32))), .val (.int (Int32.ofNat A)), .val (.ref b1), .val (.int (Int32.ofNat (A + g + d))), .val (.int (Int32.ofNat (g + d)))] []))
        refine go (fun _ kont => XS.lload X2.here hx rfl (hb hby at_135) rfl  kont) ?_
        show G (T2.setTop (mkF m 137 #[.val (.long p1), .second, .val (.int p2), .val (.int p3), .val (.long v), .second, .val (.int (p2 &&& (3 : Int32))), .val (.int (Int32.ofNat A)), .val (.ref b1), .val (.int (Int32.ofNat (A + g + d))), .val (.int (Int32.ofNat (g + d)))] [(.long v)]))
        refine go (fun _ kont => XS.lconst X2.here hx rfl (hb hby at_137) kont) ?_
        show G (T2.setTop (mkF m 138 #[.val (.long p1), .second, .val (.int p2), .val (.int p3), .val (.long v), .second, .val (.int (p2 &&& (3 : Int32))), .val (.int (Int32.ofNat A)), .val (.ref b1), .val (.int (Int32.ofNat (A + g + d))), .val (.int (Int32.ofNat (g + d)))] [(.long (0 : Int64)), (.long v)]))
        refine go (fun _ kont => XS.lcmp X2.here hx rfl (hb hby at_138) rfl kont) ?_
        show G (T2.setTop (mkF m 139 #[.val (.long p1), .second, .val (.int p2), .val (.int p3), .val (.long v), .second, .val (.int (p2 &&& (3 : Int32))), .val (.int (Int32.ofNat A)), .val (.ref b1), .val (.int (Int32.ofNat (A + g + d))), .val (.int (Int32.ofNat (g + d)))] [(.int (lcmpW v (0 : Int64)))]))
        refine go (fun _ kont => XS.ifNo X2.here hx rfl (hb hby at_139) rfl ((if0 _ _).trans (tlt ((lw_lt _ _).mpr hv)).2.1) kont) ?_
        show G (T2.setTop (mkF m 142 #[.val (.long p1), .second, .val (.int p2), .val (.int p3), .val (.long v), .second, .val (.int (p2 &&& (3 : Int32))), .val (.int (Int32.ofNat A)), .val (.ref b1), .val (.int (Int32.ofNat (A + g + d))), .val (.int (Int32.ofNat (g + d)))] []))
        refine go (fun _ kont => XS.iconst X2.here hx rfl (hb hby at_142) kont) ?_
        show G (T2.setTop (mkF m 143 #[.val (.long p1), .second, .val (.int p2), .val (.int p3), .val (.long v), .second, .val (.int (p2 &&& (3 : Int32))), .val (.int (Int32.ofNat A)), .val (.ref b1), .val (.int (Int32.ofNat (A + g + d))), .val (.int (Int32.ofNat (g + d)))] [(.int (1 : Int32))]))
        refine go (fun _ kont => XS.goto X2.here hx rfl (pc0 := 143) (pc' := 147) rfl (hb hby at_143) (by decide) (by decide) kont) ?_
        show G (T2.setTop (mkF m 147 #[.val (.long p1), .second, .val (.int p2), .val (.int p3), .val (.long v), .second, .val (.int (p2 &&& (3 : Int32))), .val (.int (Int32.ofNat A)), .val (.ref b1), .val (.int (Int32.ofNat (A + g + d))), .val (.int (Int32.ofNat (g + d)))] [(.int (1 : Int32))]))
        refine go (fun _ kont => XS.aload X2.here hx rfl (hb hby at_147) rfl rfl kont) ?_
        show G (T2.setTop (mkF m 149 #[.val (.long p1), .second, .val (.int p2), .val (.int p3), .val (.long v), .second, .val (.int (p2 &&& (3 : Int32))), .val (.int (Int32.ofNat A)), .val (.ref b1), .val (.int (Int32.ofNat (A + g + d))), .val (.int (Int32.ofNat (g + d)))] [(.ref b1), (.int (1 : Int32))]))
        refine go (fun _ kont => XS.iload X2.here hx rfl (hb hby at_149) rfl  kont) ?_
        show G (T2.setTop (mkF m 151 #[.val (.long p1), .second, .val (.int p2), .val (.int p3), .val (.long v), .second, .val (.int (p2 &&& (3 : Int32))), .val (.int (Int32.ofNat A)), .val (.ref b1), .val (.int (Int32.ofNat (A + g + d))), .val (.int (Int32.ofNat (g + d)))] [(.int (Int32.ofNat A)), (.ref b1), (.int (1 : Int32))]))
        refine go (fun _ kont => X2.baloadBytes hx (j := (Int32.ofNat A)) (v := (.int (zs.getD (A) 0))) (by rw [e2]; exact Ar.1) (State.isArrayOf_alike hZ.alike Ar.2.1) Ar.2.2 (own_hink Sl (own_neg (by rw [own_ofN (by omega)]; omega)) (own_tnO (by omega)) (k := A) (by rw [List.length_map]; omega)) (own_hatk Sl (own_tnO (by omega)) (own_atI (k := A) (by omega))) (g := (mkF m 151 #[.val (.long p1), .second, .val (.int p2), .val (.int p3), .val (.long v), .second, .val (.int (p2 &&& (3 : Int32))), .val (.int (Int32.ofNat A)), .val (.ref b1), .val (.int (Int32.ofNat (A + g + d))), .val (.int (Int32.ofNat (g + d)))] [(.int (Int32.ofNat A)), (.ref b1), (.int (1 : Int32))])) rfl rfl (hb hby at_151) _ kont) ?_
        show G (T2.setTop (mkF m 152 #[.val (.long p1), .second, .val (.int p2), .val (.int p3), .val (.long v), .second, .val (.int (p2 &&& (3 : Int32))), .val (.int (Int32.ofNat A)), .val (.ref b1), .val (.int (Int32.ofNat (A + g + d))), .val (.int (Int32.ofNat (g + d)))] [(.int (zs.getD (A) 0)), (.int (1 : Int32))]))
        refine go (fun _ kont => XS.bipush X2.here hx rfl (hb hby at_152) kont) ?_
        show G (T2.setTop (mkF m 154 #[.val (.long p1), .second, .val (.int p2), .val (.int p3), .val (.long v), .second, .val (.int (p2 &&& (3 : Int32))), .val (.int (Int32.ofNat A)), .val (.ref b1), .val (.int (Int32.ofNat (A + g + d))), .val (.int (Int32.ofNat (g + d)))] [(.int (45 : Int32)), (.int (zs.getD (A) 0)), (.int (1 : Int32))]))
        refine go (fun _ kont => XS.icmpNo X2.here hx rfl (hb hby at_154) rfl (teq (by rw [hz A (by omega), own_out, if_pos ⟨hg, rfl⟩])).2 kont) ?_
        show G (T2.setTop (mkF m 157 #[.val (.long p1), .second, .val (.int p2), .val (.int p3), .val (.long v), .second, .val (.int (p2 &&& (3 : Int32))), .val (.int (Int32.ofNat A)), .val (.ref b1), .val (.int (Int32.ofNat (A + g + d))), .val (.int (Int32.ofNat (g + d)))] [(.int (1 : Int32))]))
        refine go (fun _ kont => XS.iconst X2.here hx rfl (hb hby at_157) kont) ?_
        show G (T2.setTop (mkF m 158 #[.val (.long p1), .second, .val (.int p2), .val (.int p3), .val (.long v), .second, .val (.int (p2 &&& (3 : Int32))), .val (.int (Int32.ofNat A)), .val (.ref b1), .val (.int (Int32.ofNat (A + g + d))), .val (.int (Int32.ofNat (g + d)))] [(.int (1 : Int32)), (.int (1 : Int32))]))
        refine go (fun _ kont => XS.goto X2.here hx rfl (pc0 := 158) (pc' := 162) rfl (hb hby at_158) (by decide) (by decide) kont) ?_
        show G (T2.setTop (mkF m 162 #[.val (.long p1), .second, .val (.int p2), .val (.int p3), .val (.long v), .second, .val (.int (p2 &&& (3 : Int32))), .val (.int (Int32.ofNat A)), .val (.ref b1), .val (.int (Int32.ofNat (A + g + d))), .val (.int (Int32.ofNat (g + d)))] [(.int (1 : Int32)), (.int (1 : Int32))]))
        refine go (fun _ kont => XS.icmpYes X2.here hx rfl (pc0 := 162) (pc' := 167) rfl (hb hby at_162) rfl (teq (by decide)).1 (by decide) (by decide) kont) ?_
        show G (T2.setTop (mkF m 167 #[.val (.long p1), .second, .val (.int p2), .val (.int p3), .val (.long v), .second, .val (.int (p2 &&& (3 : Int32))), .val (.int (Int32.ofNat A)), .val (.ref b1), .val (.int (Int32.ofNat (A + g + d))), .val (.int (Int32.ofNat (g + d)))] []))
        refine go (fun _ kont => XS.aload X2.here hx rfl (hb hby at_167) rfl rfl kont) ?_
        show G (T2.setTop (mkF m 169 #[.val (.long p1), .second, .val (.int p2), .val (.int p3), .val (.long v), .second, .val (.int (p2 &&& (3 : Int32))), .val (.int (Int32.ofNat A)), .val (.ref b1), .val (.int (Int32.ofNat (A + g + d))), .val (.int (Int32.ofNat (g + d)))] [(.ref b1)]))
        refine go (fun _ kont => XS.iload X2.here hx rfl (hb hby at_169) rfl  kont) ?_
        show G (T2.setTop (mkF m 171 #[.val (.long p1), .second, .val (.int p2), .val (.int p3), .val (.long v), .second, .val (.int (p2 &&& (3 : Int32))), .val (.int (Int32.ofNat A)), .val (.ref b1), .val (.int (Int32.ofNat (A + g + d))), .val (.int (Int32.ofNat (g + d)))] [(.int (Int32.ofNat A)), (.ref b1)]))
        refine go (fun _ kont => XS.iload X2.here hx rfl (hb hby at_171) rfl  kont) ?_
        show G (T2.setTop (mkF m 173 #[.val (.long p1), .second, .val (.int p2), .val (.int p3), .val (.long v), .second, .val (.int (p2 &&& (3 : Int32))), .val (.int (Int32.ofNat A)), .val (.ref b1), .val (.int (Int32.ofNat (A + g + d))), .val (.int (Int32.ofNat (g + d)))] [(.int (Int32.ofNat (A + g + d))), (.int (Int32.ofNat A)), (.ref b1)]))
        obtain ⟨_, _, ⟨T3, L3, k3, n3⟩, -, X3, ⟨Lc3, hQ3, l3, y3, z3⟩, st3⟩ := Jvm.LawKit.callS X2 hx (y := (⟨"com/example/keyspace/keyspace/protocol/Decimal", "parseLong", "([BII)J"⟩ : MethodName)) hown (mvT hZ (hw _ (List.mem_of_getElem? (i := 9) rfl))) (mvT hZ (hw _ (List.mem_of_getElem? (i := 10) rfl))) (mvT hZ (hw _ (List.mem_of_getElem? (i := 5) rfl))) (mvT hZ (hw _ (List.mem_of_getElem? (i := 11) rfl))) (by decide) (backOf (W := 0) (own_rm_parse l Z a0 hw [] b1 T2.heap n0 Z2 v M A g d hM (Or.inl ⟨hv, hg⟩) hA hdd zs hzl V2 hz) hZ (hw _ (List.mem_of_getElem? (i := 11) rfl)) (hw _ (List.mem_of_getElem? (i := 5) rfl)) (by decide) (by decide)) (g := (mkF m 173 #[.val (.long p1), .second, .val (.int p2), .val (.int p3), .val (.long v), .second, .val (.int (p2 &&& (3 : Int32))), .val (.int (Int32.ofNat A)), .val (.ref b1), .val (.int (Int32.ofNat (A + g + d))), .val (.int (Int32.ofNat (g + d)))] [(.int (Int32.ofNat (A + g + d))), (.int (Int32.ofNat A)), (.ref b1)])) rfl (by rw [hml]; rfl) (argsL := [(.ref b1), (.int (Int32.ofNat A)), (.int (Int32.ofNat (A + g + d)))]) (rest := []) (lenOf own_pd1 rfl) rfl (by show 2 * 0 + _ ≤ _; exact Nat.le_of_eq rfl) (hb hby at_173) (fun _ _ => ⟨rfl, e2, (by decide : 1 + 0 ≤ _), (by decide : 30 + 0 ≤ _)⟩)
        dsimp only [Pt.U, Pt.locs, Pt.cells, Pt.slots] at X3 l3 y3 z3 st3 hQ3
        subst l3 y3 z3
        obtain ⟨rfl, N3q, e3⟩ := hQ3
        have N3 := Fr.app N2 N3q
        refine go st3 ?_
        show G (T3.setTop (mkF m 176 #[.val (.long p1), .second, .val (.int p2), .val (.int p3), .val (.long v), .second, .val (.int (p2 &&& (3 : Int32))), .val (.int (Int32.ofNat A)), .val (.ref b1), .val (.int (Int32.ofNat (A + g + d))), .val (.int (Int32.ofNat (g + d)))] [(.long v)]))
        refine go (fun _ kont => XS.lload X3.here hx rfl (hb hby at_176) rfl  kont) ?_
        show G (T3.setTop (mkF m 178 #[.val (.long p1), .second, .val (.int p2), .val (.int p3), .val (.long v), .second, .val (.int (p2 &&& (3 : Int32))), .val (.int (Int32.ofNat A)), .val (.ref b1), .val (.int (Int32.ofNat (A + g + d))), .val (.int (Int32.ofNat (g + d)))] [(.long v), (.long v)]))
        refine go (fun _ kont => XS.lcmp X3.here hx rfl (hb hby at_178) rfl kont) ?_
        show G (T3.setTop (mkF m 179 #[.val (.long p1), .second, .val (.int p2), .val (.int p3), .val (.long v), .second, .val (.int (p2 &&& (3 : Int32))), .val (.int (Int32.ofNat A)), .val (.ref b1), .val (.int (Int32.ofNat (A + g + d))), .val (.int (Int32.ofNat (g + d)))] [(.int (lcmpW v v))]))
        refine go (fun _ kont => XS.ifNo X3.here hx rfl (hb hby at_179) rfl ((if0 _ _).trans (teq ((lw_eq _ _).mpr rfl)).2) kont) ?_
        show G (T3.setTop (mkF m 182 #[.val (.long p1), .second, .val (.int p2), .val (.int p3), .val (.long v), .second, .val (.int (p2 &&& (3 : Int32))), .val (.int (Int32.ofNat A)), .val (.ref b1), .val (.int (Int32.ofNat (A + g + d))), .val (.int (Int32.ofNat (g + d)))] []))
        refine go (fun _ kont => XS.iconst X3.here hx rfl (hb hby at_182) kont) ?_
        show G (T3.setTop (mkF m 183 #[.val (.long p1), .second, .val (.int p2), .val (.int p3), .val (.long v), .second, .val (.int (p2 &&& (3 : Int32))), .val (.int (Int32.ofNat A)), .val (.ref b1), .val (.int (Int32.ofNat (A + g + d))), .val (.int (Int32.ofNat (g + d)))] [(.int (1 : Int32))]))
        refine go (fun _ kont => XS.goto X3.here hx rfl (pc0 := 183) (pc' := 187) rfl (hb hby at_183) (by decide) (by decide) kont) ?_
        show G (T3.setTop (mkF m 187 #[.val (.long p1), .second, .val (.int p2), .val (.int p3), .val (.long v), .second, .val (.int (p2 &&& (3 : Int32))), .val (.int (Int32.ofNat A)), .val (.ref b1), .val (.int (Int32.ofNat (A + g + d))), .val (.int (Int32.ofNat (g + d)))] [(.int (1 : Int32))]))
        rw [hG]
        exact own_retN X3 hx (t := .boolean) Bd.returns (by simp) (hb hby at_187) hlk (by decide) (by decide) ⟨rfl, N3⟩
      · show G (T2.setTop (mkF m 135 #[.val (.long p1), .second, .val (.int p2), .val (.int p3), .val (.long v), .second, .val (.int (p2 &&& (3 : Int32))), .val (.int (Int32.ofNat A)), .val (.ref b1), .val (.int (Int32.ofNat (A + g + d))), .val (.int (Int32.ofNat (g + d)))] []))
        refine go (fun _ kont => XS.lload X2.here hx rfl (hb hby at_135) rfl  kont) ?_
        show G (T2.setTop (mkF m 137 #[.val (.long p1), .second, .val (.int p2), .val (.int p3), .val (.long v), .second, .val (.int (p2 &&& (3 : Int32))), .val (.int (Int32.ofNat A)), .val (.ref b1), .val (.int (Int32.ofNat (A + g + d))), .val (.int (Int32.ofNat (g + d)))] [(.long v)]))
        refine go (fun _ kont => XS.lconst X2.here hx rfl (hb hby at_137) kont) ?_
        show G (T2.setTop (mkF m 138 #[.val (.long p1), .second, .val (.int p2), .val (.int p3), .val (.long v), .second, .val (.int (p2 &&& (3 : Int32))), .val (.int (Int32.ofNat A)), .val (.ref b1), .val (.int (Int32.ofNat (A + g + d))), .val (.int (Int32.ofNat (g + d)))] [(.long (0 : Int64)), (.long v)]))
        refine go (fun _ kont => XS.lcmp X2.here hx rfl (hb hby at_138) rfl kont) ?_
        show G (T2.setTop (mkF m 139 #[.val (.long p1), .second, .val (.int p2), .val (.int p3), .val (.long v), .second, .val (.int (p2 &&& (3 : Int32))), .val (.int (Int32.ofNat A)), .val (.ref b1), .val (.int (Int32.ofNat (A + g + d))), .val (.int (Int32.ofNat (g + d)))] [(.int (lcmpW v (0 : Int64)))]))
        refine go (fun _ kont => XS.ifYes X2.here hx rfl (pc0 := 139) (pc' := 146) rfl (hb hby at_139) rfl ((if0 _ _).trans (flt (mt (lw_lt _ _).mp hv)).2.1) (by decide) (by decide) kont) ?_
        show G (T2.setTop (mkF m 146 #[.val (.long p1), .second, .val (.int p2), .val (.int p3), .val (.long v), .second, .val (.int (p2 &&& (3 : Int32))), .val (.int (Int32.ofNat A)), .val (.ref b1), .val (.int (Int32.ofNat (A + g + d))), .val (.int (Int32.ofNat (g + d)))] []))
        refine go (fun _ kont => XS.iconst X2.here hx rfl (hb hby at_146) kont) ?_
        show G (T2.setTop (mkF m 147 #[.val (.long p1), .second, .val (.int p2), .val (.int p3), .val (.long v), .second, .val (.int (p2 &&& (3 : Int32))), .val (.int (Int32.ofNat A)), .val (.ref b1), .val (.int (Int32.ofNat (A + g + d))), .val (.int (Int32.ofNat (g + d)))] [(.int (0 : Int32))]))
        refine go (fun _ kont => XS.aload X2.here hx rfl (hb hby at_147) rfl rfl kont) ?_
        show G (T2.setTop (mkF m 149 #[.val (.long p1), .second, .val (.int p2), .val (.int p3), .val (.long v), .second, .val (.int (p2 &&& (3 : Int32))), .val (.int (Int32.ofNat A)), .val (.ref b1), .val (.int (Int32.ofNat (A + g + d))), .val (.int (Int32.ofNat (g + d)))] [(.ref b1), (.int (0 : Int32))]))
        refine go (fun _ kont => XS.iload X2.here hx rfl (hb hby at_149) rfl  kont) ?_
        show G (T2.setTop (mkF m 151 #[.val (.long p1), .second, .val (.int p2), .val (.int p3), .val (.long v), .second, .val (.int (p2 &&& (3 : Int32))), .val (.int (Int32.ofNat A)), .val (.ref b1), .val (.int (Int32.ofNat (A + g + d))), .val (.int (Int32.ofNat (g + d)))] [(.int (Int32.ofNat A)), (.ref b1), (.int (0 : Int32))]))
        refine go (fun _ kont => X2.baloadBytes hx (j := (Int32.ofNat A)) (v := (.int (zs.getD (A) 0))) (by rw [e2]; exact Ar.1) (State.isArrayOf_alike hZ.alike Ar.2.1) Ar.2.2 (own_hink Sl (own_neg (by rw [own_ofN (by omega)]; omega)) (own_tnO (by omega)) (k := A) (by rw [List.length_map]; omega)) (own_hatk Sl (own_tnO (by omega)) (own_atI (k := A) (by omega))) (g := (mkF m 151 #[.val (.long p1), .second, .val (.int p2), .val (.int p3), .val (.long v), .second, .val (.int (p2 &&& (3 : Int32))), .val (.int (Int32.ofNat A)), .val (.ref b1), .val (.int (Int32.ofNat (A + g + d))), .val (.int (Int32.ofNat (g + d)))] [(.int (Int32.ofNat A)), (.ref b1), (.int (0 : Int32))])) rfl rfl (hb hby at_151) _ kont) ?_
        show G (T2.setTop (mkF m 152 #[.val (.long p1), .second, .val (.int p2), .val (.int p3), .val (.long v), .second, .val (.int (p2 &&& (3 : Int32))), .val (.int (Int32.ofNat A)), .val (.ref b1), .val (.int (Int32.ofNat (A + g + d))), .val (.int (Int32.ofNat (g + d)))] [(.int (zs.getD (A) 0)), (.int (0 : Int32))]))
        refine go (fun _ kont => XS.bipush X2.here hx rfl (hb hby at_152) kont) ?_
        show G (T2.setTop (mkF m 154 #[.val (.long p1), .second, .val (.int p2), .val (.int p3), .val (.long v), .second, .val (.int (p2 &&& (3 : Int32))), .val (.int (Int32.ofNat A)), .val (.ref b1), .val (.int (Int32.ofNat (A + g + d))), .val (.int (Int32.ofNat (g + d)))] [(.int (45 : Int32)), (.int (zs.getD (A) 0)), (.int (0 : Int32))]))
        refine go (fun _ kont => XS.icmpYes X2.here hx rfl (pc0 := 154) (pc' := 161) rfl (hb hby at_154) rfl (feq (fun q => by rw [hz A (by omega), own_out, if_neg (by omega), own_dg, if_pos (by omega)] at q; have q' := (own_eqO (k := 45) (by omega) (by omega)).mp q; omega)).2 (by decide) (by decide) kont) ?_
        show G (T2.setTop (mkF m 161 #[.val (.long p1), .second, .val (.int p2), .val (.int p3), .val (.long v), .second, .val (.int (p2 &&& (3 : Int32))), .val (.int (Int32.ofNat A)), .val (.ref b1), .val (.int (Int32.ofNat (A + g + d))), .val (.int (Int32.ofNat (g + d)))] [(.int (0 : Int32))]))
        refine go (fun _ kont => XS.iconst X2.here hx rfl (hb hby at_161) kont) ?_
        show G (T2.setTop (mkF m 162 #[.val (.long p1), .second, .val (.int p2), .val (.int p3), .val (.long v), .second, .val (.int (p2 &&& (3 : Int32))), .val (.int (Int32.ofNat A)), .val (.ref b1), .val (.int (Int32.ofNat (A + g + d))), .val (.int (Int32.ofNat (g + d)))] [(.int (0 : Int32)), (.int (0 : Int32))]))
        refine go (fun _ kont => XS.icmpYes X2.here hx rfl (pc0 := 162) (pc' := 167) rfl (hb hby at_162) rfl (teq (by decide)).1 (by decide) (by decide) kont) ?_
        show G (T2.setTop (mkF m 167 #[.val (.long p1), .second, .val (.int p2), .val (.int p3), .val (.long v), .second, .val (.int (p2 &&& (3 : Int32))), .val (.int (Int32.ofNat A)), .val (.ref b1), .val (.int (Int32.ofNat (A + g + d))), .val (.int (Int32.ofNat (g + d)))] []))
        refine go (fun _ kont => XS.aload X2.here hx rfl (hb hby at_167) rfl rfl kont) ?_
        show G (T2.setTop (mkF m 169 #[.val (.long p1), .second, .val (.int p2), .val (.int p3), .val (.long v), .second, .val (.int (p2 &&& (3 : Int32))), .val (.int (Int32.ofNat A)), .val (.ref b1), .val (.int (Int32.ofNat (A + g + d))), .val (.int (Int32.ofNat (g + d)))] [(.ref b1)]))
        refine go (fun _ kont => XS.iload X2.here hx rfl (hb hby at_169) rfl  kont) ?_
        show G (T2.setTop (mkF m 171 #[.val (.long p1), .second, .val (.int p2), .val (.int p3), .val (.long v), .second, .val (.int (p2 &&& (3 : Int32))), .val (.int (Int32.ofNat A)), .val (.ref b1), .val (.int (Int32.ofNat (A + g + d))), .val (.int (Int32.ofNat (g + d)))] [(.int (Int32.ofNat A)), (.ref b1)]))
        refine go (fun _ kont => XS.iload X2.here hx rfl (hb hby at_171) rfl  kont) ?_
        show G (T2.setTop (mkF m 173 #[.val (.long p1), .second, .val (.int p2), .val (.int p3), .val (.long v), .second, .val (.int (p2 &&& (3 : Int32))), .val (.int (Int32.ofNat A)), .val (.ref b1), .val (.int (Int32.ofNat (A + g + d))), .val (.int (Int32.ofNat (g + d)))] [(.int (Int32.ofNat (A + g + d))), (.int (Int32.ofNat A)), (.ref b1)]))
        obtain ⟨_, _, ⟨T4, L4, k4, n4⟩, -, X4, ⟨Lc4, hQ4, l4, y4, z4⟩, st4⟩ := Jvm.LawKit.callS X2 hx (y := (⟨"com/example/keyspace/keyspace/protocol/Decimal", "parseLong", "([BII)J"⟩ : MethodName)) hown (mvT hZ (hw _ (List.mem_of_getElem? (i := 9) rfl))) (mvT hZ (hw _ (List.mem_of_getElem? (i := 10) rfl))) (mvT hZ (hw _ (List.mem_of_getElem? (i := 5) rfl))) (mvT hZ (hw _ (List.mem_of_getElem? (i := 11) rfl))) (by decide) (backOf (W := 0) (own_rm_parse l Z a0 hw [] b1 T2.heap n0 Z2 v M A g d hM (Or.inr ⟨hv, hg⟩) hA hdd zs hzl V2 hz) hZ (hw _ (List.mem_of_getElem? (i := 11) rfl)) (hw _ (List.mem_of_getElem? (i := 5) rfl)) (by decide) (by decide)) (g := (mkF m 173 #[.val (.long p1), .second, .val (.int p2), .val (.int p3), .val (.long v), .second, .val (.int (p2 &&& (3 : Int32))), .val (.int (Int32.ofNat A)), .val (.ref b1), .val (.int (Int32.ofNat (A + g + d))), .val (.int (Int32.ofNat (g + d)))] [(.int (Int32.ofNat (A + g + d))), (.int (Int32.ofNat A)), (.ref b1)])) rfl (by rw [hml]; rfl) (argsL := [(.ref b1), (.int (Int32.ofNat A)), (.int (Int32.ofNat (A + g + d)))]) (rest := []) (lenOf own_pd1 rfl) rfl (by show 2 * 0 + _ ≤ _; exact Nat.le_of_eq rfl) (hb hby at_173) (fun _ _ => ⟨rfl, e2, (by decide : 1 + 0 ≤ _), (by decide : 30 + 0 ≤ _)⟩)
        dsimp only [Pt.U, Pt.locs, Pt.cells, Pt.slots] at X4 l4 y4 z4 st4 hQ4
        subst l4 y4 z4
        obtain ⟨rfl, N4q, e4⟩ := hQ4
        have N4 := Fr.app N2 N4q
        refine go st4 ?_
        show G (T4.setTop (mkF m 176 #[.val (.long p1), .second, .val (.int p2), .val (.int p3), .val (.long v), .second, .val (.int (p2 &&& (3 : Int32))), .val (.int (Int32.ofNat A)), .val (.ref b1), .val (.int (Int32.ofNat (A + g + d))), .val (.int (Int32.ofNat (g + d)))] [(.long v)]))
        refine go (fun _ kont => XS.lload X4.here hx rfl (hb hby at_176) rfl  kont) ?_
        show G (T4.setTop (mkF m 178 #[.val (.long p1), .second, .val (.int p2), .val (.int p3), .val (.long v), .second, .val (.int (p2 &&& (3 : Int32))), .val (.int (Int32.ofNat A)), .val (.ref b1), .val (.int (Int32.ofNat (A + g + d))), .val (.int (Int32.ofNat (g + d)))] [(.long v), (.long v)]))
        refine go (fun _ kont => XS.lcmp X4.here hx rfl (hb hby at_178) rfl kont) ?_
        show G (T4.setTop (mkF m 179 #[.val (.long p1), .second, .val (.int p2), .val (.int p3), .val (.long v), .second, .val (.int (p2 &&& (3 : Int32))), .val (.int (Int32.ofNat A)), .val (.ref b1), .val (.int (Int32.ofNat (A + g + d))), .val (.int (Int32.ofNat (g + d)))] [(.int (lcmpW v v))]))
        refine go (fun _ kont => XS.ifNo X4.here hx rfl (hb hby at_179) rfl ((if0 _ _).trans (teq ((lw_eq _ _).mpr rfl)).2) kont) ?_
        show G (T4.setTop (mkF m 182 #[.val (.long p1), .second, .val (.int p2), .val (.int p3), .val (.long v), .second, .val (.int (p2 &&& (3 : Int32))), .val (.int (Int32.ofNat A)), .val (.ref b1), .val (.int (Int32.ofNat (A + g + d))), .val (.int (Int32.ofNat (g + d)))] []))
        refine go (fun _ kont => XS.iconst X4.here hx rfl (hb hby at_182) kont) ?_
        show G (T4.setTop (mkF m 183 #[.val (.long p1), .second, .val (.int p2), .val (.int p3), .val (.long v), .second, .val (.int (p2 &&& (3 : Int32))), .val (.int (Int32.ofNat A)), .val (.ref b1), .val (.int (Int32.ofNat (A + g + d))), .val (.int (Int32.ofNat (g + d)))] [(.int (1 : Int32))]))
        refine go (fun _ kont => XS.goto X4.here hx rfl (pc0 := 183) (pc' := 187) rfl (hb hby at_183) (by decide) (by decide) kont) ?_
        show G (T4.setTop (mkF m 187 #[.val (.long p1), .second, .val (.int p2), .val (.int p3), .val (.long v), .second, .val (.int (p2 &&& (3 : Int32))), .val (.int (Int32.ofNat A)), .val (.ref b1), .val (.int (Int32.ofNat (A + g + d))), .val (.int (Int32.ofNat (g + d)))] [(.int (1 : Int32))]))
        rw [hG]
        exact own_retN X4 hx (t := .boolean) Bd.returns (by simp) (hb hby at_187) hlk (by decide) (by decide) ⟨rfl, N4⟩
    by_cases hc110 : (0 : Int32) < (Int32.ofNat A)
    · refine go (fun _ kont => XS.ifNo X2.here hx rfl (hb hby at_110) rfl ((if0 _ _).trans (tlt hc110).2.2.2) kont) ?_
      show G (T2.setTop (mkF m 113 #[.val (.long p1), .second, .val (.int p2), .val (.int p3), .val (.long v), .second, .val (.int (p2 &&& (3 : Int32))), .val (.int (Int32.ofNat A)), .val (.ref b1), .val (.int (Int32.ofNat (A + g + d))), .val (.int (Int32.ofNat (g + d)))] []))
      have hA0 : 0 < A := (own_ltO (d := 0) (k := A) (by omega) (by omega)).mp hc110
      refine go (fun _ kont => XS.aload X2.here hx rfl (hb hby at_113) rfl rfl kont) ?_
      show G (T2.setTop (mkF m 115 #[.val (.long p1), .second, .val (.int p2), .val (.int p3), .val (.long v), .second, .val (.int (p2 &&& (3 : Int32))), .val (.int (Int32.ofNat A)), .val (.ref b1), .val (.int (Int32.ofNat (A + g + d))), .val (.int (Int32.ofNat (g + d)))] [(.ref b1)]))
      refine go (fun _ kont => XS.iload X2.here hx rfl (hb hby at_115) rfl  kont) ?_
      show G (T2.setTop (mkF m 117 #[.val (.long p1), .second, .val (.int p2), .val (.int p3), .val (.long v), .second, .val (.int (p2 &&& (3 : Int32))), .val (.int (Int32.ofNat A)), .val (.ref b1), .val (.int (Int32.ofNat (A + g + d))), .val (.int (Int32.ofNat (g + d)))] [(.int (Int32.ofNat A)), (.ref b1)]))
      refine go (fun _ kont => XS.iconst X2.here hx rfl (hb hby at_117) kont) ?_
      show G (T2.setTop (mkF m 118 #[.val (.long p1), .second, .val (.int p2), .val (.int p3), .val (.long v), .second, .val (.int (p2 &&& (3 : Int32))), .val (.int (Int32.ofNat A)), .val (.ref b1), .val (.int (Int32.ofNat (A + g + d))), .val (.int (Int32.ofNat (g + d)))] [(.int (1 : Int32)), (.int (Int32.ofNat A)), (.ref b1)]))
      refine go (fun _ kont => XS.isub X2.here hx rfl (hb hby at_118) rfl kont) ?_
      show G (T2.setTop (mkF m 119 #[.val (.long p1), .second, .val (.int p2), .val (.int p3), .val (.long v), .second, .val (.int (p2 &&& (3 : Int32))), .val (.int (Int32.ofNat A)), .val (.ref b1), .val (.int (Int32.ofNat (A + g + d))), .val (.int (Int32.ofNat (g + d)))] [(.int ((Int32.ofNat A) - (1 : Int32))), (.ref b1)]))
      rw [show ((Int32.ofNat A) - (1 : Int32)) = (Int32.ofNat (A - 1)) from own_pred (by omega)]
      show G (T2.setTop (mkF m 119 #[.val (.long p1), .second, .val (.int p2), .val (.int p3), .val (.long v), .second, .val (.int (p2 &&& (3 : Int32))), .val (.int (Int32.ofNat A)), .val (.ref b1), .val (.int (Int32.ofNat (A + g + d))), .val (.int (Int32.ofNat (g + d)))] [(.int (Int32.ofNat (A - 1))), (.ref b1)]))
      refine go (fun _ kont => X2.baloadBytes hx (j := (Int32.ofNat (A - 1))) (v := (.int (zs.getD (A - 1) 0))) (by rw [e2]; exact Ar.1) (State.isArrayOf_alike hZ.alike Ar.2.1) Ar.2.2 (own_hink Sl (own_neg (by rw [own_ofN (by omega)]; omega)) (own_tnO (by omega)) (k := A - 1) (by rw [List.length_map]; omega)) (own_hatk Sl (own_tnO (by omega)) (own_atI (k := A - 1) (by omega))) (g := (mkF m 119 #[.val (.long p1), .second, .val (.int p2), .val (.int p3), .val (.long v), .second, .val (.int (p2 &&& (3 : Int32))), .val (.int (Int32.ofNat A)), .val (.ref b1), .val (.int (Int32.ofNat (A + g + d))), .val (.int (Int32.ofNat (g + d)))] [(.int (Int32.ofNat (A - 1))), (.ref b1)])) rfl rfl (hb hby at_119) _ kont) ?_
      show G (T2.setTop (mkF m 120 #[.val (.long p1), .second, .val (.int p2), .val (.int p3), .val (.long v), .second, .val (.int (p2 &&& (3 : Int32))), .val (.int (Int32.ofNat A)), .val (.ref b1), .val (.int (Int32.ofNat (A + g + d))), .val (.int (Int32.ofNat (g + d)))] [(.int (zs.getD (A - 1) 0))]))
      refine go (fun _ kont => XS.ifYes X2.here hx rfl (pc0 := 120) (pc' := 125) rfl (hb hby at_120) rfl ((if0 _ _).trans (teq (by rw [hz _ (by omega), own_out, if_neg (by omega), own_dg, if_neg (by omega)])).1) (by decide) (by decide) kont) ?_
      show G (T2.setTop (mkF m 125 #[.val (.long p1), .second, .val (.int p2), .val (.int p3), .val (.long v), .second, .val (.int (p2 &&& (3 : Int32))), .val (.int (Int32.ofNat A)), .val (.ref b1), .val (.int (Int32.ofNat (A + g + d))), .val (.int (Int32.ofNat (g + d)))] []))
      exact at125
    · refine go (fun _ kont => XS.ifYes X2.here hx rfl (pc0 := 110) (pc' := 125) rfl (hb hby at_110) rfl ((if0 _ _).trans (flt hc110).2.2.2) (by decide) (by decide) kont) ?_
      show G (T2.setTop (mkF m 125 #[.val (.long p1), .second, .val (.int p2), .val (.int p3), .val (.long v), .second, .val (.int (p2 &&& (3 : Int32))), .val (.int (Int32.ofNat A)), .val (.ref b1), .val (.int (Int32.ofNat (A + g + d))), .val (.int (Int32.ofNat (g + d)))] []))
      exact at125
  refine go (fun _ kont => XS.iloadN X0.here hx rfl (hb hby at_0) rfl  kont) ?_
  show G (s₁.setTop (mkF m 1 #[.val (.long p1), .second, .val (.int p2), .val (.int p3), .unset, .unset, .unset, .unset, .unset, .unset, .unset] [(.int p2)]))
  refine go (fun _ kont => XS.iconst X0.here hx rfl (hb hby at_1) kont) ?_
  show G (s₁.setTop (mkF m 2 #[.val (.long p1), .second, .val (.int p2), .val (.int p3), .unset, .unset, .unset, .unset, .unset, .unset, .unset] [(.int (3 : Int32)), (.int p2)]))
  refine go (fun _ kont => XS.iand X0.here hx rfl (hb hby at_2) rfl kont) ?_
  show G (s₁.setTop (mkF m 3 #[.val (.long p1), .second, .val (.int p2), .val (.int p3), .unset, .unset, .unset, .unset, .unset, .unset, .unset] [(.int (p2 &&& (3 : Int32)))]))
  refine go (fun _ kont => XS.istore X0.here hx rfl (hb hby at_3) rfl (l' := #[.val (.long p1), .second, .val (.int p2), .val (.int p3), .unset, .unset, .val (.int (p2 &&& (3 : Int32))), .unset, .unset, .unset, .unset]) rfl kont) ?_
  show G (s₁.setTop (mkF m 5 #[.val (.long p1), .second, .val (.int p2), .val (.int p3), .unset, .unset, .val (.int (p2 &&& (3 : Int32))), .unset, .unset, .unset, .unset] []))
  refine go (fun _ kont => XS.iload X0.here hx rfl (hb hby at_5) rfl  kont) ?_
  show G (s₁.setTop (mkF m 7 #[.val (.long p1), .second, .val (.int p2), .val (.int p3), .unset, .unset, .val (.int (p2 &&& (3 : Int32))), .unset, .unset, .unset, .unset] [(.int (p2 &&& (3 : Int32)))]))
  by_cases hc7 : (p2 &&& (3 : Int32)) = (0 : Int32)
  · refine go (fun _ kont => XS.ifNo X0.here hx rfl (hb hby at_7) rfl ((if0 _ _).trans (teq hc7).2) kont) ?_
    show G (s₁.setTop (mkF m 10 #[.val (.long p1), .second, .val (.int p2), .val (.int p3), .unset, .unset, .val (.int (p2 &&& (3 : Int32))), .unset, .unset, .unset, .unset] []))
    refine go (fun _ kont => XS.lloadN X0.here hx rfl (hb hby at_10) rfl  kont) ?_
    show G (s₁.setTop (mkF m 11 #[.val (.long p1), .second, .val (.int p2), .val (.int p3), .unset, .unset, .val (.int (p2 &&& (3 : Int32))), .unset, .unset, .unset, .unset] [(.long p1)]))
    refine go (fun _ kont => XS.lstore X0.here hx rfl (hb hby at_11) rfl (l' := #[.val (.long p1), .second, .val (.int p2), .val (.int p3), .val (.long p1), .second, .val (.int (p2 &&& (3 : Int32))), .unset, .unset, .unset, .unset]) rfl kont) ?_
    show G (s₁.setTop (mkF m 13 #[.val (.long p1), .second, .val (.int p2), .val (.int p3), .val (.long p1), .second, .val (.int (p2 &&& (3 : Int32))), .unset, .unset, .unset, .unset] []))
    refine go (fun _ kont => XS.goto X0.here hx rfl (pc0 := 13) (pc' := 63) rfl (hb hby at_13) (by decide) (by decide) kont) ?_
    show G (s₁.setTop (mkF m 63 #[.val (.long p1), .second, .val (.int p2), .val (.int p3), .val (.long p1), .second, .val (.int (p2 &&& (3 : Int32))), .unset, .unset, .unset, .unset] []))
    exact rest _
  · refine go (fun _ kont => XS.ifYes X0.here hx rfl (pc0 := 7) (pc' := 16) rfl (hb hby at_7) rfl ((if0 _ _).trans (feq hc7).2) (by decide) (by decide) kont) ?_
    show G (s₁.setTop (mkF m 16 #[.val (.long p1), .second, .val (.int p2), .val (.int p3), .unset, .unset, .val (.int (p2 &&& (3 : Int32))), .unset, .unset, .unset, .unset] []))
    refine go (fun _ kont => XS.iload X0.here hx rfl (hb hby at_16) rfl  kont) ?_
    show G (s₁.setTop (mkF m 18 #[.val (.long p1), .second, .val (.int p2), .val (.int p3), .unset, .unset, .val (.int (p2 &&& (3 : Int32))), .unset, .unset, .unset, .unset] [(.int (p2 &&& (3 : Int32)))]))
    refine go (fun _ kont => XS.iconst X0.here hx rfl (hb hby at_18) kont) ?_
    show G (s₁.setTop (mkF m 19 #[.val (.long p1), .second, .val (.int p2), .val (.int p3), .unset, .unset, .val (.int (p2 &&& (3 : Int32))), .unset, .unset, .unset, .unset] [(.int (1 : Int32)), (.int (p2 &&& (3 : Int32)))]))
    by_cases hc19 : (p2 &&& (3 : Int32)) = (1 : Int32)
    · refine go (fun _ kont => XS.icmpNo X0.here hx rfl (hb hby at_19) rfl (teq hc19).2 kont) ?_
      show G (s₁.setTop (mkF m 22 #[.val (.long p1), .second, .val (.int p2), .val (.int p3), .unset, .unset, .val (.int (p2 &&& (3 : Int32))), .unset, .unset, .unset, .unset] []))
      refine go (fun _ kont => XS.lloadN X0.here hx rfl (hb hby at_22) rfl  kont) ?_
      show G (s₁.setTop (mkF m 23 #[.val (.long p1), .second, .val (.int p2), .val (.int p3), .unset, .unset, .val (.int (p2 &&& (3 : Int32))), .unset, .unset, .unset, .unset] [(.long p1)]))
      refine go (fun _ kont => X0.ldc2Long hx hown (mvT hZ (hw _ (List.mem_of_getElem? (i := 14) rfl))) (g := (mkF m 23 #[.val (.long p1), .second, .val (.int p2), .val (.int p3), .unset, .unset, .val (.int (p2 &&& (3 : Int32))), .unset, .unset, .unset, .unset] [(.long p1)])) rfl (hb hby at_23) _ kont) ?_
      show G (s₁.setTop (mkF m 26 #[.val (.long p1), .second, .val (.int p2), .val (.int p3), .unset, .unset, .val (.int (p2 &&& (3 : Int32))), .unset, .unset, .unset, .unset] [(.long (1000 : Int64)), (.long p1)]))
      refine go (fun _ kont => XS.lrem X0.here hx rfl (hb hby at_26) rfl (by decide) kont) ?_
      show G (s₁.setTop (mkF m 27 #[.val (.long p1), .second, .val (.int p2), .val (.int p3), .unset, .unset, .val (.int (p2 &&& (3 : Int32))), .unset, .unset, .unset, .unset] [(.long (p1 - (p1 / (1000 : Int64)) * (1000 : Int64)))]))
      refine go (fun _ kont => XS.lstore X0.here hx rfl (hb hby at_27) rfl (l' := #[.val (.long p1), .second, .val (.int p2), .val (.int p3), .val (.long (p1 - (p1 / (1000 : Int64)) * (1000 : Int64))), .second, .val (.int (p2 &&& (3 : Int32))), .unset, .unset, .unset, .unset]) rfl kont) ?_
      show G (s₁.setTop (mkF m 29 #[.val (.long p1), .second, .val (.int p2), .val (.int p3), .val (.long (p1 - (p1 / (1000 : Int64)) * (1000 : Int64))), .second, .val (.int (p2 &&& (3 : Int32))), .unset, .unset, .unset, .unset] []))
      refine go (fun _ kont => XS.goto X0.here hx rfl (pc0 := 29) (pc' := 63) rfl (hb hby at_29) (by decide) (by decide) kont) ?_
      show G (s₁.setTop (mkF m 63 #[.val (.long p1), .second, .val (.int p2), .val (.int p3), .val (.long (p1 - (p1 / (1000 : Int64)) * (1000 : Int64))), .second, .val (.int (p2 &&& (3 : Int32))), .unset, .unset, .unset, .unset] []))
      exact rest _
    · refine go (fun _ kont => XS.icmpYes X0.here hx rfl (pc0 := 19) (pc' := 32) rfl (hb hby at_19) rfl (feq hc19).2 (by decide) (by decide) kont) ?_
      show G (s₁.setTop (mkF m 32 #[.val (.long p1), .second, .val (.int p2), .val (.int p3), .unset, .unset, .val (.int (p2 &&& (3 : Int32))), .unset, .unset, .unset, .unset] []))
      refine go (fun _ kont => XS.iload X0.here hx rfl (hb hby at_32) rfl  kont) ?_
      show G (s₁.setTop (mkF m 34 #[.val (.long p1), .second, .val (.int p2), .val (.int p3), .unset, .unset, .val (.int (p2 &&& (3 : Int32))), .unset, .unset, .unset, .unset] [(.int (p2 &&& (3 : Int32)))]))
      refine go (fun _ kont => XS.iconst X0.here hx rfl (hb hby at_34) kont) ?_
      show G (s₁.setTop (mkF m 35 #[.val (.long p1), .second, .val (.int p2), .val (.int p3), .unset, .unset, .val (.int (p2 &&& (3 : Int32))), .unset, .unset, .unset, .unset] [(.int (2 : Int32)), (.int (p2 &&& (3 : Int32)))]))
      by_cases hc35 : (p2 &&& (3 : Int32)) = (2 : Int32)
      · refine go (fun _ kont => XS.icmpNo X0.here hx rfl (hb hby at_35) rfl (teq hc35).2 kont) ?_
        show G (s₁.setTop (mkF m 38 #[.val (.long p1), .second, .val (.int p2), .val (.int p3), .unset, .unset, .val (.int (p2 &&& (3 : Int32))), .unset, .unset, .unset, .unset] []))
        refine go (fun _ kont => X0.ldc2Long hx hown (mvT hZ (hw _ (List.mem_of_getElem? (i := 0) rfl))) (g := (mkF m 38 #[.val (.long p1), .second, .val (.int p2), .val (.int p3), .unset, .unset, .val (.int (p2 &&& (3 : Int32))), .unset, .unset, .unset, .unset] [])) rfl (hb hby at_38) _ kont) ?_
        show G (s₁.setTop (mkF m 41 #[.val (.long p1), .second, .val (.int p2), .val (.int p3), .unset, .unset, .val (.int (p2 &&& (3 : Int32))), .unset, .unset, .unset, .unset] [(.long (9223372036854775807 : Int64))]))
        refine go (fun _ kont => XS.lloadN X0.here hx rfl (hb hby at_41) rfl  kont) ?_
        show G (s₁.setTop (mkF m 42 #[.val (.long p1), .second, .val (.int p2), .val (.int p3), .unset, .unset, .val (.int (p2 &&& (3 : Int32))), .unset, .unset, .unset, .unset] [(.long p1), (.long (9223372036854775807 : Int64))]))
        refine go (fun _ kont => X0.ldc2Long hx hown (mvT hZ (hw _ (List.mem_of_getElem? (i := 1) rfl))) (g := (mkF m 42 #[.val (.long p1), .second, .val (.int p2), .val (.int p3), .unset, .unset, .val (.int (p2 &&& (3 : Int32))), .unset, .unset, .unset, .unset] [(.long p1), (.long (9223372036854775807 : Int64))])) rfl (hb hby at_42) _ kont) ?_
        show G (s₁.setTop (mkF m 45 #[.val (.long p1), .second, .val (.int p2), .val (.int p3), .unset, .unset, .val (.int (p2 &&& (3 : Int32))), .unset, .unset, .unset, .unset] [(.long (15 : Int64)), (.long p1), (.long (9223372036854775807 : Int64))]))
        refine go (fun _ kont => XS.land X0.here hx rfl (hb hby at_45) rfl kont) ?_
        show G (s₁.setTop (mkF m 46 #[.val (.long p1), .second, .val (.int p2), .val (.int p3), .unset, .unset, .val (.int (p2 &&& (3 : Int32))), .unset, .unset, .unset, .unset] [(.long (p1 &&& (15 : Int64))), (.long (9223372036854775807 : Int64))]))
        refine go (fun _ kont => XS.lsub X0.here hx rfl (hb hby at_46) rfl kont) ?_
        show G (s₁.setTop (mkF m 47 #[.val (.long p1), .second, .val (.int p2), .val (.int p3), .unset, .unset, .val (.int (p2 &&& (3 : Int32))), .unset, .unset, .unset, .unset] [(.long ((9223372036854775807 : Int64) - (p1 &&& (15 : Int64))))]))
        refine go (fun _ kont => XS.lstore X0.here hx rfl (hb hby at_47) rfl (l' := #[.val (.long p1), .second, .val (.int p2), .val (.int p3), .val (.long ((9223372036854775807 : Int64) - (p1 &&& (15 : Int64)))), .second, .val (.int (p2 &&& (3 : Int32))), .unset, .unset, .unset, .unset]) rfl kont) ?_
        show G (s₁.setTop (mkF m 49 #[.val (.long p1), .second, .val (.int p2), .val (.int p3), .val (.long ((9223372036854775807 : Int64) - (p1 &&& (15 : Int64)))), .second, .val (.int (p2 &&& (3 : Int32))), .unset, .unset, .unset, .unset] []))
        refine go (fun _ kont => XS.goto X0.here hx rfl (pc0 := 49) (pc' := 63) rfl (hb hby at_49) (by decide) (by decide) kont) ?_
        show G (s₁.setTop (mkF m 63 #[.val (.long p1), .second, .val (.int p2), .val (.int p3), .val (.long ((9223372036854775807 : Int64) - (p1 &&& (15 : Int64)))), .second, .val (.int (p2 &&& (3 : Int32))), .unset, .unset, .unset, .unset] []))
        exact rest _
      · refine go (fun _ kont => XS.icmpYes X0.here hx rfl (pc0 := 35) (pc' := 52) rfl (hb hby at_35) rfl (feq hc35).2 (by decide) (by decide) kont) ?_
        show G (s₁.setTop (mkF m 52 #[.val (.long p1), .second, .val (.int p2), .val (.int p3), .unset, .unset, .val (.int (p2 &&& (3 : Int32))), .unset, .unset, .unset, .unset] []))
        refine go (fun _ kont => X0.ldc2Long hx hown (mvT hZ (hw _ (List.mem_of_getElem? (i := 15) rfl))) (g := (mkF m 52 #[.val (.long p1), .second, .val (.int p2), .val (.int p3), .unset, .unset, .val (.int (p2 &&& (3 : Int32))), .unset, .unset, .unset, .unset] [])) rfl (hb hby at_52) _ kont) ?_
        show G (s₁.setTop (mkF m 55 #[.val (.long p1), .second, .val (.int p2), .val (.int p3), .unset, .unset, .val (.int (p2 &&& (3 : Int32))), .unset, .unset, .unset, .unset] [(.long (-9223372036854775808 : Int64))]))
        refine go (fun _ kont => XS.lloadN X0.here hx rfl (hb hby at_55) rfl  kont) ?_
        show G (s₁.setTop (mkF m 56 #[.val (.long p1), .second, .val (.int p2), .val (.int p3), .unset, .unset, .val (.int (p2 &&& (3 : Int32))), .unset, .unset, .unset, .unset] [(.long p1), (.long (-9223372036854775808 : Int64))]))
        refine go (fun _ kont => X0.ldc2Long hx hown (mvT hZ (hw _ (List.mem_of_getElem? (i := 1) rfl))) (g := (mkF m 56 #[.val (.long p1), .second, .val (.int p2), .val (.int p3), .unset, .unset, .val (.int (p2 &&& (3 : Int32))), .unset, .unset, .unset, .unset] [(.long p1), (.long (-9223372036854775808 : Int64))])) rfl (hb hby at_56) _ kont) ?_
        show G (s₁.setTop (mkF m 59 #[.val (.long p1), .second, .val (.int p2), .val (.int p3), .unset, .unset, .val (.int (p2 &&& (3 : Int32))), .unset, .unset, .unset, .unset] [(.long (15 : Int64)), (.long p1), (.long (-9223372036854775808 : Int64))]))
        refine go (fun _ kont => XS.land X0.here hx rfl (hb hby at_59) rfl kont) ?_
        show G (s₁.setTop (mkF m 60 #[.val (.long p1), .second, .val (.int p2), .val (.int p3), .unset, .unset, .val (.int (p2 &&& (3 : Int32))), .unset, .unset, .unset, .unset] [(.long (p1 &&& (15 : Int64))), (.long (-9223372036854775808 : Int64))]))
        refine go (fun _ kont => XS.ladd X0.here hx rfl (hb hby at_60) rfl kont) ?_
        show G (s₁.setTop (mkF m 61 #[.val (.long p1), .second, .val (.int p2), .val (.int p3), .unset, .unset, .val (.int (p2 &&& (3 : Int32))), .unset, .unset, .unset, .unset] [(.long ((-9223372036854775808 : Int64) + (p1 &&& (15 : Int64))))]))
        refine go (fun _ kont => XS.lstore X0.here hx rfl (hb hby at_61) rfl (l' := #[.val (.long p1), .second, .val (.int p2), .val (.int p3), .val (.long ((-9223372036854775808 : Int64) + (p1 &&& (15 : Int64)))), .second, .val (.int (p2 &&& (3 : Int32))), .unset, .unset, .unset, .unset]) rfl kont) ?_
        show G (s₁.setTop (mkF m 63 #[.val (.long p1), .second, .val (.int p2), .val (.int p3), .val (.long ((-9223372036854775808 : Int64) + (p1 &&& (15 : Int64)))), .second, .val (.int (p2 &&& (3 : Int32))), .unset, .unset, .unset, .unset] []))
        exact rest _
set_option maxRecDepth 65536 in
set_option maxHeartbeats 40000000 in
theorem comes_1 {Post : Tables → Env → Array Value → State → Outcome → State → Prop} (hpost : ∀ tb e args s v u, (limb_1_1.after args s (.returned v) u = true ∧ limb_1_2.after args s (.returned v) u = true ∧ True) → FrameEnd s (.returned v) u (Jvm.fieldLocs frame_1_writes args s ++ Jvm.arrayLocs frame_1_arrays args s ++ Jvm.staticLocs frame_1_statics s) 16 128 → Post tb e args s (.returned v) u) :
    ArmFor flags0 classFile x code maxLocals ret World_1 tables_1 room_1 Calls_1 rest_1 Pre_1 Post := by
  intro l hfl _ _ p e ha hc hk s m args below hf hA hF happ hP
  obtain ⟨hcalls, hrest, hpre⟩ := hP
  obtain ⟨-, -, -, hnamed, -, -, -, hat⟩ := (Spec.applies_iff hf).mp happ
  obtain ⟨hg, hn⟩ := and_e (Cond.before_iff.mp (show (Jvm.Cond.and given_1 narrow_1).before args s = true from hpre))
  obtain ⟨hcnt, ha0⟩ := and_e hg
  obtain ⟨hk0, ha1⟩ := and_e ha0
  obtain ⟨hk1, ha2⟩ := and_e ha1
  have hk2 := ha2
  obtain ⟨w0, w1, w2, rfl⟩ : ∃ w0 w1 w2 : Value, args = #[w0, w1, w2] := by
    have hs : args.size = 3 := by simpa [Cond.value, given_1] using hcnt
    obtain ⟨L⟩ := args
    match L, hs with
    | [w0, w1, w2], _ => exact ⟨w0, w1, w2, rfl⟩
  have hw := fun d (hd : d ∈ tables_1) => atoms_spec (ws := Jvm.Cond.code x code maxLocals ret :: tables_1) hat d (List.mem_cons_of_mem _ hd)
  have hfit : Fit s := fun {y c} hc i hi => by
    obtain ⟨ha, rfl⟩ := Array.getElem?_eq_some_iff.mp hc
    have q := List.all_eq_true.mp ((Array.all_eq_true_iff_forall_mem.mp hF) _ (Array.getElem_mem ha)) i (List.mem_range.mpr hi)
    simpa [Array.getElem?_eq_getElem hi] using q
  obtain ⟨i0, ei0⟩ := isL_v hk0
  obtain rfl : w0 = (.long i0) := Option.some.inj ei0
  obtain ⟨i1, ei1⟩ := is_v hk1
  obtain rfl : w1 = (.int i1) := Option.some.inj ei1
  obtain ⟨i2, ei2⟩ := is_v hk2
  obtain rfl : w2 = (.int i2) := Option.some.inj ei2
  obtain ⟨n, o, h1, h2, h3, _, L, rfl, ⟨rfl, N⟩, hq⟩ := own_rm_law l s _ hw tables_1 i0 i1 i2 s.heap s.heap.size (Nat.le_refl _)  p e ha hc hk s m _ below hf ((Spec.applies_iff_loose hf).mp happ).1 ⟨rfl, State.Warmed39.refl s, rfl⟩ trivial
  refine ⟨n, _, h1, h2, h3, hpost _ _ _ _ _ _ ⟨Cond.after_iff.mpr rfl, Cond.after_iff.mpr (eq_i res_at (Term.int_eval (1)) rfl), trivial⟩ ⟨hq.1, hq.2.1, (hq.2.2.sift fun y hy => Or.inr (N y hy)).mono (by decide) (by decide)⟩⟩
theorem main_1_1 : Claimed_1_1 := comes_1 fun _ _ _ _ _ _ h hF => ⟨h.1, hF⟩
theorem main_1_2 : Claimed_1_2 := comes_1 fun _ _ _ _ _ _ h hF => ⟨h.2.1, hF⟩
end Jvm.Pilot.@@N@@
namespace Jvm.Pilot.@@N@@
open Jvm Jvm.ClassFile Sem Op Lib Jvm.Free Jvm.Stand Jvm.Pilot.@@N@@.Jvm.D
/-! MADE BY PROGRAM (witnessworld.py) out of the Statement's table words and the real class files: 9 classes; the members and pool entries that the words name. The judged class is class 1, her method 1. -/
namespace start1
open Jvm.ClassFile
def u (s : String) : CpInfo := .utf8 (stringToUtf16 s)
/-- a pool by its gaps: so many unusable entries, then the entry; so many at the end -/
def gap : Nat → List CpInfo → List CpInfo
  | 0, r => r
  | n + 1, r => .unusable :: gap n r
def poolList (es : List (Nat × CpInfo)) (last : Nat) : List CpInfo := es.foldr (fun e r => gap e.1 (e.2 :: r)) (gap last [])
def pool (es : List (Nat × CpInfo)) (last : Nat) : Array CpInfo := ⟨poolList es last⟩
def fileOf (pool : Array CpInfo) (this : Nat) (attrs : Array Attribute := #[]) (ms : Array MethodInfo := #[]) (fl : Nat := 33) (sup : Nat := 0) (ifs : Array Nat := #[]) (fds : Array FieldInfo := #[]) : ClassFile where
  minorVersion := 0
  majorVersion := 65
  constantPool := pool
  accessFlags := fl
  thisClass := this
  superClass := sup
  interfaces := ifs
  fields := fds
  methods := ms
  attributes := attrs
def plain (name : String) (sup : Option ClassId) : Class where
  name := name
  kind := .ordinary
  loader := none
  accessFlags := 33
  super := sup
  interfaces := #[]
  cf := none
  fields := #[]
  methods := #[]
  instanceTypes := #[]
  staticTypes := #[]
  resolved := #[]
  callSites := []
  init := .initialized
  statics := none
  mirror := none

def pool0 : Array CpInfo := pool [(5, u "<init>"), (0, u "()V"), (1, .class_ 10), (1, u "java/lang/Object")] 113

def k0m0 : Method := { name := "<init>", desc := "()V", sig := { parameters := [], returnType := none }, accessFlags := 1, code := none }
/-- java/lang/Object -/
def k0 : Class := { plain "java/lang/Object" none with
  accessFlags := 33
  interfaces := #[]
  cf := some (fileOf pool0 8 #[] #[{ accessFlags := 1, nameIndex := 5, descriptorIndex := 6, attributes := #[] }] 33 0 #[] #[])
  fields := #[]
  methods := #[k0m0]
  instanceTypes := #[]
  staticTypes := #[]
  resolved := Array.replicate 124 none
  statics := none }

def pool1 : Array CpInfo := pool [(2, .class_ 4), (1, u "java/lang/Object"), (0, u "<init>"), (0, u "()V"), (0, .long 1000), (3, .long 9223372036854775807), (1, .long 15), (1, .long 9223372036854775808), (1, .methodref 18 19), (0, .class_ 20), (0, .nameAndType 21 22), (0, u "com/example/keyspace/keyspace/protocol/Decimal"), (0, u "put"), (0, u "(J[BI)I"), (0, .methodref 18 24), (0, .nameAndType 25 26), (0, u "parseLong"), (0, u "([BII)J"), (0, .class_ 28), (0, u "com/example/keyspace/keyspace/protocol/DecimalPutPinLaw"), (2, u "law"), (0, u "(JII)Z")] 5

def k1m0 : Method := { name := "<init>", desc := "()V", sig := { parameters := [], returnType := none }, accessFlags := 1, code := none }
def k1c1 : Code := { maxStack := 6, maxLocals := 11, code := code, exceptionTable := #[], attributes := #[] }
def k1m1 : Method := { name := "law", desc := "(JII)Z", sig := { parameters := [.long, .int, .int], returnType := some .boolean }, accessFlags := 9, code := some k1c1 }
/-- com/example/keyspace/keyspace/protocol/DecimalPutPinLaw -/
def k1 : Class := { plain "com/example/keyspace/keyspace/protocol/DecimalPutPinLaw" (some 0) with
  accessFlags := 49
  interfaces := #[]
  cf := some (fileOf pool1 27 #[] #[{ accessFlags := 1, nameIndex := 5, descriptorIndex := 6, attributes := #[] }, { accessFlags := 9, nameIndex := 31, descriptorIndex := 32, attributes := #[] }] 49 2 #[] #[])
  fields := #[]
  methods := #[k1m0, k1m1]
  instanceTypes := #[]
  staticTypes := #[]
  resolved := Array.replicate 38 none
  statics := none }

def pool2 : Array CpInfo := pool [(2, .class_ 4), (1, u "java/lang/Object"), (0, u "<init>"), (0, u "()V"), (1, .class_ 10), (1, u "com/example/keyspace/keyspace/protocol/Decimal"), (0, u "parseLong"), (0, u "([BII)J"), (6, .long 17524406870024074036), (1, .long 10), (1, .long 9223372036854775808), (3, u "put"), (0, u "(J[BI)I"), (6, .long 48), (27, u "MAX_LENGTH"), (0, u "I")] 25

def k2m0 : Method := { name := "<init>", desc := "()V", sig := { parameters := [], returnType := none }, accessFlags := 2, code := none }
def k2c1 : Code := { maxStack := 6, maxLocals := 9, code := prog_21_method_3_code, exceptionTable := #[], attributes := #[] }
def k2m1 : Method := { name := "parseLong", desc := "([BII)J", sig := { parameters := [(.array .byte), .int, .int], returnType := some .long }, accessFlags := 9, code := some k2c1 }
def k2c2 : Code := { maxStack := 8, maxLocals := 9, code := prog_21_method_5_code, exceptionTable := #[], attributes := #[] }
def k2m2 : Method := { name := "put", desc := "(J[BI)I", sig := { parameters := [.long, (.array .byte), .int], returnType := some .int }, accessFlags := 9, code := some k2c2 }
/-- com/example/keyspace/keyspace/protocol/Decimal -/
def k2 : Class := { plain "com/example/keyspace/keyspace/protocol/Decimal" (some 0) with
  accessFlags := 33
  interfaces := #[]
  cf := some (fileOf pool2 8 #[] #[{ accessFlags := 2, nameIndex := 5, descriptorIndex := 6, attributes := #[] }, { accessFlags := 9, nameIndex := 11, descriptorIndex := 12, attributes := #[] }, { accessFlags := 9, nameIndex := 27, descriptorIndex := 28, attributes := #[] }] 33 2 #[] #[{ accessFlags := 25, nameIndex := 63, descriptorIndex := 64, attributes := #[] }])
  fields := #[{ name := "MAX_LENGTH", type := .int, accessFlags := 25, slot := 0, constantValue := 0 }]
  methods := #[k2m0, k2m1, k2m2]
  instanceTypes := #[]
  staticTypes := #[.int]
  resolved := Array.replicate 90 none
  statics := none }

def pool3 : Array CpInfo := pool [(1, u "java/lang/Cloneable"), (0, .class_ 1), (0, u "java/lang/Object"), (0, .class_ 3)] 3

/-- java/lang/Cloneable -/
def k3 : Class := { plain "java/lang/Cloneable" (some 0) with
  accessFlags := 1537
  interfaces := #[]
  cf := some (fileOf pool3 2 #[] #[] 1537 4 #[] #[])
  fields := #[]
  methods := #[]
  instanceTypes := #[]
  staticTypes := #[]
  resolved := Array.replicate 8 none
  statics := none }

def pool4 : Array CpInfo := pool [(1, u "java/io/Serializable"), (0, .class_ 1), (0, u "java/lang/Object"), (0, .class_ 3)] 3

/-- java/io/Serializable -/
def k4 : Class := { plain "java/io/Serializable" (some 0) with
  accessFlags := 1537
  interfaces := #[]
  cf := some (fileOf pool4 2 #[] #[] 1537 4 #[] #[])
  fields := #[]
  methods := #[]
  instanceTypes := #[]
  staticTypes := #[]
  resolved := Array.replicate 8 none
  statics := none }

/-- the primitive byte -/
def k5 : Class := { plain "byte" none with kind := .primitive 'B', accessFlags := 0x411 }
/-- [B -/
def k6 : Class := { plain "[B" (some 0) with kind := .array 5 .byte, interfaces := #[3, 4], accessFlags := 1041 }

/-- the primitive int -/
def k7 : Class := { plain "int" none with kind := .primitive 'I', accessFlags := 0x411 }
/-- [I -/
def k8 : Class := { plain "[I" (some 0) with kind := .array 7 .int, interfaces := #[3, 4], accessFlags := 1041 }

def heap : Heap := #[]
def classes : Array Class := #[k0, k1, k2, k3, k4, k5, k6, k7, k8]
def interned : List (Array UInt16 × Addr) := []
def slotsUsed : Nat := 0
def theMethod : MethodId := ⟨1, 1⟩
def args0 : Array Value := #[.long 5, .int 1, .int 1]
def aboutOver (below : List Frame) : State where
  vm := { classes := classes, interned := interned.toArray }
  heap := heap
  slotsUsed := slotsUsed
  threads := #[{ frames := .invoking theMethod args0 :: below }]
def below0 : List Frame := [.native { method := ⟨0, 0⟩, args := #[] }]
def about1 : State := aboutOver below0
def p0 : Program := .bare "" "" ""
def e0 : Env := launch0.env 0 0 0
theorem w_frames : about1.frames = Frame.invoking theMethod args0 :: below0 := rfl
set_option maxRecDepth 65536 in
theorem w_args : argsFit about1.vm theMethod args0 = true := by decide +kernel
set_option maxRecDepth 65536 in
theorem w_heap : heapFits about1 = true := by decide +kernel
set_option maxRecDepth 65536 in
theorem w_runnable : about1.curStatus? = some .runnable := by decide +kernel
set_option maxRecDepth 65536 in
theorem w_alone : about1.alone = true := by decide +kernel
set_option maxRecDepth 65536 in
theorem w_named : about1.methodNamed? x = some theMethod := by decide +kernel
set_option maxRecDepth 65536 in
theorem w_hears : about1.hears theMethod below0 = true := by decide +kernel
set_option maxRecDepth 65536 in
theorem w_ripe : about1.ripe theMethod args0 below0 = true := by decide +kernel
theorem w_running : about1.status = .running := rfl
set_option maxRecDepth 65536 in
theorem w_room : about1.hasRoom e0.platform room_1 = true :=
  launch0.hasRoom_least _ room_1 (by decide +kernel) (by decide +kernel) (by decide +kernel) (by decide +kernel) (by decide +kernel) (by decide +kernel)
theorem allAtoms_all (ts : List Jvm.Cond) (a : Array Jvm.Value) (st : Jvm.State) : (allAtoms ts).before a st = ts.all (fun c => c.before a st) := by
  induction ts with
  | nil => rfl
  | cons c t ih =>
    show (Jvm.Cond.and c (allAtoms t)).before a st = _
    rw [Jvm.Cond.before_and, ih, List.all_cons]
def words1 : List Jvm.Cond := Jvm.Cond.code x code maxLocals ret :: tables_1
/-- a 'code' word, met by the world's own term for the bytes: nothing is compared byte by byte -/
theorem code_word {y : MethodName} {bytes : ByteArray} {mx : Nat} {rt : Option FieldType} {a : Array Value} {s : State} {m : MethodId} {meth : Method} {c : Code} (h1 : s.methodNamed? y = some m) (h2 : s.vm.method? m = some meth) (h3 : meth.code = some c) (h4 : c.code = bytes)
    (h5 : (c.maxLocals == mx && c.exceptionTable.isEmpty && decide (c.maxStack ≤ mostOperands) && decide (meth.sig.returnType = rt) && !meth.locks && decide (parseMethodDescriptor y.desc = some meth.sig)) = true) : (Jvm.Cond.code y bytes mx rt).before a s = true := by
  simp only [Bool.and_eq_true, beq_iff_eq, Bool.not_eq_true', decide_eq_true_eq] at h5
  obtain ⟨⟨⟨⟨⟨g1, g2⟩, g3⟩, g4⟩, g5⟩, g6⟩ := h5
  simp [Cond.before, Cond.holds, Cond.value, h1, h2, h3, h4, g1, g2, g3, g4, g5, g6]
def isCode : Jvm.Cond → Bool
  | .code _ _ _ _ => true
  | _ => false
theorem all_split {L : List Jvm.Cond} {P : Jvm.Cond → Bool} (h1 : L.all (fun c => isCode c || P c) = true) (h2 : ∀ c ∈ L.filter isCode, P c = true) : L.all P = true := by
  refine List.all_eq_true.mpr fun c hc => ?_
  have h := List.all_eq_true.mp h1 c hc
  rcases Bool.eq_false_or_eq_true (isCode c) with hi | hi
  · exact h2 c (List.mem_filter.mpr ⟨hc, hi⟩)
  · simpa [hi] using h
set_option maxRecDepth 65536 in
theorem w_c0 : (Jvm.Cond.code x code maxLocals ret).before args0 about1 = true := code_word (m := ⟨1, 1⟩) (meth := k1m1) (c := k1c1) (by decide +kernel) rfl rfl rfl (by decide +kernel)
set_option maxRecDepth 65536 in
theorem w_c1 : (Jvm.Cond.code ({ cls := "com/example/keyspace/keyspace/protocol/Decimal", name := "put", desc := "(J[BI)I" } : Jvm.MethodName) prog_21_method_5_code (9 : Nat) (Option.some Jvm.ClassFile.FieldType.int)).before args0 about1 = true := code_word (m := ⟨2, 2⟩) (meth := k2m2) (c := k2c2) (by decide +kernel) rfl rfl rfl (by decide +kernel)
set_option maxRecDepth 65536 in
theorem w_c2 : (Jvm.Cond.code ({ cls := "com/example/keyspace/keyspace/protocol/Decimal", name := "parseLong", desc := "([BII)J" } : Jvm.MethodName) prog_21_method_3_code (9 : Nat) (Option.some Jvm.ClassFile.FieldType.long)).before args0 about1 = true := code_word (m := ⟨2, 1⟩) (meth := k2m1) (c := k2c1) (by decide +kernel) rfl rfl rfl (by decide +kernel)
def codes1 : List Jvm.Cond := [Jvm.Cond.code x code maxLocals ret, Jvm.Cond.code ({ cls := "com/example/keyspace/keyspace/protocol/Decimal", name := "put", desc := "(J[BI)I" } : Jvm.MethodName) prog_21_method_5_code (9 : Nat) (Option.some Jvm.ClassFile.FieldType.int), Jvm.Cond.code ({ cls := "com/example/keyspace/keyspace/protocol/Decimal", name := "parseLong", desc := "([BII)J" } : Jvm.MethodName) prog_21_method_3_code (9 : Nat) (Option.some Jvm.ClassFile.FieldType.long)]
set_option maxRecDepth 65536 in
theorem codes_eq : words1.filter isCode = codes1 := rfl
theorem w_codes : ∀ c ∈ words1.filter isCode, c.before args0 about1 = true := by
  rw [codes_eq]
  intro c hc
  simp only [codes1, List.mem_cons, List.not_mem_nil, or_false] at hc
  rcases hc with rfl | rfl | rfl
  · exact w_c0
  · exact w_c1
  · exact w_c2
set_option maxRecDepth 65536 in
theorem w_t1 : words1.all (fun c => isCode c || c.before args0 about1) = true := by decide +kernel
theorem w_tables : (allAtoms (Jvm.Cond.code x code maxLocals ret :: tables_1)).before args0 about1 = true := by
  rw [allAtoms_all]
  show words1.all (fun c => c.before args0 about1) = true
  refine all_split ?_ w_codes
  rw [w_t1]
set_option maxRecDepth 65536 in
theorem w_case : (Jvm.Cond.and given_1 narrow_1).before args0 about1 = true := by decide +kernel
theorem w_applies : (headSpec (Jvm.Cond.code x code maxLocals ret :: tables_1) room_1).applies x e0.platform about1 = true :=
  (Spec.applies_iff w_frames).mpr ⟨w_running, w_runnable, w_alone, w_named, w_hears, w_ripe, w_room, w_tables⟩
theorem atStart : AtStart classFile x code maxLocals ret World_1 tables_1 room_1 Calls_1 rest_1 Pre_1 launch0 p0 e0 about1 theMethod args0 below0 :=
  ⟨lists_1, trivial, launch0.admits_env _ _ _, launch0.least_env, fairChoices_fair.cas, fairChoices_fair.clock, w_frames, w_args, w_heap, w_applies, trivial, trivial, w_case⟩
end start1
theorem witness_1 : WitnessClaimed_1 := ⟨start1.p0, start1.e0, start1.about1, start1.theMethod, start1.args0, start1.below0, start1.atStart⟩
end Jvm.Pilot.@@N@@
