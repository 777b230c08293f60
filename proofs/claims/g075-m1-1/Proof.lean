import JvmDerived
import JvmDerived.Pilot.@@N@@Statement
import JvmDerived.Pilot.@@N@@Code
set_option linter.unusedVariables false
set_option linter.unusedSimpArgs false
namespace Jvm.Pilot.@@N@@
open Jvm Jvm.ClassFile Sem Op Lib Jvm.Free Jvm.Stand Jvm.LawKit Jvm.RoadKit Bundle Jvm.Pilot.@@N@@.Jvm.D
section OwnLayer
variable {p : Program} {l : Launch} {e : Env} {R : Room} {s : State} {m : MethodId} {args : Array Value} {below : List Frame} {meth : Method} {c : Code} {T : State} {locs : List Loc} {cells slots : Nat}
/-- what is to be shown from the state S on: the run comes back, Q holds of what it leaves -/
def own_G (p : Program) (e : Env) (below : List Frame) (s : State) (k n : Nat) (Q : Option Value → Heap → List Loc → Prop) (S : State) : Prop :=
  ∃ t o, Steps p.tables e below S t ∧ t.status = .running ∧ Ended t below o ∧ ∃ v L, o = .returned v ∧ Q v t.heap L ∧ FrameEnd s o t L k n
theorem own_to {k n : Nat} {Q : Option Value → Heap → List Loc → Prop} {S S' : State} (h : ∀ t, Steps p.tables e below S' t → Steps p.tables e below S t) (g : own_G p e below s k n Q S') : own_G p e below s k n Q S := by
  obtain ⟨t, o, h1, h2⟩ := g
  exact ⟨t, o, h t h1, h2⟩
theorem own_retI {k n : Nat} {Q : Option Value → Heap → List Loc → Prop} (X : Stand p l e R s m args below meth c T locs cells slots) (hx : p.tables.exec = Jvm.exec) {pc : Nat} {Ls : Array Slot} {z : Int32} (hret : meth.sig.returnType = some .int) (hd : decode c.code pc = .ok (.ireturn, 1)) (hlk : meth.locks = false) (hk : cells ≤ k) (hn : slots ≤ n) (hq : Q (some (.int z)) T.heap locs) :
    own_G p e below s k n Q (T.setTop (mkF m pc Ls [.int z])) := by
  obtain ⟨fs, hr, hrun, hended, hW, hsame⟩ := X.leave (v := some (.int z)) (fun h => by rw [hret] at h; cases h) hlk
  exact ⟨_, _, X.ireturnOut hx hret rfl (Or.inl rfl) hd hr, hrun, hended, _, _, rfl, hq, ⟨_, rfl⟩, hW, hsame.mono hk hn⟩
theorem own_retN {k n : Nat} {Q : Option Value → Heap → List Loc → Prop} (X : Stand p l e R s m args below meth c T locs cells slots) (hx : p.tables.exec = Jvm.exec) {pc : Nat} {Ls : Array Slot} {z : Int32} {t : FieldType} {rest : List Value} (hret : meth.sig.returnType = some t) (ht : t = .boolean ∨ t = .byte ∨ t = .char ∨ t = .short) (hd : decode c.code pc = .ok (.ireturn, 1)) (hlk : meth.locks = false) (hk : cells ≤ k) (hn : slots ≤ n) (hq : Q (some (.int (nar t z))) T.heap locs) :
    own_G p e below s k n Q (T.setTop (mkF m pc Ls (.int z :: rest))) := by
  obtain ⟨fs, hr, hrun, hended, hW, hsame⟩ := X.leave (v := some (.int (nar t z))) (fun h => by rw [hret] at h; cases h) hlk
  exact ⟨_, _, retN X hx hret ht hd hr, hrun, hended, _, _, rfl, hq, ⟨_, rfl⟩, hW, hsame.mono hk hn⟩
theorem own_retJ {k n : Nat} {Q : Option Value → Heap → List Loc → Prop} (X : Stand p l e R s m args below meth c T locs cells slots) (hx : p.tables.exec = Jvm.exec) {pc : Nat} {Ls : Array Slot} {z : Int64} (hret : meth.sig.returnType = some .long) (hd : decode c.code pc = .ok (.lreturn, 1)) (hlk : meth.locks = false) (hk : cells ≤ k) (hn : slots ≤ n) (hq : Q (some (.long z)) T.heap locs) :
    own_G p e below s k n Q (T.setTop (mkF m pc Ls [.long z])) := by
  obtain ⟨fs, hr, hrun, hended, hW, hsame⟩ := X.leave (v := some (.long z)) (fun h => by rw [hret] at h; cases h) hlk
  exact ⟨_, _, X.lreturnOut hx hret hd hr, hrun, hended, _, _, rfl, hq, ⟨_, rfl⟩, hW, hsame.mono hk hn⟩
theorem own_retA {k n : Nat} {Q : Option Value → Heap → List Loc → Prop} (X : Stand p l e R s m args below meth c T locs cells slots) (hx : p.tables.exec = Jvm.exec) {pc : Nat} {Ls : Array Slot} {w : Value} {t : FieldType} (hw : w.isRef = true) (hret : meth.sig.returnType = some t) (ht : t.isReference = true) (hd : decode c.code pc = .ok (.areturn, 1)) (hlk : meth.locks = false) (hk : cells ≤ k) (hn : slots ≤ n) (hq : Q (some w) T.heap locs) :
    own_G p e below s k n Q (T.setTop (mkF m pc Ls [w])) := by
  obtain ⟨fs, hr, hrun, hended, hW, hsame⟩ := X.leave (v := some w) (fun h => by rw [hret] at h; cases h) hlk
  exact ⟨_, _, X.areturnOut hx hw hret ht hd hr, hrun, hended, _, _, rfl, hq, ⟨_, rfl⟩, hW, hsame.mono hk hn⟩
theorem own_retV {k n : Nat} {Q : Option Value → Heap → List Loc → Prop} (X : Stand p l e R s m args below meth c T locs cells slots) (hx : p.tables.exec = Jvm.exec) {pc : Nat} {Ls : Array Slot} (hret : meth.sig.returnType = none) (hd : decode c.code pc = .ok (.return_, 1)) (hlk : meth.locks = false) (hk : cells ≤ k) (hn : slots ≤ n) (hq : Q none T.heap locs) :
    own_G p e below s k n Q (T.setTop (mkF m pc Ls [])) := by
  obtain ⟨fs, hr, hrun, hended, hW, hsame⟩ := X.leave (v := none) (fun _ => rfl) hlk
  exact ⟨_, _, X.returnOut hx hret hd hr, hrun, hended, _, _, rfl, hq, ⟨_, rfl⟩, hW, hsame.mono hk hn⟩
end OwnLayer
/-- a callee that leaves the heap as it was and returns r -/
def own_Qp (r : Option Value) (h0 : Heap) (n0 : Nat) (v : Option Value) (h : Heap) (L : List Loc) : Prop := v = r ∧ Fr n0 L ∧ h = h0
/-- the law itself -/
def own_Ql (n0 : Nat) (v : Option Value) (h : Heap) (L : List Loc) : Prop := v = some (.int 1) ∧ Fr n0 L
/-- a reference's int field, out of the case's words -/
theorem own_ord {args : Array Value} {s : State} {t : Jvm.Term} {C n d : String} {k : Int32} {x : Addr} (ht : t.eval args s none [] s = some (.ref x)) (h : (Jvm.Cond.eq (.field t C n d) (.int k)).value args s none s [] = some true) : s.fieldOf? x C n d = some (.int k) := by
  obtain ⟨u, w, e1, e2, K1, K2⟩ := cmp_v (Or.inl h)
  have e3 : some w = some (.int k) := e2.symm.trans (Term.int_eval k)
  obtain rfl := Option.some.inj e3
  obtain ⟨z, rfl⟩ := K2
  have e4 := gotT (Cond.eq_ints e1 e2) h
  rw [fld_at ht] at e1
  rw [e1, e4]
theorem own_ord_ne {s : State} {C n d : String} {x y : Addr} {k k' : Int32} (h : s.fieldOf? x C n d = some (.int k)) (h' : s.fieldOf? y C n d = some (.int k')) (hk : k ≠ k') : ¬ (x = y) := fun q => by
  subst q
  rw [h] at h'
  exact hk (Value.int.inj (Option.some.inj h'))
theorem own_pn0 : plainName "com/example/reckoner/reckoner/core/DigitsWritePinLaw" = true := by first | (simp [plainName, overriddenIn]; done) | decide +kernel
theorem own_pn1 : plainName "com/example/reckoner/reckoner/core/Digits" = true := by first | (simp [plainName, overriddenIn]; done) | decide +kernel
theorem own_pd0 : parseMethodDescriptor "(I)J" = some ⟨[.int], some .long⟩ := by decide +kernel
theorem own_pd1 : parseMethodDescriptor "(II[CI)I" = some ⟨[.int, .int, .array .char, .int], some .int⟩ := by decide +kernel
theorem own_pd2 : parseMethodDescriptor "([CIJIIC)Z" = some ⟨[.array .char, .int, .long, .int, .int, .char], some .boolean⟩ := by decide +kernel
theorem d_prog_23_method_3_0 : decode prog_23_method_3_code 0 = .ok (.iload_n 0, 1) := by decide +kernel
theorem d_prog_23_method_3_1 : decode prog_23_method_3_code 1 = .ok (.istore 4, 2) := by decide +kernel
theorem d_prog_23_method_3_3 : decode prog_23_method_3_code 3 = .ok (.iload_n 3, 1) := by decide +kernel
theorem d_prog_23_method_3_4 : decode prog_23_method_3_code 4 = .ok (.iload_n 1, 1) := by decide +kernel
theorem d_prog_23_method_3_5 : decode prog_23_method_3_code 5 = .ok (.iadd, 1) := by decide +kernel
theorem d_prog_23_method_3_6 : decode prog_23_method_3_code 6 = .ok (.iconst 1, 1) := by decide +kernel
theorem d_prog_23_method_3_7 : decode prog_23_method_3_code 7 = .ok (.isub, 1) := by decide +kernel
theorem d_prog_23_method_3_8 : decode prog_23_method_3_code 8 = .ok (.istore 5, 2) := by decide +kernel
theorem d_prog_23_method_3_10 : decode prog_23_method_3_code 10 = .ok (.iload 5, 2) := by decide +kernel
theorem d_prog_23_method_3_12 : decode prog_23_method_3_code 12 = .ok (.iload_n 3, 1) := by decide +kernel
theorem d_prog_23_method_3_13 : decode prog_23_method_3_code 13 = .ok (.if_icmp .lt 29, 3) := by decide +kernel
theorem d_prog_23_method_3_16 : decode prog_23_method_3_code 16 = .ok (.aload_n 2, 1) := by decide +kernel
theorem d_prog_23_method_3_17 : decode prog_23_method_3_code 17 = .ok (.iload 5, 2) := by decide +kernel
theorem d_prog_23_method_3_19 : decode prog_23_method_3_code 19 = .ok (.bipush 48, 2) := by decide +kernel
theorem d_prog_23_method_3_21 : decode prog_23_method_3_code 21 = .ok (.iload 4, 2) := by decide +kernel
theorem d_prog_23_method_3_23 : decode prog_23_method_3_code 23 = .ok (.bipush 10, 2) := by decide +kernel
theorem d_prog_23_method_3_25 : decode prog_23_method_3_code 25 = .ok (.irem, 1) := by decide +kernel
theorem d_prog_23_method_3_26 : decode prog_23_method_3_code 26 = .ok (.iadd, 1) := by decide +kernel
theorem d_prog_23_method_3_27 : decode prog_23_method_3_code 27 = .ok (.i2c, 1) := by decide +kernel
theorem d_prog_23_method_3_28 : decode prog_23_method_3_code 28 = .ok (.castore, 1) := by decide +kernel
theorem d_prog_23_method_3_29 : decode prog_23_method_3_code 29 = .ok (.iload 4, 2) := by decide +kernel
theorem d_prog_23_method_3_31 : decode prog_23_method_3_code 31 = .ok (.bipush 10, 2) := by decide +kernel
theorem d_prog_23_method_3_33 : decode prog_23_method_3_code 33 = .ok (.idiv, 1) := by decide +kernel
theorem d_prog_23_method_3_34 : decode prog_23_method_3_code 34 = .ok (.istore 4, 2) := by decide +kernel
theorem d_prog_23_method_3_36 : decode prog_23_method_3_code 36 = .ok (.iinc 5 (-1), 3) := by decide +kernel
theorem d_prog_23_method_3_39 : decode prog_23_method_3_code 39 = .ok (.goto (-29), 3) := by decide +kernel
theorem d_prog_23_method_3_42 : decode prog_23_method_3_code 42 = .ok (.iload_n 3, 1) := by decide +kernel
theorem d_prog_23_method_3_43 : decode prog_23_method_3_code 43 = .ok (.iload_n 1, 1) := by decide +kernel
theorem d_prog_23_method_3_44 : decode prog_23_method_3_code 44 = .ok (.iadd, 1) := by decide +kernel
theorem d_prog_23_method_3_45 : decode prog_23_method_3_code 45 = .ok (.ireturn, 1) := by decide +kernel
theorem d_method_3_0 : decode method_3_code 0 = .ok (.iload_n 1, 1) := by decide +kernel
theorem d_method_3_1 : decode method_3_code 1 = .ok (.iload 5, 2) := by decide +kernel
theorem d_method_3_3 : decode method_3_code 3 = .ok (.if_icmp .lt 12, 3) := by decide +kernel
theorem d_method_3_6 : decode method_3_code 6 = .ok (.iload_n 1, 1) := by decide +kernel
theorem d_method_3_7 : decode method_3_code 7 = .ok (.iload 5, 2) := by decide +kernel
theorem d_method_3_9 : decode method_3_code 9 = .ok (.iload 4, 2) := by decide +kernel
theorem d_method_3_11 : decode method_3_code 11 = .ok (.iadd, 1) := by decide +kernel
theorem d_method_3_12 : decode method_3_code 12 = .ok (.if_icmp .lt 17, 3) := by decide +kernel
theorem d_method_3_15 : decode method_3_code 15 = .ok (.aload_n 0, 1) := by decide +kernel
theorem d_method_3_16 : decode method_3_code 16 = .ok (.iload_n 1, 1) := by decide +kernel
theorem d_method_3_17 : decode method_3_code 17 = .ok (.caload, 1) := by decide +kernel
theorem d_method_3_18 : decode method_3_code 18 = .ok (.iload 6, 2) := by decide +kernel
theorem d_method_3_20 : decode method_3_code 20 = .ok (.if_icmp .ne 7, 3) := by decide +kernel
theorem d_method_3_23 : decode method_3_code 23 = .ok (.iconst 1, 1) := by decide +kernel
theorem d_method_3_24 : decode method_3_code 24 = .ok (.goto 4, 3) := by decide +kernel
theorem d_method_3_28 : decode method_3_code 28 = .ok (.ireturn, 1) := by decide +kernel
theorem d_method_3_29 : decode method_3_code 29 = .ok (.iload 5, 2) := by decide +kernel
theorem d_method_3_31 : decode method_3_code 31 = .ok (.iload 4, 2) := by decide +kernel
theorem d_method_3_33 : decode method_3_code 33 = .ok (.iadd, 1) := by decide +kernel
theorem d_method_3_34 : decode method_3_code 34 = .ok (.iconst 1, 1) := by decide +kernel
theorem d_method_3_35 : decode method_3_code 35 = .ok (.isub, 1) := by decide +kernel
theorem d_method_3_36 : decode method_3_code 36 = .ok (.iload_n 1, 1) := by decide +kernel
theorem d_method_3_37 : decode method_3_code 37 = .ok (.isub, 1) := by decide +kernel
theorem d_method_3_38 : decode method_3_code 38 = .ok (.istore 7, 2) := by decide +kernel
theorem d_method_3_40 : decode method_3_code 40 = .ok (.bipush 48, 2) := by decide +kernel
theorem d_method_3_42 : decode method_3_code 42 = .ok (.lload_n 2, 1) := by decide +kernel
theorem d_method_3_43 : decode method_3_code 43 = .ok (.iload 7, 2) := by decide +kernel
theorem d_method_3_45 : decode method_3_code 45 = .ok (.invokestatic 29, 3) := by decide +kernel
theorem d_method_3_48 : decode method_3_code 48 = .ok (.ldiv, 1) := by decide +kernel
theorem d_method_3_49 : decode method_3_code 49 = .ok (.ldc2_w 7, 3) := by decide +kernel
theorem d_method_3_52 : decode method_3_code 52 = .ok (.lrem, 1) := by decide +kernel
theorem d_method_3_53 : decode method_3_code 53 = .ok (.l2i, 1) := by decide +kernel
theorem d_method_3_54 : decode method_3_code 54 = .ok (.iadd, 1) := by decide +kernel
theorem d_method_3_55 : decode method_3_code 55 = .ok (.i2c, 1) := by decide +kernel
theorem d_method_3_56 : decode method_3_code 56 = .ok (.istore 8, 2) := by decide +kernel
theorem d_method_3_58 : decode method_3_code 58 = .ok (.aload_n 0, 1) := by decide +kernel
theorem d_method_3_59 : decode method_3_code 59 = .ok (.iload_n 1, 1) := by decide +kernel
theorem d_method_3_60 : decode method_3_code 60 = .ok (.caload, 1) := by decide +kernel
theorem d_method_3_61 : decode method_3_code 61 = .ok (.iload 8, 2) := by decide +kernel
theorem d_method_3_63 : decode method_3_code 63 = .ok (.if_icmp .ne 7, 3) := by decide +kernel
theorem d_method_3_66 : decode method_3_code 66 = .ok (.iconst 1, 1) := by decide +kernel
theorem d_method_3_67 : decode method_3_code 67 = .ok (.goto 4, 3) := by decide +kernel
theorem d_method_3_71 : decode method_3_code 71 = .ok (.ireturn, 1) := by decide +kernel
theorem d_method_2_0 : decode method_2_code 0 = .ok (.bipush 12, 2) := by decide +kernel
theorem d_method_2_2 : decode method_2_code 2 = .ok (.newarray .long, 2) := by decide +kernel
theorem d_method_2_4 : decode method_2_code 4 = .ok (.dup, 1) := by decide +kernel
theorem d_method_2_5 : decode method_2_code 5 = .ok (.iconst 0, 1) := by decide +kernel
theorem d_method_2_6 : decode method_2_code 6 = .ok (.lconst 1, 1) := by decide +kernel
theorem d_method_2_7 : decode method_2_code 7 = .ok (.lastore, 1) := by decide +kernel
theorem d_method_2_8 : decode method_2_code 8 = .ok (.dup, 1) := by decide +kernel
theorem d_method_2_9 : decode method_2_code 9 = .ok (.iconst 1, 1) := by decide +kernel
theorem d_method_2_10 : decode method_2_code 10 = .ok (.ldc2_w 7, 3) := by decide +kernel
theorem d_method_2_13 : decode method_2_code 13 = .ok (.lastore, 1) := by decide +kernel
theorem d_method_2_14 : decode method_2_code 14 = .ok (.dup, 1) := by decide +kernel
theorem d_method_2_15 : decode method_2_code 15 = .ok (.iconst 2, 1) := by decide +kernel
theorem d_method_2_16 : decode method_2_code 16 = .ok (.ldc2_w 9, 3) := by decide +kernel
theorem d_method_2_19 : decode method_2_code 19 = .ok (.lastore, 1) := by decide +kernel
theorem d_method_2_20 : decode method_2_code 20 = .ok (.dup, 1) := by decide +kernel
theorem d_method_2_21 : decode method_2_code 21 = .ok (.iconst 3, 1) := by decide +kernel
theorem d_method_2_22 : decode method_2_code 22 = .ok (.ldc2_w 11, 3) := by decide +kernel
theorem d_method_2_25 : decode method_2_code 25 = .ok (.lastore, 1) := by decide +kernel
theorem d_method_2_26 : decode method_2_code 26 = .ok (.dup, 1) := by decide +kernel
theorem d_method_2_27 : decode method_2_code 27 = .ok (.iconst 4, 1) := by decide +kernel
theorem d_method_2_28 : decode method_2_code 28 = .ok (.ldc2_w 13, 3) := by decide +kernel
theorem d_method_2_31 : decode method_2_code 31 = .ok (.lastore, 1) := by decide +kernel
theorem d_method_2_32 : decode method_2_code 32 = .ok (.dup, 1) := by decide +kernel
theorem d_method_2_33 : decode method_2_code 33 = .ok (.iconst 5, 1) := by decide +kernel
theorem d_method_2_34 : decode method_2_code 34 = .ok (.ldc2_w 15, 3) := by decide +kernel
theorem d_method_2_37 : decode method_2_code 37 = .ok (.lastore, 1) := by decide +kernel
theorem d_method_2_38 : decode method_2_code 38 = .ok (.dup, 1) := by decide +kernel
theorem d_method_2_39 : decode method_2_code 39 = .ok (.bipush 6, 2) := by decide +kernel
theorem d_method_2_41 : decode method_2_code 41 = .ok (.ldc2_w 17, 3) := by decide +kernel
theorem d_method_2_44 : decode method_2_code 44 = .ok (.lastore, 1) := by decide +kernel
theorem d_method_2_45 : decode method_2_code 45 = .ok (.dup, 1) := by decide +kernel
theorem d_method_2_46 : decode method_2_code 46 = .ok (.bipush 7, 2) := by decide +kernel
theorem d_method_2_48 : decode method_2_code 48 = .ok (.ldc2_w 19, 3) := by decide +kernel
theorem d_method_2_51 : decode method_2_code 51 = .ok (.lastore, 1) := by decide +kernel
theorem d_method_2_52 : decode method_2_code 52 = .ok (.dup, 1) := by decide +kernel
theorem d_method_2_53 : decode method_2_code 53 = .ok (.bipush 8, 2) := by decide +kernel
theorem d_method_2_55 : decode method_2_code 55 = .ok (.ldc2_w 21, 3) := by decide +kernel
theorem d_method_2_58 : decode method_2_code 58 = .ok (.lastore, 1) := by decide +kernel
theorem d_method_2_59 : decode method_2_code 59 = .ok (.dup, 1) := by decide +kernel
theorem d_method_2_60 : decode method_2_code 60 = .ok (.bipush 9, 2) := by decide +kernel
theorem d_method_2_62 : decode method_2_code 62 = .ok (.ldc2_w 23, 3) := by decide +kernel
theorem d_method_2_65 : decode method_2_code 65 = .ok (.lastore, 1) := by decide +kernel
theorem d_method_2_66 : decode method_2_code 66 = .ok (.dup, 1) := by decide +kernel
theorem d_method_2_67 : decode method_2_code 67 = .ok (.bipush 10, 2) := by decide +kernel
theorem d_method_2_69 : decode method_2_code 69 = .ok (.ldc2_w 25, 3) := by decide +kernel
theorem d_method_2_72 : decode method_2_code 72 = .ok (.lastore, 1) := by decide +kernel
theorem d_method_2_73 : decode method_2_code 73 = .ok (.dup, 1) := by decide +kernel
theorem d_method_2_74 : decode method_2_code 74 = .ok (.bipush 11, 2) := by decide +kernel
theorem d_method_2_76 : decode method_2_code 76 = .ok (.ldc2_w 27, 3) := by decide +kernel
theorem d_method_2_79 : decode method_2_code 79 = .ok (.lastore, 1) := by decide +kernel
theorem d_method_2_80 : decode method_2_code 80 = .ok (.astore_n 1, 1) := by decide +kernel
theorem d_method_2_81 : decode method_2_code 81 = .ok (.aload_n 1, 1) := by decide +kernel
theorem d_method_2_82 : decode method_2_code 82 = .ok (.iload_n 0, 1) := by decide +kernel
theorem d_method_2_83 : decode method_2_code 83 = .ok (.laload, 1) := by decide +kernel
theorem d_method_2_84 : decode method_2_code 84 = .ok (.lreturn, 1) := by decide +kernel
section OwnArr
variable {Z : State} {h h' : Heap} {a b : Addr} {ty : FieldType} {vs : List Value} {xs : List Int32} {ys : List Int64}
/-- the array at a holds just the values vs -/
def own_V (Z : State) (h : Heap) (a : Addr) (ty : FieldType) (vs : List Value) : Prop := ∃ c : Cell, Arr Z h a c ty ∧ c.slots.toList = vs ∧ vs.length < 2 ^ 31
theorem own_V_lt (F : own_V Z h a ty vs) : a < h.size := by obtain ⟨c, A, -⟩ := F; exact A.lt
theorem own_V_ext (F : own_V Z h a ty vs) (E : Ext h h') : own_V Z h' a ty vs := by obtain ⟨c, A, r⟩ := F; exact ⟨c, A.ext E, r⟩
theorem own_V_other {sl : Nat} {v : Value} (F : own_V Z h b ty vs) (W : Wr h h' a sl v) (q : b ≠ a) : own_V Z h' b ty vs := by obtain ⟨c, A, r⟩ := F; exact ⟨c, A.other W q, r⟩
theorem own_V_keep {ws : List Addr} (F : own_V Z h a ty vs) (K : Keep h h' ws) (q : a ∉ ws) : own_V Z h' a ty vs := by
  obtain ⟨c, A, r⟩ := F
  exact ⟨c, ⟨K.2.1 a c A.1 q, A.2⟩, r⟩
theorem own_V_set {j : Int32} {k : Nat} {v : Value} (F : own_V Z h a ty vs) (W : Wr h h' a j.toNatClampNeg v) (hj : j.toNatClampNeg = k) : own_V Z h' a ty (vs.set k v) := by
  obtain ⟨c, A, r, q⟩ := F
  subst hj r
  refine ⟨_, A.same W, ?_, ?_⟩
  · simp [Cell.setSlot]
  · rw [List.length_set]; exact q
theorem own_V_new {k : ClassId} {n : Int32} {m : Nat} (A : Arr Z h a (newA k ty n) ty) (hm : n.toNatClampNeg = m) (hn : m < 2 ^ 31) : own_V Z h a ty (List.replicate m (defaultValue ty)) := by
  subst hm
  refine ⟨_, A, by simp [newA], ?_⟩
  rw [List.length_replicate]; exact hn
theorem own_tn {j : Int32} (h0 : 0 ≤ j.toInt) : (j.toNatClampNeg : Int) = j.toInt := by
  show ((j.toInt.toNat : Nat) : Int) = j.toInt
  omega
theorem own_neg {j : Int32} (h0 : 0 ≤ j.toInt) : ¬ j < 0 := by
  rw [Int32.lt_iff_toInt_lt, show (0 : Int32).toInt = 0 from rfl]; omega
theorem own_hin {c : Cell} {j : Int32} (S : c.slots.toList = vs) (h0 : 0 ≤ j.toInt) (h1 : j.toInt < vs.length) : ¬ (j < 0 ∨ c.slots.size ≤ j.toNatClampNeg) := by
  have e := own_tn h0
  have e2 : c.slots.size = vs.length := by rw [← S]; simp
  intro q
  rcases q with q | q
  · exact own_neg h0 q
  · omega
theorem own_hink {c : Cell} {j : Int32} {k : Nat} (S : c.slots.toList = vs) (h0 : ¬ j < 0) (hj : j.toNatClampNeg = k) (hk : k < vs.length) : ¬ (j < 0 ∨ c.slots.size ≤ j.toNatClampNeg) := by
  have e2 : c.slots.size = vs.length := by rw [← S]; simp
  intro q
  rcases q with q | q
  · exact h0 q
  · omega
theorem own_hatk {c : Cell} {j : Int32} {k : Nat} {v : Value} (S : c.slots.toList = vs) (hj : j.toNatClampNeg = k) (hv : vs[k]? = some v) : c.slots[j.toNatClampNeg]? = some v := by
  rw [hj, ← hv, ← S]; simp
theorem own_hatkD {c : Cell} {j : Int32} {v : Value} (S : c.slots.toList = vs) (hv : vs[j.toNatClampNeg]? = some v) : c.slots[j.toNatClampNeg]? = some v := own_hatk S rfl hv
theorem own_hatI {c : Cell} {j : Int32} (S : c.slots.toList = xs.map Value.int) (h0 : 0 ≤ j.toInt) (h1 : j.toInt < xs.length) : c.slots[j.toNatClampNeg]? = some (.int (xs.getD j.toNatClampNeg 0)) := by
  have e := own_tn h0
  have hl : j.toNatClampNeg < xs.length := by omega
  refine own_hatk S rfl ?_
  simp [hl]
theorem own_hatJ {c : Cell} {j : Int32} (S : c.slots.toList = ys.map Value.long) (h0 : 0 ≤ j.toInt) (h1 : j.toInt < ys.length) : c.slots[j.toNatClampNeg]? = some (.long (ys.getD j.toNatClampNeg 0)) := by
  have e := own_tn h0
  have hl : j.toNatClampNeg < ys.length := by omega
  refine own_hatk S rfl ?_
  simp [hl]
theorem own_len {c : Cell} {n : Int32} (S : c.slots.toList = vs) (hn : n.toInt = vs.length) : c.slots.size.toInt32 = n := by
  have e2 : c.slots.size = vs.length := by rw [← S]; simp
  have e := own_tn (j := n) (by omega)
  refine len_of ?_ (own_neg (by omega))
  omega
end OwnArr
theorem own_ofN {d : Nat} (h : d < 2147483648) : (Int32.ofNat d).toInt = d := Int32.toInt_ofNat_of_lt (by omega)
theorem own_tnO {d : Nat} (h : d < 2147483648) : (Int32.ofNat d).toNatClampNeg = d := by
  have := own_tn (j := Int32.ofNat d) (by rw [own_ofN h]; omega)
  rw [own_ofN h] at this; omega
theorem own_ltO {d k : Nat} (h : d < 2147483648) (hk : k < 2147483648) : Int32.ofNat d < Int32.ofNat k ↔ d < k := by
  rw [Int32.lt_iff_toInt_lt, own_ofN h, own_ofN hk]; omega
theorem own_eqO {d k : Nat} (h : d < 2147483648) (hk : k < 2147483648) : Int32.ofNat d = Int32.ofNat k ↔ d = k := by
  rw [← Int32.toInt_inj, own_ofN h, own_ofN hk]; omega
theorem own_pred {d : Nat} (h1 : 1 ≤ d) : Int32.ofNat d - (1 : Int32) = Int32.ofNat (d - 1) := by
  have e : Int32.ofNat d = Int32.ofNat (d - 1) + (1 : Int32) := by
    rw [show (1 : Int32) = Int32.ofNat 1 from rfl, ← Int32.ofNat_add]; congr 1; omega
  rw [e, Int32.add_sub_cancel]
theorem own_addk (p k : Nat) : Int32.ofNat p + Int32.ofNat k = Int32.ofNat (p + k) := (Int32.ofNat_add p k).symm
theorem own_subk {p k : Nat} (h : k ≤ p) : Int32.ofNat p - Int32.ofNat k = Int32.ofNat (p - k) := by
  have e : Int32.ofNat p = Int32.ofNat (p - k) + Int32.ofNat k := by
    rw [own_addk]; congr 1; omega
  rw [e, Int32.add_sub_cancel]
theorem own_atI {xs : List Int32} {k : Nat} (h : k < xs.length) : (xs.map Value.int)[k]? = some (.int (xs.getD k 0)) := by simp [h]
theorem own_atJ {xs : List Int64} {k : Nat} (h : k < xs.length) : (xs.map Value.long)[k]? = some (.long (xs.getD k 0)) := by simp [h]
theorem own_toN {x : Int32} (h : 0 ≤ x.toInt) : x = Int32.ofNat x.toInt.toNat := by
  apply Int32.toInt_inj.mp
  have := x.toInt_lt
  rw [own_ofN (by omega)]; omega
theorem own_ni_0 {a : Addr} : a ∉ ([] : List Addr) := List.not_mem_nil
theorem own_ni_1 {a x : Addr} (h : a ≠ x) : a ∉ [x] := by simp [h]
theorem own_ni_2 {a x y : Addr} (h : a ≠ x) (h' : a ≠ y) : a ∉ [x, y] := by simp [h, h']
theorem own_ni_3 {a x y z : Addr} (h : a ≠ x) (h' : a ≠ y) (h'' : a ≠ z) : a ∉ [x, y, z] := by simp [h, h', h'']
theorem own_sub_0 {P : Addr → Prop} : ∀ x ∈ ([] : List Addr), P x := fun x h => absurd h List.not_mem_nil
theorem own_sub_1 {P : Addr → Prop} {a : Addr} (h : P a) : ∀ x ∈ [a], P x := fun x q => by
  obtain rfl : x = a := by simpa using q
  exact h
theorem own_rep {n j : Nat} {x : Int32} (h : j < n) : (List.replicate n x).getD j 0 = x := by simp [h]
theorem own_ni_4 {a x y z w : Addr} (h1 : a ≠ x) (h2 : a ≠ y) (h3 : a ≠ z) (h4 : a ≠ w) : a ∉ [x, y, z, w] := by simp [h1, h2, h3, h4]
theorem own_toI64 {n : Nat} (h : n < 9223372036854775808) : (Int64.ofNat n).toInt = n := Int64.toInt_ofNat_of_lt (by omega)
theorem own_divO {a b : Nat} (ha : a < 2147483648) (hb : b < 2147483648) (h0 : 0 < b) : Int32.ofNat a / Int32.ofNat b = Int32.ofNat (a / b) := by
  apply Int32.toInt_inj.mp
  have hlt : a / b < 2147483648 := Nat.lt_of_le_of_lt (Nat.div_le_self _ _) ha
  have hb1 : Int32.ofNat b ≠ -1 := fun q => by
    have := congrArg Int32.toInt q
    rw [own_ofN hb, show (-1 : Int32).toInt = -1 by decide] at this
    omega
  rw [(c_idiv (Int32.ofNat a) (Int32.ofNat b) b (own_ofN hb) hb1).1 (by rw [own_ofN ha]; omega), own_ofN ha, own_ofN hlt]
  exact (Int.natCast_ediv a b).symm
theorem own_remO {a b : Nat} (ha : a < 2147483648) (hb : b < 2147483648) (h0 : 0 < b) : Int32.ofNat a - (Int32.ofNat a / Int32.ofNat b) * Int32.ofNat b = Int32.ofNat (a % b) := by
  rw [irem_eq_mod]
  apply Int32.toInt_inj.mp
  have hlt : a % b < 2147483648 := Nat.lt_of_le_of_lt (Nat.mod_le _ _) ha
  rw [(c_irem (Int32.ofNat a) (Int32.ofNat b) b (own_ofN hb)).1 (by rw [own_ofN ha]; omega), own_ofN ha, own_ofN hlt]
  exact (Int.natCast_emod a b).symm
theorem own_divJ {a b : Nat} (ha : a < 9223372036854775808) (hb : b < 9223372036854775808) (h0 : 0 < b) : Int64.ofNat a / Int64.ofNat b = Int64.ofNat (a / b) := by
  apply Int64.toInt_inj.mp
  have hlt : a / b < 9223372036854775808 := Nat.lt_of_le_of_lt (Nat.div_le_self _ _) ha
  have hb1 : Int64.ofNat b ≠ -1 := fun q => by
    have := congrArg Int64.toInt q
    rw [own_toI64 hb, show (-1 : Int64).toInt = -1 by decide] at this
    omega
  rw [(c_ldiv (Int64.ofNat a) (Int64.ofNat b) b (own_toI64 hb) hb1).1 (by rw [own_toI64 ha]; omega), own_toI64 ha, own_toI64 hlt]
  exact (Int.natCast_ediv a b).symm
theorem own_remJ {a b : Nat} (ha : a < 9223372036854775808) (hb : b < 9223372036854775808) (h0 : 0 < b) : Int64.ofNat a - (Int64.ofNat a / Int64.ofNat b) * Int64.ofNat b = Int64.ofNat (a % b) := by
  apply Int64.toInt_inj.mp
  have hlt : a % b < 9223372036854775808 := Nat.lt_of_le_of_lt (Nat.mod_le _ _) ha
  rw [(c_lrem (Int64.ofNat a) (Int64.ofNat b) b (own_toI64 hb)).1 (by rw [own_toI64 ha]; omega), own_toI64 ha, own_toI64 hlt]
  exact (Int.natCast_emod a b).symm
theorem own_i2l {n : Nat} (h : n < 2147483648) : (Int32.ofNat n).toInt64 = Int64.ofNat n := by
  apply Int64.toInt_inj.mp
  rw [c_i2l, own_ofN h, own_toI64 (by omega)]
theorem own_l2i {n : Nat} (h : n < 2147483648) : (Int64.ofNat n).toInt32 = Int32.ofNat n := by
  apply Int32.toInt_inj.mp
  have h1 := c_l2i (Int64.ofNat n)
  have h2 := rng32 (Int64.ofNat n).toInt32
  rw [own_toI64 (by omega)] at h1
  rw [own_ofN h]; omega
theorem own_i2c {n : Nat} (h : n < 65536) : (Int32.ofNat n).toUInt32.toUInt16.toUInt32.toInt32 = Int32.ofNat n := by
  apply Int32.toInt_inj.mp
  have h1 := c_i2c (Int32.ofNat n)
  rw [own_ofN (by omega)] at h1 ⊢
  omega
theorem own_narC {n : Nat} (h : n < 65536) : nar .char (Int32.ofNat n) = Int32.ofNat n := own_i2c h
theorem own_getset {xs : List Int32} {i j : Nat} {v : Int32} (h : i < xs.length) : (xs.set i v).getD j 0 = if j = i then v else xs.getD j 0 := by
  by_cases hj : j = i
  · subst hj; simp [h]
  · simp [hj, Ne.symm hj]
theorem own_dec {i : Int32} {u : Nat} (hi : i.toInt = (u : Int) - 1) (hu : 1 ≤ u) : (i + (-1 : Int32)).toInt = ((u - 1 : Nat) : Int) - 1 := by
  have h1 := c_iadd i (-1 : Int32)
  have h2 := rng32 (i + (-1 : Int32))
  have h3 := rng32 i
  rw [show (-1 : Int32).toInt = -1 by decide] at h1
  omega
theorem own_preI {u : Nat} (hu : u < 2147483648) : (Int32.ofNat u - (1 : Int32)).toInt = (u : Int) - 1 := by
  have h1 := c_isub (Int32.ofNat u) (1 : Int32)
  have h2 := rng32 (Int32.ofNat u - (1 : Int32))
  rw [own_ofN hu, show (1 : Int32).toInt = 1 by decide] at h1
  omega

def own_T12 : List Int64 := [1, 10, 100, 1000, 10000, 100000, 1000000, 10000000, 100000000, 1000000000, 10000000000, 100000000000]
theorem own_T12_at : ∀ k, k < 12 → own_T12.getD k 0 = Int64.ofNat (10 ^ k) := by decide +kernel
theorem own_p12 : ∀ k, k < 12 → 10 ^ k < 9223372036854775808 ∧ 0 < 10 ^ k := by decide +kernel
/-- place j, when the places from u on are written -/
def own_dg (N A D u : Nat) (cc : Int32) (j : Nat) : Int32 := if u ≤ j ∧ j < A + D then Int32.ofNat (48 + N / 10 ^ (A + D - 1 - j) % 10) else cc
theorem own_dg_step {N A D u : Nat} {cc : Int32} {zs : List Int32} (hu : A < u) (hu2 : u ≤ A + D) (hAD : A + D ≤ 14) (hl : zs.length = 14) (H : ∀ j, j < 14 → zs.getD j 0 = own_dg N A D u cc j) : ∀ j, j < 14 → (zs.set (u - 1) (Int32.ofNat (48 + N / 10 ^ (A + D - u) % 10))).getD j 0 = own_dg N A D (u - 1) cc j := by
  intro j hj
  rw [own_getset (by omega)]
  by_cases h : j = u - 1
  · rw [if_pos h, own_dg, if_pos (by omega), show A + D - 1 - j = A + D - u by omega]
  · rw [if_neg h, H j hj, own_dg, own_dg]
    by_cases h2 : u ≤ j ∧ j < A + D
    · rw [if_pos h2, if_pos (by omega)]
    · rw [if_neg h2, if_neg (by omega)]
theorem own_div10 {N A D u : Nat} (hu : A < u) (hu2 : u ≤ A + D) : N / 10 ^ (A + D - u) / 10 = N / 10 ^ (A + D - (u - 1)) := by
  rw [Nat.div_div_eq_div_mul, ← Nat.pow_succ, show A + D - (u - 1) = (A + D - u).succ by omega]
theorem own_start (x : Int32) (m : Int32) (d : Nat) (hm : m.toInt = d) (hd : 0 < d) : ∃ n : Nat, n < d ∧ ((x &&& (2147483647 : Int32)) - ((x &&& (2147483647 : Int32)) / m) * m) = Int32.ofNat n := by
  have h1 := c_mask x (2147483647 : Int32) 31 (by decide) (by decide)
  rw [irem_eq_mod]
  have h2 := (c_irem (x &&& (2147483647 : Int32)) m d hm).1 (by omega)
  have h3 : 0 ≤ ((x &&& (2147483647 : Int32)) % m).toInt ∧ ((x &&& (2147483647 : Int32)) % m).toInt < d := by
    rw [h2]; exact ⟨Int.emod_nonneg _ (by omega), Int.emod_lt_of_pos _ (by omega)⟩
  exact ⟨_, by omega, own_toN h3.1⟩
theorem own_num (x : Int32) : ∃ n : Nat, n < 2147483648 ∧ (x &&& (2147483647 : Int32)) = Int32.ofNat n := by
  have h1 := c_mask x (2147483647 : Int32) 31 (by decide) (by decide)
  exact ⟨_, by omega, own_toN (by omega)⟩
theorem own_chr (x : Int32) : nar .char (x &&& (65535 : Int32)).toUInt32.toUInt16.toUInt32.toInt32 = (x &&& (65535 : Int32)).toUInt32.toUInt16.toUInt32.toInt32 := by
  apply Int32.toInt_inj.mp
  have h1 := c_i2c (x &&& (65535 : Int32))
  have h2 := c_i2c (x &&& (65535 : Int32)).toUInt32.toUInt16.toUInt32.toInt32
  show ((x &&& (65535 : Int32)).toUInt32.toUInt16.toUInt32.toInt32).toUInt32.toUInt16.toUInt32.toInt32.toInt = _
  omega

theorem own_ef_own_rm_pow10 (m : MethodId) (x0 : Int32) : entryFrame m #[(.int x0)] 2 = mkF m 0 #[.val (.int x0), .unset] [] := by first | (simp [entryFrame, mkF, argsToLocals, Value.category]; done) | rfl
def own_Q_pow10 (Z : State) (h0 : Heap) (n0 : Nat)  (P : Nat) (v : Option Value) (h : Heap) (L : List Loc) : Prop := v = some (.long (Int64.ofNat (10 ^ P))) ∧ Fr n0 L ∧ Keep h0 h []
set_option maxRecDepth 65536 in
set_option maxHeartbeats 40000000 in
theorem own_rm_pow10 (l : Launch) (Z : State) (a0 : Array Value) (hw : ∀ d ∈ tables_1, d.before a0 Z = true) (ws : List Jvm.Cond)  (h0 : Heap) (n0 : Nat) (Z0 : n0 ≤ h0.size) (P : Nat) (hP : P < 12) :
    MetFree l (⟨"com/example/reckoner/reckoner/core/DigitsWritePinLaw", "pow10", "(I)J"⟩ : MethodName) (head1 (Jvm.Cond.code (⟨"com/example/reckoner/reckoner/core/DigitsWritePinLaw", "pow10", "(I)J"⟩ : MethodName) method_2_code 2 (some .long) :: ws) ({ frames := 0, cells := 1, slots := 12, locals := 0 } : Room)) (fun aq Uq => aq = #[(.int (Int32.ofNat P))] ∧ Z.Warmed39 Uq.vm ∧ Uq.heap = h0) (fun _ _ _ _ _ => True) (fun _ Uq oq Uq' => ∃ vq Lq, oq = .returned vq ∧ (own_Q_pow10 Z h0 n0 P) vq Uq'.heap Lq ∧ FrameEnd Uq oq Uq' Lq ({ frames := 0, cells := 1, slots := 12, locals := 0 } : Room).cells ({ frames := 0, cells := 1, slots := 12, locals := 0 } : Room).slots) := by
  refine MetFree.of_bodySF (plainFor_of_name own_pn0) hisR ?_
  intro p e s m args below meth c s₁ Bd hml0 hP hK
  obtain ⟨rfl, hZ, hh⟩ := hP
  have hx := Bd.exec
  have hby := Bd.bytes
  have hml : c.maxLocals = 2 := hml0
  have hown : s.vm.findClass "com/example/reckoner/reckoner/core/DigitsWritePinLaw" = some m.cls := findClass_of_methodNamed Bd.named
  have hnm := (name_of_methodNamed Bd.named Bd.method).1
  have X0 : Stand p l e ({ frames := 0, cells := 1, slots := 12, locals := 0 } : Room) s m #[(.int (Int32.ofNat P))] below meth c s₁ [] 0 0 := Stand.of_body Bd
  have e0 : s₁.heap = h0 := by rw [← hh, Bd.state]; rfl
  have N0 := Fr.nil n0
  have hlk : meth.locks = false := by first | exact BodyLoose.notSynchronized Bd | exact Body.notSynchronized Bd
  obtain ⟨G, hG⟩ : ∃ G : State → Prop, G = own_G p e below s ({ frames := 0, cells := 1, slots := 12, locals := 0 } : Room).cells ({ frames := 0, cells := 1, slots := 12, locals := 0 } : Room).slots ((own_Q_pow10 Z h0 n0 P)) := ⟨_, rfl⟩
  have go : ∀ {S S' : State}, (∀ t, Steps p.tables e below S' t → Steps p.tables e below S t) → G S' → G S := by rw [hG]; exact own_to
  suffices hs : G (s₁.setTop (mkF m 0 #[.val (.int (Int32.ofNat P)), .unset] [])) by
    rw [hG] at hs
    exact own_to (fun _ kont => castTop (own_ef_own_rm_pow10 m (Int32.ofNat P)) kont) hs
  refine go (fun _ kont => XS.bipush X0.here hx rfl (hb hby d_method_2_0) kont) ?_
  show G (s₁.setTop (mkF m 2 #[.val (.int (Int32.ofNat P)), .unset] [(.int (12 : Int32))]))
  obtain ⟨T1, h1, k1, X1, e1, E1, A1, st1⟩ := newP X0 hx hZ (hw _ (List.mem_of_getElem? (i := 14) rfl)) e0 (g := (mkF m 2 #[.val (.int (Int32.ofNat P)), .unset] [(.int (12 : Int32))])) rfl (hb hby d_method_2_2) rfl (by decide) (cap := 12) (by decide) (by decide) (by decide) (by decide)
  obtain ⟨b1, g1⟩ : ∃ z, z = h0.size := ⟨_, rfl⟩
  rw [← g1] at A1 st1
  refine go st1 ?_
  show G (T1.setTop (mkF m 4 #[.val (.int (Int32.ofNat P)), .unset] [(.ref b1)]))
  have KK_1 := (Keep.refl h0 []).ext E1
  have V1 : own_V Z h1 b1 .long [(.long 0), (.long 0), (.long 0), (.long 0), (.long 0), (.long 0), (.long 0), (.long 0), (.long 0), (.long 0), (.long 0), (.long 0)] := own_V_new A1 (m := 12) (by decide) (by decide)
  have gz_b1 : h0.size ≤ b1 := by rw [g1]; exact (Keep.refl h0 []).1
  have Z1 : n0 ≤ h1.size := Nat.le_trans Z0 E1.1
  have ga_b1 : n0 ≤ b1 := Nat.le_trans Z0 (Nat.le_of_eq g1.symm)
  refine go (fun _ kont => XS.dup X1.here hx rfl (hb hby d_method_2_4) rfl rfl kont) ?_
  show G (T1.setTop (mkF m 5 #[.val (.int (Int32.ofNat P)), .unset] [(.ref b1), (.ref b1)]))
  refine go (fun _ kont => XS.iconst X1.here hx rfl (hb hby d_method_2_5) kont) ?_
  show G (T1.setTop (mkF m 6 #[.val (.int (Int32.ofNat P)), .unset] [(.int (0 : Int32)), (.ref b1), (.ref b1)]))
  refine go (fun _ kont => XS.lconst X1.here hx rfl (hb hby d_method_2_6) kont) ?_
  show G (T1.setTop (mkF m 7 #[.val (.int (Int32.ofNat P)), .unset] [(.long (1 : Int64)), (.int (0 : Int32)), (.ref b1), (.ref b1)]))
  obtain ⟨cl2, Ar2, Sl2, Ml2⟩ := id V1
  obtain ⟨T3, h3, X3, e3, W3, st3⟩ := stJ X1 hx hZ e1 Ar2 (j := (0 : Int32)) (own_hink Sl2 (by decide) (k := 0) (by decide) (Nat.le_of_ble_eq_true rfl)) (g := (mkF m 7 #[.val (.int (Int32.ofNat P)), .unset] [(.long (1 : Int64)), (.int (0 : Int32)), (.ref b1), (.ref b1)])) rfl rfl (hb hby d_method_2_7)
  refine go st3 ?_
  show G (T3.setTop (mkF m 8 #[.val (.int (Int32.ofNat P)), .unset] [(.ref b1)]))
  have KK_3 := KK_1.wr W3 (Or.inr gz_b1)
  have V3 : own_V Z h3 b1 .long [(.long (1 : Int64)), (.long 0), (.long 0), (.long 0), (.long 0), (.long 0), (.long 0), (.long 0), (.long 0), (.long 0), (.long 0), (.long 0)] := own_V_set V1 W3 (k := 0) (by decide)
  have N3 := Fr.snoc X3 N0 ga_b1
  have Z3 : n0 ≤ h3.size := by rw [W3.size]; exact Z1
  refine go (fun _ kont => XS.dup X3.here hx rfl (hb hby d_method_2_8) rfl rfl kont) ?_
  show G (T3.setTop (mkF m 9 #[.val (.int (Int32.ofNat P)), .unset] [(.ref b1), (.ref b1)]))
  refine go (fun _ kont => XS.iconst X3.here hx rfl (hb hby d_method_2_9) kont) ?_
  show G (T3.setTop (mkF m 10 #[.val (.int (Int32.ofNat P)), .unset] [(.int (1 : Int32)), (.ref b1), (.ref b1)]))
  refine go (fun _ kont => X3.ldc2Long hx hown (mvT hZ (hw _ (List.mem_of_getElem? (i := 15) rfl))) (g := (mkF m 10 #[.val (.int (Int32.ofNat P)), .unset] [(.int (1 : Int32)), (.ref b1), (.ref b1)])) rfl (hb hby d_method_2_10) _ kont) ?_
  show G (T3.setTop (mkF m 13 #[.val (.int (Int32.ofNat P)), .unset] [(.long (10 : Int64)), (.int (1 : Int32)), (.ref b1), (.ref b1)]))
  obtain ⟨cl4, Ar4, Sl4, Ml4⟩ := id V3
  obtain ⟨T5, h5, X5, e5, W5, st5⟩ := stJ X3 hx hZ e3 Ar4 (j := (1 : Int32)) (own_hink Sl4 (by decide) (k := 1) (by decide) (Nat.le_of_ble_eq_true rfl)) (g := (mkF m 13 #[.val (.int (Int32.ofNat P)), .unset] [(.long (10 : Int64)), (.int (1 : Int32)), (.ref b1), (.ref b1)])) rfl rfl (hb hby d_method_2_13)
  refine go st5 ?_
  show G (T5.setTop (mkF m 14 #[.val (.int (Int32.ofNat P)), .unset] [(.ref b1)]))
  have KK_5 := KK_3.wr W5 (Or.inr gz_b1)
  have V5 : own_V Z h5 b1 .long [(.long (1 : Int64)), (.long (10 : Int64)), (.long 0), (.long 0), (.long 0), (.long 0), (.long 0), (.long 0), (.long 0), (.long 0), (.long 0), (.long 0)] := own_V_set V3 W5 (k := 1) (by decide)
  have N5 := Fr.snoc X5 N3 ga_b1
  have Z5 : n0 ≤ h5.size := by rw [W5.size]; exact Z3
  refine go (fun _ kont => XS.dup X5.here hx rfl (hb hby d_method_2_14) rfl rfl kont) ?_
  show G (T5.setTop (mkF m 15 #[.val (.int (Int32.ofNat P)), .unset] [(.ref b1), (.ref b1)]))
  refine go (fun _ kont => XS.iconst X5.here hx rfl (hb hby d_method_2_15) kont) ?_
  show G (T5.setTop (mkF m 16 #[.val (.int (Int32.ofNat P)), .unset] [(.int (2 : Int32)), (.ref b1), (.ref b1)]))
  refine go (fun _ kont => X5.ldc2Long hx hown (mvT hZ (hw _ (List.mem_of_getElem? (i := 16) rfl))) (g := (mkF m 16 #[.val (.int (Int32.ofNat P)), .unset] [(.int (2 : Int32)), (.ref b1), (.ref b1)])) rfl (hb hby d_method_2_16) _ kont) ?_
  show G (T5.setTop (mkF m 19 #[.val (.int (Int32.ofNat P)), .unset] [(.long (100 : Int64)), (.int (2 : Int32)), (.ref b1), (.ref b1)]))
  obtain ⟨cl6, Ar6, Sl6, Ml6⟩ := id V5
  obtain ⟨T7, h7, X7, e7, W7, st7⟩ := stJ X5 hx hZ e5 Ar6 (j := (2 : Int32)) (own_hink Sl6 (by decide) (k := 2) (by decide) (Nat.le_of_ble_eq_true rfl)) (g := (mkF m 19 #[.val (.int (Int32.ofNat P)), .unset] [(.long (100 : Int64)), (.int (2 : Int32)), (.ref b1), (.ref b1)])) rfl rfl (hb hby d_method_2_19)
  refine go st7 ?_
  show G (T7.setTop (mkF m 20 #[.val (.int (Int32.ofNat P)), .unset] [(.ref b1)]))
  have KK_7 := KK_5.wr W7 (Or.inr gz_b1)
  have V7 : own_V Z h7 b1 .long [(.long (1 : Int64)), (.long (10 : Int64)), (.long (100 : Int64)), (.long 0), (.long 0), (.long 0), (.long 0), (.long 0), (.long 0), (.long 0), (.long 0), (.long 0)] := own_V_set V5 W7 (k := 2) (by decide)
  have N7 := Fr.snoc X7 N5 ga_b1
  have Z7 : n0 ≤ h7.size := by rw [W7.size]; exact Z5
  refine go (fun _ kont => XS.dup X7.here hx rfl (hb hby d_method_2_20) rfl rfl kont) ?_
  show G (T7.setTop (mkF m 21 #[.val (.int (Int32.ofNat P)), .unset] [(.ref b1), (.ref b1)]))
  refine go (fun _ kont => XS.iconst X7.here hx rfl (hb hby d_method_2_21) kont) ?_
  show G (T7.setTop (mkF m 22 #[.val (.int (Int32.ofNat P)), .unset] [(.int (3 : Int32)), (.ref b1), (.ref b1)]))
  refine go (fun _ kont => X7.ldc2Long hx hown (mvT hZ (hw _ (List.mem_of_getElem? (i := 17) rfl))) (g := (mkF m 22 #[.val (.int (Int32.ofNat P)), .unset] [(.int (3 : Int32)), (.ref b1), (.ref b1)])) rfl (hb hby d_method_2_22) _ kont) ?_
  show G (T7.setTop (mkF m 25 #[.val (.int (Int32.ofNat P)), .unset] [(.long (1000 : Int64)), (.int (3 : Int32)), (.ref b1), (.ref b1)]))
  obtain ⟨cl8, Ar8, Sl8, Ml8⟩ := id V7
  obtain ⟨T9, h9, X9, e9, W9, st9⟩ := stJ X7 hx hZ e7 Ar8 (j := (3 : Int32)) (own_hink Sl8 (by decide) (k := 3) (by decide) (Nat.le_of_ble_eq_true rfl)) (g := (mkF m 25 #[.val (.int (Int32.ofNat P)), .unset] [(.long (1000 : Int64)), (.int (3 : Int32)), (.ref b1), (.ref b1)])) rfl rfl (hb hby d_method_2_25)
  refine go st9 ?_
  show G (T9.setTop (mkF m 26 #[.val (.int (Int32.ofNat P)), .unset] [(.ref b1)]))
  have KK_9 := KK_7.wr W9 (Or.inr gz_b1)
  have V9 : own_V Z h9 b1 .long [(.long (1 : Int64)), (.long (10 : Int64)), (.long (100 : Int64)), (.long (1000 : Int64)), (.long 0), (.long 0), (.long 0), (.long 0), (.long 0), (.long 0), (.long 0), (.long 0)] := own_V_set V7 W9 (k := 3) (by decide)
  have N9 := Fr.snoc X9 N7 ga_b1
  have Z9 : n0 ≤ h9.size := by rw [W9.size]; exact Z7
  refine go (fun _ kont => XS.dup X9.here hx rfl (hb hby d_method_2_26) rfl rfl kont) ?_
  show G (T9.setTop (mkF m 27 #[.val (.int (Int32.ofNat P)), .unset] [(.ref b1), (.ref b1)]))
  refine go (fun _ kont => XS.iconst X9.here hx rfl (hb hby d_method_2_27) kont) ?_
  show G (T9.setTop (mkF m 28 #[.val (.int (Int32.ofNat P)), .unset] [(.int (4 : Int32)), (.ref b1), (.ref b1)]))
  refine go (fun _ kont => X9.ldc2Long hx hown (mvT hZ (hw _ (List.mem_of_getElem? (i := 18) rfl))) (g := (mkF m 28 #[.val (.int (Int32.ofNat P)), .unset] [(.int (4 : Int32)), (.ref b1), (.ref b1)])) rfl (hb hby d_method_2_28) _ kont) ?_
  show G (T9.setTop (mkF m 31 #[.val (.int (Int32.ofNat P)), .unset] [(.long (10000 : Int64)), (.int (4 : Int32)), (.ref b1), (.ref b1)]))
  obtain ⟨cl10, Ar10, Sl10, Ml10⟩ := id V9
  obtain ⟨T11, h11, X11, e11, W11, st11⟩ := stJ X9 hx hZ e9 Ar10 (j := (4 : Int32)) (own_hink Sl10 (by decide) (k := 4) (by decide) (Nat.le_of_ble_eq_true rfl)) (g := (mkF m 31 #[.val (.int (Int32.ofNat P)), .unset] [(.long (10000 : Int64)), (.int (4 : Int32)), (.ref b1), (.ref b1)])) rfl rfl (hb hby d_method_2_31)
  refine go st11 ?_
  show G (T11.setTop (mkF m 32 #[.val (.int (Int32.ofNat P)), .unset] [(.ref b1)]))
  have KK_11 := KK_9.wr W11 (Or.inr gz_b1)
  have V11 : own_V Z h11 b1 .long [(.long (1 : Int64)), (.long (10 : Int64)), (.long (100 : Int64)), (.long (1000 : Int64)), (.long (10000 : Int64)), (.long 0), (.long 0), (.long 0), (.long 0), (.long 0), (.long 0), (.long 0)] := own_V_set V9 W11 (k := 4) (by decide)
  have N11 := Fr.snoc X11 N9 ga_b1
  have Z11 : n0 ≤ h11.size := by rw [W11.size]; exact Z9
  refine go (fun _ kont => XS.dup X11.here hx rfl (hb hby d_method_2_32) rfl rfl kont) ?_
  show G (T11.setTop (mkF m 33 #[.val (.int (Int32.ofNat P)), .unset] [(.ref b1), (.ref b1)]))
  refine go (fun _ kont => XS.iconst X11.here hx rfl (hb hby d_method_2_33) kont) ?_
  show G (T11.setTop (mkF m 34 #[.val (.int (Int32.ofNat P)), .unset] [(.int (5 : Int32)), (.ref b1), (.ref b1)]))
  refine go (fun _ kont => X11.ldc2Long hx hown (mvT hZ (hw _ (List.mem_of_getElem? (i := 19) rfl))) (g := (mkF m 34 #[.val (.int (Int32.ofNat P)), .unset] [(.int (5 : Int32)), (.ref b1), (.ref b1)])) rfl (hb hby d_method_2_34) _ kont) ?_
  show G (T11.setTop (mkF m 37 #[.val (.int (Int32.ofNat P)), .unset] [(.long (100000 : Int64)), (.int (5 : Int32)), (.ref b1), (.ref b1)]))
  obtain ⟨cl12, Ar12, Sl12, Ml12⟩ := id V11
  obtain ⟨T13, h13, X13, e13, W13, st13⟩ := stJ X11 hx hZ e11 Ar12 (j := (5 : Int32)) (own_hink Sl12 (by decide) (k := 5) (by decide) (Nat.le_of_ble_eq_true rfl)) (g := (mkF m 37 #[.val (.int (Int32.ofNat P)), .unset] [(.long (100000 : Int64)), (.int (5 : Int32)), (.ref b1), (.ref b1)])) rfl rfl (hb hby d_method_2_37)
  refine go st13 ?_
  show G (T13.setTop (mkF m 38 #[.val (.int (Int32.ofNat P)), .unset] [(.ref b1)]))
  have KK_13 := KK_11.wr W13 (Or.inr gz_b1)
  have V13 : own_V Z h13 b1 .long [(.long (1 : Int64)), (.long (10 : Int64)), (.long (100 : Int64)), (.long (1000 : Int64)), (.long (10000 : Int64)), (.long (100000 : Int64)), (.long 0), (.long 0), (.long 0), (.long 0), (.long 0), (.long 0)] := own_V_set V11 W13 (k := 5) (by decide)
  have N13 := Fr.snoc X13 N11 ga_b1
  have Z13 : n0 ≤ h13.size := by rw [W13.size]; exact Z11
  refine go (fun _ kont => XS.dup X13.here hx rfl (hb hby d_method_2_38) rfl rfl kont) ?_
  show G (T13.setTop (mkF m 39 #[.val (.int (Int32.ofNat P)), .unset] [(.ref b1), (.ref b1)]))
  refine go (fun _ kont => XS.bipush X13.here hx rfl (hb hby d_method_2_39) kont) ?_
  show G (T13.setTop (mkF m 41 #[.val (.int (Int32.ofNat P)), .unset] [(.int (6 : Int32)), (.ref b1), (.ref b1)]))
  refine go (fun _ kont => X13.ldc2Long hx hown (mvT hZ (hw _ (List.mem_of_getElem? (i := 20) rfl))) (g := (mkF m 41 #[.val (.int (Int32.ofNat P)), .unset] [(.int (6 : Int32)), (.ref b1), (.ref b1)])) rfl (hb hby d_method_2_41) _ kont) ?_
  show G (T13.setTop (mkF m 44 #[.val (.int (Int32.ofNat P)), .unset] [(.long (1000000 : Int64)), (.int (6 : Int32)), (.ref b1), (.ref b1)]))
  obtain ⟨cl14, Ar14, Sl14, Ml14⟩ := id V13
  obtain ⟨T15, h15, X15, e15, W15, st15⟩ := stJ X13 hx hZ e13 Ar14 (j := (6 : Int32)) (own_hink Sl14 (by decide) (k := 6) (by decide) (Nat.le_of_ble_eq_true rfl)) (g := (mkF m 44 #[.val (.int (Int32.ofNat P)), .unset] [(.long (1000000 : Int64)), (.int (6 : Int32)), (.ref b1), (.ref b1)])) rfl rfl (hb hby d_method_2_44)
  refine go st15 ?_
  show G (T15.setTop (mkF m 45 #[.val (.int (Int32.ofNat P)), .unset] [(.ref b1)]))
  have KK_15 := KK_13.wr W15 (Or.inr gz_b1)
  have V15 : own_V Z h15 b1 .long [(.long (1 : Int64)), (.long (10 : Int64)), (.long (100 : Int64)), (.long (1000 : Int64)), (.long (10000 : Int64)), (.long (100000 : Int64)), (.long (1000000 : Int64)), (.long 0), (.long 0), (.long 0), (.long 0), (.long 0)] := own_V_set V13 W15 (k := 6) (by decide)
  have N15 := Fr.snoc X15 N13 ga_b1
  have Z15 : n0 ≤ h15.size := by rw [W15.size]; exact Z13
  refine go (fun _ kont => XS.dup X15.here hx rfl (hb hby d_method_2_45) rfl rfl kont) ?_
  show G (T15.setTop (mkF m 46 #[.val (.int (Int32.ofNat P)), .unset] [(.ref b1), (.ref b1)]))
  refine go (fun _ kont => XS.bipush X15.here hx rfl (hb hby d_method_2_46) kont) ?_
  show G (T15.setTop (mkF m 48 #[.val (.int (Int32.ofNat P)), .unset] [(.int (7 : Int32)), (.ref b1), (.ref b1)]))
  refine go (fun _ kont => X15.ldc2Long hx hown (mvT hZ (hw _ (List.mem_of_getElem? (i := 21) rfl))) (g := (mkF m 48 #[.val (.int (Int32.ofNat P)), .unset] [(.int (7 : Int32)), (.ref b1), (.ref b1)])) rfl (hb hby d_method_2_48) _ kont) ?_
  show G (T15.setTop (mkF m 51 #[.val (.int (Int32.ofNat P)), .unset] [(.long (10000000 : Int64)), (.int (7 : Int32)), (.ref b1), (.ref b1)]))
  obtain ⟨cl16, Ar16, Sl16, Ml16⟩ := id V15
  obtain ⟨T17, h17, X17, e17, W17, st17⟩ := stJ X15 hx hZ e15 Ar16 (j := (7 : Int32)) (own_hink Sl16 (by decide) (k := 7) (by decide) (Nat.le_of_ble_eq_true rfl)) (g := (mkF m 51 #[.val (.int (Int32.ofNat P)), .unset] [(.long (10000000 : Int64)), (.int (7 : Int32)), (.ref b1), (.ref b1)])) rfl rfl (hb hby d_method_2_51)
  refine go st17 ?_
  show G (T17.setTop (mkF m 52 #[.val (.int (Int32.ofNat P)), .unset] [(.ref b1)]))
  have KK_17 := KK_15.wr W17 (Or.inr gz_b1)
  have V17 : own_V Z h17 b1 .long [(.long (1 : Int64)), (.long (10 : Int64)), (.long (100 : Int64)), (.long (1000 : Int64)), (.long (10000 : Int64)), (.long (100000 : Int64)), (.long (1000000 : Int64)), (.long (10000000 : Int64)), (.long 0), (.long 0), (.long 0), (.long 0)] := own_V_set V15 W17 (k := 7) (by decide)
  have N17 := Fr.snoc X17 N15 ga_b1
  have Z17 : n0 ≤ h17.size := by rw [W17.size]; exact Z15
  refine go (fun _ kont => XS.dup X17.here hx rfl (hb hby d_method_2_52) rfl rfl kont) ?_
  show G (T17.setTop (mkF m 53 #[.val (.int (Int32.ofNat P)), .unset] [(.ref b1), (.ref b1)]))
  refine go (fun _ kont => XS.bipush X17.here hx rfl (hb hby d_method_2_53) kont) ?_
  show G (T17.setTop (mkF m 55 #[.val (.int (Int32.ofNat P)), .unset] [(.int (8 : Int32)), (.ref b1), (.ref b1)]))
  refine go (fun _ kont => X17.ldc2Long hx hown (mvT hZ (hw _ (List.mem_of_getElem? (i := 22) rfl))) (g := (mkF m 55 #[.val (.int (Int32.ofNat P)), .unset] [(.int (8 : Int32)), (.ref b1), (.ref b1)])) rfl (hb hby d_method_2_55) _ kont) ?_
  show G (T17.setTop (mkF m 58 #[.val (.int (Int32.ofNat P)), .unset] [(.long (100000000 : Int64)), (.int (8 : Int32)), (.ref b1), (.ref b1)]))
  obtain ⟨cl18, Ar18, Sl18, Ml18⟩ := id V17
  obtain ⟨T19, h19, X19, e19, W19, st19⟩ := stJ X17 hx hZ e17 Ar18 (j := (8 : Int32)) (own_hink Sl18 (by decide) (k := 8) (by decide) (Nat.le_of_ble_eq_true rfl)) (g := (mkF m 58 #[.val (.int (Int32.ofNat P)), .unset] [(.long (100000000 : Int64)), (.int (8 : Int32)), (.ref b1), (.ref b1)])) rfl rfl (hb hby d_method_2_58)
  refine go st19 ?_
  show G (T19.setTop (mkF m 59 #[.val (.int (Int32.ofNat P)), .unset] [(.ref b1)]))
  have KK_19 := KK_17.wr W19 (Or.inr gz_b1)
  have V19 : own_V Z h19 b1 .long [(.long (1 : Int64)), (.long (10 : Int64)), (.long (100 : Int64)), (.long (1000 : Int64)), (.long (10000 : Int64)), (.long (100000 : Int64)), (.long (1000000 : Int64)), (.long (10000000 : Int64)), (.long (100000000 : Int64)), (.long 0), (.long 0), (.long 0)] := own_V_set V17 W19 (k := 8) (by decide)
  have N19 := Fr.snoc X19 N17 ga_b1
  have Z19 : n0 ≤ h19.size := by rw [W19.size]; exact Z17
  refine go (fun _ kont => XS.dup X19.here hx rfl (hb hby d_method_2_59) rfl rfl kont) ?_
  show G (T19.setTop (mkF m 60 #[.val (.int (Int32.ofNat P)), .unset] [(.ref b1), (.ref b1)]))
  refine go (fun _ kont => XS.bipush X19.here hx rfl (hb hby d_method_2_60) kont) ?_
  show G (T19.setTop (mkF m 62 #[.val (.int (Int32.ofNat P)), .unset] [(.int (9 : Int32)), (.ref b1), (.ref b1)]))
  refine go (fun _ kont => X19.ldc2Long hx hown (mvT hZ (hw _ (List.mem_of_getElem? (i := 23) rfl))) (g := (mkF m 62 #[.val (.int (Int32.ofNat P)), .unset] [(.int (9 : Int32)), (.ref b1), (.ref b1)])) rfl (hb hby d_method_2_62) _ kont) ?_
  show G (T19.setTop (mkF m 65 #[.val (.int (Int32.ofNat P)), .unset] [(.long (1000000000 : Int64)), (.int (9 : Int32)), (.ref b1), (.ref b1)]))
  obtain ⟨cl20, Ar20, Sl20, Ml20⟩ := id V19
  obtain ⟨T21, h21, X21, e21, W21, st21⟩ := stJ X19 hx hZ e19 Ar20 (j := (9 : Int32)) (own_hink Sl20 (by decide) (k := 9) (by decide) (Nat.le_of_ble_eq_true rfl)) (g := (mkF m 65 #[.val (.int (Int32.ofNat P)), .unset] [(.long (1000000000 : Int64)), (.int (9 : Int32)), (.ref b1), (.ref b1)])) rfl rfl (hb hby d_method_2_65)
  refine go st21 ?_
  show G (T21.setTop (mkF m 66 #[.val (.int (Int32.ofNat P)), .unset] [(.ref b1)]))
  have KK_21 := KK_19.wr W21 (Or.inr gz_b1)
  have V21 : own_V Z h21 b1 .long [(.long (1 : Int64)), (.long (10 : Int64)), (.long (100 : Int64)), (.long (1000 : Int64)), (.long (10000 : Int64)), (.long (100000 : Int64)), (.long (1000000 : Int64)), (.long (10000000 : Int64)), (.long (100000000 : Int64)), (.long (1000000000 : Int64)), (.long 0), (.long 0)] := own_V_set V19 W21 (k := 9) (by decide)
  have N21 := Fr.snoc X21 N19 ga_b1
  have Z21 : n0 ≤ h21.size := by rw [W21.size]; exact Z19
  refine go (fun _ kont => XS.dup X21.here hx rfl (hb hby d_method_2_66) rfl rfl kont) ?_
  show G (T21.setTop (mkF m 67 #[.val (.int (Int32.ofNat P)), .unset] [(.ref b1), (.ref b1)]))
  refine go (fun _ kont => XS.bipush X21.here hx rfl (hb hby d_method_2_67) kont) ?_
  show G (T21.setTop (mkF m 69 #[.val (.int (Int32.ofNat P)), .unset] [(.int (10 : Int32)), (.ref b1), (.ref b1)]))
  refine go (fun _ kont => X21.ldc2Long hx hown (mvT hZ (hw _ (List.mem_of_getElem? (i := 24) rfl))) (g := (mkF m 69 #[.val (.int (Int32.ofNat P)), .unset] [(.int (10 : Int32)), (.ref b1), (.ref b1)])) rfl (hb hby d_method_2_69) _ kont) ?_
  show G (T21.setTop (mkF m 72 #[.val (.int (Int32.ofNat P)), .unset] [(.long (10000000000 : Int64)), (.int (10 : Int32)), (.ref b1), (.ref b1)]))
  obtain ⟨cl22, Ar22, Sl22, Ml22⟩ := id V21
  obtain ⟨T23, h23, X23, e23, W23, st23⟩ := stJ X21 hx hZ e21 Ar22 (j := (10 : Int32)) (own_hink Sl22 (by decide) (k := 10) (by decide) (Nat.le_of_ble_eq_true rfl)) (g := (mkF m 72 #[.val (.int (Int32.ofNat P)), .unset] [(.long (10000000000 : Int64)), (.int (10 : Int32)), (.ref b1), (.ref b1)])) rfl rfl (hb hby d_method_2_72)
  refine go st23 ?_
  show G (T23.setTop (mkF m 73 #[.val (.int (Int32.ofNat P)), .unset] [(.ref b1)]))
  have KK_23 := KK_21.wr W23 (Or.inr gz_b1)
  have V23 : own_V Z h23 b1 .long [(.long (1 : Int64)), (.long (10 : Int64)), (.long (100 : Int64)), (.long (1000 : Int64)), (.long (10000 : Int64)), (.long (100000 : Int64)), (.long (1000000 : Int64)), (.long (10000000 : Int64)), (.long (100000000 : Int64)), (.long (1000000000 : Int64)), (.long (10000000000 : Int64)), (.long 0)] := own_V_set V21 W23 (k := 10) (by decide)
  have N23 := Fr.snoc X23 N21 ga_b1
  have Z23 : n0 ≤ h23.size := by rw [W23.size]; exact Z21
  refine go (fun _ kont => XS.dup X23.here hx rfl (hb hby d_method_2_73) rfl rfl kont) ?_
  show G (T23.setTop (mkF m 74 #[.val (.int (Int32.ofNat P)), .unset] [(.ref b1), (.ref b1)]))
  refine go (fun _ kont => XS.bipush X23.here hx rfl (hb hby d_method_2_74) kont) ?_
  show G (T23.setTop (mkF m 76 #[.val (.int (Int32.ofNat P)), .unset] [(.int (11 : Int32)), (.ref b1), (.ref b1)]))
  refine go (fun _ kont => X23.ldc2Long hx hown (mvT hZ (hw _ (List.mem_of_getElem? (i := 25) rfl))) (g := (mkF m 76 #[.val (.int (Int32.ofNat P)), .unset] [(.int (11 : Int32)), (.ref b1), (.ref b1)])) rfl (hb hby d_method_2_76) _ kont) ?_
  show G (T23.setTop (mkF m 79 #[.val (.int (Int32.ofNat P)), .unset] [(.long (100000000000 : Int64)), (.int (11 : Int32)), (.ref b1), (.ref b1)]))
  obtain ⟨cl24, Ar24, Sl24, Ml24⟩ := id V23
  obtain ⟨T25, h25, X25, e25, W25, st25⟩ := stJ X23 hx hZ e23 Ar24 (j := (11 : Int32)) (own_hink Sl24 (by decide) (k := 11) (by decide) (Nat.le_of_ble_eq_true rfl)) (g := (mkF m 79 #[.val (.int (Int32.ofNat P)), .unset] [(.long (100000000000 : Int64)), (.int (11 : Int32)), (.ref b1), (.ref b1)])) rfl rfl (hb hby d_method_2_79)
  refine go st25 ?_
  show G (T25.setTop (mkF m 80 #[.val (.int (Int32.ofNat P)), .unset] [(.ref b1)]))
  have KK_25 := KK_23.wr W25 (Or.inr gz_b1)
  have V25 : own_V Z h25 b1 .long [(.long (1 : Int64)), (.long (10 : Int64)), (.long (100 : Int64)), (.long (1000 : Int64)), (.long (10000 : Int64)), (.long (100000 : Int64)), (.long (1000000 : Int64)), (.long (10000000 : Int64)), (.long (100000000 : Int64)), (.long (1000000000 : Int64)), (.long (10000000000 : Int64)), (.long (100000000000 : Int64))] := own_V_set V23 W25 (k := 11) (by decide)
  have N25 := Fr.snoc X25 N23 ga_b1
  have Z25 : n0 ≤ h25.size := by rw [W25.size]; exact Z23
  refine go (fun _ kont => XS.astoreN X25.here hx rfl (hb hby d_method_2_80) rfl rfl (l' := #[.val (.int (Int32.ofNat P)), .val (.ref b1)]) rfl kont) ?_
  show G (T25.setTop (mkF m 81 #[.val (.int (Int32.ofNat P)), .val (.ref b1)] []))
  refine go (fun _ kont => XS.aloadN X25.here hx rfl (hb hby d_method_2_81) rfl rfl kont) ?_
  show G (T25.setTop (mkF m 82 #[.val (.int (Int32.ofNat P)), .val (.ref b1)] [(.ref b1)]))
  refine go (fun _ kont => XS.iloadN X25.here hx rfl (hb hby d_method_2_82) rfl  kont) ?_
  show G (T25.setTop (mkF m 83 #[.val (.int (Int32.ofNat P)), .val (.ref b1)] [(.int (Int32.ofNat P)), (.ref b1)]))
  have VT : own_V Z h25 b1 .long (own_T12.map Value.long) := V25
  obtain ⟨cl, Ar, Sl, Ml⟩ := id VT
  refine go (fun _ kont => X25.laload hx (j := (Int32.ofNat P)) (v := (.long (own_T12.getD P 0))) (by rw [e25]; exact Ar.1) (State.isArrayOf_alike hZ.alike Ar.2.1) Ar.2.2 (own_hink Sl (own_neg (by rw [own_ofN (by omega)]; omega)) (own_tnO (by omega)) (k := P) (by show P < 12; omega)) (own_hatk Sl (own_tnO (by omega)) (own_atJ (k := P) (by show P < 12; omega))) (g := (mkF m 83 #[.val (.int (Int32.ofNat P)), .val (.ref b1)] [(.int (Int32.ofNat P)), (.ref b1)])) rfl rfl (hb hby d_method_2_83) _ kont) ?_
  show G (T25.setTop (mkF m 84 #[.val (.int (Int32.ofNat P)), .val (.ref b1)] [(.long (own_T12.getD P 0))]))
  rw [hG]
  exact own_retJ X25 hx Bd.returns (hb hby d_method_2_84) hlk (by decide) (by decide) (by rw [e25]; exact ⟨by rw [own_T12_at P hP], N25, KK_25⟩)
theorem own_ef_own_rm_write (m : MethodId) (x0 : Int32) (x1 : Int32) (x2 : Addr) (x3 : Int32) : entryFrame m #[(.int x0), (.int x1), (.ref x2), (.int x3)] 6 = mkF m 0 #[.val (.int x0), .val (.int x1), .val (.ref x2), .val (.int x3), .unset, .unset] [] := by first | (simp [entryFrame, mkF, argsToLocals, Value.category]; done) | rfl
def own_Q_write (Z : State) (h0 : Heap) (n0 : Nat) (b : Addr) (N D A : Nat) (cc : Int32) (v : Option Value) (h : Heap) (L : List Loc) : Prop := v = some (.int (Int32.ofNat (A + D))) ∧ Fr n0 L ∧ Keep h0 h [b] ∧ ∃ zs : List Int32, zs.length = 14 ∧ own_V Z h b .char (zs.map Value.int) ∧ ∀ j, j < 14 → zs.getD j 0 = own_dg N A D A cc j
set_option maxRecDepth 65536 in
set_option maxHeartbeats 40000000 in
theorem own_rm_write (l : Launch) (Z : State) (a0 : Array Value) (hw : ∀ d ∈ tables_1, d.before a0 Z = true) (ws : List Jvm.Cond) (b : Addr) (h0 : Heap) (n0 : Nat) (Z0 : n0 ≤ h0.size) (N D A : Nat) (hN : N < 2147483648) (hAD : A + D ≤ 14) (cc : Int32) (ys : List Int32) (hyl : ys.length = 14) (V : own_V Z h0 b .char (ys.map Value.int)) (hys : ∀ j, j < 14 → ys.getD j 0 = cc) (ga : n0 ≤ b) :
    MetFree l (⟨"com/example/reckoner/reckoner/core/Digits", "write", "(II[CI)I"⟩ : MethodName) (head1 (Jvm.Cond.code (⟨"com/example/reckoner/reckoner/core/Digits", "write", "(II[CI)I"⟩ : MethodName) prog_23_method_3_code 6 (some .int) :: ws) ({ frames := 0, cells := 0, slots := 0, locals := 0 } : Room)) (fun aq Uq => aq = #[(.int (Int32.ofNat N)), (.int (Int32.ofNat D)), (.ref b), (.int (Int32.ofNat A))] ∧ Z.Warmed39 Uq.vm ∧ Uq.heap = h0) (fun _ _ _ _ _ => True) (fun _ Uq oq Uq' => ∃ vq Lq, oq = .returned vq ∧ (own_Q_write Z h0 n0 b N D A cc) vq Uq'.heap Lq ∧ FrameEnd Uq oq Uq' Lq ({ frames := 0, cells := 0, slots := 0, locals := 0 } : Room).cells ({ frames := 0, cells := 0, slots := 0, locals := 0 } : Room).slots) := by
  refine MetFree.of_bodySF (plainFor_of_name own_pn1) hisR ?_
  intro p e s m args below meth c s₁ Bd hml0 hP hK
  obtain ⟨rfl, hZ, hh⟩ := hP
  have hx := Bd.exec
  have hby := Bd.bytes
  have hml : c.maxLocals = 6 := hml0
  have hown : s.vm.findClass "com/example/reckoner/reckoner/core/Digits" = some m.cls := findClass_of_methodNamed Bd.named
  have hnm := (name_of_methodNamed Bd.named Bd.method).1
  have X0 : Stand p l e ({ frames := 0, cells := 0, slots := 0, locals := 0 } : Room) s m #[(.int (Int32.ofNat N)), (.int (Int32.ofNat D)), (.ref b), (.int (Int32.ofNat A))] below meth c s₁ [] 0 0 := Stand.of_body Bd
  have e0 : s₁.heap = h0 := by rw [← hh, Bd.state]; rfl
  have N0 := Fr.nil n0
  have hlk : meth.locks = false := by first | exact BodyLoose.notSynchronized Bd | exact Body.notSynchronized Bd
  obtain ⟨G, hG⟩ : ∃ G : State → Prop, G = own_G p e below s ({ frames := 0, cells := 0, slots := 0, locals := 0 } : Room).cells ({ frames := 0, cells := 0, slots := 0, locals := 0 } : Room).slots ((own_Q_write Z h0 n0 b N D A cc)) := ⟨_, rfl⟩
  have go : ∀ {S S' : State}, (∀ t, Steps p.tables e below S' t → Steps p.tables e below S t) → G S' → G S := by rw [hG]; exact own_to
  suffices hs : G (s₁.setTop (mkF m 0 #[.val (.int (Int32.ofNat N)), .val (.int (Int32.ofNat D)), .val (.ref b), .val (.int (Int32.ofNat A)), .unset, .unset] [])) by
    rw [hG] at hs
    exact own_to (fun _ kont => castTop (own_ef_own_rm_write m (Int32.ofNat N) (Int32.ofNat D) b (Int32.ofNat A)) kont) hs
  have loop : ∀ (k u : Nat), u - A < k → A ≤ u → u ≤ A + D → ∀ (i : Int32), i.toInt = (u : Int) - 1 → ∀ (zs : List Int32) (T' : State) (h' : Heap) (ls : List Loc), zs.length = 14 → own_V Z h' b .char (zs.map Value.int) → (∀ j, j < 14 → zs.getD j 0 = own_dg N A D u cc j) → Keep h0 h' [b] → Fr n0 ls → Stand p l e ({ frames := 0, cells := 0, slots := 0, locals := 0 } : Room) s m #[(.int (Int32.ofNat N)), (.int (Int32.ofNat D)), (.ref b), (.int (Int32.ofNat A))] below meth c T' ls 0 0 → T'.heap = h' → G (T'.setTop (mkF m 10 #[.val (.int (Int32.ofNat N)), .val (.int (Int32.ofNat D)), .val (.ref b), .val (.int (Int32.ofNat A)), .val (.int (Int32.ofNat (N / 10 ^ (A + D - u)))), .val (.int i)] [])) := by
    intro k
    induction k with
    | zero => intro u hk; omega
    | succ k ih =>
      intro u hk hAu hu i hi zs T' h' ls hzl Vz hz K' N' X' e'
      have hR : (N / 10 ^ (A + D - u)) < 2147483648 := Nat.lt_of_le_of_lt (Nat.div_le_self _ _) hN
      show G (T'.setTop (mkF m 10 #[.val (.int (Int32.ofNat N)), .val (.int (Int32.ofNat D)), .val (.ref b), .val (.int (Int32.ofNat A)), .val (.int (Int32.ofNat (N / 10 ^ (A + D - u)))), .val (.int i)] []))
      refine go (fun _ kont => XS.iload X'.here hx rfl (hb hby d_prog_23_method_3_10) rfl  kont) ?_
      show G (T'.setTop (mkF m 12 #[.val (.int (Int32.ofNat N)), .val (.int (Int32.ofNat D)), .val (.ref b), .val (.int (Int32.ofNat A)), .val (.int (Int32.ofNat (N / 10 ^ (A + D - u)))), .val (.int i)] [(.int i)]))
      refine go (fun _ kont => XS.iloadN X'.here hx rfl (hb hby d_prog_23_method_3_12) rfl  kont) ?_
      show G (T'.setTop (mkF m 13 #[.val (.int (Int32.ofNat N)), .val (.int (Int32.ofNat D)), .val (.ref b), .val (.int (Int32.ofNat A)), .val (.int (Int32.ofNat (N / 10 ^ (A + D - u)))), .val (.int i)] [(.int (Int32.ofNat A)), (.int i)]))
      by_cases hc13 : i < (Int32.ofNat A)
      · refine go (fun _ kont => XS.icmpYes X'.here hx rfl (pc0 := 13) (pc' := 42) rfl (hb hby d_prog_23_method_3_13) rfl (tlt hc13).1 (by decide) (by decide) kont) ?_
        show G (T'.setTop (mkF m 42 #[.val (.int (Int32.ofNat N)), .val (.int (Int32.ofNat D)), .val (.ref b), .val (.int (Int32.ofNat A)), .val (.int (Int32.ofNat (N / 10 ^ (A + D - u)))), .val (.int i)] []))
        rw [Int32.lt_iff_toInt_lt, own_ofN (by omega), hi] at hc13
        refine go (fun _ kont => XS.iloadN X'.here hx rfl (hb hby d_prog_23_method_3_42) rfl  kont) ?_
        show G (T'.setTop (mkF m 43 #[.val (.int (Int32.ofNat N)), .val (.int (Int32.ofNat D)), .val (.ref b), .val (.int (Int32.ofNat A)), .val (.int (Int32.ofNat (N / 10 ^ (A + D - u)))), .val (.int i)] [(.int (Int32.ofNat A))]))
        refine go (fun _ kont => XS.iloadN X'.here hx rfl (hb hby d_prog_23_method_3_43) rfl  kont) ?_
        show G (T'.setTop (mkF m 44 #[.val (.int (Int32.ofNat N)), .val (.int (Int32.ofNat D)), .val (.ref b), .val (.int (Int32.ofNat A)), .val (.int (Int32.ofNat (N / 10 ^ (A + D - u)))), .val (.int i)] [(.int (Int32.ofNat D)), (.int (Int32.ofNat A))]))
        refine go (fun _ kont => XS.iadd X'.here hx rfl (hb hby d_prog_23_method_3_44) rfl kont) ?_
        show G (T'.setTop (mkF m 45 #[.val (.int (Int32.ofNat N)), .val (.int (Int32.ofNat D)), .val (.ref b), .val (.int (Int32.ofNat A)), .val (.int (Int32.ofNat (N / 10 ^ (A + D - u)))), .val (.int i)] [(.int ((Int32.ofNat A) + (Int32.ofNat D)))]))
        rw [hG]
        exact own_retI X' hx Bd.returns (hb hby d_prog_23_method_3_45) hlk (by decide) (by decide) (by rw [e']; exact ⟨by rw [own_addk], N', K', zs, hzl, Vz, (show u = A by omega) ▸ hz⟩)
      · refine go (fun _ kont => XS.icmpNo X'.here hx rfl (hb hby d_prog_23_method_3_13) rfl (flt hc13).1 kont) ?_
        show G (T'.setTop (mkF m 16 #[.val (.int (Int32.ofNat N)), .val (.int (Int32.ofNat D)), .val (.ref b), .val (.int (Int32.ofNat A)), .val (.int (Int32.ofNat (N / 10 ^ (A + D - u)))), .val (.int i)] []))
        rw [Int32.lt_iff_toInt_lt, own_ofN (by omega), hi] at hc13
        refine go (fun _ kont => XS.aloadN X'.here hx rfl (hb hby d_prog_23_method_3_16) rfl rfl kont) ?_
        show G (T'.setTop (mkF m 17 #[.val (.int (Int32.ofNat N)), .val (.int (Int32.ofNat D)), .val (.ref b), .val (.int (Int32.ofNat A)), .val (.int (Int32.ofNat (N / 10 ^ (A + D - u)))), .val (.int i)] [(.ref b)]))
        refine go (fun _ kont => XS.iload X'.here hx rfl (hb hby d_prog_23_method_3_17) rfl  kont) ?_
        show G (T'.setTop (mkF m 19 #[.val (.int (Int32.ofNat N)), .val (.int (Int32.ofNat D)), .val (.ref b), .val (.int (Int32.ofNat A)), .val (.int (Int32.ofNat (N / 10 ^ (A + D - u)))), .val (.int i)] [(.int i), (.ref b)]))
        refine go (fun _ kont => XS.bipush X'.here hx rfl (hb hby d_prog_23_method_3_19) kont) ?_
        show G (T'.setTop (mkF m 21 #[.val (.int (Int32.ofNat N)), .val (.int (Int32.ofNat D)), .val (.ref b), .val (.int (Int32.ofNat A)), .val (.int (Int32.ofNat (N / 10 ^ (A + D - u)))), .val (.int i)] [(.int (48 : Int32)), (.int i), (.ref b)]))
        refine go (fun _ kont => XS.iload X'.here hx rfl (hb hby d_prog_23_method_3_21) rfl  kont) ?_
        show G (T'.setTop (mkF m 23 #[.val (.int (Int32.ofNat N)), .val (.int (Int32.ofNat D)), .val (.ref b), .val (.int (Int32.ofNat A)), .val (.int (Int32.ofNat (N / 10 ^ (A + D - u)))), .val (.int i)] [(.int (Int32.ofNat (N / 10 ^ (A + D - u)))), (.int (48 : Int32)), (.int i), (.ref b)]))
        refine go (fun _ kont => XS.bipush X'.here hx rfl (hb hby d_prog_23_method_3_23) kont) ?_
        show G (T'.setTop (mkF m 25 #[.val (.int (Int32.ofNat N)), .val (.int (Int32.ofNat D)), .val (.ref b), .val (.int (Int32.ofNat A)), .val (.int (Int32.ofNat (N / 10 ^ (A + D - u)))), .val (.int i)] [(.int (10 : Int32)), (.int (Int32.ofNat (N / 10 ^ (A + D - u)))), (.int (48 : Int32)), (.int i), (.ref b)]))
        refine go (fun _ kont => XS.irem X'.here hx rfl (hb hby d_prog_23_method_3_25) rfl (by decide) kont) ?_
        show G (T'.setTop (mkF m 26 #[.val (.int (Int32.ofNat N)), .val (.int (Int32.ofNat D)), .val (.ref b), .val (.int (Int32.ofNat A)), .val (.int (Int32.ofNat (N / 10 ^ (A + D - u)))), .val (.int i)] [(.int ((Int32.ofNat (N / 10 ^ (A + D - u))) - ((Int32.ofNat (N / 10 ^ (A + D - u))) / (10 : Int32)) * (10 : Int32))), (.int (48 : Int32)), (.int i), (.ref b)]))
        rw [show ((Int32.ofNat (N / 10 ^ (A + D - u))) - ((Int32.ofNat (N / 10 ^ (A + D - u))) / (10 : Int32)) * (10 : Int32)) = (Int32.ofNat ((N / 10 ^ (A + D - u)) % 10)) from own_remO (b := 10) (by omega) (by omega) (by omega)]
        show G (T'.setTop (mkF m 26 #[.val (.int (Int32.ofNat N)), .val (.int (Int32.ofNat D)), .val (.ref b), .val (.int (Int32.ofNat A)), .val (.int (Int32.ofNat (N / 10 ^ (A + D - u)))), .val (.int i)] [(.int (Int32.ofNat ((N / 10 ^ (A + D - u)) % 10))), (.int (48 : Int32)), (.int i), (.ref b)]))
        refine go (fun _ kont => XS.iadd X'.here hx rfl (hb hby d_prog_23_method_3_26) rfl kont) ?_
        show G (T'.setTop (mkF m 27 #[.val (.int (Int32.ofNat N)), .val (.int (Int32.ofNat D)), .val (.ref b), .val (.int (Int32.ofNat A)), .val (.int (Int32.ofNat (N / 10 ^ (A + D - u)))), .val (.int i)] [(.int ((48 : Int32) + (Int32.ofNat ((N / 10 ^ (A + D - u)) % 10)))), (.int i), (.ref b)]))
        rw [show ((48 : Int32) + (Int32.ofNat ((N / 10 ^ (A + D - u)) % 10))) = (Int32.ofNat (48 + (N / 10 ^ (A + D - u)) % 10)) from own_addk 48 _]
        show G (T'.setTop (mkF m 27 #[.val (.int (Int32.ofNat N)), .val (.int (Int32.ofNat D)), .val (.ref b), .val (.int (Int32.ofNat A)), .val (.int (Int32.ofNat (N / 10 ^ (A + D - u)))), .val (.int i)] [(.int (Int32.ofNat (48 + (N / 10 ^ (A + D - u)) % 10))), (.int i), (.ref b)]))
        refine go (fun _ kont => XS.i2c X'.here hx rfl (hb hby d_prog_23_method_3_27) rfl kont) ?_
        show G (T'.setTop (mkF m 28 #[.val (.int (Int32.ofNat N)), .val (.int (Int32.ofNat D)), .val (.ref b), .val (.int (Int32.ofNat A)), .val (.int (Int32.ofNat (N / 10 ^ (A + D - u)))), .val (.int i)] [(.int (Int32.ofNat (48 + (N / 10 ^ (A + D - u)) % 10)).toUInt32.toUInt16.toUInt32.toInt32), (.int i), (.ref b)]))
        rw [show (Int32.ofNat (48 + (N / 10 ^ (A + D - u)) % 10)).toUInt32.toUInt16.toUInt32.toInt32 = (Int32.ofNat (48 + (N / 10 ^ (A + D - u)) % 10)) from own_i2c (by omega)]
        show G (T'.setTop (mkF m 28 #[.val (.int (Int32.ofNat N)), .val (.int (Int32.ofNat D)), .val (.ref b), .val (.int (Int32.ofNat A)), .val (.int (Int32.ofNat (N / 10 ^ (A + D - u)))), .val (.int i)] [(.int (Int32.ofNat (48 + (N / 10 ^ (A + D - u)) % 10))), (.int i), (.ref b)]))
        obtain ⟨cl, Ar, Sl, Ml⟩ := id Vz
        have hik : i.toNatClampNeg = u - 1 := by have := own_tn (j := i) (by omega); omega
        obtain ⟨T1, h1, X1, e1, W1, st1⟩ := stC X' hx hZ e' Ar (j := i) (own_hink Sl (own_neg (by omega)) (k := u - 1) hik (by rw [List.length_map]; omega)) (g := (mkF m 28 #[.val (.int (Int32.ofNat N)), .val (.int (Int32.ofNat D)), .val (.ref b), .val (.int (Int32.ofNat A)), .val (.int (Int32.ofNat (N / 10 ^ (A + D - u)))), .val (.int i)] [(.int (Int32.ofNat (48 + (N / 10 ^ (A + D - u)) % 10))), (.int i), (.ref b)])) rfl rfl (hb hby d_prog_23_method_3_28)
        refine go st1 ?_
        show G (T1.setTop (mkF m 29 #[.val (.int (Int32.ofNat N)), .val (.int (Int32.ofNat D)), .val (.ref b), .val (.int (Int32.ofNat A)), .val (.int (Int32.ofNat (N / 10 ^ (A + D - u)))), .val (.int i)] []))
        rw [own_narC (by omega)] at W1
        have V1 : own_V Z h1 b .char ((zs.set (u - 1) (Int32.ofNat (48 + (N / 10 ^ (A + D - u)) % 10))).map Value.int) := by rw [List.map_set]; exact own_V_set Vz W1 hik
        have K1 := K'.wr W1 (Or.inl (List.mem_of_getElem? (i := 0) rfl))
        have N1 := Fr.snoc X1 N' ga
        refine go (fun _ kont => XS.iload X1.here hx rfl (hb hby d_prog_23_method_3_29) rfl  kont) ?_
        show G (T1.setTop (mkF m 31 #[.val (.int (Int32.ofNat N)), .val (.int (Int32.ofNat D)), .val (.ref b), .val (.int (Int32.ofNat A)), .val (.int (Int32.ofNat (N / 10 ^ (A + D - u)))), .val (.int i)] [(.int (Int32.ofNat (N / 10 ^ (A + D - u))))]))
        refine go (fun _ kont => XS.bipush X1.here hx rfl (hb hby d_prog_23_method_3_31) kont) ?_
        show G (T1.setTop (mkF m 33 #[.val (.int (Int32.ofNat N)), .val (.int (Int32.ofNat D)), .val (.ref b), .val (.int (Int32.ofNat A)), .val (.int (Int32.ofNat (N / 10 ^ (A + D - u)))), .val (.int i)] [(.int (10 : Int32)), (.int (Int32.ofNat (N / 10 ^ (A + D - u))))]))
        refine go (fun _ kont => XS.idiv X1.here hx rfl (hb hby d_prog_23_method_3_33) rfl (by decide) kont) ?_
        show G (T1.setTop (mkF m 34 #[.val (.int (Int32.ofNat N)), .val (.int (Int32.ofNat D)), .val (.ref b), .val (.int (Int32.ofNat A)), .val (.int (Int32.ofNat (N / 10 ^ (A + D - u)))), .val (.int i)] [(.int ((Int32.ofNat (N / 10 ^ (A + D - u))) / (10 : Int32)))]))
        rw [show ((Int32.ofNat (N / 10 ^ (A + D - u))) / (10 : Int32)) = (Int32.ofNat ((N / 10 ^ (A + D - u)) / 10)) from own_divO (b := 10) (by omega) (by omega) (by omega)]
        show G (T1.setTop (mkF m 34 #[.val (.int (Int32.ofNat N)), .val (.int (Int32.ofNat D)), .val (.ref b), .val (.int (Int32.ofNat A)), .val (.int (Int32.ofNat (N / 10 ^ (A + D - u)))), .val (.int i)] [(.int (Int32.ofNat ((N / 10 ^ (A + D - u)) / 10)))]))
        rw [show (N / 10 ^ (A + D - u)) / 10 = (N / 10 ^ (A + D - (u - 1))) from own_div10 (by omega) (by omega)]
        show G (T1.setTop (mkF m 34 #[.val (.int (Int32.ofNat N)), .val (.int (Int32.ofNat D)), .val (.ref b), .val (.int (Int32.ofNat A)), .val (.int (Int32.ofNat (N / 10 ^ (A + D - u)))), .val (.int i)] [(.int (Int32.ofNat ((N / 10 ^ (A + D - (u - 1))))))]))
        refine go (fun _ kont => XS.istore X1.here hx rfl (hb hby d_prog_23_method_3_34) rfl (l' := #[.val (.int (Int32.ofNat N)), .val (.int (Int32.ofNat D)), .val (.ref b), .val (.int (Int32.ofNat A)), .val (.int (Int32.ofNat ((N / 10 ^ (A + D - (u - 1)))))), .val (.int i)]) rfl kont) ?_
        show G (T1.setTop (mkF m 36 #[.val (.int (Int32.ofNat N)), .val (.int (Int32.ofNat D)), .val (.ref b), .val (.int (Int32.ofNat A)), .val (.int (Int32.ofNat ((N / 10 ^ (A + D - (u - 1)))))), .val (.int i)] []))
        refine go (fun _ kont => XS.iinc X1.here hx rfl (hb hby d_prog_23_method_3_36) rfl (l' := #[.val (.int (Int32.ofNat N)), .val (.int (Int32.ofNat D)), .val (.ref b), .val (.int (Int32.ofNat A)), .val (.int (Int32.ofNat ((N / 10 ^ (A + D - (u - 1)))))), .val (.int (i + (-1 : Int32)))]) rfl kont) ?_
        show G (T1.setTop (mkF m 39 #[.val (.int (Int32.ofNat N)), .val (.int (Int32.ofNat D)), .val (.ref b), .val (.int (Int32.ofNat A)), .val (.int (Int32.ofNat ((N / 10 ^ (A + D - (u - 1)))))), .val (.int (i + (-1 : Int32)))] []))
        refine go (fun _ kont => XS.goto X1.here hx rfl (pc0 := 39) (pc' := 10) rfl (hb hby d_prog_23_method_3_39) (by decide) (by decide) kont) ?_
        show G (T1.setTop (mkF m 10 #[.val (.int (Int32.ofNat N)), .val (.int (Int32.ofNat D)), .val (.ref b), .val (.int (Int32.ofNat A)), .val (.int (Int32.ofNat ((N / 10 ^ (A + D - (u - 1)))))), .val (.int (i + (-1 : Int32)))] []))
        exact ih (u - 1) (by omega) (by omega) (by omega) _ (own_dec hi (by omega)) _ _ _ _ (by rw [List.length_set]; exact hzl) V1 (own_dg_step (by omega) (by omega) hAD hzl hz) K1 N1 X1 e1
  refine go (fun _ kont => XS.iloadN X0.here hx rfl (hb hby d_prog_23_method_3_0) rfl  kont) ?_
  show G (s₁.setTop (mkF m 1 #[.val (.int (Int32.ofNat N)), .val (.int (Int32.ofNat D)), .val (.ref b), .val (.int (Int32.ofNat A)), .unset, .unset] [(.int (Int32.ofNat N))]))
  refine go (fun _ kont => XS.istore X0.here hx rfl (hb hby d_prog_23_method_3_1) rfl (l' := #[.val (.int (Int32.ofNat N)), .val (.int (Int32.ofNat D)), .val (.ref b), .val (.int (Int32.ofNat A)), .val (.int (Int32.ofNat N)), .unset]) rfl kont) ?_
  show G (s₁.setTop (mkF m 3 #[.val (.int (Int32.ofNat N)), .val (.int (Int32.ofNat D)), .val (.ref b), .val (.int (Int32.ofNat A)), .val (.int (Int32.ofNat N)), .unset] []))
  refine go (fun _ kont => XS.iloadN X0.here hx rfl (hb hby d_prog_23_method_3_3) rfl  kont) ?_
  show G (s₁.setTop (mkF m 4 #[.val (.int (Int32.ofNat N)), .val (.int (Int32.ofNat D)), .val (.ref b), .val (.int (Int32.ofNat A)), .val (.int (Int32.ofNat N)), .unset] [(.int (Int32.ofNat A))]))
  refine go (fun _ kont => XS.iloadN X0.here hx rfl (hb hby d_prog_23_method_3_4) rfl  kont) ?_
  show G (s₁.setTop (mkF m 5 #[.val (.int (Int32.ofNat N)), .val (.int (Int32.ofNat D)), .val (.ref b), .val (.int (Int32.ofNat A)), .val (.int (Int32.ofNat N)), .unset] [(.int (Int32.ofNat D)), (.int (Int32.ofNat A))]))
  refine go (fun _ kont => XS.iadd X0.here hx rfl (hb hby d_prog_23_method_3_5) rfl kont) ?_
  show G (s₁.setTop (mkF m 6 #[.val (.int (Int32.ofNat N)), .val (.int (Int32.ofNat D)), .val (.ref b), .val (.int (Int32.ofNat A)), .val (.int (Int32.ofNat N)), .unset] [(.int ((Int32.ofNat A) + (Int32.ofNat D)))]))
  refine go (fun _ kont => XS.iconst X0.here hx rfl (hb hby d_prog_23_method_3_6) kont) ?_
  show G (s₁.setTop (mkF m 7 #[.val (.int (Int32.ofNat N)), .val (.int (Int32.ofNat D)), .val (.ref b), .val (.int (Int32.ofNat A)), .val (.int (Int32.ofNat N)), .unset] [(.int (1 : Int32)), (.int ((Int32.ofNat A) + (Int32.ofNat D)))]))
  refine go (fun _ kont => XS.isub X0.here hx rfl (hb hby d_prog_23_method_3_7) rfl kont) ?_
  show G (s₁.setTop (mkF m 8 #[.val (.int (Int32.ofNat N)), .val (.int (Int32.ofNat D)), .val (.ref b), .val (.int (Int32.ofNat A)), .val (.int (Int32.ofNat N)), .unset] [(.int (((Int32.ofNat A) + (Int32.ofNat D)) - (1 : Int32)))]))
  refine go (fun _ kont => XS.istore X0.here hx rfl (hb hby d_prog_23_method_3_8) rfl (l' := #[.val (.int (Int32.ofNat N)), .val (.int (Int32.ofNat D)), .val (.ref b), .val (.int (Int32.ofNat A)), .val (.int (Int32.ofNat N)), .val (.int (((Int32.ofNat A) + (Int32.ofNat D)) - (1 : Int32)))]) rfl kont) ?_
  show G (s₁.setTop (mkF m 10 #[.val (.int (Int32.ofNat N)), .val (.int (Int32.ofNat D)), .val (.ref b), .val (.int (Int32.ofNat A)), .val (.int (Int32.ofNat N)), .val (.int (((Int32.ofNat A) + (Int32.ofNat D)) - (1 : Int32)))] []))
  have hN0 : N / 10 ^ (A + D - (A + D)) = N := by rw [Nat.sub_self, Nat.pow_zero, Nat.div_one]
  have hst := loop (A + D - A + 1) (A + D) (by omega) (by omega) (by omega) _ (by rw [own_addk]; exact own_preI (by omega) : (((Int32.ofNat A) + (Int32.ofNat D)) - (1 : Int32)).toInt = ((A + D : Nat) : Int) - 1) ys _ _ _ hyl V (fun j hj => by rw [hys j hj, own_dg, if_neg (by omega)]) (Keep.refl _ _) N0 X0 e0
  rw [hN0] at hst
  exact hst
theorem own_ef_own_rm_check (m : MethodId) (x0 : Addr) (x1 : Int32) (x2 : Int64) (x3 : Int32) (x4 : Int32) (x5 : Int32) : entryFrame m #[(.ref x0), (.int x1), (.long x2), (.int x3), (.int x4), (.int x5)] 9 = mkF m 0 #[.val (.ref x0), .val (.int x1), .val (.long x2), .second, .val (.int x3), .val (.int x4), .val (.int x5), .unset, .unset] [] := by first | (simp [entryFrame, mkF, argsToLocals, Value.category]; done) | rfl
def own_Q_check (Z : State) (h0 : Heap) (n0 : Nat) (b : Addr) (cc : Int32)  (v : Option Value) (h : Heap) (L : List Loc) : Prop := v = some (.int (1 : Int32)) ∧ Fr n0 L ∧ Keep h0 h []
set_option maxRecDepth 65536 in
set_option maxHeartbeats 40000000 in
theorem own_rm_check (l : Launch) (Z : State) (a0 : Array Value) (hw : ∀ d ∈ tables_1, d.before a0 Z = true) (ws : List Jvm.Cond) (b : Addr) (cc : Int32) (h0 : Heap) (n0 : Nat) (Z0 : n0 ≤ h0.size) (I N D A : Nat) (hI : I < 14) (hN : N < 2147483648) (hD : D ≤ 12) (hAD : A + D ≤ 14) (zs : List Int32) (hzl : zs.length = 14) (V : own_V Z h0 b .char (zs.map Value.int)) (hz : zs.getD I 0 = own_dg N A D A cc I) :
    MetFree l (⟨"com/example/reckoner/reckoner/core/DigitsWritePinLaw", "check", "([CIJIIC)Z"⟩ : MethodName) (head1 (Jvm.Cond.code (⟨"com/example/reckoner/reckoner/core/DigitsWritePinLaw", "check", "([CIJIIC)Z"⟩ : MethodName) method_3_code 9 (some .boolean) :: ws) ({ frames := 1, cells := 1, slots := 12, locals := 16 } : Room)) (fun aq Uq => aq = #[(.ref b), (.int (Int32.ofNat I)), (.long (Int64.ofNat N)), (.int (Int32.ofNat D)), (.int (Int32.ofNat A)), (.int cc)] ∧ Z.Warmed39 Uq.vm ∧ Uq.heap = h0) (fun _ _ _ _ _ => True) (fun _ Uq oq Uq' => ∃ vq Lq, oq = .returned vq ∧ (own_Q_check Z h0 n0 b cc) vq Uq'.heap Lq ∧ FrameEnd Uq oq Uq' Lq ({ frames := 1, cells := 1, slots := 12, locals := 16 } : Room).cells ({ frames := 1, cells := 1, slots := 12, locals := 16 } : Room).slots) := by
  refine MetFree.of_bodySF (plainFor_of_name own_pn0) hisR ?_
  intro p e s m args below meth c s₁ Bd hml0 hP hK
  obtain ⟨rfl, hZ, hh⟩ := hP
  have hx := Bd.exec
  have hby := Bd.bytes
  have hml : c.maxLocals = 9 := hml0
  have hown : s.vm.findClass "com/example/reckoner/reckoner/core/DigitsWritePinLaw" = some m.cls := findClass_of_methodNamed Bd.named
  have hnm := (name_of_methodNamed Bd.named Bd.method).1
  have X0 : Stand p l e ({ frames := 1, cells := 1, slots := 12, locals := 16 } : Room) s m #[(.ref b), (.int (Int32.ofNat I)), (.long (Int64.ofNat N)), (.int (Int32.ofNat D)), (.int (Int32.ofNat A)), (.int cc)] below meth c s₁ [] 0 0 := Stand.of_body Bd
  have e0 : s₁.heap = h0 := by rw [← hh, Bd.state]; rfl
  have N0 := Fr.nil n0
  have hlk : meth.locks = false := by first | exact BodyLoose.notSynchronized Bd | exact Body.notSynchronized Bd
  obtain ⟨G, hG⟩ : ∃ G : State → Prop, G = own_G p e below s ({ frames := 1, cells := 1, slots := 12, locals := 16 } : Room).cells ({ frames := 1, cells := 1, slots := 12, locals := 16 } : Room).slots ((own_Q_check Z h0 n0 b cc)) := ⟨_, rfl⟩
  have go : ∀ {S S' : State}, (∀ t, Steps p.tables e below S' t → Steps p.tables e below S t) → G S' → G S := by rw [hG]; exact own_to
  suffices hs : G (s₁.setTop (mkF m 0 #[.val (.ref b), .val (.int (Int32.ofNat I)), .val (.long (Int64.ofNat N)), .second, .val (.int (Int32.ofNat D)), .val (.int (Int32.ofNat A)), .val (.int cc), .unset, .unset] [])) by
    rw [hG] at hs
    exact own_to (fun _ kont => castTop (own_ef_own_rm_check m b (Int32.ofNat I) (Int64.ofNat N) (Int32.ofNat D) (Int32.ofNat A) cc) kont) hs
  refine go (fun _ kont => XS.iloadN X0.here hx rfl (hb hby d_method_3_0) rfl  kont) ?_
  show G (s₁.setTop (mkF m 1 #[.val (.ref b), .val (.int (Int32.ofNat I)), .val (.long (Int64.ofNat N)), .second, .val (.int (Int32.ofNat D)), .val (.int (Int32.ofNat A)), .val (.int cc), .unset, .unset] [(.int (Int32.ofNat I))]))
  refine go (fun _ kont => XS.iload X0.here hx rfl (hb hby d_method_3_1) rfl  kont) ?_
  show G (s₁.setTop (mkF m 3 #[.val (.ref b), .val (.int (Int32.ofNat I)), .val (.long (Int64.ofNat N)), .second, .val (.int (Int32.ofNat D)), .val (.int (Int32.ofNat A)), .val (.int cc), .unset, .unset] [(.int (Int32.ofNat A)), (.int (Int32.ofNat I))]))
  by_cases hc3 : (Int32.ofNat I) < (Int32.ofNat A)
  · refine go (fun _ kont => XS.icmpYes X0.here hx rfl (pc0 := 3) (pc' := 15) rfl (hb hby d_method_3_3) rfl (tlt hc3).1 (by decide) (by decide) kont) ?_
    show G (s₁.setTop (mkF m 15 #[.val (.ref b), .val (.int (Int32.ofNat I)), .val (.long (Int64.ofNat N)), .second, .val (.int (Int32.ofNat D)), .val (.int (Int32.ofNat A)), .val (.int cc), .unset, .unset] []))
    rw [own_ltO (by omega) (by omega)] at hc3
    refine go (fun _ kont => XS.aloadN X0.here hx rfl (hb hby d_method_3_15) rfl rfl kont) ?_
    show G (s₁.setTop (mkF m 16 #[.val (.ref b), .val (.int (Int32.ofNat I)), .val (.long (Int64.ofNat N)), .second, .val (.int (Int32.ofNat D)), .val (.int (Int32.ofNat A)), .val (.int cc), .unset, .unset] [(.ref b)]))
    refine go (fun _ kont => XS.iloadN X0.here hx rfl (hb hby d_method_3_16) rfl  kont) ?_
    show G (s₁.setTop (mkF m 17 #[.val (.ref b), .val (.int (Int32.ofNat I)), .val (.long (Int64.ofNat N)), .second, .val (.int (Int32.ofNat D)), .val (.int (Int32.ofNat A)), .val (.int cc), .unset, .unset] [(.int (Int32.ofNat I)), (.ref b)]))
    obtain ⟨cl, Ar, Sl, Ml⟩ := id V
    refine go (fun _ kont => X0.caload hx (j := (Int32.ofNat I)) (v := (.int (zs.getD I 0))) (by rw [e0]; exact Ar.1) (State.isArrayOf_alike hZ.alike Ar.2.1) Ar.2.2 (own_hink Sl (own_neg (by rw [own_ofN (by omega)]; omega)) (own_tnO (by omega)) (k := I) (by rw [List.length_map]; omega)) (own_hatk Sl (own_tnO (by omega)) (own_atI (k := I) (by omega))) (g := (mkF m 17 #[.val (.ref b), .val (.int (Int32.ofNat I)), .val (.long (Int64.ofNat N)), .second, .val (.int (Int32.ofNat D)), .val (.int (Int32.ofNat A)), .val (.int cc), .unset, .unset] [(.int (Int32.ofNat I)), (.ref b)])) rfl rfl (hb hby d_method_3_17) _ kont) ?_
    show G (s₁.setTop (mkF m 18 #[.val (.ref b), .val (.int (Int32.ofNat I)), .val (.long (Int64.ofNat N)), .second, .val (.int (Int32.ofNat D)), .val (.int (Int32.ofNat A)), .val (.int cc), .unset, .unset] [(.int (zs.getD I 0))]))
    refine go (fun _ kont => XS.iload X0.here hx rfl (hb hby d_method_3_18) rfl  kont) ?_
    show G (s₁.setTop (mkF m 20 #[.val (.ref b), .val (.int (Int32.ofNat I)), .val (.long (Int64.ofNat N)), .second, .val (.int (Int32.ofNat D)), .val (.int (Int32.ofNat A)), .val (.int cc), .unset, .unset] [(.int cc), (.int (zs.getD I 0))]))
    refine go (fun _ kont => XS.icmpNo X0.here hx rfl (hb hby d_method_3_20) rfl (teq (by rw [hz, own_dg, if_neg (by omega)])).2 kont) ?_
    show G (s₁.setTop (mkF m 23 #[.val (.ref b), .val (.int (Int32.ofNat I)), .val (.long (Int64.ofNat N)), .second, .val (.int (Int32.ofNat D)), .val (.int (Int32.ofNat A)), .val (.int cc), .unset, .unset] []))
    refine go (fun _ kont => XS.iconst X0.here hx rfl (hb hby d_method_3_23) kont) ?_
    show G (s₁.setTop (mkF m 24 #[.val (.ref b), .val (.int (Int32.ofNat I)), .val (.long (Int64.ofNat N)), .second, .val (.int (Int32.ofNat D)), .val (.int (Int32.ofNat A)), .val (.int cc), .unset, .unset] [(.int (1 : Int32))]))
    refine go (fun _ kont => XS.goto X0.here hx rfl (pc0 := 24) (pc' := 28) rfl (hb hby d_method_3_24) (by decide) (by decide) kont) ?_
    show G (s₁.setTop (mkF m 28 #[.val (.ref b), .val (.int (Int32.ofNat I)), .val (.long (Int64.ofNat N)), .second, .val (.int (Int32.ofNat D)), .val (.int (Int32.ofNat A)), .val (.int cc), .unset, .unset] [(.int (1 : Int32))]))
    rw [hG]
    exact own_retN X0 hx (t := .boolean) Bd.returns (by simp) (hb hby d_method_3_28) hlk (by decide) (by decide) (by rw [e0]; exact ⟨rfl, N0, Keep.refl _ _⟩)
  · refine go (fun _ kont => XS.icmpNo X0.here hx rfl (hb hby d_method_3_3) rfl (flt hc3).1 kont) ?_
    show G (s₁.setTop (mkF m 6 #[.val (.ref b), .val (.int (Int32.ofNat I)), .val (.long (Int64.ofNat N)), .second, .val (.int (Int32.ofNat D)), .val (.int (Int32.ofNat A)), .val (.int cc), .unset, .unset] []))
    rw [own_ltO (by omega) (by omega)] at hc3
    refine go (fun _ kont => XS.iloadN X0.here hx rfl (hb hby d_method_3_6) rfl  kont) ?_
    show G (s₁.setTop (mkF m 7 #[.val (.ref b), .val (.int (Int32.ofNat I)), .val (.long (Int64.ofNat N)), .second, .val (.int (Int32.ofNat D)), .val (.int (Int32.ofNat A)), .val (.int cc), .unset, .unset] [(.int (Int32.ofNat I))]))
    refine go (fun _ kont => XS.iload X0.here hx rfl (hb hby d_method_3_7) rfl  kont) ?_
    show G (s₁.setTop (mkF m 9 #[.val (.ref b), .val (.int (Int32.ofNat I)), .val (.long (Int64.ofNat N)), .second, .val (.int (Int32.ofNat D)), .val (.int (Int32.ofNat A)), .val (.int cc), .unset, .unset] [(.int (Int32.ofNat A)), (.int (Int32.ofNat I))]))
    refine go (fun _ kont => XS.iload X0.here hx rfl (hb hby d_method_3_9) rfl  kont) ?_
    show G (s₁.setTop (mkF m 11 #[.val (.ref b), .val (.int (Int32.ofNat I)), .val (.long (Int64.ofNat N)), .second, .val (.int (Int32.ofNat D)), .val (.int (Int32.ofNat A)), .val (.int cc), .unset, .unset] [(.int (Int32.ofNat D)), (.int (Int32.ofNat A)), (.int (Int32.ofNat I))]))
    refine go (fun _ kont => XS.iadd X0.here hx rfl (hb hby d_method_3_11) rfl kont) ?_
    show G (s₁.setTop (mkF m 12 #[.val (.ref b), .val (.int (Int32.ofNat I)), .val (.long (Int64.ofNat N)), .second, .val (.int (Int32.ofNat D)), .val (.int (Int32.ofNat A)), .val (.int cc), .unset, .unset] [(.int ((Int32.ofNat A) + (Int32.ofNat D))), (.int (Int32.ofNat I))]))
    by_cases hc12 : (Int32.ofNat I) < ((Int32.ofNat A) + (Int32.ofNat D))
    · refine go (fun _ kont => XS.icmpYes X0.here hx rfl (pc0 := 12) (pc' := 29) rfl (hb hby d_method_3_12) rfl (tlt hc12).1 (by decide) (by decide) kont) ?_
      show G (s₁.setTop (mkF m 29 #[.val (.ref b), .val (.int (Int32.ofNat I)), .val (.long (Int64.ofNat N)), .second, .val (.int (Int32.ofNat D)), .val (.int (Int32.ofNat A)), .val (.int cc), .unset, .unset] []))
      rw [own_addk, own_ltO (by omega) (by omega)] at hc12
      refine go (fun _ kont => XS.iload X0.here hx rfl (hb hby d_method_3_29) rfl  kont) ?_
      show G (s₁.setTop (mkF m 31 #[.val (.ref b), .val (.int (Int32.ofNat I)), .val (.long (Int64.ofNat N)), .second, .val (.int (Int32.ofNat D)), .val (.int (Int32.ofNat A)), .val (.int cc), .unset, .unset] [(.int (Int32.ofNat A))]))
      refine go (fun _ kont => XS.iload X0.here hx rfl (hb hby d_method_3_31) rfl  kont) ?_
      show G (s₁.setTop (mkF m 33 #[.val (.ref b), .val (.int (Int32.ofNat I)), .val (.long (Int64.ofNat N)), .second, .val (.int (Int32.ofNat D)), .val (.int (Int32.ofNat A)), .val (.int cc), .unset, .unset] [(.int (Int32.ofNat D)), (.int (Int32.ofNat A))]))
      refine go (fun _ kont => XS.iadd X0.here hx rfl (hb hby d_method_3_33) rfl kont) ?_
      show G (s₁.setTop (mkF m 34 #[.val (.ref b), .val (.int (Int32.ofNat I)), .val (.long (Int64.ofNat N)), .second, .val (.int (Int32.ofNat D)), .val (.int (Int32.ofNat A)), .val (.int cc), .unset, .unset] [(.int ((Int32.ofNat A) + (Int32.ofNat D)))]))
      refine go (fun _ kont => XS.iconst X0.here hx rfl (hb hby d_method_3_34) kont) ?_
      show G (s₁.setTop (mkF m 35 #[.val (.ref b), .val (.int (Int32.ofNat I)), .val (.long (Int64.ofNat N)), .second, .val (.int (Int32.ofNat D)), .val (.int (Int32.ofNat A)), .val (.int cc), .unset, .unset] [(.int (1 : Int32)), (.int ((Int32.ofNat A) + (Int32.ofNat D)))]))
      refine go (fun _ kont => XS.isub X0.here hx rfl (hb hby d_method_3_35) rfl kont) ?_
      show G (s₁.setTop (mkF m 36 #[.val (.ref b), .val (.int (Int32.ofNat I)), .val (.long (Int64.ofNat N)), .second, .val (.int (Int32.ofNat D)), .val (.int (Int32.ofNat A)), .val (.int cc), .unset, .unset] [(.int (((Int32.ofNat A) + (Int32.ofNat D)) - (1 : Int32)))]))
      refine go (fun _ kont => XS.iloadN X0.here hx rfl (hb hby d_method_3_36) rfl  kont) ?_
      show G (s₁.setTop (mkF m 37 #[.val (.ref b), .val (.int (Int32.ofNat I)), .val (.long (Int64.ofNat N)), .second, .val (.int (Int32.ofNat D)), .val (.int (Int32.ofNat A)), .val (.int cc), .unset, .unset] [(.int (Int32.ofNat I)), (.int (((Int32.ofNat A) + (Int32.ofNat D)) - (1 : Int32)))]))
      refine go (fun _ kont => XS.isub X0.here hx rfl (hb hby d_method_3_37) rfl kont) ?_
      show G (s₁.setTop (mkF m 38 #[.val (.ref b), .val (.int (Int32.ofNat I)), .val (.long (Int64.ofNat N)), .second, .val (.int (Int32.ofNat D)), .val (.int (Int32.ofNat A)), .val (.int cc), .unset, .unset] [(.int ((((Int32.ofNat A) + (Int32.ofNat D)) - (1 : Int32)) - (Int32.ofNat I)))]))
      rw [show ((((Int32.ofNat A) + (Int32.ofNat D)) - (1 : Int32)) - (Int32.ofNat I)) = (Int32.ofNat (A + D - 1 - I)) from by rw [own_addk, show (1 : Int32) = Int32.ofNat 1 from rfl, own_subk (by omega), own_subk (by omega)]]
      show G (s₁.setTop (mkF m 38 #[.val (.ref b), .val (.int (Int32.ofNat I)), .val (.long (Int64.ofNat N)), .second, .val (.int (Int32.ofNat D)), .val (.int (Int32.ofNat A)), .val (.int cc), .unset, .unset] [(.int (Int32.ofNat (A + D - 1 - I)))]))
      refine go (fun _ kont => XS.istore X0.here hx rfl (hb hby d_method_3_38) rfl (l' := #[.val (.ref b), .val (.int (Int32.ofNat I)), .val (.long (Int64.ofNat N)), .second, .val (.int (Int32.ofNat D)), .val (.int (Int32.ofNat A)), .val (.int cc), .val (.int (Int32.ofNat (A + D - 1 - I))), .unset]) rfl kont) ?_
      show G (s₁.setTop (mkF m 40 #[.val (.ref b), .val (.int (Int32.ofNat I)), .val (.long (Int64.ofNat N)), .second, .val (.int (Int32.ofNat D)), .val (.int (Int32.ofNat A)), .val (.int cc), .val (.int (Int32.ofNat (A + D - 1 - I))), .unset] []))
      refine go (fun _ kont => XS.bipush X0.here hx rfl (hb hby d_method_3_40) kont) ?_
      show G (s₁.setTop (mkF m 42 #[.val (.ref b), .val (.int (Int32.ofNat I)), .val (.long (Int64.ofNat N)), .second, .val (.int (Int32.ofNat D)), .val (.int (Int32.ofNat A)), .val (.int cc), .val (.int (Int32.ofNat (A + D - 1 - I))), .unset] [(.int (48 : Int32))]))
      refine go (fun _ kont => XS.lloadN X0.here hx rfl (hb hby d_method_3_42) rfl  kont) ?_
      show G (s₁.setTop (mkF m 43 #[.val (.ref b), .val (.int (Int32.ofNat I)), .val (.long (Int64.ofNat N)), .second, .val (.int (Int32.ofNat D)), .val (.int (Int32.ofNat A)), .val (.int cc), .val (.int (Int32.ofNat (A + D - 1 - I))), .unset] [(.long (Int64.ofNat N)), (.int (48 : Int32))]))
      refine go (fun _ kont => XS.iload X0.here hx rfl (hb hby d_method_3_43) rfl  kont) ?_
      show G (s₁.setTop (mkF m 45 #[.val (.ref b), .val (.int (Int32.ofNat I)), .val (.long (Int64.ofNat N)), .second, .val (.int (Int32.ofNat D)), .val (.int (Int32.ofNat A)), .val (.int cc), .val (.int (Int32.ofNat (A + D - 1 - I))), .unset] [(.int (Int32.ofNat (A + D - 1 - I))), (.long (Int64.ofNat N)), (.int (48 : Int32))]))
      obtain ⟨_, _, ⟨T1, L1, k1, n1⟩, -, X1, ⟨Lc1, hQ1, l1, y1, z1⟩, st1⟩ := Jvm.LawKit.callS X0 hx (y := (⟨"com/example/reckoner/reckoner/core/DigitsWritePinLaw", "pow10", "(I)J"⟩ : MethodName)) hown (mvT hZ (hw _ (List.mem_of_getElem? (i := 11) rfl))) (mvT hZ (hw _ (List.mem_of_getElem? (i := 12) rfl))) (mvT hZ (hw _ (List.mem_of_getElem? (i := 9) rfl))) (mvT hZ (hw _ (List.mem_of_getElem? (i := 13) rfl))) (by decide) (backOf (W := 3) (own_rm_pow10 l Z a0 hw [] h0 n0 Z0 (A + D - 1 - I) (by omega)) hZ (hw _ (List.mem_of_getElem? (i := 13) rfl)) (hw _ (List.mem_of_getElem? (i := 9) rfl)) (by decide) (by decide)) (g := (mkF m 45 #[.val (.ref b), .val (.int (Int32.ofNat I)), .val (.long (Int64.ofNat N)), .second, .val (.int (Int32.ofNat D)), .val (.int (Int32.ofNat A)), .val (.int cc), .val (.int (Int32.ofNat (A + D - 1 - I))), .unset] [(.int (Int32.ofNat (A + D - 1 - I))), (.long (Int64.ofNat N)), (.int (48 : Int32))])) rfl (by rw [hml]; rfl) (argsL := [(.int (Int32.ofNat (A + D - 1 - I)))]) (rest := [(.long (Int64.ofNat N)), (.int (48 : Int32))]) (lenOf own_pd0 rfl) rfl (by show 2 * 0 + _ ≤ _; exact Nat.le_of_eq rfl) (hb hby d_method_3_45) (fun _ _ => ⟨rfl, e0, (by decide : 0 + 1 ≤ _), (by decide : 0 + 12 ≤ _)⟩)
      dsimp only [Pt.U, Pt.locs, Pt.cells, Pt.slots] at X1 l1 y1 z1 st1 hQ1
      obtain ⟨rfl, N1q, K1⟩ := hQ1
      have N1 : Fr n0 L1 := by rw [l1]; exact Fr.app N0 N1q
      have e1 : T1.heap = T1.heap := rfl
      rw [show k1 = 1 from y1, show n1 = 12 from z1] at X1
      refine go st1 ?_
      show G (T1.setTop (mkF m 48 #[.val (.ref b), .val (.int (Int32.ofNat I)), .val (.long (Int64.ofNat N)), .second, .val (.int (Int32.ofNat D)), .val (.int (Int32.ofNat A)), .val (.int cc), .val (.int (Int32.ofNat (A + D - 1 - I))), .unset] [(.long (Int64.ofNat (10 ^ (A + D - 1 - I)))), (.long (Int64.ofNat N)), (.int (48 : Int32))]))
      have V1 := own_V_keep V K1 own_ni_0
      have hp := own_p12 (A + D - 1 - I) (by omega)
      generalize hTen : 10 ^ (A + D - 1 - I) = ten at *
      have hnz : Int64.ofNat ten ≠ 0 := fun z => by have := congrArg Int64.toInt z; rw [own_toI64 hp.1, show (0 : Int64).toInt = 0 by decide] at this; omega
      show G (T1.setTop (mkF m 48 #[.val (.ref b), .val (.int (Int32.ofNat I)), .val (.long (Int64.ofNat N)), .second, .val (.int (Int32.ofNat D)), .val (.int (Int32.ofNat A)), .val (.int cc), .val (.int (Int32.ofNat (A + D - 1 - I))), .unset] [(.long (Int64.ofNat ten)), (.long (Int64.ofNat N)), (.int (48 : Int32))]))
      refine go (fun _ kont => XS.ldiv X1.here hx rfl (hb hby d_method_3_48) rfl hnz kont) ?_
      show G (T1.setTop (mkF m 49 #[.val (.ref b), .val (.int (Int32.ofNat I)), .val (.long (Int64.ofNat N)), .second, .val (.int (Int32.ofNat D)), .val (.int (Int32.ofNat A)), .val (.int cc), .val (.int (Int32.ofNat (A + D - 1 - I))), .unset] [(.long ((Int64.ofNat N) / (Int64.ofNat ten))), (.int (48 : Int32))]))
      rw [show ((Int64.ofNat N) / (Int64.ofNat ten)) = (Int64.ofNat (N / ten)) from own_divJ (by omega) hp.1 hp.2]
      show G (T1.setTop (mkF m 49 #[.val (.ref b), .val (.int (Int32.ofNat I)), .val (.long (Int64.ofNat N)), .second, .val (.int (Int32.ofNat D)), .val (.int (Int32.ofNat A)), .val (.int cc), .val (.int (Int32.ofNat (A + D - 1 - I))), .unset] [(.long (Int64.ofNat (N / ten))), (.int (48 : Int32))]))
      have hq : N / ten < 2147483648 := Nat.lt_of_le_of_lt (Nat.div_le_self _ _) hN
      refine go (fun _ kont => X1.ldc2Long hx hown (mvT hZ (hw _ (List.mem_of_getElem? (i := 15) rfl))) (g := (mkF m 49 #[.val (.ref b), .val (.int (Int32.ofNat I)), .val (.long (Int64.ofNat N)), .second, .val (.int (Int32.ofNat D)), .val (.int (Int32.ofNat A)), .val (.int cc), .val (.int (Int32.ofNat (A + D - 1 - I))), .unset] [(.long (Int64.ofNat (N / ten))), (.int (48 : Int32))])) rfl (hb hby d_method_3_49) _ kont) ?_
      show G (T1.setTop (mkF m 52 #[.val (.ref b), .val (.int (Int32.ofNat I)), .val (.long (Int64.ofNat N)), .second, .val (.int (Int32.ofNat D)), .val (.int (Int32.ofNat A)), .val (.int cc), .val (.int (Int32.ofNat (A + D - 1 - I))), .unset] [(.long (10 : Int64)), (.long (Int64.ofNat (N / ten))), (.int (48 : Int32))]))
      refine go (fun _ kont => XS.lrem X1.here hx rfl (hb hby d_method_3_52) rfl (by decide) kont) ?_
      show G (T1.setTop (mkF m 53 #[.val (.ref b), .val (.int (Int32.ofNat I)), .val (.long (Int64.ofNat N)), .second, .val (.int (Int32.ofNat D)), .val (.int (Int32.ofNat A)), .val (.int cc), .val (.int (Int32.ofNat (A + D - 1 - I))), .unset] [(.long ((Int64.ofNat (N / ten)) - ((Int64.ofNat (N / ten)) / (10 : Int64)) * (10 : Int64))), (.int (48 : Int32))]))
      rw [show ((Int64.ofNat (N / ten)) - ((Int64.ofNat (N / ten)) / (10 : Int64)) * (10 : Int64)) = (Int64.ofNat (N / ten % 10)) from own_remJ (b := 10) (by omega) (by omega) (by omega)]
      show G (T1.setTop (mkF m 53 #[.val (.ref b), .val (.int (Int32.ofNat I)), .val (.long (Int64.ofNat N)), .second, .val (.int (Int32.ofNat D)), .val (.int (Int32.ofNat A)), .val (.int cc), .val (.int (Int32.ofNat (A + D - 1 - I))), .unset] [(.long (Int64.ofNat (N / ten % 10))), (.int (48 : Int32))]))
      refine go (fun _ kont => XS.l2i X1.here hx rfl (hb hby d_method_3_53) rfl kont) ?_
      show G (T1.setTop (mkF m 54 #[.val (.ref b), .val (.int (Int32.ofNat I)), .val (.long (Int64.ofNat N)), .second, .val (.int (Int32.ofNat D)), .val (.int (Int32.ofNat A)), .val (.int cc), .val (.int (Int32.ofNat (A + D - 1 - I))), .unset] [(.int (Int64.ofNat (N / ten % 10)).toInt32), (.int (48 : Int32))]))
      rw [show (Int64.ofNat (N / ten % 10)).toInt32 = (Int32.ofNat (N / ten % 10)) from own_l2i (by omega)]
      show G (T1.setTop (mkF m 54 #[.val (.ref b), .val (.int (Int32.ofNat I)), .val (.long (Int64.ofNat N)), .second, .val (.int (Int32.ofNat D)), .val (.int (Int32.ofNat A)), .val (.int cc), .val (.int (Int32.ofNat (A + D - 1 - I))), .unset] [(.int (Int32.ofNat (N / ten % 10))), (.int (48 : Int32))]))
      refine go (fun _ kont => XS.iadd X1.here hx rfl (hb hby d_method_3_54) rfl kont) ?_
      show G (T1.setTop (mkF m 55 #[.val (.ref b), .val (.int (Int32.ofNat I)), .val (.long (Int64.ofNat N)), .second, .val (.int (Int32.ofNat D)), .val (.int (Int32.ofNat A)), .val (.int cc), .val (.int (Int32.ofNat (A + D - 1 - I))), .unset] [(.int ((48 : Int32) + (Int32.ofNat (N / ten % 10))))]))
      rw [show ((48 : Int32) + (Int32.ofNat (N / ten % 10))) = (Int32.ofNat (48 + N / ten % 10)) from own_addk 48 _]
      show G (T1.setTop (mkF m 55 #[.val (.ref b), .val (.int (Int32.ofNat I)), .val (.long (Int64.ofNat N)), .second, .val (.int (Int32.ofNat D)), .val (.int (Int32.ofNat A)), .val (.int cc), .val (.int (Int32.ofNat (A + D - 1 - I))), .unset] [(.int (Int32.ofNat (48 + N / ten % 10)))]))
      refine go (fun _ kont => XS.i2c X1.here hx rfl (hb hby d_method_3_55) rfl kont) ?_
      show G (T1.setTop (mkF m 56 #[.val (.ref b), .val (.int (Int32.ofNat I)), .val (.long (Int64.ofNat N)), .second, .val (.int (Int32.ofNat D)), .val (.int (Int32.ofNat A)), .val (.int cc), .val (.int (Int32.ofNat (A + D - 1 - I))), .unset] [(.int (Int32.ofNat (48 + N / ten % 10)).toUInt32.toUInt16.toUInt32.toInt32)]))
      rw [show (Int32.ofNat (48 + N / ten % 10)).toUInt32.toUInt16.toUInt32.toInt32 = (Int32.ofNat (48 + N / ten % 10)) from own_i2c (by omega)]
      show G (T1.setTop (mkF m 56 #[.val (.ref b), .val (.int (Int32.ofNat I)), .val (.long (Int64.ofNat N)), .second, .val (.int (Int32.ofNat D)), .val (.int (Int32.ofNat A)), .val (.int cc), .val (.int (Int32.ofNat (A + D - 1 - I))), .unset] [(.int (Int32.ofNat (48 + N / ten % 10)))]))
      refine go (fun _ kont => XS.istore X1.here hx rfl (hb hby d_method_3_56) rfl (l' := #[.val (.ref b), .val (.int (Int32.ofNat I)), .val (.long (Int64.ofNat N)), .second, .val (.int (Int32.ofNat D)), .val (.int (Int32.ofNat A)), .val (.int cc), .val (.int (Int32.ofNat (A + D - 1 - I))), .val (.int (Int32.ofNat (48 + N / ten % 10)))]) rfl kont) ?_
      show G (T1.setTop (mkF m 58 #[.val (.ref b), .val (.int (Int32.ofNat I)), .val (.long (Int64.ofNat N)), .second, .val (.int (Int32.ofNat D)), .val (.int (Int32.ofNat A)), .val (.int cc), .val (.int (Int32.ofNat (A + D - 1 - I))), .val (.int (Int32.ofNat (48 + N / ten % 10)))] []))
      refine go (fun _ kont => XS.aloadN X1.here hx rfl (hb hby d_method_3_58) rfl rfl kont) ?_
      show G (T1.setTop (mkF m 59 #[.val (.ref b), .val (.int (Int32.ofNat I)), .val (.long (Int64.ofNat N)), .second, .val (.int (Int32.ofNat D)), .val (.int (Int32.ofNat A)), .val (.int cc), .val (.int (Int32.ofNat (A + D - 1 - I))), .val (.int (Int32.ofNat (48 + N / ten % 10)))] [(.ref b)]))
      refine go (fun _ kont => XS.iloadN X1.here hx rfl (hb hby d_method_3_59) rfl  kont) ?_
      show G (T1.setTop (mkF m 60 #[.val (.ref b), .val (.int (Int32.ofNat I)), .val (.long (Int64.ofNat N)), .second, .val (.int (Int32.ofNat D)), .val (.int (Int32.ofNat A)), .val (.int cc), .val (.int (Int32.ofNat (A + D - 1 - I))), .val (.int (Int32.ofNat (48 + N / ten % 10)))] [(.int (Int32.ofNat I)), (.ref b)]))
      obtain ⟨cl, Ar, Sl, Ml⟩ := id V1
      refine go (fun _ kont => X1.caload hx (j := (Int32.ofNat I)) (v := (.int (zs.getD I 0))) (by rw [e1]; exact Ar.1) (State.isArrayOf_alike hZ.alike Ar.2.1) Ar.2.2 (own_hink Sl (own_neg (by rw [own_ofN (by omega)]; omega)) (own_tnO (by omega)) (k := I) (by rw [List.length_map]; omega)) (own_hatk Sl (own_tnO (by omega)) (own_atI (k := I) (by omega))) (g := (mkF m 60 #[.val (.ref b), .val (.int (Int32.ofNat I)), .val (.long (Int64.ofNat N)), .second, .val (.int (Int32.ofNat D)), .val (.int (Int32.ofNat A)), .val (.int cc), .val (.int (Int32.ofNat (A + D - 1 - I))), .val (.int (Int32.ofNat (48 + N / ten % 10)))] [(.int (Int32.ofNat I)), (.ref b)])) rfl rfl (hb hby d_method_3_60) _ kont) ?_
      show G (T1.setTop (mkF m 61 #[.val (.ref b), .val (.int (Int32.ofNat I)), .val (.long (Int64.ofNat N)), .second, .val (.int (Int32.ofNat D)), .val (.int (Int32.ofNat A)), .val (.int cc), .val (.int (Int32.ofNat (A + D - 1 - I))), .val (.int (Int32.ofNat (48 + N / ten % 10)))] [(.int (zs.getD I 0))]))
      refine go (fun _ kont => XS.iload X1.here hx rfl (hb hby d_method_3_61) rfl  kont) ?_
      show G (T1.setTop (mkF m 63 #[.val (.ref b), .val (.int (Int32.ofNat I)), .val (.long (Int64.ofNat N)), .second, .val (.int (Int32.ofNat D)), .val (.int (Int32.ofNat A)), .val (.int cc), .val (.int (Int32.ofNat (A + D - 1 - I))), .val (.int (Int32.ofNat (48 + N / ten % 10)))] [(.int (Int32.ofNat (48 + N / ten % 10))), (.int (zs.getD I 0))]))
      refine go (fun _ kont => XS.icmpNo X1.here hx rfl (hb hby d_method_3_63) rfl (teq (by rw [hz, own_dg, if_pos (by omega), hTen])).2 kont) ?_
      show G (T1.setTop (mkF m 66 #[.val (.ref b), .val (.int (Int32.ofNat I)), .val (.long (Int64.ofNat N)), .second, .val (.int (Int32.ofNat D)), .val (.int (Int32.ofNat A)), .val (.int cc), .val (.int (Int32.ofNat (A + D - 1 - I))), .val (.int (Int32.ofNat (48 + N / ten % 10)))] []))
      refine go (fun _ kont => XS.iconst X1.here hx rfl (hb hby d_method_3_66) kont) ?_
      show G (T1.setTop (mkF m 67 #[.val (.ref b), .val (.int (Int32.ofNat I)), .val (.long (Int64.ofNat N)), .second, .val (.int (Int32.ofNat D)), .val (.int (Int32.ofNat A)), .val (.int cc), .val (.int (Int32.ofNat (A + D - 1 - I))), .val (.int (Int32.ofNat (48 + N / ten % 10)))] [(.int (1 : Int32))]))
      refine go (fun _ kont => XS.goto X1.here hx rfl (pc0 := 67) (pc' := 71) rfl (hb hby d_method_3_67) (by decide) (by decide) kont) ?_
      show G (T1.setTop (mkF m 71 #[.val (.ref b), .val (.int (Int32.ofNat I)), .val (.long (Int64.ofNat N)), .second, .val (.int (Int32.ofNat D)), .val (.int (Int32.ofNat A)), .val (.int cc), .val (.int (Int32.ofNat (A + D - 1 - I))), .val (.int (Int32.ofNat (48 + N / ten % 10)))] [(.int (1 : Int32))]))
      rw [hG]
      exact own_retN X1 hx (t := .boolean) Bd.returns (by simp) (hb hby d_method_3_71) hlk (by decide) (by decide) (by rw [e1]; exact ⟨rfl, N1, K1⟩)
    · refine go (fun _ kont => XS.icmpNo X0.here hx rfl (hb hby d_method_3_12) rfl (flt hc12).1 kont) ?_
      show G (s₁.setTop (mkF m 15 #[.val (.ref b), .val (.int (Int32.ofNat I)), .val (.long (Int64.ofNat N)), .second, .val (.int (Int32.ofNat D)), .val (.int (Int32.ofNat A)), .val (.int cc), .unset, .unset] []))
      rw [own_addk, own_ltO (by omega) (by omega)] at hc12
      refine go (fun _ kont => XS.aloadN X0.here hx rfl (hb hby d_method_3_15) rfl rfl kont) ?_
      show G (s₁.setTop (mkF m 16 #[.val (.ref b), .val (.int (Int32.ofNat I)), .val (.long (Int64.ofNat N)), .second, .val (.int (Int32.ofNat D)), .val (.int (Int32.ofNat A)), .val (.int cc), .unset, .unset] [(.ref b)]))
      refine go (fun _ kont => XS.iloadN X0.here hx rfl (hb hby d_method_3_16) rfl  kont) ?_
      show G (s₁.setTop (mkF m 17 #[.val (.ref b), .val (.int (Int32.ofNat I)), .val (.long (Int64.ofNat N)), .second, .val (.int (Int32.ofNat D)), .val (.int (Int32.ofNat A)), .val (.int cc), .unset, .unset] [(.int (Int32.ofNat I)), (.ref b)]))
      obtain ⟨cl, Ar, Sl, Ml⟩ := id V
      refine go (fun _ kont => X0.caload hx (j := (Int32.ofNat I)) (v := (.int (zs.getD I 0))) (by rw [e0]; exact Ar.1) (State.isArrayOf_alike hZ.alike Ar.2.1) Ar.2.2 (own_hink Sl (own_neg (by rw [own_ofN (by omega)]; omega)) (own_tnO (by omega)) (k := I) (by rw [List.length_map]; omega)) (own_hatk Sl (own_tnO (by omega)) (own_atI (k := I) (by omega))) (g := (mkF m 17 #[.val (.ref b), .val (.int (Int32.ofNat I)), .val (.long (Int64.ofNat N)), .second, .val (.int (Int32.ofNat D)), .val (.int (Int32.ofNat A)), .val (.int cc), .unset, .unset] [(.int (Int32.ofNat I)), (.ref b)])) rfl rfl (hb hby d_method_3_17) _ kont) ?_
      show G (s₁.setTop (mkF m 18 #[.val (.ref b), .val (.int (Int32.ofNat I)), .val (.long (Int64.ofNat N)), .second, .val (.int (Int32.ofNat D)), .val (.int (Int32.ofNat A)), .val (.int cc), .unset, .unset] [(.int (zs.getD I 0))]))
      refine go (fun _ kont => XS.iload X0.here hx rfl (hb hby d_method_3_18) rfl  kont) ?_
      show G (s₁.setTop (mkF m 20 #[.val (.ref b), .val (.int (Int32.ofNat I)), .val (.long (Int64.ofNat N)), .second, .val (.int (Int32.ofNat D)), .val (.int (Int32.ofNat A)), .val (.int cc), .unset, .unset] [(.int cc), (.int (zs.getD I 0))]))
      refine go (fun _ kont => XS.icmpNo X0.here hx rfl (hb hby d_method_3_20) rfl (teq (by rw [hz, own_dg, if_neg (by omega)])).2 kont) ?_
      show G (s₁.setTop (mkF m 23 #[.val (.ref b), .val (.int (Int32.ofNat I)), .val (.long (Int64.ofNat N)), .second, .val (.int (Int32.ofNat D)), .val (.int (Int32.ofNat A)), .val (.int cc), .unset, .unset] []))
      refine go (fun _ kont => XS.iconst X0.here hx rfl (hb hby d_method_3_23) kont) ?_
      show G (s₁.setTop (mkF m 24 #[.val (.ref b), .val (.int (Int32.ofNat I)), .val (.long (Int64.ofNat N)), .second, .val (.int (Int32.ofNat D)), .val (.int (Int32.ofNat A)), .val (.int cc), .unset, .unset] [(.int (1 : Int32))]))
      refine go (fun _ kont => XS.goto X0.here hx rfl (pc0 := 24) (pc' := 28) rfl (hb hby d_method_3_24) (by decide) (by decide) kont) ?_
      show G (s₁.setTop (mkF m 28 #[.val (.ref b), .val (.int (Int32.ofNat I)), .val (.long (Int64.ofNat N)), .second, .val (.int (Int32.ofNat D)), .val (.int (Int32.ofNat A)), .val (.int cc), .unset, .unset] [(.int (1 : Int32))]))
      rw [hG]
      exact own_retN X0 hx (t := .boolean) Bd.returns (by simp) (hb hby d_method_3_28) hlk (by decide) (by decide) (by rw [e0]; exact ⟨rfl, N0, Keep.refl _ _⟩)
theorem own_ef_own_rm_law (m : MethodId) (x0 : Int32) (x1 : Int32) (x2 : Int32) (x3 : Int32) : entryFrame m #[(.int x0), (.int x1), (.int x2), (.int x3)] maxLocals = mkF m 0 #[.val (.int x0), .val (.int x1), .val (.int x2), .val (.int x3), .unset, .unset, .unset, .unset, .unset, .unset, .unset, .unset, .unset] [] := by first | (simp [entryFrame, mkF, argsToLocals, Value.category, maxLocals]; done) | rfl
set_option maxRecDepth 65536 in
set_option maxHeartbeats 40000000 in
theorem own_rm_law (l : Launch) (Z : State) (a0 : Array Value) (hw : ∀ d ∈ tables_1, d.before a0 Z = true) (ws : List Jvm.Cond) (p1 : Int32) (p2 : Int32) (p3 : Int32) (p4 : Int32) (h0 : Heap) (n0 : Nat) (Z0 : n0 ≤ h0.size)  :
    MetFree l x (head1 (Jvm.Cond.code x code maxLocals ret :: ws) room_1) (fun aq Uq => aq = #[(.int p1), (.int p2), (.int p3), (.int p4)] ∧ Z.Warmed39 Uq.vm ∧ Uq.heap = h0) (fun _ _ _ _ _ => True) (fun _ Uq oq Uq' => ∃ vq Lq, oq = .returned vq ∧ (own_Ql n0) vq Uq'.heap Lq ∧ FrameEnd Uq oq Uq' Lq room_1.cells room_1.slots) := by
  refine MetFree.of_bodySF (plainFor_of_name own_pn0) hisR ?_
  intro p e s m args below meth c s₁ Bd hml0 hP hK
  obtain ⟨rfl, hZ, hh⟩ := hP
  have hx := Bd.exec
  have hby := Bd.bytes
  have hml : c.maxLocals = 13 := hml0
  have hown : s.vm.findClass "com/example/reckoner/reckoner/core/DigitsWritePinLaw" = some m.cls := findClass_of_methodNamed Bd.named
  have hnm := (name_of_methodNamed Bd.named Bd.method).1
  have X0 : Stand p l e room_1 s m #[(.int p1), (.int p2), (.int p3), (.int p4)] below meth c s₁ [] 0 0 := Stand.of_body Bd
  have e0 : s₁.heap = h0 := by rw [← hh, Bd.state]; rfl
  have N0 := Fr.nil n0
  have hlk : meth.locks = false := by first | exact BodyLoose.notSynchronized Bd | exact Body.notSynchronized Bd
  obtain ⟨G, hG⟩ : ∃ G : State → Prop, G = own_G p e below s room_1.cells room_1.slots ((own_Ql n0)) := ⟨_, rfl⟩
  have go : ∀ {S S' : State}, (∀ t, Steps p.tables e below S' t → Steps p.tables e below S t) → G S' → G S := by rw [hG]; exact own_to
  suffices hs : G (s₁.setTop (mkF m 0 #[.val (.int p1), .val (.int p2), .val (.int p3), .val (.int p4), .unset, .unset, .unset, .unset, .unset, .unset, .unset, .unset, .unset] [])) by
    rw [hG] at hs
    exact own_to (fun _ kont => castTop (own_ef_own_rm_law m p1 p2 p3 p4) kont) hs
  refine go (fun _ kont => XS.iloadN X0.here hx rfl (hb hby at_0) rfl  kont) ?_
  show G (s₁.setTop (mkF m 1 #[.val (.int p1), .val (.int p2), .val (.int p3), .val (.int p4), .unset, .unset, .unset, .unset, .unset, .unset, .unset, .unset, .unset] [(.int p1)]))
  refine go (fun _ kont => X0.ldcInt hx hown (mvT hZ (hw _ (List.mem_of_getElem? (i := 0) rfl))) (g := (mkF m 1 #[.val (.int p1), .val (.int p2), .val (.int p3), .val (.int p4), .unset, .unset, .unset, .unset, .unset, .unset, .unset, .unset, .unset] [(.int p1)])) rfl (hb hby at_1) _ kont) ?_
  show G (s₁.setTop (mkF m 3 #[.val (.int p1), .val (.int p2), .val (.int p3), .val (.int p4), .unset, .unset, .unset, .unset, .unset, .unset, .unset, .unset, .unset] [(.int (2147483647 : Int32)), (.int p1)]))
  refine go (fun _ kont => XS.iand X0.here hx rfl (hb hby at_3) rfl kont) ?_
  show G (s₁.setTop (mkF m 4 #[.val (.int p1), .val (.int p2), .val (.int p3), .val (.int p4), .unset, .unset, .unset, .unset, .unset, .unset, .unset, .unset, .unset] [(.int (p1 &&& (2147483647 : Int32)))]))
  obtain ⟨N, hN, eN⟩ := own_num p1
  rw [eN]
  show G (s₁.setTop (mkF m 4 #[.val (.int p1), .val (.int p2), .val (.int p3), .val (.int p4), .unset, .unset, .unset, .unset, .unset, .unset, .unset, .unset, .unset] [(.int (Int32.ofNat N))]))
  refine go (fun _ kont => XS.istore X0.here hx rfl (hb hby at_4) rfl (l' := #[.val (.int p1), .val (.int p2), .val (.int p3), .val (.int p4), .val (.int (Int32.ofNat N)), .unset, .unset, .unset, .unset, .unset, .unset, .unset, .unset]) rfl kont) ?_
  show G (s₁.setTop (mkF m 6 #[.val (.int p1), .val (.int p2), .val (.int p3), .val (.int p4), .val (.int (Int32.ofNat N)), .unset, .unset, .unset, .unset, .unset, .unset, .unset, .unset] []))
  refine go (fun _ kont => XS.iloadN X0.here hx rfl (hb hby at_6) rfl  kont) ?_
  show G (s₁.setTop (mkF m 7 #[.val (.int p1), .val (.int p2), .val (.int p3), .val (.int p4), .val (.int (Int32.ofNat N)), .unset, .unset, .unset, .unset, .unset, .unset, .unset, .unset] [(.int p2)]))
  refine go (fun _ kont => X0.ldcInt hx hown (mvT hZ (hw _ (List.mem_of_getElem? (i := 0) rfl))) (g := (mkF m 7 #[.val (.int p1), .val (.int p2), .val (.int p3), .val (.int p4), .val (.int (Int32.ofNat N)), .unset, .unset, .unset, .unset, .unset, .unset, .unset, .unset] [(.int p2)])) rfl (hb hby at_7) _ kont) ?_
  show G (s₁.setTop (mkF m 9 #[.val (.int p1), .val (.int p2), .val (.int p3), .val (.int p4), .val (.int (Int32.ofNat N)), .unset, .unset, .unset, .unset, .unset, .unset, .unset, .unset] [(.int (2147483647 : Int32)), (.int p2)]))
  refine go (fun _ kont => XS.iand X0.here hx rfl (hb hby at_9) rfl kont) ?_
  show G (s₁.setTop (mkF m 10 #[.val (.int p1), .val (.int p2), .val (.int p3), .val (.int p4), .val (.int (Int32.ofNat N)), .unset, .unset, .unset, .unset, .unset, .unset, .unset, .unset] [(.int (p2 &&& (2147483647 : Int32)))]))
  refine go (fun _ kont => XS.bipush X0.here hx rfl (hb hby at_10) kont) ?_
  show G (s₁.setTop (mkF m 12 #[.val (.int p1), .val (.int p2), .val (.int p3), .val (.int p4), .val (.int (Int32.ofNat N)), .unset, .unset, .unset, .unset, .unset, .unset, .unset, .unset] [(.int (13 : Int32)), (.int (p2 &&& (2147483647 : Int32)))]))
  refine go (fun _ kont => XS.irem X0.here hx rfl (hb hby at_12) rfl (by decide) kont) ?_
  show G (s₁.setTop (mkF m 13 #[.val (.int p1), .val (.int p2), .val (.int p3), .val (.int p4), .val (.int (Int32.ofNat N)), .unset, .unset, .unset, .unset, .unset, .unset, .unset, .unset] [(.int ((p2 &&& (2147483647 : Int32)) - ((p2 &&& (2147483647 : Int32)) / (13 : Int32)) * (13 : Int32)))]))
  obtain ⟨D, hD, eD⟩ := own_start p2 (13 : Int32) 13 (by decide) (by decide)
  rw [eD]
  show G (s₁.setTop (mkF m 13 #[.val (.int p1), .val (.int p2), .val (.int p3), .val (.int p4), .val (.int (Int32.ofNat N)), .unset, .unset, .unset, .unset, .unset, .unset, .unset, .unset] [(.int (Int32.ofNat D))]))
  refine go (fun _ kont => XS.istore X0.here hx rfl (hb hby at_13) rfl (l' := #[.val (.int p1), .val (.int p2), .val (.int p3), .val (.int p4), .val (.int (Int32.ofNat N)), .val (.int (Int32.ofNat D)), .unset, .unset, .unset, .unset, .unset, .unset, .unset]) rfl kont) ?_
  show G (s₁.setTop (mkF m 15 #[.val (.int p1), .val (.int p2), .val (.int p3), .val (.int p4), .val (.int (Int32.ofNat N)), .val (.int (Int32.ofNat D)), .unset, .unset, .unset, .unset, .unset, .unset, .unset] []))
  refine go (fun _ kont => XS.iloadN X0.here hx rfl (hb hby at_15) rfl  kont) ?_
  show G (s₁.setTop (mkF m 16 #[.val (.int p1), .val (.int p2), .val (.int p3), .val (.int p4), .val (.int (Int32.ofNat N)), .val (.int (Int32.ofNat D)), .unset, .unset, .unset, .unset, .unset, .unset, .unset] [(.int p3)]))
  refine go (fun _ kont => X0.ldcInt hx hown (mvT hZ (hw _ (List.mem_of_getElem? (i := 0) rfl))) (g := (mkF m 16 #[.val (.int p1), .val (.int p2), .val (.int p3), .val (.int p4), .val (.int (Int32.ofNat N)), .val (.int (Int32.ofNat D)), .unset, .unset, .unset, .unset, .unset, .unset, .unset] [(.int p3)])) rfl (hb hby at_16) _ kont) ?_
  show G (s₁.setTop (mkF m 18 #[.val (.int p1), .val (.int p2), .val (.int p3), .val (.int p4), .val (.int (Int32.ofNat N)), .val (.int (Int32.ofNat D)), .unset, .unset, .unset, .unset, .unset, .unset, .unset] [(.int (2147483647 : Int32)), (.int p3)]))
  refine go (fun _ kont => XS.iand X0.here hx rfl (hb hby at_18) rfl kont) ?_
  show G (s₁.setTop (mkF m 19 #[.val (.int p1), .val (.int p2), .val (.int p3), .val (.int p4), .val (.int (Int32.ofNat N)), .val (.int (Int32.ofNat D)), .unset, .unset, .unset, .unset, .unset, .unset, .unset] [(.int (p3 &&& (2147483647 : Int32)))]))
  refine go (fun _ kont => XS.bipush X0.here hx rfl (hb hby at_19) kont) ?_
  show G (s₁.setTop (mkF m 21 #[.val (.int p1), .val (.int p2), .val (.int p3), .val (.int p4), .val (.int (Int32.ofNat N)), .val (.int (Int32.ofNat D)), .unset, .unset, .unset, .unset, .unset, .unset, .unset] [(.int (14 : Int32)), (.int (p3 &&& (2147483647 : Int32)))]))
  refine go (fun _ kont => XS.iload X0.here hx rfl (hb hby at_21) rfl  kont) ?_
  show G (s₁.setTop (mkF m 23 #[.val (.int p1), .val (.int p2), .val (.int p3), .val (.int p4), .val (.int (Int32.ofNat N)), .val (.int (Int32.ofNat D)), .unset, .unset, .unset, .unset, .unset, .unset, .unset] [(.int (Int32.ofNat D)), (.int (14 : Int32)), (.int (p3 &&& (2147483647 : Int32)))]))
  refine go (fun _ kont => XS.isub X0.here hx rfl (hb hby at_23) rfl kont) ?_
  show G (s₁.setTop (mkF m 24 #[.val (.int p1), .val (.int p2), .val (.int p3), .val (.int p4), .val (.int (Int32.ofNat N)), .val (.int (Int32.ofNat D)), .unset, .unset, .unset, .unset, .unset, .unset, .unset] [(.int ((14 : Int32) - (Int32.ofNat D))), (.int (p3 &&& (2147483647 : Int32)))]))
  refine go (fun _ kont => XS.iconst X0.here hx rfl (hb hby at_24) kont) ?_
  show G (s₁.setTop (mkF m 25 #[.val (.int p1), .val (.int p2), .val (.int p3), .val (.int p4), .val (.int (Int32.ofNat N)), .val (.int (Int32.ofNat D)), .unset, .unset, .unset, .unset, .unset, .unset, .unset] [(.int (1 : Int32)), (.int ((14 : Int32) - (Int32.ofNat D))), (.int (p3 &&& (2147483647 : Int32)))]))
  refine go (fun _ kont => XS.iadd X0.here hx rfl (hb hby at_25) rfl kont) ?_
  show G (s₁.setTop (mkF m 26 #[.val (.int p1), .val (.int p2), .val (.int p3), .val (.int p4), .val (.int (Int32.ofNat N)), .val (.int (Int32.ofNat D)), .unset, .unset, .unset, .unset, .unset, .unset, .unset] [(.int (((14 : Int32) - (Int32.ofNat D)) + (1 : Int32))), (.int (p3 &&& (2147483647 : Int32)))]))
  rw [show (((14 : Int32) - (Int32.ofNat D)) + (1 : Int32)) = (Int32.ofNat (14 - D + 1)) from by rw [show (14 : Int32) = Int32.ofNat 14 from rfl, own_subk (by omega), show (1 : Int32) = Int32.ofNat 1 from rfl, own_addk]]
  show G (s₁.setTop (mkF m 26 #[.val (.int p1), .val (.int p2), .val (.int p3), .val (.int p4), .val (.int (Int32.ofNat N)), .val (.int (Int32.ofNat D)), .unset, .unset, .unset, .unset, .unset, .unset, .unset] [(.int (Int32.ofNat (14 - D + 1))), (.int (p3 &&& (2147483647 : Int32)))]))
  have hnz : Int32.ofNat (14 - D + 1) ≠ 0 := fun z => absurd ((own_eqO (d := 14 - D + 1) (k := 0) (by omega) (by omega)).mp z) (by omega)
  refine go (fun _ kont => XS.irem X0.here hx rfl (hb hby at_26) rfl hnz kont) ?_
  show G (s₁.setTop (mkF m 27 #[.val (.int p1), .val (.int p2), .val (.int p3), .val (.int p4), .val (.int (Int32.ofNat N)), .val (.int (Int32.ofNat D)), .unset, .unset, .unset, .unset, .unset, .unset, .unset] [(.int ((p3 &&& (2147483647 : Int32)) - ((p3 &&& (2147483647 : Int32)) / (Int32.ofNat (14 - D + 1))) * (Int32.ofNat (14 - D + 1))))]))
  obtain ⟨A, hA, eA⟩ := own_start p3 (Int32.ofNat (14 - D + 1)) (14 - D + 1) (own_ofN (by omega)) (by omega)
  rw [eA]
  show G (s₁.setTop (mkF m 27 #[.val (.int p1), .val (.int p2), .val (.int p3), .val (.int p4), .val (.int (Int32.ofNat N)), .val (.int (Int32.ofNat D)), .unset, .unset, .unset, .unset, .unset, .unset, .unset] [(.int (Int32.ofNat A))]))
  have hAD : A + D ≤ 14 := by omega
  refine go (fun _ kont => XS.istore X0.here hx rfl (hb hby at_27) rfl (l' := #[.val (.int p1), .val (.int p2), .val (.int p3), .val (.int p4), .val (.int (Int32.ofNat N)), .val (.int (Int32.ofNat D)), .val (.int (Int32.ofNat A)), .unset, .unset, .unset, .unset, .unset, .unset]) rfl kont) ?_
  show G (s₁.setTop (mkF m 29 #[.val (.int p1), .val (.int p2), .val (.int p3), .val (.int p4), .val (.int (Int32.ofNat N)), .val (.int (Int32.ofNat D)), .val (.int (Int32.ofNat A)), .unset, .unset, .unset, .unset, .unset, .unset] []))
  refine go (fun _ kont => XS.iloadN X0.here hx rfl (hb hby at_29) rfl  kont) ?_
  show G (s₁.setTop (mkF m 30 #[.val (.int p1), .val (.int p2), .val (.int p3), .val (.int p4), .val (.int (Int32.ofNat N)), .val (.int (Int32.ofNat D)), .val (.int (Int32.ofNat A)), .unset, .unset, .unset, .unset, .unset, .unset] [(.int p4)]))
  refine go (fun _ kont => X0.ldcInt hx hown (mvT hZ (hw _ (List.mem_of_getElem? (i := 1) rfl))) (g := (mkF m 30 #[.val (.int p1), .val (.int p2), .val (.int p3), .val (.int p4), .val (.int (Int32.ofNat N)), .val (.int (Int32.ofNat D)), .val (.int (Int32.ofNat A)), .unset, .unset, .unset, .unset, .unset, .unset] [(.int p4)])) rfl (hb hby at_30) _ kont) ?_
  show G (s₁.setTop (mkF m 32 #[.val (.int p1), .val (.int p2), .val (.int p3), .val (.int p4), .val (.int (Int32.ofNat N)), .val (.int (Int32.ofNat D)), .val (.int (Int32.ofNat A)), .unset, .unset, .unset, .unset, .unset, .unset] [(.int (65535 : Int32)), (.int p4)]))
  refine go (fun _ kont => XS.iand X0.here hx rfl (hb hby at_32) rfl kont) ?_
  show G (s₁.setTop (mkF m 33 #[.val (.int p1), .val (.int p2), .val (.int p3), .val (.int p4), .val (.int (Int32.ofNat N)), .val (.int (Int32.ofNat D)), .val (.int (Int32.ofNat A)), .unset, .unset, .unset, .unset, .unset, .unset] [(.int (p4 &&& (65535 : Int32)))]))
  refine go (fun _ kont => XS.i2c X0.here hx rfl (hb hby at_33) rfl kont) ?_
  show G (s₁.setTop (mkF m 34 #[.val (.int p1), .val (.int p2), .val (.int p3), .val (.int p4), .val (.int (Int32.ofNat N)), .val (.int (Int32.ofNat D)), .val (.int (Int32.ofNat A)), .unset, .unset, .unset, .unset, .unset, .unset] [(.int (p4 &&& (65535 : Int32)).toUInt32.toUInt16.toUInt32.toInt32)]))
  have hcc := own_chr p4
  generalize ecc : (p4 &&& (65535 : Int32)).toUInt32.toUInt16.toUInt32.toInt32 = cc at *
  show G (s₁.setTop (mkF m 34 #[.val (.int p1), .val (.int p2), .val (.int p3), .val (.int p4), .val (.int (Int32.ofNat N)), .val (.int (Int32.ofNat D)), .val (.int (Int32.ofNat A)), .unset, .unset, .unset, .unset, .unset, .unset] [(.int cc)]))
  refine go (fun _ kont => XS.istore X0.here hx rfl (hb hby at_34) rfl (l' := #[.val (.int p1), .val (.int p2), .val (.int p3), .val (.int p4), .val (.int (Int32.ofNat N)), .val (.int (Int32.ofNat D)), .val (.int (Int32.ofNat A)), .val (.int cc), .unset, .unset, .unset, .unset, .unset]) rfl kont) ?_
  show G (s₁.setTop (mkF m 36 #[.val (.int p1), .val (.int p2), .val (.int p3), .val (.int p4), .val (.int (Int32.ofNat N)), .val (.int (Int32.ofNat D)), .val (.int (Int32.ofNat A)), .val (.int cc), .unset, .unset, .unset, .unset, .unset] []))
  refine go (fun _ kont => XS.bipush X0.here hx rfl (hb hby at_36) kont) ?_
  show G (s₁.setTop (mkF m 38 #[.val (.int p1), .val (.int p2), .val (.int p3), .val (.int p4), .val (.int (Int32.ofNat N)), .val (.int (Int32.ofNat D)), .val (.int (Int32.ofNat A)), .val (.int cc), .unset, .unset, .unset, .unset, .unset] [(.int (14 : Int32))]))
  obtain ⟨T1, h1, k1, X1, e1, E1, A1, st1⟩ := newP X0 hx hZ (hw _ (List.mem_of_getElem? (i := 2) rfl)) e0 (g := (mkF m 38 #[.val (.int p1), .val (.int p2), .val (.int p3), .val (.int p4), .val (.int (Int32.ofNat N)), .val (.int (Int32.ofNat D)), .val (.int (Int32.ofNat A)), .val (.int cc), .unset, .unset, .unset, .unset, .unset] [(.int (14 : Int32))])) rfl (hb hby at_38) rfl (by decide) (cap := 14) (by decide) (by decide) (by decide) (by decide)
  obtain ⟨b1, g1⟩ : ∃ z, z = h0.size := ⟨_, rfl⟩
  rw [← g1] at A1 st1
  refine go st1 ?_
  show G (T1.setTop (mkF m 40 #[.val (.int p1), .val (.int p2), .val (.int p3), .val (.int p4), .val (.int (Int32.ofNat N)), .val (.int (Int32.ofNat D)), .val (.int (Int32.ofNat A)), .val (.int cc), .unset, .unset, .unset, .unset, .unset] [(.ref b1)]))
  have V1 : own_V Z h1 b1 .char [(.int 0), (.int 0), (.int 0), (.int 0), (.int 0), (.int 0), (.int 0), (.int 0), (.int 0), (.int 0), (.int 0), (.int 0), (.int 0), (.int 0)] := own_V_new A1 (m := 14) (by decide) (by decide)
  have Z1 : n0 ≤ h1.size := Nat.le_trans Z0 E1.1
  have ga_b1 : n0 ≤ b1 := Nat.le_trans Z0 (Nat.le_of_eq g1.symm)
  refine go (fun _ kont => XS.dup X1.here hx rfl (hb hby at_40) rfl rfl kont) ?_
  show G (T1.setTop (mkF m 41 #[.val (.int p1), .val (.int p2), .val (.int p3), .val (.int p4), .val (.int (Int32.ofNat N)), .val (.int (Int32.ofNat D)), .val (.int (Int32.ofNat A)), .val (.int cc), .unset, .unset, .unset, .unset, .unset] [(.ref b1), (.ref b1)]))
  refine go (fun _ kont => XS.iconst X1.here hx rfl (hb hby at_41) kont) ?_
  show G (T1.setTop (mkF m 42 #[.val (.int p1), .val (.int p2), .val (.int p3), .val (.int p4), .val (.int (Int32.ofNat N)), .val (.int (Int32.ofNat D)), .val (.int (Int32.ofNat A)), .val (.int cc), .unset, .unset, .unset, .unset, .unset] [(.int (0 : Int32)), (.ref b1), (.ref b1)]))
  refine go (fun _ kont => XS.iload X1.here hx rfl (hb hby at_42) rfl  kont) ?_
  show G (T1.setTop (mkF m 44 #[.val (.int p1), .val (.int p2), .val (.int p3), .val (.int p4), .val (.int (Int32.ofNat N)), .val (.int (Int32.ofNat D)), .val (.int (Int32.ofNat A)), .val (.int cc), .unset, .unset, .unset, .unset, .unset] [(.int cc), (.int (0 : Int32)), (.ref b1), (.ref b1)]))
  obtain ⟨cl2, Ar2, Sl2, Ml2⟩ := id V1
  obtain ⟨T3, h3, X3, e3, W3, st3⟩ := stC X1 hx hZ e1 Ar2 (j := (0 : Int32)) (own_hink Sl2 (by decide) (k := 0) (by decide) (Nat.le_of_ble_eq_true rfl)) (g := (mkF m 44 #[.val (.int p1), .val (.int p2), .val (.int p3), .val (.int p4), .val (.int (Int32.ofNat N)), .val (.int (Int32.ofNat D)), .val (.int (Int32.ofNat A)), .val (.int cc), .unset, .unset, .unset, .unset, .unset] [(.int cc), (.int (0 : Int32)), (.ref b1), (.ref b1)])) rfl rfl (hb hby at_44)
  refine go st3 ?_
  show G (T3.setTop (mkF m 45 #[.val (.int p1), .val (.int p2), .val (.int p3), .val (.int p4), .val (.int (Int32.ofNat N)), .val (.int (Int32.ofNat D)), .val (.int (Int32.ofNat A)), .val (.int cc), .unset, .unset, .unset, .unset, .unset] [(.ref b1)]))
  have V3 : own_V Z h3 b1 .char [(.int (nar .char cc)), (.int 0), (.int 0), (.int 0), (.int 0), (.int 0), (.int 0), (.int 0), (.int 0), (.int 0), (.int 0), (.int 0), (.int 0), (.int 0)] := own_V_set V1 W3 (k := 0) (by decide)
  have N3 := Fr.snoc X3 N0 ga_b1
  have Z3 : n0 ≤ h3.size := by rw [W3.size]; exact Z1
  refine go (fun _ kont => XS.dup X3.here hx rfl (hb hby at_45) rfl rfl kont) ?_
  show G (T3.setTop (mkF m 46 #[.val (.int p1), .val (.int p2), .val (.int p3), .val (.int p4), .val (.int (Int32.ofNat N)), .val (.int (Int32.ofNat D)), .val (.int (Int32.ofNat A)), .val (.int cc), .unset, .unset, .unset, .unset, .unset] [(.ref b1), (.ref b1)]))
  refine go (fun _ kont => XS.iconst X3.here hx rfl (hb hby at_46) kont) ?_
  show G (T3.setTop (mkF m 47 #[.val (.int p1), .val (.int p2), .val (.int p3), .val (.int p4), .val (.int (Int32.ofNat N)), .val (.int (Int32.ofNat D)), .val (.int (Int32.ofNat A)), .val (.int cc), .unset, .unset, .unset, .unset, .unset] [(.int (1 : Int32)), (.ref b1), (.ref b1)]))
  refine go (fun _ kont => XS.iload X3.here hx rfl (hb hby at_47) rfl  kont) ?_
  show G (T3.setTop (mkF m 49 #[.val (.int p1), .val (.int p2), .val (.int p3), .val (.int p4), .val (.int (Int32.ofNat N)), .val (.int (Int32.ofNat D)), .val (.int (Int32.ofNat A)), .val (.int cc), .unset, .unset, .unset, .unset, .unset] [(.int cc), (.int (1 : Int32)), (.ref b1), (.ref b1)]))
  obtain ⟨cl4, Ar4, Sl4, Ml4⟩ := id V3
  obtain ⟨T5, h5, X5, e5, W5, st5⟩ := stC X3 hx hZ e3 Ar4 (j := (1 : Int32)) (own_hink Sl4 (by decide) (k := 1) (by decide) (Nat.le_of_ble_eq_true rfl)) (g := (mkF m 49 #[.val (.int p1), .val (.int p2), .val (.int p3), .val (.int p4), .val (.int (Int32.ofNat N)), .val (.int (Int32.ofNat D)), .val (.int (Int32.ofNat A)), .val (.int cc), .unset, .unset, .unset, .unset, .unset] [(.int cc), (.int (1 : Int32)), (.ref b1), (.ref b1)])) rfl rfl (hb hby at_49)
  refine go st5 ?_
  show G (T5.setTop (mkF m 50 #[.val (.int p1), .val (.int p2), .val (.int p3), .val (.int p4), .val (.int (Int32.ofNat N)), .val (.int (Int32.ofNat D)), .val (.int (Int32.ofNat A)), .val (.int cc), .unset, .unset, .unset, .unset, .unset] [(.ref b1)]))
  have V5 : own_V Z h5 b1 .char [(.int (nar .char cc)), (.int (nar .char cc)), (.int 0), (.int 0), (.int 0), (.int 0), (.int 0), (.int 0), (.int 0), (.int 0), (.int 0), (.int 0), (.int 0), (.int 0)] := own_V_set V3 W5 (k := 1) (by decide)
  have N5 := Fr.snoc X5 N3 ga_b1
  have Z5 : n0 ≤ h5.size := by rw [W5.size]; exact Z3
  refine go (fun _ kont => XS.dup X5.here hx rfl (hb hby at_50) rfl rfl kont) ?_
  show G (T5.setTop (mkF m 51 #[.val (.int p1), .val (.int p2), .val (.int p3), .val (.int p4), .val (.int (Int32.ofNat N)), .val (.int (Int32.ofNat D)), .val (.int (Int32.ofNat A)), .val (.int cc), .unset, .unset, .unset, .unset, .unset] [(.ref b1), (.ref b1)]))
  refine go (fun _ kont => XS.iconst X5.here hx rfl (hb hby at_51) kont) ?_
  show G (T5.setTop (mkF m 52 #[.val (.int p1), .val (.int p2), .val (.int p3), .val (.int p4), .val (.int (Int32.ofNat N)), .val (.int (Int32.ofNat D)), .val (.int (Int32.ofNat A)), .val (.int cc), .unset, .unset, .unset, .unset, .unset] [(.int (2 : Int32)), (.ref b1), (.ref b1)]))
  refine go (fun _ kont => XS.iload X5.here hx rfl (hb hby at_52) rfl  kont) ?_
  show G (T5.setTop (mkF m 54 #[.val (.int p1), .val (.int p2), .val (.int p3), .val (.int p4), .val (.int (Int32.ofNat N)), .val (.int (Int32.ofNat D)), .val (.int (Int32.ofNat A)), .val (.int cc), .unset, .unset, .unset, .unset, .unset] [(.int cc), (.int (2 : Int32)), (.ref b1), (.ref b1)]))
  obtain ⟨cl6, Ar6, Sl6, Ml6⟩ := id V5
  obtain ⟨T7, h7, X7, e7, W7, st7⟩ := stC X5 hx hZ e5 Ar6 (j := (2 : Int32)) (own_hink Sl6 (by decide) (k := 2) (by decide) (Nat.le_of_ble_eq_true rfl)) (g := (mkF m 54 #[.val (.int p1), .val (.int p2), .val (.int p3), .val (.int p4), .val (.int (Int32.ofNat N)), .val (.int (Int32.ofNat D)), .val (.int (Int32.ofNat A)), .val (.int cc), .unset, .unset, .unset, .unset, .unset] [(.int cc), (.int (2 : Int32)), (.ref b1), (.ref b1)])) rfl rfl (hb hby at_54)
  refine go st7 ?_
  show G (T7.setTop (mkF m 55 #[.val (.int p1), .val (.int p2), .val (.int p3), .val (.int p4), .val (.int (Int32.ofNat N)), .val (.int (Int32.ofNat D)), .val (.int (Int32.ofNat A)), .val (.int cc), .unset, .unset, .unset, .unset, .unset] [(.ref b1)]))
  have V7 : own_V Z h7 b1 .char [(.int (nar .char cc)), (.int (nar .char cc)), (.int (nar .char cc)), (.int 0), (.int 0), (.int 0), (.int 0), (.int 0), (.int 0), (.int 0), (.int 0), (.int 0), (.int 0), (.int 0)] := own_V_set V5 W7 (k := 2) (by decide)
  have N7 := Fr.snoc X7 N5 ga_b1
  have Z7 : n0 ≤ h7.size := by rw [W7.size]; exact Z5
  refine go (fun _ kont => XS.dup X7.here hx rfl (hb hby at_55) rfl rfl kont) ?_
  show G (T7.setTop (mkF m 56 #[.val (.int p1), .val (.int p2), .val (.int p3), .val (.int p4), .val (.int (Int32.ofNat N)), .val (.int (Int32.ofNat D)), .val (.int (Int32.ofNat A)), .val (.int cc), .unset, .unset, .unset, .unset, .unset] [(.ref b1), (.ref b1)]))
  refine go (fun _ kont => XS.iconst X7.here hx rfl (hb hby at_56) kont) ?_
  show G (T7.setTop (mkF m 57 #[.val (.int p1), .val (.int p2), .val (.int p3), .val (.int p4), .val (.int (Int32.ofNat N)), .val (.int (Int32.ofNat D)), .val (.int (Int32.ofNat A)), .val (.int cc), .unset, .unset, .unset, .unset, .unset] [(.int (3 : Int32)), (.ref b1), (.ref b1)]))
  refine go (fun _ kont => XS.iload X7.here hx rfl (hb hby at_57) rfl  kont) ?_
  show G (T7.setTop (mkF m 59 #[.val (.int p1), .val (.int p2), .val (.int p3), .val (.int p4), .val (.int (Int32.ofNat N)), .val (.int (Int32.ofNat D)), .val (.int (Int32.ofNat A)), .val (.int cc), .unset, .unset, .unset, .unset, .unset] [(.int cc), (.int (3 : Int32)), (.ref b1), (.ref b1)]))
  obtain ⟨cl8, Ar8, Sl8, Ml8⟩ := id V7
  obtain ⟨T9, h9, X9, e9, W9, st9⟩ := stC X7 hx hZ e7 Ar8 (j := (3 : Int32)) (own_hink Sl8 (by decide) (k := 3) (by decide) (Nat.le_of_ble_eq_true rfl)) (g := (mkF m 59 #[.val (.int p1), .val (.int p2), .val (.int p3), .val (.int p4), .val (.int (Int32.ofNat N)), .val (.int (Int32.ofNat D)), .val (.int (Int32.ofNat A)), .val (.int cc), .unset, .unset, .unset, .unset, .unset] [(.int cc), (.int (3 : Int32)), (.ref b1), (.ref b1)])) rfl rfl (hb hby at_59)
  refine go st9 ?_
  show G (T9.setTop (mkF m 60 #[.val (.int p1), .val (.int p2), .val (.int p3), .val (.int p4), .val (.int (Int32.ofNat N)), .val (.int (Int32.ofNat D)), .val (.int (Int32.ofNat A)), .val (.int cc), .unset, .unset, .unset, .unset, .unset] [(.ref b1)]))
  have V9 : own_V Z h9 b1 .char [(.int (nar .char cc)), (.int (nar .char cc)), (.int (nar .char cc)), (.int (nar .char cc)), (.int 0), (.int 0), (.int 0), (.int 0), (.int 0), (.int 0), (.int 0), (.int 0), (.int 0), (.int 0)] := own_V_set V7 W9 (k := 3) (by decide)
  have N9 := Fr.snoc X9 N7 ga_b1
  have Z9 : n0 ≤ h9.size := by rw [W9.size]; exact Z7
  refine go (fun _ kont => XS.dup X9.here hx rfl (hb hby at_60) rfl rfl kont) ?_
  show G (T9.setTop (mkF m 61 #[.val (.int p1), .val (.int p2), .val (.int p3), .val (.int p4), .val (.int (Int32.ofNat N)), .val (.int (Int32.ofNat D)), .val (.int (Int32.ofNat A)), .val (.int cc), .unset, .unset, .unset, .unset, .unset] [(.ref b1), (.ref b1)]))
  refine go (fun _ kont => XS.iconst X9.here hx rfl (hb hby at_61) kont) ?_
  show G (T9.setTop (mkF m 62 #[.val (.int p1), .val (.int p2), .val (.int p3), .val (.int p4), .val (.int (Int32.ofNat N)), .val (.int (Int32.ofNat D)), .val (.int (Int32.ofNat A)), .val (.int cc), .unset, .unset, .unset, .unset, .unset] [(.int (4 : Int32)), (.ref b1), (.ref b1)]))
  refine go (fun _ kont => XS.iload X9.here hx rfl (hb hby at_62) rfl  kont) ?_
  show G (T9.setTop (mkF m 64 #[.val (.int p1), .val (.int p2), .val (.int p3), .val (.int p4), .val (.int (Int32.ofNat N)), .val (.int (Int32.ofNat D)), .val (.int (Int32.ofNat A)), .val (.int cc), .unset, .unset, .unset, .unset, .unset] [(.int cc), (.int (4 : Int32)), (.ref b1), (.ref b1)]))
  obtain ⟨cl10, Ar10, Sl10, Ml10⟩ := id V9
  obtain ⟨T11, h11, X11, e11, W11, st11⟩ := stC X9 hx hZ e9 Ar10 (j := (4 : Int32)) (own_hink Sl10 (by decide) (k := 4) (by decide) (Nat.le_of_ble_eq_true rfl)) (g := (mkF m 64 #[.val (.int p1), .val (.int p2), .val (.int p3), .val (.int p4), .val (.int (Int32.ofNat N)), .val (.int (Int32.ofNat D)), .val (.int (Int32.ofNat A)), .val (.int cc), .unset, .unset, .unset, .unset, .unset] [(.int cc), (.int (4 : Int32)), (.ref b1), (.ref b1)])) rfl rfl (hb hby at_64)
  refine go st11 ?_
  show G (T11.setTop (mkF m 65 #[.val (.int p1), .val (.int p2), .val (.int p3), .val (.int p4), .val (.int (Int32.ofNat N)), .val (.int (Int32.ofNat D)), .val (.int (Int32.ofNat A)), .val (.int cc), .unset, .unset, .unset, .unset, .unset] [(.ref b1)]))
  have V11 : own_V Z h11 b1 .char [(.int (nar .char cc)), (.int (nar .char cc)), (.int (nar .char cc)), (.int (nar .char cc)), (.int (nar .char cc)), (.int 0), (.int 0), (.int 0), (.int 0), (.int 0), (.int 0), (.int 0), (.int 0), (.int 0)] := own_V_set V9 W11 (k := 4) (by decide)
  have N11 := Fr.snoc X11 N9 ga_b1
  have Z11 : n0 ≤ h11.size := by rw [W11.size]; exact Z9
  refine go (fun _ kont => XS.dup X11.here hx rfl (hb hby at_65) rfl rfl kont) ?_
  show G (T11.setTop (mkF m 66 #[.val (.int p1), .val (.int p2), .val (.int p3), .val (.int p4), .val (.int (Int32.ofNat N)), .val (.int (Int32.ofNat D)), .val (.int (Int32.ofNat A)), .val (.int cc), .unset, .unset, .unset, .unset, .unset] [(.ref b1), (.ref b1)]))
  refine go (fun _ kont => XS.iconst X11.here hx rfl (hb hby at_66) kont) ?_
  show G (T11.setTop (mkF m 67 #[.val (.int p1), .val (.int p2), .val (.int p3), .val (.int p4), .val (.int (Int32.ofNat N)), .val (.int (Int32.ofNat D)), .val (.int (Int32.ofNat A)), .val (.int cc), .unset, .unset, .unset, .unset, .unset] [(.int (5 : Int32)), (.ref b1), (.ref b1)]))
  refine go (fun _ kont => XS.iload X11.here hx rfl (hb hby at_67) rfl  kont) ?_
  show G (T11.setTop (mkF m 69 #[.val (.int p1), .val (.int p2), .val (.int p3), .val (.int p4), .val (.int (Int32.ofNat N)), .val (.int (Int32.ofNat D)), .val (.int (Int32.ofNat A)), .val (.int cc), .unset, .unset, .unset, .unset, .unset] [(.int cc), (.int (5 : Int32)), (.ref b1), (.ref b1)]))
  obtain ⟨cl12, Ar12, Sl12, Ml12⟩ := id V11
  obtain ⟨T13, h13, X13, e13, W13, st13⟩ := stC X11 hx hZ e11 Ar12 (j := (5 : Int32)) (own_hink Sl12 (by decide) (k := 5) (by decide) (Nat.le_of_ble_eq_true rfl)) (g := (mkF m 69 #[.val (.int p1), .val (.int p2), .val (.int p3), .val (.int p4), .val (.int (Int32.ofNat N)), .val (.int (Int32.ofNat D)), .val (.int (Int32.ofNat A)), .val (.int cc), .unset, .unset, .unset, .unset, .unset] [(.int cc), (.int (5 : Int32)), (.ref b1), (.ref b1)])) rfl rfl (hb hby at_69)
  refine go st13 ?_
  show G (T13.setTop (mkF m 70 #[.val (.int p1), .val (.int p2), .val (.int p3), .val (.int p4), .val (.int (Int32.ofNat N)), .val (.int (Int32.ofNat D)), .val (.int (Int32.ofNat A)), .val (.int cc), .unset, .unset, .unset, .unset, .unset] [(.ref b1)]))
  have V13 : own_V Z h13 b1 .char [(.int (nar .char cc)), (.int (nar .char cc)), (.int (nar .char cc)), (.int (nar .char cc)), (.int (nar .char cc)), (.int (nar .char cc)), (.int 0), (.int 0), (.int 0), (.int 0), (.int 0), (.int 0), (.int 0), (.int 0)] := own_V_set V11 W13 (k := 5) (by decide)
  have N13 := Fr.snoc X13 N11 ga_b1
  have Z13 : n0 ≤ h13.size := by rw [W13.size]; exact Z11
  refine go (fun _ kont => XS.dup X13.here hx rfl (hb hby at_70) rfl rfl kont) ?_
  show G (T13.setTop (mkF m 71 #[.val (.int p1), .val (.int p2), .val (.int p3), .val (.int p4), .val (.int (Int32.ofNat N)), .val (.int (Int32.ofNat D)), .val (.int (Int32.ofNat A)), .val (.int cc), .unset, .unset, .unset, .unset, .unset] [(.ref b1), (.ref b1)]))
  refine go (fun _ kont => XS.bipush X13.here hx rfl (hb hby at_71) kont) ?_
  show G (T13.setTop (mkF m 73 #[.val (.int p1), .val (.int p2), .val (.int p3), .val (.int p4), .val (.int (Int32.ofNat N)), .val (.int (Int32.ofNat D)), .val (.int (Int32.ofNat A)), .val (.int cc), .unset, .unset, .unset, .unset, .unset] [(.int (6 : Int32)), (.ref b1), (.ref b1)]))
  refine go (fun _ kont => XS.iload X13.here hx rfl (hb hby at_73) rfl  kont) ?_
  show G (T13.setTop (mkF m 75 #[.val (.int p1), .val (.int p2), .val (.int p3), .val (.int p4), .val (.int (Int32.ofNat N)), .val (.int (Int32.ofNat D)), .val (.int (Int32.ofNat A)), .val (.int cc), .unset, .unset, .unset, .unset, .unset] [(.int cc), (.int (6 : Int32)), (.ref b1), (.ref b1)]))
  obtain ⟨cl14, Ar14, Sl14, Ml14⟩ := id V13
  obtain ⟨T15, h15, X15, e15, W15, st15⟩ := stC X13 hx hZ e13 Ar14 (j := (6 : Int32)) (own_hink Sl14 (by decide) (k := 6) (by decide) (Nat.le_of_ble_eq_true rfl)) (g := (mkF m 75 #[.val (.int p1), .val (.int p2), .val (.int p3), .val (.int p4), .val (.int (Int32.ofNat N)), .val (.int (Int32.ofNat D)), .val (.int (Int32.ofNat A)), .val (.int cc), .unset, .unset, .unset, .unset, .unset] [(.int cc), (.int (6 : Int32)), (.ref b1), (.ref b1)])) rfl rfl (hb hby at_75)
  refine go st15 ?_
  show G (T15.setTop (mkF m 76 #[.val (.int p1), .val (.int p2), .val (.int p3), .val (.int p4), .val (.int (Int32.ofNat N)), .val (.int (Int32.ofNat D)), .val (.int (Int32.ofNat A)), .val (.int cc), .unset, .unset, .unset, .unset, .unset] [(.ref b1)]))
  have V15 : own_V Z h15 b1 .char [(.int (nar .char cc)), (.int (nar .char cc)), (.int (nar .char cc)), (.int (nar .char cc)), (.int (nar .char cc)), (.int (nar .char cc)), (.int (nar .char cc)), (.int 0), (.int 0), (.int 0), (.int 0), (.int 0), (.int 0), (.int 0)] := own_V_set V13 W15 (k := 6) (by decide)
  have N15 := Fr.snoc X15 N13 ga_b1
  have Z15 : n0 ≤ h15.size := by rw [W15.size]; exact Z13
  refine go (fun _ kont => XS.dup X15.here hx rfl (hb hby at_76) rfl rfl kont) ?_
  show G (T15.setTop (mkF m 77 #[.val (.int p1), .val (.int p2), .val (.int p3), .val (.int p4), .val (.int (Int32.ofNat N)), .val (.int (Int32.ofNat D)), .val (.int (Int32.ofNat A)), .val (.int cc), .unset, .unset, .unset, .unset, .unset] [(.ref b1), (.ref b1)]))
  refine go (fun _ kont => XS.bipush X15.here hx rfl (hb hby at_77) kont) ?_
  show G (T15.setTop (mkF m 79 #[.val (.int p1), .val (.int p2), .val (.int p3), .val (.int p4), .val (.int (Int32.ofNat N)), .val (.int (Int32.ofNat D)), .val (.int (Int32.ofNat A)), .val (.int cc), .unset, .unset, .unset, .unset, .unset] [(.int (7 : Int32)), (.ref b1), (.ref b1)]))
  refine go (fun _ kont => XS.iload X15.here hx rfl (hb hby at_79) rfl  kont) ?_
  show G (T15.setTop (mkF m 81 #[.val (.int p1), .val (.int p2), .val (.int p3), .val (.int p4), .val (.int (Int32.ofNat N)), .val (.int (Int32.ofNat D)), .val (.int (Int32.ofNat A)), .val (.int cc), .unset, .unset, .unset, .unset, .unset] [(.int cc), (.int (7 : Int32)), (.ref b1), (.ref b1)]))
  obtain ⟨cl16, Ar16, Sl16, Ml16⟩ := id V15
  obtain ⟨T17, h17, X17, e17, W17, st17⟩ := stC X15 hx hZ e15 Ar16 (j := (7 : Int32)) (own_hink Sl16 (by decide) (k := 7) (by decide) (Nat.le_of_ble_eq_true rfl)) (g := (mkF m 81 #[.val (.int p1), .val (.int p2), .val (.int p3), .val (.int p4), .val (.int (Int32.ofNat N)), .val (.int (Int32.ofNat D)), .val (.int (Int32.ofNat A)), .val (.int cc), .unset, .unset, .unset, .unset, .unset] [(.int cc), (.int (7 : Int32)), (.ref b1), (.ref b1)])) rfl rfl (hb hby at_81)
  refine go st17 ?_
  show G (T17.setTop (mkF m 82 #[.val (.int p1), .val (.int p2), .val (.int p3), .val (.int p4), .val (.int (Int32.ofNat N)), .val (.int (Int32.ofNat D)), .val (.int (Int32.ofNat A)), .val (.int cc), .unset, .unset, .unset, .unset, .unset] [(.ref b1)]))
  have V17 : own_V Z h17 b1 .char [(.int (nar .char cc)), (.int (nar .char cc)), (.int (nar .char cc)), (.int (nar .char cc)), (.int (nar .char cc)), (.int (nar .char cc)), (.int (nar .char cc)), (.int (nar .char cc)), (.int 0), (.int 0), (.int 0), (.int 0), (.int 0), (.int 0)] := own_V_set V15 W17 (k := 7) (by decide)
  have N17 := Fr.snoc X17 N15 ga_b1
  have Z17 : n0 ≤ h17.size := by rw [W17.size]; exact Z15
  refine go (fun _ kont => XS.dup X17.here hx rfl (hb hby at_82) rfl rfl kont) ?_
  show G (T17.setTop (mkF m 83 #[.val (.int p1), .val (.int p2), .val (.int p3), .val (.int p4), .val (.int (Int32.ofNat N)), .val (.int (Int32.ofNat D)), .val (.int (Int32.ofNat A)), .val (.int cc), .unset, .unset, .unset, .unset, .unset] [(.ref b1), (.ref b1)]))
  refine go (fun _ kont => XS.bipush X17.here hx rfl (hb hby at_83) kont) ?_
  show G (T17.setTop (mkF m 85 #[.val (.int p1), .val (.int p2), .val (.int p3), .val (.int p4), .val (.int (Int32.ofNat N)), .val (.int (Int32.ofNat D)), .val (.int (Int32.ofNat A)), .val (.int cc), .unset, .unset, .unset, .unset, .unset] [(.int (8 : Int32)), (.ref b1), (.ref b1)]))
  refine go (fun _ kont => XS.iload X17.here hx rfl (hb hby at_85) rfl  kont) ?_
  show G (T17.setTop (mkF m 87 #[.val (.int p1), .val (.int p2), .val (.int p3), .val (.int p4), .val (.int (Int32.ofNat N)), .val (.int (Int32.ofNat D)), .val (.int (Int32.ofNat A)), .val (.int cc), .unset, .unset, .unset, .unset, .unset] [(.int cc), (.int (8 : Int32)), (.ref b1), (.ref b1)]))
  obtain ⟨cl18, Ar18, Sl18, Ml18⟩ := id V17
  obtain ⟨T19, h19, X19, e19, W19, st19⟩ := stC X17 hx hZ e17 Ar18 (j := (8 : Int32)) (own_hink Sl18 (by decide) (k := 8) (by decide) (Nat.le_of_ble_eq_true rfl)) (g := (mkF m 87 #[.val (.int p1), .val (.int p2), .val (.int p3), .val (.int p4), .val (.int (Int32.ofNat N)), .val (.int (Int32.ofNat D)), .val (.int (Int32.ofNat A)), .val (.int cc), .unset, .unset, .unset, .unset, .unset] [(.int cc), (.int (8 : Int32)), (.ref b1), (.ref b1)])) rfl rfl (hb hby at_87)
  refine go st19 ?_
  show G (T19.setTop (mkF m 88 #[.val (.int p1), .val (.int p2), .val (.int p3), .val (.int p4), .val (.int (Int32.ofNat N)), .val (.int (Int32.ofNat D)), .val (.int (Int32.ofNat A)), .val (.int cc), .unset, .unset, .unset, .unset, .unset] [(.ref b1)]))
  have V19 : own_V Z h19 b1 .char [(.int (nar .char cc)), (.int (nar .char cc)), (.int (nar .char cc)), (.int (nar .char cc)), (.int (nar .char cc)), (.int (nar .char cc)), (.int (nar .char cc)), (.int (nar .char cc)), (.int (nar .char cc)), (.int 0), (.int 0), (.int 0), (.int 0), (.int 0)] := own_V_set V17 W19 (k := 8) (by decide)
  have N19 := Fr.snoc X19 N17 ga_b1
  have Z19 : n0 ≤ h19.size := by rw [W19.size]; exact Z17
  refine go (fun _ kont => XS.dup X19.here hx rfl (hb hby at_88) rfl rfl kont) ?_
  show G (T19.setTop (mkF m 89 #[.val (.int p1), .val (.int p2), .val (.int p3), .val (.int p4), .val (.int (Int32.ofNat N)), .val (.int (Int32.ofNat D)), .val (.int (Int32.ofNat A)), .val (.int cc), .unset, .unset, .unset, .unset, .unset] [(.ref b1), (.ref b1)]))
  refine go (fun _ kont => XS.bipush X19.here hx rfl (hb hby at_89) kont) ?_
  show G (T19.setTop (mkF m 91 #[.val (.int p1), .val (.int p2), .val (.int p3), .val (.int p4), .val (.int (Int32.ofNat N)), .val (.int (Int32.ofNat D)), .val (.int (Int32.ofNat A)), .val (.int cc), .unset, .unset, .unset, .unset, .unset] [(.int (9 : Int32)), (.ref b1), (.ref b1)]))
  refine go (fun _ kont => XS.iload X19.here hx rfl (hb hby at_91) rfl  kont) ?_
  show G (T19.setTop (mkF m 93 #[.val (.int p1), .val (.int p2), .val (.int p3), .val (.int p4), .val (.int (Int32.ofNat N)), .val (.int (Int32.ofNat D)), .val (.int (Int32.ofNat A)), .val (.int cc), .unset, .unset, .unset, .unset, .unset] [(.int cc), (.int (9 : Int32)), (.ref b1), (.ref b1)]))
  obtain ⟨cl20, Ar20, Sl20, Ml20⟩ := id V19
  obtain ⟨T21, h21, X21, e21, W21, st21⟩ := stC X19 hx hZ e19 Ar20 (j := (9 : Int32)) (own_hink Sl20 (by decide) (k := 9) (by decide) (Nat.le_of_ble_eq_true rfl)) (g := (mkF m 93 #[.val (.int p1), .val (.int p2), .val (.int p3), .val (.int p4), .val (.int (Int32.ofNat N)), .val (.int (Int32.ofNat D)), .val (.int (Int32.ofNat A)), .val (.int cc), .unset, .unset, .unset, .unset, .unset] [(.int cc), (.int (9 : Int32)), (.ref b1), (.ref b1)])) rfl rfl (hb hby at_93)
  refine go st21 ?_
  show G (T21.setTop (mkF m 94 #[.val (.int p1), .val (.int p2), .val (.int p3), .val (.int p4), .val (.int (Int32.ofNat N)), .val (.int (Int32.ofNat D)), .val (.int (Int32.ofNat A)), .val (.int cc), .unset, .unset, .unset, .unset, .unset] [(.ref b1)]))
  have V21 : own_V Z h21 b1 .char [(.int (nar .char cc)), (.int (nar .char cc)), (.int (nar .char cc)), (.int (nar .char cc)), (.int (nar .char cc)), (.int (nar .char cc)), (.int (nar .char cc)), (.int (nar .char cc)), (.int (nar .char cc)), (.int (nar .char cc)), (.int 0), (.int 0), (.int 0), (.int 0)] := own_V_set V19 W21 (k := 9) (by decide)
  have N21 := Fr.snoc X21 N19 ga_b1
  have Z21 : n0 ≤ h21.size := by rw [W21.size]; exact Z19
  refine go (fun _ kont => XS.dup X21.here hx rfl (hb hby at_94) rfl rfl kont) ?_
  show G (T21.setTop (mkF m 95 #[.val (.int p1), .val (.int p2), .val (.int p3), .val (.int p4), .val (.int (Int32.ofNat N)), .val (.int (Int32.ofNat D)), .val (.int (Int32.ofNat A)), .val (.int cc), .unset, .unset, .unset, .unset, .unset] [(.ref b1), (.ref b1)]))
  refine go (fun _ kont => XS.bipush X21.here hx rfl (hb hby at_95) kont) ?_
  show G (T21.setTop (mkF m 97 #[.val (.int p1), .val (.int p2), .val (.int p3), .val (.int p4), .val (.int (Int32.ofNat N)), .val (.int (Int32.ofNat D)), .val (.int (Int32.ofNat A)), .val (.int cc), .unset, .unset, .unset, .unset, .unset] [(.int (10 : Int32)), (.ref b1), (.ref b1)]))
  refine go (fun _ kont => XS.iload X21.here hx rfl (hb hby at_97) rfl  kont) ?_
  show G (T21.setTop (mkF m 99 #[.val (.int p1), .val (.int p2), .val (.int p3), .val (.int p4), .val (.int (Int32.ofNat N)), .val (.int (Int32.ofNat D)), .val (.int (Int32.ofNat A)), .val (.int cc), .unset, .unset, .unset, .unset, .unset] [(.int cc), (.int (10 : Int32)), (.ref b1), (.ref b1)]))
  obtain ⟨cl22, Ar22, Sl22, Ml22⟩ := id V21
  obtain ⟨T23, h23, X23, e23, W23, st23⟩ := stC X21 hx hZ e21 Ar22 (j := (10 : Int32)) (own_hink Sl22 (by decide) (k := 10) (by decide) (Nat.le_of_ble_eq_true rfl)) (g := (mkF m 99 #[.val (.int p1), .val (.int p2), .val (.int p3), .val (.int p4), .val (.int (Int32.ofNat N)), .val (.int (Int32.ofNat D)), .val (.int (Int32.ofNat A)), .val (.int cc), .unset, .unset, .unset, .unset, .unset] [(.int cc), (.int (10 : Int32)), (.ref b1), (.ref b1)])) rfl rfl (hb hby at_99)
  refine go st23 ?_
  show G (T23.setTop (mkF m 100 #[.val (.int p1), .val (.int p2), .val (.int p3), .val (.int p4), .val (.int (Int32.ofNat N)), .val (.int (Int32.ofNat D)), .val (.int (Int32.ofNat A)), .val (.int cc), .unset, .unset, .unset, .unset, .unset] [(.ref b1)]))
  have V23 : own_V Z h23 b1 .char [(.int (nar .char cc)), (.int (nar .char cc)), (.int (nar .char cc)), (.int (nar .char cc)), (.int (nar .char cc)), (.int (nar .char cc)), (.int (nar .char cc)), (.int (nar .char cc)), (.int (nar .char cc)), (.int (nar .char cc)), (.int (nar .char cc)), (.int 0), (.int 0), (.int 0)] := own_V_set V21 W23 (k := 10) (by decide)
  have N23 := Fr.snoc X23 N21 ga_b1
  have Z23 : n0 ≤ h23.size := by rw [W23.size]; exact Z21
  refine go (fun _ kont => XS.dup X23.here hx rfl (hb hby at_100) rfl rfl kont) ?_
  show G (T23.setTop (mkF m 101 #[.val (.int p1), .val (.int p2), .val (.int p3), .val (.int p4), .val (.int (Int32.ofNat N)), .val (.int (Int32.ofNat D)), .val (.int (Int32.ofNat A)), .val (.int cc), .unset, .unset, .unset, .unset, .unset] [(.ref b1), (.ref b1)]))
  refine go (fun _ kont => XS.bipush X23.here hx rfl (hb hby at_101) kont) ?_
  show G (T23.setTop (mkF m 103 #[.val (.int p1), .val (.int p2), .val (.int p3), .val (.int p4), .val (.int (Int32.ofNat N)), .val (.int (Int32.ofNat D)), .val (.int (Int32.ofNat A)), .val (.int cc), .unset, .unset, .unset, .unset, .unset] [(.int (11 : Int32)), (.ref b1), (.ref b1)]))
  refine go (fun _ kont => XS.iload X23.here hx rfl (hb hby at_103) rfl  kont) ?_
  show G (T23.setTop (mkF m 105 #[.val (.int p1), .val (.int p2), .val (.int p3), .val (.int p4), .val (.int (Int32.ofNat N)), .val (.int (Int32.ofNat D)), .val (.int (Int32.ofNat A)), .val (.int cc), .unset, .unset, .unset, .unset, .unset] [(.int cc), (.int (11 : Int32)), (.ref b1), (.ref b1)]))
  obtain ⟨cl24, Ar24, Sl24, Ml24⟩ := id V23
  obtain ⟨T25, h25, X25, e25, W25, st25⟩ := stC X23 hx hZ e23 Ar24 (j := (11 : Int32)) (own_hink Sl24 (by decide) (k := 11) (by decide) (Nat.le_of_ble_eq_true rfl)) (g := (mkF m 105 #[.val (.int p1), .val (.int p2), .val (.int p3), .val (.int p4), .val (.int (Int32.ofNat N)), .val (.int (Int32.ofNat D)), .val (.int (Int32.ofNat A)), .val (.int cc), .unset, .unset, .unset, .unset, .unset] [(.int cc), (.int (11 : Int32)), (.ref b1), (.ref b1)])) rfl rfl (hb hby at_105)
  refine go st25 ?_
  show G (T25.setTop (mkF m 106 #[.val (.int p1), .val (.int p2), .val (.int p3), .val (.int p4), .val (.int (Int32.ofNat N)), .val (.int (Int32.ofNat D)), .val (.int (Int32.ofNat A)), .val (.int cc), .unset, .unset, .unset, .unset, .unset] [(.ref b1)]))
  have V25 : own_V Z h25 b1 .char [(.int (nar .char cc)), (.int (nar .char cc)), (.int (nar .char cc)), (.int (nar .char cc)), (.int (nar .char cc)), (.int (nar .char cc)), (.int (nar .char cc)), (.int (nar .char cc)), (.int (nar .char cc)), (.int (nar .char cc)), (.int (nar .char cc)), (.int (nar .char cc)), (.int 0), (.int 0)] := own_V_set V23 W25 (k := 11) (by decide)
  have N25 := Fr.snoc X25 N23 ga_b1
  have Z25 : n0 ≤ h25.size := by rw [W25.size]; exact Z23
  refine go (fun _ kont => XS.dup X25.here hx rfl (hb hby at_106) rfl rfl kont) ?_
  show G (T25.setTop (mkF m 107 #[.val (.int p1), .val (.int p2), .val (.int p3), .val (.int p4), .val (.int (Int32.ofNat N)), .val (.int (Int32.ofNat D)), .val (.int (Int32.ofNat A)), .val (.int cc), .unset, .unset, .unset, .unset, .unset] [(.ref b1), (.ref b1)]))
  refine go (fun _ kont => XS.bipush X25.here hx rfl (hb hby at_107) kont) ?_
  show G (T25.setTop (mkF m 109 #[.val (.int p1), .val (.int p2), .val (.int p3), .val (.int p4), .val (.int (Int32.ofNat N)), .val (.int (Int32.ofNat D)), .val (.int (Int32.ofNat A)), .val (.int cc), .unset, .unset, .unset, .unset, .unset] [(.int (12 : Int32)), (.ref b1), (.ref b1)]))
  refine go (fun _ kont => XS.iload X25.here hx rfl (hb hby at_109) rfl  kont) ?_
  show G (T25.setTop (mkF m 111 #[.val (.int p1), .val (.int p2), .val (.int p3), .val (.int p4), .val (.int (Int32.ofNat N)), .val (.int (Int32.ofNat D)), .val (.int (Int32.ofNat A)), .val (.int cc), .unset, .unset, .unset, .unset, .unset] [(.int cc), (.int (12 : Int32)), (.ref b1), (.ref b1)]))
  obtain ⟨cl26, Ar26, Sl26, Ml26⟩ := id V25
  obtain ⟨T27, h27, X27, e27, W27, st27⟩ := stC X25 hx hZ e25 Ar26 (j := (12 : Int32)) (own_hink Sl26 (by decide) (k := 12) (by decide) (Nat.le_of_ble_eq_true rfl)) (g := (mkF m 111 #[.val (.int p1), .val (.int p2), .val (.int p3), .val (.int p4), .val (.int (Int32.ofNat N)), .val (.int (Int32.ofNat D)), .val (.int (Int32.ofNat A)), .val (.int cc), .unset, .unset, .unset, .unset, .unset] [(.int cc), (.int (12 : Int32)), (.ref b1), (.ref b1)])) rfl rfl (hb hby at_111)
  refine go st27 ?_
  show G (T27.setTop (mkF m 112 #[.val (.int p1), .val (.int p2), .val (.int p3), .val (.int p4), .val (.int (Int32.ofNat N)), .val (.int (Int32.ofNat D)), .val (.int (Int32.ofNat A)), .val (.int cc), .unset, .unset, .unset, .unset, .unset] [(.ref b1)]))
  have V27 : own_V Z h27 b1 .char [(.int (nar .char cc)), (.int (nar .char cc)), (.int (nar .char cc)), (.int (nar .char cc)), (.int (nar .char cc)), (.int (nar .char cc)), (.int (nar .char cc)), (.int (nar .char cc)), (.int (nar .char cc)), (.int (nar .char cc)), (.int (nar .char cc)), (.int (nar .char cc)), (.int (nar .char cc)), (.int 0)] := own_V_set V25 W27 (k := 12) (by decide)
  have N27 := Fr.snoc X27 N25 ga_b1
  have Z27 : n0 ≤ h27.size := by rw [W27.size]; exact Z25
  refine go (fun _ kont => XS.dup X27.here hx rfl (hb hby at_112) rfl rfl kont) ?_
  show G (T27.setTop (mkF m 113 #[.val (.int p1), .val (.int p2), .val (.int p3), .val (.int p4), .val (.int (Int32.ofNat N)), .val (.int (Int32.ofNat D)), .val (.int (Int32.ofNat A)), .val (.int cc), .unset, .unset, .unset, .unset, .unset] [(.ref b1), (.ref b1)]))
  refine go (fun _ kont => XS.bipush X27.here hx rfl (hb hby at_113) kont) ?_
  show G (T27.setTop (mkF m 115 #[.val (.int p1), .val (.int p2), .val (.int p3), .val (.int p4), .val (.int (Int32.ofNat N)), .val (.int (Int32.ofNat D)), .val (.int (Int32.ofNat A)), .val (.int cc), .unset, .unset, .unset, .unset, .unset] [(.int (13 : Int32)), (.ref b1), (.ref b1)]))
  refine go (fun _ kont => XS.iload X27.here hx rfl (hb hby at_115) rfl  kont) ?_
  show G (T27.setTop (mkF m 117 #[.val (.int p1), .val (.int p2), .val (.int p3), .val (.int p4), .val (.int (Int32.ofNat N)), .val (.int (Int32.ofNat D)), .val (.int (Int32.ofNat A)), .val (.int cc), .unset, .unset, .unset, .unset, .unset] [(.int cc), (.int (13 : Int32)), (.ref b1), (.ref b1)]))
  obtain ⟨cl28, Ar28, Sl28, Ml28⟩ := id V27
  obtain ⟨T29, h29, X29, e29, W29, st29⟩ := stC X27 hx hZ e27 Ar28 (j := (13 : Int32)) (own_hink Sl28 (by decide) (k := 13) (by decide) (Nat.le_of_ble_eq_true rfl)) (g := (mkF m 117 #[.val (.int p1), .val (.int p2), .val (.int p3), .val (.int p4), .val (.int (Int32.ofNat N)), .val (.int (Int32.ofNat D)), .val (.int (Int32.ofNat A)), .val (.int cc), .unset, .unset, .unset, .unset, .unset] [(.int cc), (.int (13 : Int32)), (.ref b1), (.ref b1)])) rfl rfl (hb hby at_117)
  refine go st29 ?_
  show G (T29.setTop (mkF m 118 #[.val (.int p1), .val (.int p2), .val (.int p3), .val (.int p4), .val (.int (Int32.ofNat N)), .val (.int (Int32.ofNat D)), .val (.int (Int32.ofNat A)), .val (.int cc), .unset, .unset, .unset, .unset, .unset] [(.ref b1)]))
  have V29 : own_V Z h29 b1 .char [(.int (nar .char cc)), (.int (nar .char cc)), (.int (nar .char cc)), (.int (nar .char cc)), (.int (nar .char cc)), (.int (nar .char cc)), (.int (nar .char cc)), (.int (nar .char cc)), (.int (nar .char cc)), (.int (nar .char cc)), (.int (nar .char cc)), (.int (nar .char cc)), (.int (nar .char cc)), (.int (nar .char cc))] := own_V_set V27 W29 (k := 13) (by decide)
  have N29 := Fr.snoc X29 N27 ga_b1
  have Z29 : n0 ≤ h29.size := by rw [W29.size]; exact Z27
  refine go (fun _ kont => XS.astore X29.here hx rfl (hb hby at_118) rfl rfl (l' := #[.val (.int p1), .val (.int p2), .val (.int p3), .val (.int p4), .val (.int (Int32.ofNat N)), .val (.int (Int32.ofNat D)), .val (.int (Int32.ofNat A)), .val (.int cc), .val (.ref b1), .unset, .unset, .unset, .unset]) rfl kont) ?_
  show G (T29.setTop (mkF m 120 #[.val (.int p1), .val (.int p2), .val (.int p3), .val (.int p4), .val (.int (Int32.ofNat N)), .val (.int (Int32.ofNat D)), .val (.int (Int32.ofNat A)), .val (.int cc), .val (.ref b1), .unset, .unset, .unset, .unset] []))
  refine go (fun _ kont => XS.iload X29.here hx rfl (hb hby at_120) rfl  kont) ?_
  show G (T29.setTop (mkF m 122 #[.val (.int p1), .val (.int p2), .val (.int p3), .val (.int p4), .val (.int (Int32.ofNat N)), .val (.int (Int32.ofNat D)), .val (.int (Int32.ofNat A)), .val (.int cc), .val (.ref b1), .unset, .unset, .unset, .unset] [(.int (Int32.ofNat N))]))
  refine go (fun _ kont => XS.iload X29.here hx rfl (hb hby at_122) rfl  kont) ?_
  show G (T29.setTop (mkF m 124 #[.val (.int p1), .val (.int p2), .val (.int p3), .val (.int p4), .val (.int (Int32.ofNat N)), .val (.int (Int32.ofNat D)), .val (.int (Int32.ofNat A)), .val (.int cc), .val (.ref b1), .unset, .unset, .unset, .unset] [(.int (Int32.ofNat D)), (.int (Int32.ofNat N))]))
  refine go (fun _ kont => XS.aload X29.here hx rfl (hb hby at_124) rfl rfl kont) ?_
  show G (T29.setTop (mkF m 126 #[.val (.int p1), .val (.int p2), .val (.int p3), .val (.int p4), .val (.int (Int32.ofNat N)), .val (.int (Int32.ofNat D)), .val (.int (Int32.ofNat A)), .val (.int cc), .val (.ref b1), .unset, .unset, .unset, .unset] [(.ref b1), (.int (Int32.ofNat D)), (.int (Int32.ofNat N))]))
  refine go (fun _ kont => XS.iload X29.here hx rfl (hb hby at_126) rfl  kont) ?_
  show G (T29.setTop (mkF m 128 #[.val (.int p1), .val (.int p2), .val (.int p3), .val (.int p4), .val (.int (Int32.ofNat N)), .val (.int (Int32.ofNat D)), .val (.int (Int32.ofNat A)), .val (.int cc), .val (.ref b1), .unset, .unset, .unset, .unset] [(.int (Int32.ofNat A)), (.ref b1), (.int (Int32.ofNat D)), (.int (Int32.ofNat N))]))
  have VX : own_V Z h29 b1 .char ((List.replicate 14 cc).map Value.int) := by have q := V29; rw [hcc] at q; exact q
  obtain ⟨_, _, ⟨T30, L30, k30, n30⟩, -, X30, ⟨Lc30, hQ30, l30, y30, z30⟩, st30⟩ := Jvm.LawKit.callS X29 hx (y := (⟨"com/example/reckoner/reckoner/core/Digits", "write", "(II[CI)I"⟩ : MethodName)) hown (mvT hZ (hw _ (List.mem_of_getElem? (i := 3) rfl))) (mvT hZ (hw _ (List.mem_of_getElem? (i := 4) rfl))) (mvT hZ (hw _ (List.mem_of_getElem? (i := 5) rfl))) (mvT hZ (hw _ (List.mem_of_getElem? (i := 6) rfl))) (by decide) (backOf (W := 0) (own_rm_write l Z a0 hw [] b1 h29 n0 Z29 N D A hN hAD cc (List.replicate 14 cc) rfl VX (fun j hj => own_rep hj) ga_b1) hZ (hw _ (List.mem_of_getElem? (i := 6) rfl)) (hw _ (List.mem_of_getElem? (i := 5) rfl)) (by decide) (by decide)) (g := (mkF m 128 #[.val (.int p1), .val (.int p2), .val (.int p3), .val (.int p4), .val (.int (Int32.ofNat N)), .val (.int (Int32.ofNat D)), .val (.int (Int32.ofNat A)), .val (.int cc), .val (.ref b1), .unset, .unset, .unset, .unset] [(.int (Int32.ofNat A)), (.ref b1), (.int (Int32.ofNat D)), (.int (Int32.ofNat N))])) rfl (by rw [hml]; rfl) (argsL := [(.int (Int32.ofNat N)), (.int (Int32.ofNat D)), (.ref b1), (.int (Int32.ofNat A))]) (rest := []) (lenOf own_pd1 rfl) rfl (by show 2 * 0 + _ ≤ _; exact Nat.le_of_eq rfl) (hb hby at_128) (fun _ _ => ⟨rfl, e29, (by decide : 1 + 0 ≤ _), (by decide : 14 + 0 ≤ _)⟩)
  dsimp only [Pt.U, Pt.locs, Pt.cells, Pt.slots] at X30 l30 y30 z30 st30 hQ30
  obtain ⟨rfl, N30q, K30, zs, hzl, V30, hz⟩ := hQ30
  have N30 : Fr n0 L30 := by rw [l30]; exact Fr.app N29 N30q
  have e30 : T30.heap = T30.heap := rfl
  rw [show k30 = 1 from y30, show n30 = 14 from z30] at X30
  refine go st30 ?_
  show G (T30.setTop (mkF m 131 #[.val (.int p1), .val (.int p2), .val (.int p3), .val (.int p4), .val (.int (Int32.ofNat N)), .val (.int (Int32.ofNat D)), .val (.int (Int32.ofNat A)), .val (.int cc), .val (.ref b1), .unset, .unset, .unset, .unset] [(.int (Int32.ofNat (A + D)))]))
  have Z30 : n0 ≤ T30.heap.size := Nat.le_trans Z29 K30.1
  refine go (fun _ kont => XS.istore X30.here hx rfl (hb hby at_131) rfl (l' := #[.val (.int p1), .val (.int p2), .val (.int p3), .val (.int p4), .val (.int (Int32.ofNat N)), .val (.int (Int32.ofNat D)), .val (.int (Int32.ofNat A)), .val (.int cc), .val (.ref b1), .val (.int (Int32.ofNat (A + D))), .unset, .unset, .unset]) rfl kont) ?_
  show G (T30.setTop (mkF m 133 #[.val (.int p1), .val (.int p2), .val (.int p3), .val (.int p4), .val (.int (Int32.ofNat N)), .val (.int (Int32.ofNat D)), .val (.int (Int32.ofNat A)), .val (.int cc), .val (.ref b1), .val (.int (Int32.ofNat (A + D))), .unset, .unset, .unset] []))
  refine go (fun _ kont => XS.iload X30.here hx rfl (hb hby at_133) rfl  kont) ?_
  show G (T30.setTop (mkF m 135 #[.val (.int p1), .val (.int p2), .val (.int p3), .val (.int p4), .val (.int (Int32.ofNat N)), .val (.int (Int32.ofNat D)), .val (.int (Int32.ofNat A)), .val (.int cc), .val (.ref b1), .val (.int (Int32.ofNat (A + D))), .unset, .unset, .unset] [(.int (Int32.ofNat (A + D)))]))
  refine go (fun _ kont => XS.iload X30.here hx rfl (hb hby at_135) rfl  kont) ?_
  show G (T30.setTop (mkF m 137 #[.val (.int p1), .val (.int p2), .val (.int p3), .val (.int p4), .val (.int (Int32.ofNat N)), .val (.int (Int32.ofNat D)), .val (.int (Int32.ofNat A)), .val (.int cc), .val (.ref b1), .val (.int (Int32.ofNat (A + D))), .unset, .unset, .unset] [(.int (Int32.ofNat A)), (.int (Int32.ofNat (A + D)))]))
  refine go (fun _ kont => XS.iload X30.here hx rfl (hb hby at_137) rfl  kont) ?_
  show G (T30.setTop (mkF m 139 #[.val (.int p1), .val (.int p2), .val (.int p3), .val (.int p4), .val (.int (Int32.ofNat N)), .val (.int (Int32.ofNat D)), .val (.int (Int32.ofNat A)), .val (.int cc), .val (.ref b1), .val (.int (Int32.ofNat (A + D))), .unset, .unset, .unset] [(.int (Int32.ofNat D)), (.int (Int32.ofNat A)), (.int (Int32.ofNat (A + D)))]))
  refine go (fun _ kont => XS.iadd X30.here hx rfl (hb hby at_139) rfl kont) ?_
  show G (T30.setTop (mkF m 140 #[.val (.int p1), .val (.int p2), .val (.int p3), .val (.int p4), .val (.int (Int32.ofNat N)), .val (.int (Int32.ofNat D)), .val (.int (Int32.ofNat A)), .val (.int cc), .val (.ref b1), .val (.int (Int32.ofNat (A + D))), .unset, .unset, .unset] [(.int ((Int32.ofNat A) + (Int32.ofNat D))), (.int (Int32.ofNat (A + D)))]))
  refine go (fun _ kont => XS.icmpNo X30.here hx rfl (hb hby at_140) rfl (teq (own_addk A D).symm).2 kont) ?_
  show G (T30.setTop (mkF m 143 #[.val (.int p1), .val (.int p2), .val (.int p3), .val (.int p4), .val (.int (Int32.ofNat N)), .val (.int (Int32.ofNat D)), .val (.int (Int32.ofNat A)), .val (.int cc), .val (.ref b1), .val (.int (Int32.ofNat (A + D))), .unset, .unset, .unset] []))
  refine go (fun _ kont => XS.iconst X30.here hx rfl (hb hby at_143) kont) ?_
  show G (T30.setTop (mkF m 144 #[.val (.int p1), .val (.int p2), .val (.int p3), .val (.int p4), .val (.int (Int32.ofNat N)), .val (.int (Int32.ofNat D)), .val (.int (Int32.ofNat A)), .val (.int cc), .val (.ref b1), .val (.int (Int32.ofNat (A + D))), .unset, .unset, .unset] [(.int (1 : Int32))]))
  refine go (fun _ kont => XS.goto X30.here hx rfl (pc0 := 144) (pc' := 148) rfl (hb hby at_144) (by decide) (by decide) kont) ?_
  show G (T30.setTop (mkF m 148 #[.val (.int p1), .val (.int p2), .val (.int p3), .val (.int p4), .val (.int (Int32.ofNat N)), .val (.int (Int32.ofNat D)), .val (.int (Int32.ofNat A)), .val (.int cc), .val (.ref b1), .val (.int (Int32.ofNat (A + D))), .unset, .unset, .unset] [(.int (1 : Int32))]))
  refine go (fun _ kont => XS.istore X30.here hx rfl (hb hby at_148) rfl (l' := #[.val (.int p1), .val (.int p2), .val (.int p3), .val (.int p4), .val (.int (Int32.ofNat N)), .val (.int (Int32.ofNat D)), .val (.int (Int32.ofNat A)), .val (.int cc), .val (.ref b1), .val (.int (Int32.ofNat (A + D))), .val (.int (1 : Int32)), .unset, .unset]) rfl kont) ?_
  show G (T30.setTop (mkF m 150 #[.val (.int p1), .val (.int p2), .val (.int p3), .val (.int p4), .val (.int (Int32.ofNat N)), .val (.int (Int32.ofNat D)), .val (.int (Int32.ofNat A)), .val (.int cc), .val (.ref b1), .val (.int (Int32.ofNat (A + D))), .val (.int (1 : Int32)), .unset, .unset] []))
  refine go (fun _ kont => XS.iload X30.here hx rfl (hb hby at_150) rfl  kont) ?_
  show G (T30.setTop (mkF m 152 #[.val (.int p1), .val (.int p2), .val (.int p3), .val (.int p4), .val (.int (Int32.ofNat N)), .val (.int (Int32.ofNat D)), .val (.int (Int32.ofNat A)), .val (.int cc), .val (.ref b1), .val (.int (Int32.ofNat (A + D))), .val (.int (1 : Int32)), .unset, .unset] [(.int (Int32.ofNat N))]))
  refine go (fun _ kont => XS.i2l X30.here hx rfl (hb hby at_152) rfl kont) ?_
  show G (T30.setTop (mkF m 153 #[.val (.int p1), .val (.int p2), .val (.int p3), .val (.int p4), .val (.int (Int32.ofNat N)), .val (.int (Int32.ofNat D)), .val (.int (Int32.ofNat A)), .val (.int cc), .val (.ref b1), .val (.int (Int32.ofNat (A + D))), .val (.int (1 : Int32)), .unset, .unset] [(.long (Int32.ofNat N).toInt64)]))
  rw [show (Int32.ofNat N).toInt64 = (Int64.ofNat N) from own_i2l hN]
  show G (T30.setTop (mkF m 153 #[.val (.int p1), .val (.int p2), .val (.int p3), .val (.int p4), .val (.int (Int32.ofNat N)), .val (.int (Int32.ofNat D)), .val (.int (Int32.ofNat A)), .val (.int cc), .val (.ref b1), .val (.int (Int32.ofNat (A + D))), .val (.int (1 : Int32)), .unset, .unset] [(.long (Int64.ofNat N))]))
  refine go (fun _ kont => XS.lstore X30.here hx rfl (hb hby at_153) rfl (l' := #[.val (.int p1), .val (.int p2), .val (.int p3), .val (.int p4), .val (.int (Int32.ofNat N)), .val (.int (Int32.ofNat D)), .val (.int (Int32.ofNat A)), .val (.int cc), .val (.ref b1), .val (.int (Int32.ofNat (A + D))), .val (.int (1 : Int32)), .val (.long (Int64.ofNat N)), .second]) rfl kont) ?_
  show G (T30.setTop (mkF m 155 #[.val (.int p1), .val (.int p2), .val (.int p3), .val (.int p4), .val (.int (Int32.ofNat N)), .val (.int (Int32.ofNat D)), .val (.int (Int32.ofNat A)), .val (.int cc), .val (.ref b1), .val (.int (Int32.ofNat (A + D))), .val (.int (1 : Int32)), .val (.long (Int64.ofNat N)), .second] []))
  refine go (fun _ kont => XS.iload X30.here hx rfl (hb hby at_155) rfl  kont) ?_
  show G (T30.setTop (mkF m 157 #[.val (.int p1), .val (.int p2), .val (.int p3), .val (.int p4), .val (.int (Int32.ofNat N)), .val (.int (Int32.ofNat D)), .val (.int (Int32.ofNat A)), .val (.int cc), .val (.ref b1), .val (.int (Int32.ofNat (A + D))), .val (.int (1 : Int32)), .val (.long (Int64.ofNat N)), .second] [(.int (1 : Int32))]))
  refine go (fun _ kont => XS.ifNo X30.here hx rfl (hb hby at_157) rfl ((if0 _ _).trans (feq (by decide)).1) kont) ?_
  show G (T30.setTop (mkF m 160 #[.val (.int p1), .val (.int p2), .val (.int p3), .val (.int p4), .val (.int (Int32.ofNat N)), .val (.int (Int32.ofNat D)), .val (.int (Int32.ofNat A)), .val (.int cc), .val (.ref b1), .val (.int (Int32.ofNat (A + D))), .val (.int (1 : Int32)), .val (.long (Int64.ofNat N)), .second] []))
  refine go (fun _ kont => XS.aload X30.here hx rfl (hb hby at_160) rfl rfl kont) ?_
  show G (T30.setTop (mkF m 162 #[.val (.int p1), .val (.int p2), .val (.int p3), .val (.int p4), .val (.int (Int32.ofNat N)), .val (.int (Int32.ofNat D)), .val (.int (Int32.ofNat A)), .val (.int cc), .val (.ref b1), .val (.int (Int32.ofNat (A + D))), .val (.int (1 : Int32)), .val (.long (Int64.ofNat N)), .second] [(.ref b1)]))
  refine go (fun _ kont => XS.iconst X30.here hx rfl (hb hby at_162) kont) ?_
  show G (T30.setTop (mkF m 163 #[.val (.int p1), .val (.int p2), .val (.int p3), .val (.int p4), .val (.int (Int32.ofNat N)), .val (.int (Int32.ofNat D)), .val (.int (Int32.ofNat A)), .val (.int cc), .val (.ref b1), .val (.int (Int32.ofNat (A + D))), .val (.int (1 : Int32)), .val (.long (Int64.ofNat N)), .second] [(.int (0 : Int32)), (.ref b1)]))
  refine go (fun _ kont => XS.lload X30.here hx rfl (hb hby at_163) rfl  kont) ?_
  show G (T30.setTop (mkF m 165 #[.val (.int p1), .val (.int p2), .val (.int p3), .val (.int p4), .val (.int (Int32.ofNat N)), .val (.int (Int32.ofNat D)), .val (.int (Int32.ofNat A)), .val (.int cc), .val (.ref b1), .val (.int (Int32.ofNat (A + D))), .val (.int (1 : Int32)), .val (.long (Int64.ofNat N)), .second] [(.long (Int64.ofNat N)), (.int (0 : Int32)), (.ref b1)]))
  refine go (fun _ kont => XS.iload X30.here hx rfl (hb hby at_165) rfl  kont) ?_
  show G (T30.setTop (mkF m 167 #[.val (.int p1), .val (.int p2), .val (.int p3), .val (.int p4), .val (.int (Int32.ofNat N)), .val (.int (Int32.ofNat D)), .val (.int (Int32.ofNat A)), .val (.int cc), .val (.ref b1), .val (.int (Int32.ofNat (A + D))), .val (.int (1 : Int32)), .val (.long (Int64.ofNat N)), .second] [(.int (Int32.ofNat D)), (.long (Int64.ofNat N)), (.int (0 : Int32)), (.ref b1)]))
  refine go (fun _ kont => XS.iload X30.here hx rfl (hb hby at_167) rfl  kont) ?_
  show G (T30.setTop (mkF m 169 #[.val (.int p1), .val (.int p2), .val (.int p3), .val (.int p4), .val (.int (Int32.ofNat N)), .val (.int (Int32.ofNat D)), .val (.int (Int32.ofNat A)), .val (.int cc), .val (.ref b1), .val (.int (Int32.ofNat (A + D))), .val (.int (1 : Int32)), .val (.long (Int64.ofNat N)), .second] [(.int (Int32.ofNat A)), (.int (Int32.ofNat D)), (.long (Int64.ofNat N)), (.int (0 : Int32)), (.ref b1)]))
  refine go (fun _ kont => XS.iload X30.here hx rfl (hb hby at_169) rfl  kont) ?_
  show G (T30.setTop (mkF m 171 #[.val (.int p1), .val (.int p2), .val (.int p3), .val (.int p4), .val (.int (Int32.ofNat N)), .val (.int (Int32.ofNat D)), .val (.int (Int32.ofNat A)), .val (.int cc), .val (.ref b1), .val (.int (Int32.ofNat (A + D))), .val (.int (1 : Int32)), .val (.long (Int64.ofNat N)), .second] [(.int cc), (.int (Int32.ofNat A)), (.int (Int32.ofNat D)), (.long (Int64.ofNat N)), (.int (0 : Int32)), (.ref b1)]))
  obtain ⟨_, _, ⟨T31, L31, k31, n31⟩, -, X31, ⟨Lc31, hQ31, l31, y31, z31⟩, st31⟩ := Jvm.LawKit.callS X30 hx (y := (⟨"com/example/reckoner/reckoner/core/DigitsWritePinLaw", "check", "([CIJIIC)Z"⟩ : MethodName)) hown (mvT hZ (hw _ (List.mem_of_getElem? (i := 7) rfl))) (mvT hZ (hw _ (List.mem_of_getElem? (i := 8) rfl))) (mvT hZ (hw _ (List.mem_of_getElem? (i := 9) rfl))) (mvT hZ (hw _ (List.mem_of_getElem? (i := 10) rfl))) (by decide) (backOf (W := 0) (own_rm_check l Z a0 hw [] b1 cc T30.heap n0 Z30 0 N D A (by decide) hN (by omega) hAD zs hzl V30 (hz 0 (by decide))) hZ (hw _ (List.mem_of_getElem? (i := 10) rfl)) (hw _ (List.mem_of_getElem? (i := 9) rfl)) (by decide) (by decide)) (g := (mkF m 171 #[.val (.int p1), .val (.int p2), .val (.int p3), .val (.int p4), .val (.int (Int32.ofNat N)), .val (.int (Int32.ofNat D)), .val (.int (Int32.ofNat A)), .val (.int cc), .val (.ref b1), .val (.int (Int32.ofNat (A + D))), .val (.int (1 : Int32)), .val (.long (Int64.ofNat N)), .second] [(.int cc), (.int (Int32.ofNat A)), (.int (Int32.ofNat D)), (.long (Int64.ofNat N)), (.int (0 : Int32)), (.ref b1)])) rfl (by rw [hml]; rfl) (argsL := [(.ref b1), (.int (0 : Int32)), (.long (Int64.ofNat N)), (.int (Int32.ofNat D)), (.int (Int32.ofNat A)), (.int cc)]) (rest := []) (lenOf own_pd2 rfl) rfl (by show 2 * 0 + _ ≤ _; exact Nat.le_of_eq rfl) (hb hby at_171) (fun _ _ => ⟨rfl, e30, (by decide : 1 + 1 ≤ _), (by decide : 14 + 12 ≤ _)⟩)
  dsimp only [Pt.U, Pt.locs, Pt.cells, Pt.slots] at X31 l31 y31 z31 st31 hQ31
  obtain ⟨rfl, N31q, K31⟩ := hQ31
  have N31 : Fr n0 L31 := by rw [l31]; exact Fr.app N30 N31q
  have e31 : T31.heap = T31.heap := rfl
  rw [show k31 = 2 from y31, show n31 = 26 from z31] at X31
  refine go st31 ?_
  show G (T31.setTop (mkF m 174 #[.val (.int p1), .val (.int p2), .val (.int p3), .val (.int p4), .val (.int (Int32.ofNat N)), .val (.int (Int32.ofNat D)), .val (.int (Int32.ofNat A)), .val (.int cc), .val (.ref b1), .val (.int (Int32.ofNat (A + D))), .val (.int (1 : Int32)), .val (.long (Int64.ofNat N)), .second] [(.int (1 : Int32))]))
  have Z31 : n0 ≤ T31.heap.size := Nat.le_trans Z30 K31.1
  have V31 := own_V_keep V30 K31 own_ni_0
  refine go (fun _ kont => XS.ifNo X31.here hx rfl (hb hby at_174) rfl ((if0 _ _).trans (feq (by decide)).1) kont) ?_
  show G (T31.setTop (mkF m 177 #[.val (.int p1), .val (.int p2), .val (.int p3), .val (.int p4), .val (.int (Int32.ofNat N)), .val (.int (Int32.ofNat D)), .val (.int (Int32.ofNat A)), .val (.int cc), .val (.ref b1), .val (.int (Int32.ofNat (A + D))), .val (.int (1 : Int32)), .val (.long (Int64.ofNat N)), .second] []))
  refine go (fun _ kont => XS.iconst X31.here hx rfl (hb hby at_177) kont) ?_
  show G (T31.setTop (mkF m 178 #[.val (.int p1), .val (.int p2), .val (.int p3), .val (.int p4), .val (.int (Int32.ofNat N)), .val (.int (Int32.ofNat D)), .val (.int (Int32.ofNat A)), .val (.int cc), .val (.ref b1), .val (.int (Int32.ofNat (A + D))), .val (.int (1 : Int32)), .val (.long (Int64.ofNat N)), .second] [(.int (1 : Int32))]))
  refine go (fun _ kont => XS.goto X31.here hx rfl (pc0 := 178) (pc' := 182) rfl (hb hby at_178) (by decide) (by decide) kont) ?_
  show G (T31.setTop (mkF m 182 #[.val (.int p1), .val (.int p2), .val (.int p3), .val (.int p4), .val (.int (Int32.ofNat N)), .val (.int (Int32.ofNat D)), .val (.int (Int32.ofNat A)), .val (.int cc), .val (.ref b1), .val (.int (Int32.ofNat (A + D))), .val (.int (1 : Int32)), .val (.long (Int64.ofNat N)), .second] [(.int (1 : Int32))]))
  refine go (fun _ kont => XS.istore X31.here hx rfl (hb hby at_182) rfl (l' := #[.val (.int p1), .val (.int p2), .val (.int p3), .val (.int p4), .val (.int (Int32.ofNat N)), .val (.int (Int32.ofNat D)), .val (.int (Int32.ofNat A)), .val (.int cc), .val (.ref b1), .val (.int (Int32.ofNat (A + D))), .val (.int (1 : Int32)), .val (.long (Int64.ofNat N)), .second]) rfl kont) ?_
  show G (T31.setTop (mkF m 184 #[.val (.int p1), .val (.int p2), .val (.int p3), .val (.int p4), .val (.int (Int32.ofNat N)), .val (.int (Int32.ofNat D)), .val (.int (Int32.ofNat A)), .val (.int cc), .val (.ref b1), .val (.int (Int32.ofNat (A + D))), .val (.int (1 : Int32)), .val (.long (Int64.ofNat N)), .second] []))
  refine go (fun _ kont => XS.iload X31.here hx rfl (hb hby at_184) rfl  kont) ?_
  show G (T31.setTop (mkF m 186 #[.val (.int p1), .val (.int p2), .val (.int p3), .val (.int p4), .val (.int (Int32.ofNat N)), .val (.int (Int32.ofNat D)), .val (.int (Int32.ofNat A)), .val (.int cc), .val (.ref b1), .val (.int (Int32.ofNat (A + D))), .val (.int (1 : Int32)), .val (.long (Int64.ofNat N)), .second] [(.int (1 : Int32))]))
  refine go (fun _ kont => XS.ifNo X31.here hx rfl (hb hby at_186) rfl ((if0 _ _).trans (feq (by decide)).1) kont) ?_
  show G (T31.setTop (mkF m 189 #[.val (.int p1), .val (.int p2), .val (.int p3), .val (.int p4), .val (.int (Int32.ofNat N)), .val (.int (Int32.ofNat D)), .val (.int (Int32.ofNat A)), .val (.int cc), .val (.ref b1), .val (.int (Int32.ofNat (A + D))), .val (.int (1 : Int32)), .val (.long (Int64.ofNat N)), .second] []))
  refine go (fun _ kont => XS.aload X31.here hx rfl (hb hby at_189) rfl rfl kont) ?_
  show G (T31.setTop (mkF m 191 #[.val (.int p1), .val (.int p2), .val (.int p3), .val (.int p4), .val (.int (Int32.ofNat N)), .val (.int (Int32.ofNat D)), .val (.int (Int32.ofNat A)), .val (.int cc), .val (.ref b1), .val (.int (Int32.ofNat (A + D))), .val (.int (1 : Int32)), .val (.long (Int64.ofNat N)), .second] [(.ref b1)]))
  refine go (fun _ kont => XS.iconst X31.here hx rfl (hb hby at_191) kont) ?_
  show G (T31.setTop (mkF m 192 #[.val (.int p1), .val (.int p2), .val (.int p3), .val (.int p4), .val (.int (Int32.ofNat N)), .val (.int (Int32.ofNat D)), .val (.int (Int32.ofNat A)), .val (.int cc), .val (.ref b1), .val (.int (Int32.ofNat (A + D))), .val (.int (1 : Int32)), .val (.long (Int64.ofNat N)), .second] [(.int (1 : Int32)), (.ref b1)]))
  refine go (fun _ kont => XS.lload X31.here hx rfl (hb hby at_192) rfl  kont) ?_
  show G (T31.setTop (mkF m 194 #[.val (.int p1), .val (.int p2), .val (.int p3), .val (.int p4), .val (.int (Int32.ofNat N)), .val (.int (Int32.ofNat D)), .val (.int (Int32.ofNat A)), .val (.int cc), .val (.ref b1), .val (.int (Int32.ofNat (A + D))), .val (.int (1 : Int32)), .val (.long (Int64.ofNat N)), .second] [(.long (Int64.ofNat N)), (.int (1 : Int32)), (.ref b1)]))
  refine go (fun _ kont => XS.iload X31.here hx rfl (hb hby at_194) rfl  kont) ?_
  show G (T31.setTop (mkF m 196 #[.val (.int p1), .val (.int p2), .val (.int p3), .val (.int p4), .val (.int (Int32.ofNat N)), .val (.int (Int32.ofNat D)), .val (.int (Int32.ofNat A)), .val (.int cc), .val (.ref b1), .val (.int (Int32.ofNat (A + D))), .val (.int (1 : Int32)), .val (.long (Int64.ofNat N)), .second] [(.int (Int32.ofNat D)), (.long (Int64.ofNat N)), (.int (1 : Int32)), (.ref b1)]))
  refine go (fun _ kont => XS.iload X31.here hx rfl (hb hby at_196) rfl  kont) ?_
  show G (T31.setTop (mkF m 198 #[.val (.int p1), .val (.int p2), .val (.int p3), .val (.int p4), .val (.int (Int32.ofNat N)), .val (.int (Int32.ofNat D)), .val (.int (Int32.ofNat A)), .val (.int cc), .val (.ref b1), .val (.int (Int32.ofNat (A + D))), .val (.int (1 : Int32)), .val (.long (Int64.ofNat N)), .second] [(.int (Int32.ofNat A)), (.int (Int32.ofNat D)), (.long (Int64.ofNat N)), (.int (1 : Int32)), (.ref b1)]))
  refine go (fun _ kont => XS.iload X31.here hx rfl (hb hby at_198) rfl  kont) ?_
  show G (T31.setTop (mkF m 200 #[.val (.int p1), .val (.int p2), .val (.int p3), .val (.int p4), .val (.int (Int32.ofNat N)), .val (.int (Int32.ofNat D)), .val (.int (Int32.ofNat A)), .val (.int cc), .val (.ref b1), .val (.int (Int32.ofNat (A + D))), .val (.int (1 : Int32)), .val (.long (Int64.ofNat N)), .second] [(.int cc), (.int (Int32.ofNat A)), (.int (Int32.ofNat D)), (.long (Int64.ofNat N)), (.int (1 : Int32)), (.ref b1)]))
  obtain ⟨_, _, ⟨T32, L32, k32, n32⟩, -, X32, ⟨Lc32, hQ32, l32, y32, z32⟩, st32⟩ := Jvm.LawKit.callS X31 hx (y := (⟨"com/example/reckoner/reckoner/core/DigitsWritePinLaw", "check", "([CIJIIC)Z"⟩ : MethodName)) hown (mvT hZ (hw _ (List.mem_of_getElem? (i := 7) rfl))) (mvT hZ (hw _ (List.mem_of_getElem? (i := 8) rfl))) (mvT hZ (hw _ (List.mem_of_getElem? (i := 9) rfl))) (mvT hZ (hw _ (List.mem_of_getElem? (i := 10) rfl))) (by decide) (backOf (W := 0) (own_rm_check l Z a0 hw [] b1 cc T31.heap n0 Z31 1 N D A (by decide) hN (by omega) hAD zs hzl V31 (hz 1 (by decide))) hZ (hw _ (List.mem_of_getElem? (i := 10) rfl)) (hw _ (List.mem_of_getElem? (i := 9) rfl)) (by decide) (by decide)) (g := (mkF m 200 #[.val (.int p1), .val (.int p2), .val (.int p3), .val (.int p4), .val (.int (Int32.ofNat N)), .val (.int (Int32.ofNat D)), .val (.int (Int32.ofNat A)), .val (.int cc), .val (.ref b1), .val (.int (Int32.ofNat (A + D))), .val (.int (1 : Int32)), .val (.long (Int64.ofNat N)), .second] [(.int cc), (.int (Int32.ofNat A)), (.int (Int32.ofNat D)), (.long (Int64.ofNat N)), (.int (1 : Int32)), (.ref b1)])) rfl (by rw [hml]; rfl) (argsL := [(.ref b1), (.int (1 : Int32)), (.long (Int64.ofNat N)), (.int (Int32.ofNat D)), (.int (Int32.ofNat A)), (.int cc)]) (rest := []) (lenOf own_pd2 rfl) rfl (by show 2 * 0 + _ ≤ _; exact Nat.le_of_eq rfl) (hb hby at_200) (fun _ _ => ⟨rfl, e31, (by decide : 2 + 1 ≤ _), (by decide : 26 + 12 ≤ _)⟩)
  dsimp only [Pt.U, Pt.locs, Pt.cells, Pt.slots] at X32 l32 y32 z32 st32 hQ32
  obtain ⟨rfl, N32q, K32⟩ := hQ32
  have N32 : Fr n0 L32 := by rw [l32]; exact Fr.app N31 N32q
  have e32 : T32.heap = T32.heap := rfl
  rw [show k32 = 3 from y32, show n32 = 38 from z32] at X32
  refine go st32 ?_
  show G (T32.setTop (mkF m 203 #[.val (.int p1), .val (.int p2), .val (.int p3), .val (.int p4), .val (.int (Int32.ofNat N)), .val (.int (Int32.ofNat D)), .val (.int (Int32.ofNat A)), .val (.int cc), .val (.ref b1), .val (.int (Int32.ofNat (A + D))), .val (.int (1 : Int32)), .val (.long (Int64.ofNat N)), .second] [(.int (1 : Int32))]))
  have Z32 : n0 ≤ T32.heap.size := Nat.le_trans Z31 K32.1
  have V32 := own_V_keep V31 K32 own_ni_0
  refine go (fun _ kont => XS.ifNo X32.here hx rfl (hb hby at_203) rfl ((if0 _ _).trans (feq (by decide)).1) kont) ?_
  show G (T32.setTop (mkF m 206 #[.val (.int p1), .val (.int p2), .val (.int p3), .val (.int p4), .val (.int (Int32.ofNat N)), .val (.int (Int32.ofNat D)), .val (.int (Int32.ofNat A)), .val (.int cc), .val (.ref b1), .val (.int (Int32.ofNat (A + D))), .val (.int (1 : Int32)), .val (.long (Int64.ofNat N)), .second] []))
  refine go (fun _ kont => XS.iconst X32.here hx rfl (hb hby at_206) kont) ?_
  show G (T32.setTop (mkF m 207 #[.val (.int p1), .val (.int p2), .val (.int p3), .val (.int p4), .val (.int (Int32.ofNat N)), .val (.int (Int32.ofNat D)), .val (.int (Int32.ofNat A)), .val (.int cc), .val (.ref b1), .val (.int (Int32.ofNat (A + D))), .val (.int (1 : Int32)), .val (.long (Int64.ofNat N)), .second] [(.int (1 : Int32))]))
  refine go (fun _ kont => XS.goto X32.here hx rfl (pc0 := 207) (pc' := 211) rfl (hb hby at_207) (by decide) (by decide) kont) ?_
  show G (T32.setTop (mkF m 211 #[.val (.int p1), .val (.int p2), .val (.int p3), .val (.int p4), .val (.int (Int32.ofNat N)), .val (.int (Int32.ofNat D)), .val (.int (Int32.ofNat A)), .val (.int cc), .val (.ref b1), .val (.int (Int32.ofNat (A + D))), .val (.int (1 : Int32)), .val (.long (Int64.ofNat N)), .second] [(.int (1 : Int32))]))
  refine go (fun _ kont => XS.istore X32.here hx rfl (hb hby at_211) rfl (l' := #[.val (.int p1), .val (.int p2), .val (.int p3), .val (.int p4), .val (.int (Int32.ofNat N)), .val (.int (Int32.ofNat D)), .val (.int (Int32.ofNat A)), .val (.int cc), .val (.ref b1), .val (.int (Int32.ofNat (A + D))), .val (.int (1 : Int32)), .val (.long (Int64.ofNat N)), .second]) rfl kont) ?_
  show G (T32.setTop (mkF m 213 #[.val (.int p1), .val (.int p2), .val (.int p3), .val (.int p4), .val (.int (Int32.ofNat N)), .val (.int (Int32.ofNat D)), .val (.int (Int32.ofNat A)), .val (.int cc), .val (.ref b1), .val (.int (Int32.ofNat (A + D))), .val (.int (1 : Int32)), .val (.long (Int64.ofNat N)), .second] []))
  refine go (fun _ kont => XS.iload X32.here hx rfl (hb hby at_213) rfl  kont) ?_
  show G (T32.setTop (mkF m 215 #[.val (.int p1), .val (.int p2), .val (.int p3), .val (.int p4), .val (.int (Int32.ofNat N)), .val (.int (Int32.ofNat D)), .val (.int (Int32.ofNat A)), .val (.int cc), .val (.ref b1), .val (.int (Int32.ofNat (A + D))), .val (.int (1 : Int32)), .val (.long (Int64.ofNat N)), .second] [(.int (1 : Int32))]))
  refine go (fun _ kont => XS.ifNo X32.here hx rfl (hb hby at_215) rfl ((if0 _ _).trans (feq (by decide)).1) kont) ?_
  show G (T32.setTop (mkF m 218 #[.val (.int p1), .val (.int p2), .val (.int p3), .val (.int p4), .val (.int (Int32.ofNat N)), .val (.int (Int32.ofNat D)), .val (.int (Int32.ofNat A)), .val (.int cc), .val (.ref b1), .val (.int (Int32.ofNat (A + D))), .val (.int (1 : Int32)), .val (.long (Int64.ofNat N)), .second] []))
  refine go (fun _ kont => XS.aload X32.here hx rfl (hb hby at_218) rfl rfl kont) ?_
  show G (T32.setTop (mkF m 220 #[.val (.int p1), .val (.int p2), .val (.int p3), .val (.int p4), .val (.int (Int32.ofNat N)), .val (.int (Int32.ofNat D)), .val (.int (Int32.ofNat A)), .val (.int cc), .val (.ref b1), .val (.int (Int32.ofNat (A + D))), .val (.int (1 : Int32)), .val (.long (Int64.ofNat N)), .second] [(.ref b1)]))
  refine go (fun _ kont => XS.iconst X32.here hx rfl (hb hby at_220) kont) ?_
  show G (T32.setTop (mkF m 221 #[.val (.int p1), .val (.int p2), .val (.int p3), .val (.int p4), .val (.int (Int32.ofNat N)), .val (.int (Int32.ofNat D)), .val (.int (Int32.ofNat A)), .val (.int cc), .val (.ref b1), .val (.int (Int32.ofNat (A + D))), .val (.int (1 : Int32)), .val (.long (Int64.ofNat N)), .second] [(.int (2 : Int32)), (.ref b1)]))
  refine go (fun _ kont => XS.lload X32.here hx rfl (hb hby at_221) rfl  kont) ?_
  show G (T32.setTop (mkF m 223 #[.val (.int p1), .val (.int p2), .val (.int p3), .val (.int p4), .val (.int (Int32.ofNat N)), .val (.int (Int32.ofNat D)), .val (.int (Int32.ofNat A)), .val (.int cc), .val (.ref b1), .val (.int (Int32.ofNat (A + D))), .val (.int (1 : Int32)), .val (.long (Int64.ofNat N)), .second] [(.long (Int64.ofNat N)), (.int (2 : Int32)), (.ref b1)]))
  refine go (fun _ kont => XS.iload X32.here hx rfl (hb hby at_223) rfl  kont) ?_
  show G (T32.setTop (mkF m 225 #[.val (.int p1), .val (.int p2), .val (.int p3), .val (.int p4), .val (.int (Int32.ofNat N)), .val (.int (Int32.ofNat D)), .val (.int (Int32.ofNat A)), .val (.int cc), .val (.ref b1), .val (.int (Int32.ofNat (A + D))), .val (.int (1 : Int32)), .val (.long (Int64.ofNat N)), .second] [(.int (Int32.ofNat D)), (.long (Int64.ofNat N)), (.int (2 : Int32)), (.ref b1)]))
  refine go (fun _ kont => XS.iload X32.here hx rfl (hb hby at_225) rfl  kont) ?_
  show G (T32.setTop (mkF m 227 #[.val (.int p1), .val (.int p2), .val (.int p3), .val (.int p4), .val (.int (Int32.ofNat N)), .val (.int (Int32.ofNat D)), .val (.int (Int32.ofNat A)), .val (.int cc), .val (.ref b1), .val (.int (Int32.ofNat (A + D))), .val (.int (1 : Int32)), .val (.long (Int64.ofNat N)), .second] [(.int (Int32.ofNat A)), (.int (Int32.ofNat D)), (.long (Int64.ofNat N)), (.int (2 : Int32)), (.ref b1)]))
  refine go (fun _ kont => XS.iload X32.here hx rfl (hb hby at_227) rfl  kont) ?_
  show G (T32.setTop (mkF m 229 #[.val (.int p1), .val (.int p2), .val (.int p3), .val (.int p4), .val (.int (Int32.ofNat N)), .val (.int (Int32.ofNat D)), .val (.int (Int32.ofNat A)), .val (.int cc), .val (.ref b1), .val (.int (Int32.ofNat (A + D))), .val (.int (1 : Int32)), .val (.long (Int64.ofNat N)), .second] [(.int cc), (.int (Int32.ofNat A)), (.int (Int32.ofNat D)), (.long (Int64.ofNat N)), (.int (2 : Int32)), (.ref b1)]))
  obtain ⟨_, _, ⟨T33, L33, k33, n33⟩, -, X33, ⟨Lc33, hQ33, l33, y33, z33⟩, st33⟩ := Jvm.LawKit.callS X32 hx (y := (⟨"com/example/reckoner/reckoner/core/DigitsWritePinLaw", "check", "([CIJIIC)Z"⟩ : MethodName)) hown (mvT hZ (hw _ (List.mem_of_getElem? (i := 7) rfl))) (mvT hZ (hw _ (List.mem_of_getElem? (i := 8) rfl))) (mvT hZ (hw _ (List.mem_of_getElem? (i := 9) rfl))) (mvT hZ (hw _ (List.mem_of_getElem? (i := 10) rfl))) (by decide) (backOf (W := 0) (own_rm_check l Z a0 hw [] b1 cc T32.heap n0 Z32 2 N D A (by decide) hN (by omega) hAD zs hzl V32 (hz 2 (by decide))) hZ (hw _ (List.mem_of_getElem? (i := 10) rfl)) (hw _ (List.mem_of_getElem? (i := 9) rfl)) (by decide) (by decide)) (g := (mkF m 229 #[.val (.int p1), .val (.int p2), .val (.int p3), .val (.int p4), .val (.int (Int32.ofNat N)), .val (.int (Int32.ofNat D)), .val (.int (Int32.ofNat A)), .val (.int cc), .val (.ref b1), .val (.int (Int32.ofNat (A + D))), .val (.int (1 : Int32)), .val (.long (Int64.ofNat N)), .second] [(.int cc), (.int (Int32.ofNat A)), (.int (Int32.ofNat D)), (.long (Int64.ofNat N)), (.int (2 : Int32)), (.ref b1)])) rfl (by rw [hml]; rfl) (argsL := [(.ref b1), (.int (2 : Int32)), (.long (Int64.ofNat N)), (.int (Int32.ofNat D)), (.int (Int32.ofNat A)), (.int cc)]) (rest := []) (lenOf own_pd2 rfl) rfl (by show 2 * 0 + _ ≤ _; exact Nat.le_of_eq rfl) (hb hby at_229) (fun _ _ => ⟨rfl, e32, (by decide : 3 + 1 ≤ _), (by decide : 38 + 12 ≤ _)⟩)
  dsimp only [Pt.U, Pt.locs, Pt.cells, Pt.slots] at X33 l33 y33 z33 st33 hQ33
  obtain ⟨rfl, N33q, K33⟩ := hQ33
  have N33 : Fr n0 L33 := by rw [l33]; exact Fr.app N32 N33q
  have e33 : T33.heap = T33.heap := rfl
  rw [show k33 = 4 from y33, show n33 = 50 from z33] at X33
  refine go st33 ?_
  show G (T33.setTop (mkF m 232 #[.val (.int p1), .val (.int p2), .val (.int p3), .val (.int p4), .val (.int (Int32.ofNat N)), .val (.int (Int32.ofNat D)), .val (.int (Int32.ofNat A)), .val (.int cc), .val (.ref b1), .val (.int (Int32.ofNat (A + D))), .val (.int (1 : Int32)), .val (.long (Int64.ofNat N)), .second] [(.int (1 : Int32))]))
  have Z33 : n0 ≤ T33.heap.size := Nat.le_trans Z32 K33.1
  have V33 := own_V_keep V32 K33 own_ni_0
  refine go (fun _ kont => XS.ifNo X33.here hx rfl (hb hby at_232) rfl ((if0 _ _).trans (feq (by decide)).1) kont) ?_
  show G (T33.setTop (mkF m 235 #[.val (.int p1), .val (.int p2), .val (.int p3), .val (.int p4), .val (.int (Int32.ofNat N)), .val (.int (Int32.ofNat D)), .val (.int (Int32.ofNat A)), .val (.int cc), .val (.ref b1), .val (.int (Int32.ofNat (A + D))), .val (.int (1 : Int32)), .val (.long (Int64.ofNat N)), .second] []))
  refine go (fun _ kont => XS.iconst X33.here hx rfl (hb hby at_235) kont) ?_
  show G (T33.setTop (mkF m 236 #[.val (.int p1), .val (.int p2), .val (.int p3), .val (.int p4), .val (.int (Int32.ofNat N)), .val (.int (Int32.ofNat D)), .val (.int (Int32.ofNat A)), .val (.int cc), .val (.ref b1), .val (.int (Int32.ofNat (A + D))), .val (.int (1 : Int32)), .val (.long (Int64.ofNat N)), .second] [(.int (1 : Int32))]))
  refine go (fun _ kont => XS.goto X33.here hx rfl (pc0 := 236) (pc' := 240) rfl (hb hby at_236) (by decide) (by decide) kont) ?_
  show G (T33.setTop (mkF m 240 #[.val (.int p1), .val (.int p2), .val (.int p3), .val (.int p4), .val (.int (Int32.ofNat N)), .val (.int (Int32.ofNat D)), .val (.int (Int32.ofNat A)), .val (.int cc), .val (.ref b1), .val (.int (Int32.ofNat (A + D))), .val (.int (1 : Int32)), .val (.long (Int64.ofNat N)), .second] [(.int (1 : Int32))]))
  refine go (fun _ kont => XS.istore X33.here hx rfl (hb hby at_240) rfl (l' := #[.val (.int p1), .val (.int p2), .val (.int p3), .val (.int p4), .val (.int (Int32.ofNat N)), .val (.int (Int32.ofNat D)), .val (.int (Int32.ofNat A)), .val (.int cc), .val (.ref b1), .val (.int (Int32.ofNat (A + D))), .val (.int (1 : Int32)), .val (.long (Int64.ofNat N)), .second]) rfl kont) ?_
  show G (T33.setTop (mkF m 242 #[.val (.int p1), .val (.int p2), .val (.int p3), .val (.int p4), .val (.int (Int32.ofNat N)), .val (.int (Int32.ofNat D)), .val (.int (Int32.ofNat A)), .val (.int cc), .val (.ref b1), .val (.int (Int32.ofNat (A + D))), .val (.int (1 : Int32)), .val (.long (Int64.ofNat N)), .second] []))
  refine go (fun _ kont => XS.iload X33.here hx rfl (hb hby at_242) rfl  kont) ?_
  show G (T33.setTop (mkF m 244 #[.val (.int p1), .val (.int p2), .val (.int p3), .val (.int p4), .val (.int (Int32.ofNat N)), .val (.int (Int32.ofNat D)), .val (.int (Int32.ofNat A)), .val (.int cc), .val (.ref b1), .val (.int (Int32.ofNat (A + D))), .val (.int (1 : Int32)), .val (.long (Int64.ofNat N)), .second] [(.int (1 : Int32))]))
  refine go (fun _ kont => XS.ifNo X33.here hx rfl (hb hby at_244) rfl ((if0 _ _).trans (feq (by decide)).1) kont) ?_
  show G (T33.setTop (mkF m 247 #[.val (.int p1), .val (.int p2), .val (.int p3), .val (.int p4), .val (.int (Int32.ofNat N)), .val (.int (Int32.ofNat D)), .val (.int (Int32.ofNat A)), .val (.int cc), .val (.ref b1), .val (.int (Int32.ofNat (A + D))), .val (.int (1 : Int32)), .val (.long (Int64.ofNat N)), .second] []))
  refine go (fun _ kont => XS.aload X33.here hx rfl (hb hby at_247) rfl rfl kont) ?_
  show G (T33.setTop (mkF m 249 #[.val (.int p1), .val (.int p2), .val (.int p3), .val (.int p4), .val (.int (Int32.ofNat N)), .val (.int (Int32.ofNat D)), .val (.int (Int32.ofNat A)), .val (.int cc), .val (.ref b1), .val (.int (Int32.ofNat (A + D))), .val (.int (1 : Int32)), .val (.long (Int64.ofNat N)), .second] [(.ref b1)]))
  refine go (fun _ kont => XS.iconst X33.here hx rfl (hb hby at_249) kont) ?_
  show G (T33.setTop (mkF m 250 #[.val (.int p1), .val (.int p2), .val (.int p3), .val (.int p4), .val (.int (Int32.ofNat N)), .val (.int (Int32.ofNat D)), .val (.int (Int32.ofNat A)), .val (.int cc), .val (.ref b1), .val (.int (Int32.ofNat (A + D))), .val (.int (1 : Int32)), .val (.long (Int64.ofNat N)), .second] [(.int (3 : Int32)), (.ref b1)]))
  refine go (fun _ kont => XS.lload X33.here hx rfl (hb hby at_250) rfl  kont) ?_
  show G (T33.setTop (mkF m 252 #[.val (.int p1), .val (.int p2), .val (.int p3), .val (.int p4), .val (.int (Int32.ofNat N)), .val (.int (Int32.ofNat D)), .val (.int (Int32.ofNat A)), .val (.int cc), .val (.ref b1), .val (.int (Int32.ofNat (A + D))), .val (.int (1 : Int32)), .val (.long (Int64.ofNat N)), .second] [(.long (Int64.ofNat N)), (.int (3 : Int32)), (.ref b1)]))
  refine go (fun _ kont => XS.iload X33.here hx rfl (hb hby at_252) rfl  kont) ?_
  show G (T33.setTop (mkF m 254 #[.val (.int p1), .val (.int p2), .val (.int p3), .val (.int p4), .val (.int (Int32.ofNat N)), .val (.int (Int32.ofNat D)), .val (.int (Int32.ofNat A)), .val (.int cc), .val (.ref b1), .val (.int (Int32.ofNat (A + D))), .val (.int (1 : Int32)), .val (.long (Int64.ofNat N)), .second] [(.int (Int32.ofNat D)), (.long (Int64.ofNat N)), (.int (3 : Int32)), (.ref b1)]))
  refine go (fun _ kont => XS.iload X33.here hx rfl (hb hby at_254) rfl  kont) ?_
  show G (T33.setTop (mkF m 256 #[.val (.int p1), .val (.int p2), .val (.int p3), .val (.int p4), .val (.int (Int32.ofNat N)), .val (.int (Int32.ofNat D)), .val (.int (Int32.ofNat A)), .val (.int cc), .val (.ref b1), .val (.int (Int32.ofNat (A + D))), .val (.int (1 : Int32)), .val (.long (Int64.ofNat N)), .second] [(.int (Int32.ofNat A)), (.int (Int32.ofNat D)), (.long (Int64.ofNat N)), (.int (3 : Int32)), (.ref b1)]))
  refine go (fun _ kont => XS.iload X33.here hx rfl (hb hby at_256) rfl  kont) ?_
  show G (T33.setTop (mkF m 258 #[.val (.int p1), .val (.int p2), .val (.int p3), .val (.int p4), .val (.int (Int32.ofNat N)), .val (.int (Int32.ofNat D)), .val (.int (Int32.ofNat A)), .val (.int cc), .val (.ref b1), .val (.int (Int32.ofNat (A + D))), .val (.int (1 : Int32)), .val (.long (Int64.ofNat N)), .second] [(.int cc), (.int (Int32.ofNat A)), (.int (Int32.ofNat D)), (.long (Int64.ofNat N)), (.int (3 : Int32)), (.ref b1)]))
  obtain ⟨_, _, ⟨T34, L34, k34, n34⟩, -, X34, ⟨Lc34, hQ34, l34, y34, z34⟩, st34⟩ := Jvm.LawKit.callS X33 hx (y := (⟨"com/example/reckoner/reckoner/core/DigitsWritePinLaw", "check", "([CIJIIC)Z"⟩ : MethodName)) hown (mvT hZ (hw _ (List.mem_of_getElem? (i := 7) rfl))) (mvT hZ (hw _ (List.mem_of_getElem? (i := 8) rfl))) (mvT hZ (hw _ (List.mem_of_getElem? (i := 9) rfl))) (mvT hZ (hw _ (List.mem_of_getElem? (i := 10) rfl))) (by decide) (backOf (W := 0) (own_rm_check l Z a0 hw [] b1 cc T33.heap n0 Z33 3 N D A (by decide) hN (by omega) hAD zs hzl V33 (hz 3 (by decide))) hZ (hw _ (List.mem_of_getElem? (i := 10) rfl)) (hw _ (List.mem_of_getElem? (i := 9) rfl)) (by decide) (by decide)) (g := (mkF m 258 #[.val (.int p1), .val (.int p2), .val (.int p3), .val (.int p4), .val (.int (Int32.ofNat N)), .val (.int (Int32.ofNat D)), .val (.int (Int32.ofNat A)), .val (.int cc), .val (.ref b1), .val (.int (Int32.ofNat (A + D))), .val (.int (1 : Int32)), .val (.long (Int64.ofNat N)), .second] [(.int cc), (.int (Int32.ofNat A)), (.int (Int32.ofNat D)), (.long (Int64.ofNat N)), (.int (3 : Int32)), (.ref b1)])) rfl (by rw [hml]; rfl) (argsL := [(.ref b1), (.int (3 : Int32)), (.long (Int64.ofNat N)), (.int (Int32.ofNat D)), (.int (Int32.ofNat A)), (.int cc)]) (rest := []) (lenOf own_pd2 rfl) rfl (by show 2 * 0 + _ ≤ _; exact Nat.le_of_eq rfl) (hb hby at_258) (fun _ _ => ⟨rfl, e33, (by decide : 4 + 1 ≤ _), (by decide : 50 + 12 ≤ _)⟩)
  dsimp only [Pt.U, Pt.locs, Pt.cells, Pt.slots] at X34 l34 y34 z34 st34 hQ34
  obtain ⟨rfl, N34q, K34⟩ := hQ34
  have N34 : Fr n0 L34 := by rw [l34]; exact Fr.app N33 N34q
  have e34 : T34.heap = T34.heap := rfl
  rw [show k34 = 5 from y34, show n34 = 62 from z34] at X34
  refine go st34 ?_
  show G (T34.setTop (mkF m 261 #[.val (.int p1), .val (.int p2), .val (.int p3), .val (.int p4), .val (.int (Int32.ofNat N)), .val (.int (Int32.ofNat D)), .val (.int (Int32.ofNat A)), .val (.int cc), .val (.ref b1), .val (.int (Int32.ofNat (A + D))), .val (.int (1 : Int32)), .val (.long (Int64.ofNat N)), .second] [(.int (1 : Int32))]))
  have Z34 : n0 ≤ T34.heap.size := Nat.le_trans Z33 K34.1
  have V34 := own_V_keep V33 K34 own_ni_0
  refine go (fun _ kont => XS.ifNo X34.here hx rfl (hb hby at_261) rfl ((if0 _ _).trans (feq (by decide)).1) kont) ?_
  show G (T34.setTop (mkF m 264 #[.val (.int p1), .val (.int p2), .val (.int p3), .val (.int p4), .val (.int (Int32.ofNat N)), .val (.int (Int32.ofNat D)), .val (.int (Int32.ofNat A)), .val (.int cc), .val (.ref b1), .val (.int (Int32.ofNat (A + D))), .val (.int (1 : Int32)), .val (.long (Int64.ofNat N)), .second] []))
  refine go (fun _ kont => XS.iconst X34.here hx rfl (hb hby at_264) kont) ?_
  show G (T34.setTop (mkF m 265 #[.val (.int p1), .val (.int p2), .val (.int p3), .val (.int p4), .val (.int (Int32.ofNat N)), .val (.int (Int32.ofNat D)), .val (.int (Int32.ofNat A)), .val (.int cc), .val (.ref b1), .val (.int (Int32.ofNat (A + D))), .val (.int (1 : Int32)), .val (.long (Int64.ofNat N)), .second] [(.int (1 : Int32))]))
  refine go (fun _ kont => XS.goto X34.here hx rfl (pc0 := 265) (pc' := 269) rfl (hb hby at_265) (by decide) (by decide) kont) ?_
  show G (T34.setTop (mkF m 269 #[.val (.int p1), .val (.int p2), .val (.int p3), .val (.int p4), .val (.int (Int32.ofNat N)), .val (.int (Int32.ofNat D)), .val (.int (Int32.ofNat A)), .val (.int cc), .val (.ref b1), .val (.int (Int32.ofNat (A + D))), .val (.int (1 : Int32)), .val (.long (Int64.ofNat N)), .second] [(.int (1 : Int32))]))
  refine go (fun _ kont => XS.istore X34.here hx rfl (hb hby at_269) rfl (l' := #[.val (.int p1), .val (.int p2), .val (.int p3), .val (.int p4), .val (.int (Int32.ofNat N)), .val (.int (Int32.ofNat D)), .val (.int (Int32.ofNat A)), .val (.int cc), .val (.ref b1), .val (.int (Int32.ofNat (A + D))), .val (.int (1 : Int32)), .val (.long (Int64.ofNat N)), .second]) rfl kont) ?_
  show G (T34.setTop (mkF m 271 #[.val (.int p1), .val (.int p2), .val (.int p3), .val (.int p4), .val (.int (Int32.ofNat N)), .val (.int (Int32.ofNat D)), .val (.int (Int32.ofNat A)), .val (.int cc), .val (.ref b1), .val (.int (Int32.ofNat (A + D))), .val (.int (1 : Int32)), .val (.long (Int64.ofNat N)), .second] []))
  refine go (fun _ kont => XS.iload X34.here hx rfl (hb hby at_271) rfl  kont) ?_
  show G (T34.setTop (mkF m 273 #[.val (.int p1), .val (.int p2), .val (.int p3), .val (.int p4), .val (.int (Int32.ofNat N)), .val (.int (Int32.ofNat D)), .val (.int (Int32.ofNat A)), .val (.int cc), .val (.ref b1), .val (.int (Int32.ofNat (A + D))), .val (.int (1 : Int32)), .val (.long (Int64.ofNat N)), .second] [(.int (1 : Int32))]))
  refine go (fun _ kont => XS.ifNo X34.here hx rfl (hb hby at_273) rfl ((if0 _ _).trans (feq (by decide)).1) kont) ?_
  show G (T34.setTop (mkF m 276 #[.val (.int p1), .val (.int p2), .val (.int p3), .val (.int p4), .val (.int (Int32.ofNat N)), .val (.int (Int32.ofNat D)), .val (.int (Int32.ofNat A)), .val (.int cc), .val (.ref b1), .val (.int (Int32.ofNat (A + D))), .val (.int (1 : Int32)), .val (.long (Int64.ofNat N)), .second] []))
  refine go (fun _ kont => XS.aload X34.here hx rfl (hb hby at_276) rfl rfl kont) ?_
  show G (T34.setTop (mkF m 278 #[.val (.int p1), .val (.int p2), .val (.int p3), .val (.int p4), .val (.int (Int32.ofNat N)), .val (.int (Int32.ofNat D)), .val (.int (Int32.ofNat A)), .val (.int cc), .val (.ref b1), .val (.int (Int32.ofNat (A + D))), .val (.int (1 : Int32)), .val (.long (Int64.ofNat N)), .second] [(.ref b1)]))
  refine go (fun _ kont => XS.iconst X34.here hx rfl (hb hby at_278) kont) ?_
  show G (T34.setTop (mkF m 279 #[.val (.int p1), .val (.int p2), .val (.int p3), .val (.int p4), .val (.int (Int32.ofNat N)), .val (.int (Int32.ofNat D)), .val (.int (Int32.ofNat A)), .val (.int cc), .val (.ref b1), .val (.int (Int32.ofNat (A + D))), .val (.int (1 : Int32)), .val (.long (Int64.ofNat N)), .second] [(.int (4 : Int32)), (.ref b1)]))
  refine go (fun _ kont => XS.lload X34.here hx rfl (hb hby at_279) rfl  kont) ?_
  show G (T34.setTop (mkF m 281 #[.val (.int p1), .val (.int p2), .val (.int p3), .val (.int p4), .val (.int (Int32.ofNat N)), .val (.int (Int32.ofNat D)), .val (.int (Int32.ofNat A)), .val (.int cc), .val (.ref b1), .val (.int (Int32.ofNat (A + D))), .val (.int (1 : Int32)), .val (.long (Int64.ofNat N)), .second] [(.long (Int64.ofNat N)), (.int (4 : Int32)), (.ref b1)]))
  refine go (fun _ kont => XS.iload X34.here hx rfl (hb hby at_281) rfl  kont) ?_
  show G (T34.setTop (mkF m 283 #[.val (.int p1), .val (.int p2), .val (.int p3), .val (.int p4), .val (.int (Int32.ofNat N)), .val (.int (Int32.ofNat D)), .val (.int (Int32.ofNat A)), .val (.int cc), .val (.ref b1), .val (.int (Int32.ofNat (A + D))), .val (.int (1 : Int32)), .val (.long (Int64.ofNat N)), .second] [(.int (Int32.ofNat D)), (.long (Int64.ofNat N)), (.int (4 : Int32)), (.ref b1)]))
  refine go (fun _ kont => XS.iload X34.here hx rfl (hb hby at_283) rfl  kont) ?_
  show G (T34.setTop (mkF m 285 #[.val (.int p1), .val (.int p2), .val (.int p3), .val (.int p4), .val (.int (Int32.ofNat N)), .val (.int (Int32.ofNat D)), .val (.int (Int32.ofNat A)), .val (.int cc), .val (.ref b1), .val (.int (Int32.ofNat (A + D))), .val (.int (1 : Int32)), .val (.long (Int64.ofNat N)), .second] [(.int (Int32.ofNat A)), (.int (Int32.ofNat D)), (.long (Int64.ofNat N)), (.int (4 : Int32)), (.ref b1)]))
  refine go (fun _ kont => XS.iload X34.here hx rfl (hb hby at_285) rfl  kont) ?_
  show G (T34.setTop (mkF m 287 #[.val (.int p1), .val (.int p2), .val (.int p3), .val (.int p4), .val (.int (Int32.ofNat N)), .val (.int (Int32.ofNat D)), .val (.int (Int32.ofNat A)), .val (.int cc), .val (.ref b1), .val (.int (Int32.ofNat (A + D))), .val (.int (1 : Int32)), .val (.long (Int64.ofNat N)), .second] [(.int cc), (.int (Int32.ofNat A)), (.int (Int32.ofNat D)), (.long (Int64.ofNat N)), (.int (4 : Int32)), (.ref b1)]))
  obtain ⟨_, _, ⟨T35, L35, k35, n35⟩, -, X35, ⟨Lc35, hQ35, l35, y35, z35⟩, st35⟩ := Jvm.LawKit.callS X34 hx (y := (⟨"com/example/reckoner/reckoner/core/DigitsWritePinLaw", "check", "([CIJIIC)Z"⟩ : MethodName)) hown (mvT hZ (hw _ (List.mem_of_getElem? (i := 7) rfl))) (mvT hZ (hw _ (List.mem_of_getElem? (i := 8) rfl))) (mvT hZ (hw _ (List.mem_of_getElem? (i := 9) rfl))) (mvT hZ (hw _ (List.mem_of_getElem? (i := 10) rfl))) (by decide) (backOf (W := 0) (own_rm_check l Z a0 hw [] b1 cc T34.heap n0 Z34 4 N D A (by decide) hN (by omega) hAD zs hzl V34 (hz 4 (by decide))) hZ (hw _ (List.mem_of_getElem? (i := 10) rfl)) (hw _ (List.mem_of_getElem? (i := 9) rfl)) (by decide) (by decide)) (g := (mkF m 287 #[.val (.int p1), .val (.int p2), .val (.int p3), .val (.int p4), .val (.int (Int32.ofNat N)), .val (.int (Int32.ofNat D)), .val (.int (Int32.ofNat A)), .val (.int cc), .val (.ref b1), .val (.int (Int32.ofNat (A + D))), .val (.int (1 : Int32)), .val (.long (Int64.ofNat N)), .second] [(.int cc), (.int (Int32.ofNat A)), (.int (Int32.ofNat D)), (.long (Int64.ofNat N)), (.int (4 : Int32)), (.ref b1)])) rfl (by rw [hml]; rfl) (argsL := [(.ref b1), (.int (4 : Int32)), (.long (Int64.ofNat N)), (.int (Int32.ofNat D)), (.int (Int32.ofNat A)), (.int cc)]) (rest := []) (lenOf own_pd2 rfl) rfl (by show 2 * 0 + _ ≤ _; exact Nat.le_of_eq rfl) (hb hby at_287) (fun _ _ => ⟨rfl, e34, (by decide : 5 + 1 ≤ _), (by decide : 62 + 12 ≤ _)⟩)
  dsimp only [Pt.U, Pt.locs, Pt.cells, Pt.slots] at X35 l35 y35 z35 st35 hQ35
  obtain ⟨rfl, N35q, K35⟩ := hQ35
  have N35 : Fr n0 L35 := by rw [l35]; exact Fr.app N34 N35q
  have e35 : T35.heap = T35.heap := rfl
  rw [show k35 = 6 from y35, show n35 = 74 from z35] at X35
  refine go st35 ?_
  show G (T35.setTop (mkF m 290 #[.val (.int p1), .val (.int p2), .val (.int p3), .val (.int p4), .val (.int (Int32.ofNat N)), .val (.int (Int32.ofNat D)), .val (.int (Int32.ofNat A)), .val (.int cc), .val (.ref b1), .val (.int (Int32.ofNat (A + D))), .val (.int (1 : Int32)), .val (.long (Int64.ofNat N)), .second] [(.int (1 : Int32))]))
  have Z35 : n0 ≤ T35.heap.size := Nat.le_trans Z34 K35.1
  have V35 := own_V_keep V34 K35 own_ni_0
  refine go (fun _ kont => XS.ifNo X35.here hx rfl (hb hby at_290) rfl ((if0 _ _).trans (feq (by decide)).1) kont) ?_
  show G (T35.setTop (mkF m 293 #[.val (.int p1), .val (.int p2), .val (.int p3), .val (.int p4), .val (.int (Int32.ofNat N)), .val (.int (Int32.ofNat D)), .val (.int (Int32.ofNat A)), .val (.int cc), .val (.ref b1), .val (.int (Int32.ofNat (A + D))), .val (.int (1 : Int32)), .val (.long (Int64.ofNat N)), .second] []))
  refine go (fun _ kont => XS.iconst X35.here hx rfl (hb hby at_293) kont) ?_
  show G (T35.setTop (mkF m 294 #[.val (.int p1), .val (.int p2), .val (.int p3), .val (.int p4), .val (.int (Int32.ofNat N)), .val (.int (Int32.ofNat D)), .val (.int (Int32.ofNat A)), .val (.int cc), .val (.ref b1), .val (.int (Int32.ofNat (A + D))), .val (.int (1 : Int32)), .val (.long (Int64.ofNat N)), .second] [(.int (1 : Int32))]))
  refine go (fun _ kont => XS.goto X35.here hx rfl (pc0 := 294) (pc' := 298) rfl (hb hby at_294) (by decide) (by decide) kont) ?_
  show G (T35.setTop (mkF m 298 #[.val (.int p1), .val (.int p2), .val (.int p3), .val (.int p4), .val (.int (Int32.ofNat N)), .val (.int (Int32.ofNat D)), .val (.int (Int32.ofNat A)), .val (.int cc), .val (.ref b1), .val (.int (Int32.ofNat (A + D))), .val (.int (1 : Int32)), .val (.long (Int64.ofNat N)), .second] [(.int (1 : Int32))]))
  refine go (fun _ kont => XS.istore X35.here hx rfl (hb hby at_298) rfl (l' := #[.val (.int p1), .val (.int p2), .val (.int p3), .val (.int p4), .val (.int (Int32.ofNat N)), .val (.int (Int32.ofNat D)), .val (.int (Int32.ofNat A)), .val (.int cc), .val (.ref b1), .val (.int (Int32.ofNat (A + D))), .val (.int (1 : Int32)), .val (.long (Int64.ofNat N)), .second]) rfl kont) ?_
  show G (T35.setTop (mkF m 300 #[.val (.int p1), .val (.int p2), .val (.int p3), .val (.int p4), .val (.int (Int32.ofNat N)), .val (.int (Int32.ofNat D)), .val (.int (Int32.ofNat A)), .val (.int cc), .val (.ref b1), .val (.int (Int32.ofNat (A + D))), .val (.int (1 : Int32)), .val (.long (Int64.ofNat N)), .second] []))
  refine go (fun _ kont => XS.iload X35.here hx rfl (hb hby at_300) rfl  kont) ?_
  show G (T35.setTop (mkF m 302 #[.val (.int p1), .val (.int p2), .val (.int p3), .val (.int p4), .val (.int (Int32.ofNat N)), .val (.int (Int32.ofNat D)), .val (.int (Int32.ofNat A)), .val (.int cc), .val (.ref b1), .val (.int (Int32.ofNat (A + D))), .val (.int (1 : Int32)), .val (.long (Int64.ofNat N)), .second] [(.int (1 : Int32))]))
  refine go (fun _ kont => XS.ifNo X35.here hx rfl (hb hby at_302) rfl ((if0 _ _).trans (feq (by decide)).1) kont) ?_
  show G (T35.setTop (mkF m 305 #[.val (.int p1), .val (.int p2), .val (.int p3), .val (.int p4), .val (.int (Int32.ofNat N)), .val (.int (Int32.ofNat D)), .val (.int (Int32.ofNat A)), .val (.int cc), .val (.ref b1), .val (.int (Int32.ofNat (A + D))), .val (.int (1 : Int32)), .val (.long (Int64.ofNat N)), .second] []))
  refine go (fun _ kont => XS.aload X35.here hx rfl (hb hby at_305) rfl rfl kont) ?_
  show G (T35.setTop (mkF m 307 #[.val (.int p1), .val (.int p2), .val (.int p3), .val (.int p4), .val (.int (Int32.ofNat N)), .val (.int (Int32.ofNat D)), .val (.int (Int32.ofNat A)), .val (.int cc), .val (.ref b1), .val (.int (Int32.ofNat (A + D))), .val (.int (1 : Int32)), .val (.long (Int64.ofNat N)), .second] [(.ref b1)]))
  refine go (fun _ kont => XS.iconst X35.here hx rfl (hb hby at_307) kont) ?_
  show G (T35.setTop (mkF m 308 #[.val (.int p1), .val (.int p2), .val (.int p3), .val (.int p4), .val (.int (Int32.ofNat N)), .val (.int (Int32.ofNat D)), .val (.int (Int32.ofNat A)), .val (.int cc), .val (.ref b1), .val (.int (Int32.ofNat (A + D))), .val (.int (1 : Int32)), .val (.long (Int64.ofNat N)), .second] [(.int (5 : Int32)), (.ref b1)]))
  refine go (fun _ kont => XS.lload X35.here hx rfl (hb hby at_308) rfl  kont) ?_
  show G (T35.setTop (mkF m 310 #[.val (.int p1), .val (.int p2), .val (.int p3), .val (.int p4), .val (.int (Int32.ofNat N)), .val (.int (Int32.ofNat D)), .val (.int (Int32.ofNat A)), .val (.int cc), .val (.ref b1), .val (.int (Int32.ofNat (A + D))), .val (.int (1 : Int32)), .val (.long (Int64.ofNat N)), .second] [(.long (Int64.ofNat N)), (.int (5 : Int32)), (.ref b1)]))
  refine go (fun _ kont => XS.iload X35.here hx rfl (hb hby at_310) rfl  kont) ?_
  show G (T35.setTop (mkF m 312 #[.val (.int p1), .val (.int p2), .val (.int p3), .val (.int p4), .val (.int (Int32.ofNat N)), .val (.int (Int32.ofNat D)), .val (.int (Int32.ofNat A)), .val (.int cc), .val (.ref b1), .val (.int (Int32.ofNat (A + D))), .val (.int (1 : Int32)), .val (.long (Int64.ofNat N)), .second] [(.int (Int32.ofNat D)), (.long (Int64.ofNat N)), (.int (5 : Int32)), (.ref b1)]))
  refine go (fun _ kont => XS.iload X35.here hx rfl (hb hby at_312) rfl  kont) ?_
  show G (T35.setTop (mkF m 314 #[.val (.int p1), .val (.int p2), .val (.int p3), .val (.int p4), .val (.int (Int32.ofNat N)), .val (.int (Int32.ofNat D)), .val (.int (Int32.ofNat A)), .val (.int cc), .val (.ref b1), .val (.int (Int32.ofNat (A + D))), .val (.int (1 : Int32)), .val (.long (Int64.ofNat N)), .second] [(.int (Int32.ofNat A)), (.int (Int32.ofNat D)), (.long (Int64.ofNat N)), (.int (5 : Int32)), (.ref b1)]))
  refine go (fun _ kont => XS.iload X35.here hx rfl (hb hby at_314) rfl  kont) ?_
  show G (T35.setTop (mkF m 316 #[.val (.int p1), .val (.int p2), .val (.int p3), .val (.int p4), .val (.int (Int32.ofNat N)), .val (.int (Int32.ofNat D)), .val (.int (Int32.ofNat A)), .val (.int cc), .val (.ref b1), .val (.int (Int32.ofNat (A + D))), .val (.int (1 : Int32)), .val (.long (Int64.ofNat N)), .second] [(.int cc), (.int (Int32.ofNat A)), (.int (Int32.ofNat D)), (.long (Int64.ofNat N)), (.int (5 : Int32)), (.ref b1)]))
  obtain ⟨_, _, ⟨T36, L36, k36, n36⟩, -, X36, ⟨Lc36, hQ36, l36, y36, z36⟩, st36⟩ := Jvm.LawKit.callS X35 hx (y := (⟨"com/example/reckoner/reckoner/core/DigitsWritePinLaw", "check", "([CIJIIC)Z"⟩ : MethodName)) hown (mvT hZ (hw _ (List.mem_of_getElem? (i := 7) rfl))) (mvT hZ (hw _ (List.mem_of_getElem? (i := 8) rfl))) (mvT hZ (hw _ (List.mem_of_getElem? (i := 9) rfl))) (mvT hZ (hw _ (List.mem_of_getElem? (i := 10) rfl))) (by decide) (backOf (W := 0) (own_rm_check l Z a0 hw [] b1 cc T35.heap n0 Z35 5 N D A (by decide) hN (by omega) hAD zs hzl V35 (hz 5 (by decide))) hZ (hw _ (List.mem_of_getElem? (i := 10) rfl)) (hw _ (List.mem_of_getElem? (i := 9) rfl)) (by decide) (by decide)) (g := (mkF m 316 #[.val (.int p1), .val (.int p2), .val (.int p3), .val (.int p4), .val (.int (Int32.ofNat N)), .val (.int (Int32.ofNat D)), .val (.int (Int32.ofNat A)), .val (.int cc), .val (.ref b1), .val (.int (Int32.ofNat (A + D))), .val (.int (1 : Int32)), .val (.long (Int64.ofNat N)), .second] [(.int cc), (.int (Int32.ofNat A)), (.int (Int32.ofNat D)), (.long (Int64.ofNat N)), (.int (5 : Int32)), (.ref b1)])) rfl (by rw [hml]; rfl) (argsL := [(.ref b1), (.int (5 : Int32)), (.long (Int64.ofNat N)), (.int (Int32.ofNat D)), (.int (Int32.ofNat A)), (.int cc)]) (rest := []) (lenOf own_pd2 rfl) rfl (by show 2 * 0 + _ ≤ _; exact Nat.le_of_eq rfl) (hb hby at_316) (fun _ _ => ⟨rfl, e35, (by decide : 6 + 1 ≤ _), (by decide : 74 + 12 ≤ _)⟩)
  dsimp only [Pt.U, Pt.locs, Pt.cells, Pt.slots] at X36 l36 y36 z36 st36 hQ36
  obtain ⟨rfl, N36q, K36⟩ := hQ36
  have N36 : Fr n0 L36 := by rw [l36]; exact Fr.app N35 N36q
  have e36 : T36.heap = T36.heap := rfl
  rw [show k36 = 7 from y36, show n36 = 86 from z36] at X36
  refine go st36 ?_
  show G (T36.setTop (mkF m 319 #[.val (.int p1), .val (.int p2), .val (.int p3), .val (.int p4), .val (.int (Int32.ofNat N)), .val (.int (Int32.ofNat D)), .val (.int (Int32.ofNat A)), .val (.int cc), .val (.ref b1), .val (.int (Int32.ofNat (A + D))), .val (.int (1 : Int32)), .val (.long (Int64.ofNat N)), .second] [(.int (1 : Int32))]))
  have Z36 : n0 ≤ T36.heap.size := Nat.le_trans Z35 K36.1
  have V36 := own_V_keep V35 K36 own_ni_0
  refine go (fun _ kont => XS.ifNo X36.here hx rfl (hb hby at_319) rfl ((if0 _ _).trans (feq (by decide)).1) kont) ?_
  show G (T36.setTop (mkF m 322 #[.val (.int p1), .val (.int p2), .val (.int p3), .val (.int p4), .val (.int (Int32.ofNat N)), .val (.int (Int32.ofNat D)), .val (.int (Int32.ofNat A)), .val (.int cc), .val (.ref b1), .val (.int (Int32.ofNat (A + D))), .val (.int (1 : Int32)), .val (.long (Int64.ofNat N)), .second] []))
  refine go (fun _ kont => XS.iconst X36.here hx rfl (hb hby at_322) kont) ?_
  show G (T36.setTop (mkF m 323 #[.val (.int p1), .val (.int p2), .val (.int p3), .val (.int p4), .val (.int (Int32.ofNat N)), .val (.int (Int32.ofNat D)), .val (.int (Int32.ofNat A)), .val (.int cc), .val (.ref b1), .val (.int (Int32.ofNat (A + D))), .val (.int (1 : Int32)), .val (.long (Int64.ofNat N)), .second] [(.int (1 : Int32))]))
  refine go (fun _ kont => XS.goto X36.here hx rfl (pc0 := 323) (pc' := 327) rfl (hb hby at_323) (by decide) (by decide) kont) ?_
  show G (T36.setTop (mkF m 327 #[.val (.int p1), .val (.int p2), .val (.int p3), .val (.int p4), .val (.int (Int32.ofNat N)), .val (.int (Int32.ofNat D)), .val (.int (Int32.ofNat A)), .val (.int cc), .val (.ref b1), .val (.int (Int32.ofNat (A + D))), .val (.int (1 : Int32)), .val (.long (Int64.ofNat N)), .second] [(.int (1 : Int32))]))
  refine go (fun _ kont => XS.istore X36.here hx rfl (hb hby at_327) rfl (l' := #[.val (.int p1), .val (.int p2), .val (.int p3), .val (.int p4), .val (.int (Int32.ofNat N)), .val (.int (Int32.ofNat D)), .val (.int (Int32.ofNat A)), .val (.int cc), .val (.ref b1), .val (.int (Int32.ofNat (A + D))), .val (.int (1 : Int32)), .val (.long (Int64.ofNat N)), .second]) rfl kont) ?_
  show G (T36.setTop (mkF m 329 #[.val (.int p1), .val (.int p2), .val (.int p3), .val (.int p4), .val (.int (Int32.ofNat N)), .val (.int (Int32.ofNat D)), .val (.int (Int32.ofNat A)), .val (.int cc), .val (.ref b1), .val (.int (Int32.ofNat (A + D))), .val (.int (1 : Int32)), .val (.long (Int64.ofNat N)), .second] []))
  refine go (fun _ kont => XS.iload X36.here hx rfl (hb hby at_329) rfl  kont) ?_
  show G (T36.setTop (mkF m 331 #[.val (.int p1), .val (.int p2), .val (.int p3), .val (.int p4), .val (.int (Int32.ofNat N)), .val (.int (Int32.ofNat D)), .val (.int (Int32.ofNat A)), .val (.int cc), .val (.ref b1), .val (.int (Int32.ofNat (A + D))), .val (.int (1 : Int32)), .val (.long (Int64.ofNat N)), .second] [(.int (1 : Int32))]))
  refine go (fun _ kont => XS.ifNo X36.here hx rfl (hb hby at_331) rfl ((if0 _ _).trans (feq (by decide)).1) kont) ?_
  show G (T36.setTop (mkF m 334 #[.val (.int p1), .val (.int p2), .val (.int p3), .val (.int p4), .val (.int (Int32.ofNat N)), .val (.int (Int32.ofNat D)), .val (.int (Int32.ofNat A)), .val (.int cc), .val (.ref b1), .val (.int (Int32.ofNat (A + D))), .val (.int (1 : Int32)), .val (.long (Int64.ofNat N)), .second] []))
  refine go (fun _ kont => XS.aload X36.here hx rfl (hb hby at_334) rfl rfl kont) ?_
  show G (T36.setTop (mkF m 336 #[.val (.int p1), .val (.int p2), .val (.int p3), .val (.int p4), .val (.int (Int32.ofNat N)), .val (.int (Int32.ofNat D)), .val (.int (Int32.ofNat A)), .val (.int cc), .val (.ref b1), .val (.int (Int32.ofNat (A + D))), .val (.int (1 : Int32)), .val (.long (Int64.ofNat N)), .second] [(.ref b1)]))
  refine go (fun _ kont => XS.bipush X36.here hx rfl (hb hby at_336) kont) ?_
  show G (T36.setTop (mkF m 338 #[.val (.int p1), .val (.int p2), .val (.int p3), .val (.int p4), .val (.int (Int32.ofNat N)), .val (.int (Int32.ofNat D)), .val (.int (Int32.ofNat A)), .val (.int cc), .val (.ref b1), .val (.int (Int32.ofNat (A + D))), .val (.int (1 : Int32)), .val (.long (Int64.ofNat N)), .second] [(.int (6 : Int32)), (.ref b1)]))
  refine go (fun _ kont => XS.lload X36.here hx rfl (hb hby at_338) rfl  kont) ?_
  show G (T36.setTop (mkF m 340 #[.val (.int p1), .val (.int p2), .val (.int p3), .val (.int p4), .val (.int (Int32.ofNat N)), .val (.int (Int32.ofNat D)), .val (.int (Int32.ofNat A)), .val (.int cc), .val (.ref b1), .val (.int (Int32.ofNat (A + D))), .val (.int (1 : Int32)), .val (.long (Int64.ofNat N)), .second] [(.long (Int64.ofNat N)), (.int (6 : Int32)), (.ref b1)]))
  refine go (fun _ kont => XS.iload X36.here hx rfl (hb hby at_340) rfl  kont) ?_
  show G (T36.setTop (mkF m 342 #[.val (.int p1), .val (.int p2), .val (.int p3), .val (.int p4), .val (.int (Int32.ofNat N)), .val (.int (Int32.ofNat D)), .val (.int (Int32.ofNat A)), .val (.int cc), .val (.ref b1), .val (.int (Int32.ofNat (A + D))), .val (.int (1 : Int32)), .val (.long (Int64.ofNat N)), .second] [(.int (Int32.ofNat D)), (.long (Int64.ofNat N)), (.int (6 : Int32)), (.ref b1)]))
  refine go (fun _ kont => XS.iload X36.here hx rfl (hb hby at_342) rfl  kont) ?_
  show G (T36.setTop (mkF m 344 #[.val (.int p1), .val (.int p2), .val (.int p3), .val (.int p4), .val (.int (Int32.ofNat N)), .val (.int (Int32.ofNat D)), .val (.int (Int32.ofNat A)), .val (.int cc), .val (.ref b1), .val (.int (Int32.ofNat (A + D))), .val (.int (1 : Int32)), .val (.long (Int64.ofNat N)), .second] [(.int (Int32.ofNat A)), (.int (Int32.ofNat D)), (.long (Int64.ofNat N)), (.int (6 : Int32)), (.ref b1)]))
  refine go (fun _ kont => XS.iload X36.here hx rfl (hb hby at_344) rfl  kont) ?_
  show G (T36.setTop (mkF m 346 #[.val (.int p1), .val (.int p2), .val (.int p3), .val (.int p4), .val (.int (Int32.ofNat N)), .val (.int (Int32.ofNat D)), .val (.int (Int32.ofNat A)), .val (.int cc), .val (.ref b1), .val (.int (Int32.ofNat (A + D))), .val (.int (1 : Int32)), .val (.long (Int64.ofNat N)), .second] [(.int cc), (.int (Int32.ofNat A)), (.int (Int32.ofNat D)), (.long (Int64.ofNat N)), (.int (6 : Int32)), (.ref b1)]))
  obtain ⟨_, _, ⟨T37, L37, k37, n37⟩, -, X37, ⟨Lc37, hQ37, l37, y37, z37⟩, st37⟩ := Jvm.LawKit.callS X36 hx (y := (⟨"com/example/reckoner/reckoner/core/DigitsWritePinLaw", "check", "([CIJIIC)Z"⟩ : MethodName)) hown (mvT hZ (hw _ (List.mem_of_getElem? (i := 7) rfl))) (mvT hZ (hw _ (List.mem_of_getElem? (i := 8) rfl))) (mvT hZ (hw _ (List.mem_of_getElem? (i := 9) rfl))) (mvT hZ (hw _ (List.mem_of_getElem? (i := 10) rfl))) (by decide) (backOf (W := 0) (own_rm_check l Z a0 hw [] b1 cc T36.heap n0 Z36 6 N D A (by decide) hN (by omega) hAD zs hzl V36 (hz 6 (by decide))) hZ (hw _ (List.mem_of_getElem? (i := 10) rfl)) (hw _ (List.mem_of_getElem? (i := 9) rfl)) (by decide) (by decide)) (g := (mkF m 346 #[.val (.int p1), .val (.int p2), .val (.int p3), .val (.int p4), .val (.int (Int32.ofNat N)), .val (.int (Int32.ofNat D)), .val (.int (Int32.ofNat A)), .val (.int cc), .val (.ref b1), .val (.int (Int32.ofNat (A + D))), .val (.int (1 : Int32)), .val (.long (Int64.ofNat N)), .second] [(.int cc), (.int (Int32.ofNat A)), (.int (Int32.ofNat D)), (.long (Int64.ofNat N)), (.int (6 : Int32)), (.ref b1)])) rfl (by rw [hml]; rfl) (argsL := [(.ref b1), (.int (6 : Int32)), (.long (Int64.ofNat N)), (.int (Int32.ofNat D)), (.int (Int32.ofNat A)), (.int cc)]) (rest := []) (lenOf own_pd2 rfl) rfl (by show 2 * 0 + _ ≤ _; exact Nat.le_of_eq rfl) (hb hby at_346) (fun _ _ => ⟨rfl, e36, (by decide : 7 + 1 ≤ _), (by decide : 86 + 12 ≤ _)⟩)
  dsimp only [Pt.U, Pt.locs, Pt.cells, Pt.slots] at X37 l37 y37 z37 st37 hQ37
  obtain ⟨rfl, N37q, K37⟩ := hQ37
  have N37 : Fr n0 L37 := by rw [l37]; exact Fr.app N36 N37q
  have e37 : T37.heap = T37.heap := rfl
  rw [show k37 = 8 from y37, show n37 = 98 from z37] at X37
  refine go st37 ?_
  show G (T37.setTop (mkF m 349 #[.val (.int p1), .val (.int p2), .val (.int p3), .val (.int p4), .val (.int (Int32.ofNat N)), .val (.int (Int32.ofNat D)), .val (.int (Int32.ofNat A)), .val (.int cc), .val (.ref b1), .val (.int (Int32.ofNat (A + D))), .val (.int (1 : Int32)), .val (.long (Int64.ofNat N)), .second] [(.int (1 : Int32))]))
  have Z37 : n0 ≤ T37.heap.size := Nat.le_trans Z36 K37.1
  have V37 := own_V_keep V36 K37 own_ni_0
  refine go (fun _ kont => XS.ifNo X37.here hx rfl (hb hby at_349) rfl ((if0 _ _).trans (feq (by decide)).1) kont) ?_
  show G (T37.setTop (mkF m 352 #[.val (.int p1), .val (.int p2), .val (.int p3), .val (.int p4), .val (.int (Int32.ofNat N)), .val (.int (Int32.ofNat D)), .val (.int (Int32.ofNat A)), .val (.int cc), .val (.ref b1), .val (.int (Int32.ofNat (A + D))), .val (.int (1 : Int32)), .val (.long (Int64.ofNat N)), .second] []))
  refine go (fun _ kont => XS.iconst X37.here hx rfl (hb hby at_352) kont) ?_
  show G (T37.setTop (mkF m 353 #[.val (.int p1), .val (.int p2), .val (.int p3), .val (.int p4), .val (.int (Int32.ofNat N)), .val (.int (Int32.ofNat D)), .val (.int (Int32.ofNat A)), .val (.int cc), .val (.ref b1), .val (.int (Int32.ofNat (A + D))), .val (.int (1 : Int32)), .val (.long (Int64.ofNat N)), .second] [(.int (1 : Int32))]))
  refine go (fun _ kont => XS.goto X37.here hx rfl (pc0 := 353) (pc' := 357) rfl (hb hby at_353) (by decide) (by decide) kont) ?_
  show G (T37.setTop (mkF m 357 #[.val (.int p1), .val (.int p2), .val (.int p3), .val (.int p4), .val (.int (Int32.ofNat N)), .val (.int (Int32.ofNat D)), .val (.int (Int32.ofNat A)), .val (.int cc), .val (.ref b1), .val (.int (Int32.ofNat (A + D))), .val (.int (1 : Int32)), .val (.long (Int64.ofNat N)), .second] [(.int (1 : Int32))]))
  refine go (fun _ kont => XS.istore X37.here hx rfl (hb hby at_357) rfl (l' := #[.val (.int p1), .val (.int p2), .val (.int p3), .val (.int p4), .val (.int (Int32.ofNat N)), .val (.int (Int32.ofNat D)), .val (.int (Int32.ofNat A)), .val (.int cc), .val (.ref b1), .val (.int (Int32.ofNat (A + D))), .val (.int (1 : Int32)), .val (.long (Int64.ofNat N)), .second]) rfl kont) ?_
  show G (T37.setTop (mkF m 359 #[.val (.int p1), .val (.int p2), .val (.int p3), .val (.int p4), .val (.int (Int32.ofNat N)), .val (.int (Int32.ofNat D)), .val (.int (Int32.ofNat A)), .val (.int cc), .val (.ref b1), .val (.int (Int32.ofNat (A + D))), .val (.int (1 : Int32)), .val (.long (Int64.ofNat N)), .second] []))
  refine go (fun _ kont => XS.iload X37.here hx rfl (hb hby at_359) rfl  kont) ?_
  show G (T37.setTop (mkF m 361 #[.val (.int p1), .val (.int p2), .val (.int p3), .val (.int p4), .val (.int (Int32.ofNat N)), .val (.int (Int32.ofNat D)), .val (.int (Int32.ofNat A)), .val (.int cc), .val (.ref b1), .val (.int (Int32.ofNat (A + D))), .val (.int (1 : Int32)), .val (.long (Int64.ofNat N)), .second] [(.int (1 : Int32))]))
  refine go (fun _ kont => XS.ifNo X37.here hx rfl (hb hby at_361) rfl ((if0 _ _).trans (feq (by decide)).1) kont) ?_
  show G (T37.setTop (mkF m 364 #[.val (.int p1), .val (.int p2), .val (.int p3), .val (.int p4), .val (.int (Int32.ofNat N)), .val (.int (Int32.ofNat D)), .val (.int (Int32.ofNat A)), .val (.int cc), .val (.ref b1), .val (.int (Int32.ofNat (A + D))), .val (.int (1 : Int32)), .val (.long (Int64.ofNat N)), .second] []))
  refine go (fun _ kont => XS.aload X37.here hx rfl (hb hby at_364) rfl rfl kont) ?_
  show G (T37.setTop (mkF m 366 #[.val (.int p1), .val (.int p2), .val (.int p3), .val (.int p4), .val (.int (Int32.ofNat N)), .val (.int (Int32.ofNat D)), .val (.int (Int32.ofNat A)), .val (.int cc), .val (.ref b1), .val (.int (Int32.ofNat (A + D))), .val (.int (1 : Int32)), .val (.long (Int64.ofNat N)), .second] [(.ref b1)]))
  refine go (fun _ kont => XS.bipush X37.here hx rfl (hb hby at_366) kont) ?_
  show G (T37.setTop (mkF m 368 #[.val (.int p1), .val (.int p2), .val (.int p3), .val (.int p4), .val (.int (Int32.ofNat N)), .val (.int (Int32.ofNat D)), .val (.int (Int32.ofNat A)), .val (.int cc), .val (.ref b1), .val (.int (Int32.ofNat (A + D))), .val (.int (1 : Int32)), .val (.long (Int64.ofNat N)), .second] [(.int (7 : Int32)), (.ref b1)]))
  refine go (fun _ kont => XS.lload X37.here hx rfl (hb hby at_368) rfl  kont) ?_
  show G (T37.setTop (mkF m 370 #[.val (.int p1), .val (.int p2), .val (.int p3), .val (.int p4), .val (.int (Int32.ofNat N)), .val (.int (Int32.ofNat D)), .val (.int (Int32.ofNat A)), .val (.int cc), .val (.ref b1), .val (.int (Int32.ofNat (A + D))), .val (.int (1 : Int32)), .val (.long (Int64.ofNat N)), .second] [(.long (Int64.ofNat N)), (.int (7 : Int32)), (.ref b1)]))
  refine go (fun _ kont => XS.iload X37.here hx rfl (hb hby at_370) rfl  kont) ?_
  show G (T37.setTop (mkF m 372 #[.val (.int p1), .val (.int p2), .val (.int p3), .val (.int p4), .val (.int (Int32.ofNat N)), .val (.int (Int32.ofNat D)), .val (.int (Int32.ofNat A)), .val (.int cc), .val (.ref b1), .val (.int (Int32.ofNat (A + D))), .val (.int (1 : Int32)), .val (.long (Int64.ofNat N)), .second] [(.int (Int32.ofNat D)), (.long (Int64.ofNat N)), (.int (7 : Int32)), (.ref b1)]))
  refine go (fun _ kont => XS.iload X37.here hx rfl (hb hby at_372) rfl  kont) ?_
  show G (T37.setTop (mkF m 374 #[.val (.int p1), .val (.int p2), .val (.int p3), .val (.int p4), .val (.int (Int32.ofNat N)), .val (.int (Int32.ofNat D)), .val (.int (Int32.ofNat A)), .val (.int cc), .val (.ref b1), .val (.int (Int32.ofNat (A + D))), .val (.int (1 : Int32)), .val (.long (Int64.ofNat N)), .second] [(.int (Int32.ofNat A)), (.int (Int32.ofNat D)), (.long (Int64.ofNat N)), (.int (7 : Int32)), (.ref b1)]))
  refine go (fun _ kont => XS.iload X37.here hx rfl (hb hby at_374) rfl  kont) ?_
  show G (T37.setTop (mkF m 376 #[.val (.int p1), .val (.int p2), .val (.int p3), .val (.int p4), .val (.int (Int32.ofNat N)), .val (.int (Int32.ofNat D)), .val (.int (Int32.ofNat A)), .val (.int cc), .val (.ref b1), .val (.int (Int32.ofNat (A + D))), .val (.int (1 : Int32)), .val (.long (Int64.ofNat N)), .second] [(.int cc), (.int (Int32.ofNat A)), (.int (Int32.ofNat D)), (.long (Int64.ofNat N)), (.int (7 : Int32)), (.ref b1)]))
  obtain ⟨_, _, ⟨T38, L38, k38, n38⟩, -, X38, ⟨Lc38, hQ38, l38, y38, z38⟩, st38⟩ := Jvm.LawKit.callS X37 hx (y := (⟨"com/example/reckoner/reckoner/core/DigitsWritePinLaw", "check", "([CIJIIC)Z"⟩ : MethodName)) hown (mvT hZ (hw _ (List.mem_of_getElem? (i := 7) rfl))) (mvT hZ (hw _ (List.mem_of_getElem? (i := 8) rfl))) (mvT hZ (hw _ (List.mem_of_getElem? (i := 9) rfl))) (mvT hZ (hw _ (List.mem_of_getElem? (i := 10) rfl))) (by decide) (backOf (W := 0) (own_rm_check l Z a0 hw [] b1 cc T37.heap n0 Z37 7 N D A (by decide) hN (by omega) hAD zs hzl V37 (hz 7 (by decide))) hZ (hw _ (List.mem_of_getElem? (i := 10) rfl)) (hw _ (List.mem_of_getElem? (i := 9) rfl)) (by decide) (by decide)) (g := (mkF m 376 #[.val (.int p1), .val (.int p2), .val (.int p3), .val (.int p4), .val (.int (Int32.ofNat N)), .val (.int (Int32.ofNat D)), .val (.int (Int32.ofNat A)), .val (.int cc), .val (.ref b1), .val (.int (Int32.ofNat (A + D))), .val (.int (1 : Int32)), .val (.long (Int64.ofNat N)), .second] [(.int cc), (.int (Int32.ofNat A)), (.int (Int32.ofNat D)), (.long (Int64.ofNat N)), (.int (7 : Int32)), (.ref b1)])) rfl (by rw [hml]; rfl) (argsL := [(.ref b1), (.int (7 : Int32)), (.long (Int64.ofNat N)), (.int (Int32.ofNat D)), (.int (Int32.ofNat A)), (.int cc)]) (rest := []) (lenOf own_pd2 rfl) rfl (by show 2 * 0 + _ ≤ _; exact Nat.le_of_eq rfl) (hb hby at_376) (fun _ _ => ⟨rfl, e37, (by decide : 8 + 1 ≤ _), (by decide : 98 + 12 ≤ _)⟩)
  dsimp only [Pt.U, Pt.locs, Pt.cells, Pt.slots] at X38 l38 y38 z38 st38 hQ38
  obtain ⟨rfl, N38q, K38⟩ := hQ38
  have N38 : Fr n0 L38 := by rw [l38]; exact Fr.app N37 N38q
  have e38 : T38.heap = T38.heap := rfl
  rw [show k38 = 9 from y38, show n38 = 110 from z38] at X38
  refine go st38 ?_
  show G (T38.setTop (mkF m 379 #[.val (.int p1), .val (.int p2), .val (.int p3), .val (.int p4), .val (.int (Int32.ofNat N)), .val (.int (Int32.ofNat D)), .val (.int (Int32.ofNat A)), .val (.int cc), .val (.ref b1), .val (.int (Int32.ofNat (A + D))), .val (.int (1 : Int32)), .val (.long (Int64.ofNat N)), .second] [(.int (1 : Int32))]))
  have Z38 : n0 ≤ T38.heap.size := Nat.le_trans Z37 K38.1
  have V38 := own_V_keep V37 K38 own_ni_0
  refine go (fun _ kont => XS.ifNo X38.here hx rfl (hb hby at_379) rfl ((if0 _ _).trans (feq (by decide)).1) kont) ?_
  show G (T38.setTop (mkF m 382 #[.val (.int p1), .val (.int p2), .val (.int p3), .val (.int p4), .val (.int (Int32.ofNat N)), .val (.int (Int32.ofNat D)), .val (.int (Int32.ofNat A)), .val (.int cc), .val (.ref b1), .val (.int (Int32.ofNat (A + D))), .val (.int (1 : Int32)), .val (.long (Int64.ofNat N)), .second] []))
  refine go (fun _ kont => XS.iconst X38.here hx rfl (hb hby at_382) kont) ?_
  show G (T38.setTop (mkF m 383 #[.val (.int p1), .val (.int p2), .val (.int p3), .val (.int p4), .val (.int (Int32.ofNat N)), .val (.int (Int32.ofNat D)), .val (.int (Int32.ofNat A)), .val (.int cc), .val (.ref b1), .val (.int (Int32.ofNat (A + D))), .val (.int (1 : Int32)), .val (.long (Int64.ofNat N)), .second] [(.int (1 : Int32))]))
  refine go (fun _ kont => XS.goto X38.here hx rfl (pc0 := 383) (pc' := 387) rfl (hb hby at_383) (by decide) (by decide) kont) ?_
  show G (T38.setTop (mkF m 387 #[.val (.int p1), .val (.int p2), .val (.int p3), .val (.int p4), .val (.int (Int32.ofNat N)), .val (.int (Int32.ofNat D)), .val (.int (Int32.ofNat A)), .val (.int cc), .val (.ref b1), .val (.int (Int32.ofNat (A + D))), .val (.int (1 : Int32)), .val (.long (Int64.ofNat N)), .second] [(.int (1 : Int32))]))
  refine go (fun _ kont => XS.istore X38.here hx rfl (hb hby at_387) rfl (l' := #[.val (.int p1), .val (.int p2), .val (.int p3), .val (.int p4), .val (.int (Int32.ofNat N)), .val (.int (Int32.ofNat D)), .val (.int (Int32.ofNat A)), .val (.int cc), .val (.ref b1), .val (.int (Int32.ofNat (A + D))), .val (.int (1 : Int32)), .val (.long (Int64.ofNat N)), .second]) rfl kont) ?_
  show G (T38.setTop (mkF m 389 #[.val (.int p1), .val (.int p2), .val (.int p3), .val (.int p4), .val (.int (Int32.ofNat N)), .val (.int (Int32.ofNat D)), .val (.int (Int32.ofNat A)), .val (.int cc), .val (.ref b1), .val (.int (Int32.ofNat (A + D))), .val (.int (1 : Int32)), .val (.long (Int64.ofNat N)), .second] []))
  refine go (fun _ kont => XS.iload X38.here hx rfl (hb hby at_389) rfl  kont) ?_
  show G (T38.setTop (mkF m 391 #[.val (.int p1), .val (.int p2), .val (.int p3), .val (.int p4), .val (.int (Int32.ofNat N)), .val (.int (Int32.ofNat D)), .val (.int (Int32.ofNat A)), .val (.int cc), .val (.ref b1), .val (.int (Int32.ofNat (A + D))), .val (.int (1 : Int32)), .val (.long (Int64.ofNat N)), .second] [(.int (1 : Int32))]))
  refine go (fun _ kont => XS.ifNo X38.here hx rfl (hb hby at_391) rfl ((if0 _ _).trans (feq (by decide)).1) kont) ?_
  show G (T38.setTop (mkF m 394 #[.val (.int p1), .val (.int p2), .val (.int p3), .val (.int p4), .val (.int (Int32.ofNat N)), .val (.int (Int32.ofNat D)), .val (.int (Int32.ofNat A)), .val (.int cc), .val (.ref b1), .val (.int (Int32.ofNat (A + D))), .val (.int (1 : Int32)), .val (.long (Int64.ofNat N)), .second] []))
  refine go (fun _ kont => XS.aload X38.here hx rfl (hb hby at_394) rfl rfl kont) ?_
  show G (T38.setTop (mkF m 396 #[.val (.int p1), .val (.int p2), .val (.int p3), .val (.int p4), .val (.int (Int32.ofNat N)), .val (.int (Int32.ofNat D)), .val (.int (Int32.ofNat A)), .val (.int cc), .val (.ref b1), .val (.int (Int32.ofNat (A + D))), .val (.int (1 : Int32)), .val (.long (Int64.ofNat N)), .second] [(.ref b1)]))
  refine go (fun _ kont => XS.bipush X38.here hx rfl (hb hby at_396) kont) ?_
  show G (T38.setTop (mkF m 398 #[.val (.int p1), .val (.int p2), .val (.int p3), .val (.int p4), .val (.int (Int32.ofNat N)), .val (.int (Int32.ofNat D)), .val (.int (Int32.ofNat A)), .val (.int cc), .val (.ref b1), .val (.int (Int32.ofNat (A + D))), .val (.int (1 : Int32)), .val (.long (Int64.ofNat N)), .second] [(.int (8 : Int32)), (.ref b1)]))
  refine go (fun _ kont => XS.lload X38.here hx rfl (hb hby at_398) rfl  kont) ?_
  show G (T38.setTop (mkF m 400 #[.val (.int p1), .val (.int p2), .val (.int p3), .val (.int p4), .val (.int (Int32.ofNat N)), .val (.int (Int32.ofNat D)), .val (.int (Int32.ofNat A)), .val (.int cc), .val (.ref b1), .val (.int (Int32.ofNat (A + D))), .val (.int (1 : Int32)), .val (.long (Int64.ofNat N)), .second] [(.long (Int64.ofNat N)), (.int (8 : Int32)), (.ref b1)]))
  refine go (fun _ kont => XS.iload X38.here hx rfl (hb hby at_400) rfl  kont) ?_
  show G (T38.setTop (mkF m 402 #[.val (.int p1), .val (.int p2), .val (.int p3), .val (.int p4), .val (.int (Int32.ofNat N)), .val (.int (Int32.ofNat D)), .val (.int (Int32.ofNat A)), .val (.int cc), .val (.ref b1), .val (.int (Int32.ofNat (A + D))), .val (.int (1 : Int32)), .val (.long (Int64.ofNat N)), .second] [(.int (Int32.ofNat D)), (.long (Int64.ofNat N)), (.int (8 : Int32)), (.ref b1)]))
  refine go (fun _ kont => XS.iload X38.here hx rfl (hb hby at_402) rfl  kont) ?_
  show G (T38.setTop (mkF m 404 #[.val (.int p1), .val (.int p2), .val (.int p3), .val (.int p4), .val (.int (Int32.ofNat N)), .val (.int (Int32.ofNat D)), .val (.int (Int32.ofNat A)), .val (.int cc), .val (.ref b1), .val (.int (Int32.ofNat (A + D))), .val (.int (1 : Int32)), .val (.long (Int64.ofNat N)), .second] [(.int (Int32.ofNat A)), (.int (Int32.ofNat D)), (.long (Int64.ofNat N)), (.int (8 : Int32)), (.ref b1)]))
  refine go (fun _ kont => XS.iload X38.here hx rfl (hb hby at_404) rfl  kont) ?_
  show G (T38.setTop (mkF m 406 #[.val (.int p1), .val (.int p2), .val (.int p3), .val (.int p4), .val (.int (Int32.ofNat N)), .val (.int (Int32.ofNat D)), .val (.int (Int32.ofNat A)), .val (.int cc), .val (.ref b1), .val (.int (Int32.ofNat (A + D))), .val (.int (1 : Int32)), .val (.long (Int64.ofNat N)), .second] [(.int cc), (.int (Int32.ofNat A)), (.int (Int32.ofNat D)), (.long (Int64.ofNat N)), (.int (8 : Int32)), (.ref b1)]))
  obtain ⟨_, _, ⟨T39, L39, k39, n39⟩, -, X39, ⟨Lc39, hQ39, l39, y39, z39⟩, st39⟩ := Jvm.LawKit.callS X38 hx (y := (⟨"com/example/reckoner/reckoner/core/DigitsWritePinLaw", "check", "([CIJIIC)Z"⟩ : MethodName)) hown (mvT hZ (hw _ (List.mem_of_getElem? (i := 7) rfl))) (mvT hZ (hw _ (List.mem_of_getElem? (i := 8) rfl))) (mvT hZ (hw _ (List.mem_of_getElem? (i := 9) rfl))) (mvT hZ (hw _ (List.mem_of_getElem? (i := 10) rfl))) (by decide) (backOf (W := 0) (own_rm_check l Z a0 hw [] b1 cc T38.heap n0 Z38 8 N D A (by decide) hN (by omega) hAD zs hzl V38 (hz 8 (by decide))) hZ (hw _ (List.mem_of_getElem? (i := 10) rfl)) (hw _ (List.mem_of_getElem? (i := 9) rfl)) (by decide) (by decide)) (g := (mkF m 406 #[.val (.int p1), .val (.int p2), .val (.int p3), .val (.int p4), .val (.int (Int32.ofNat N)), .val (.int (Int32.ofNat D)), .val (.int (Int32.ofNat A)), .val (.int cc), .val (.ref b1), .val (.int (Int32.ofNat (A + D))), .val (.int (1 : Int32)), .val (.long (Int64.ofNat N)), .second] [(.int cc), (.int (Int32.ofNat A)), (.int (Int32.ofNat D)), (.long (Int64.ofNat N)), (.int (8 : Int32)), (.ref b1)])) rfl (by rw [hml]; rfl) (argsL := [(.ref b1), (.int (8 : Int32)), (.long (Int64.ofNat N)), (.int (Int32.ofNat D)), (.int (Int32.ofNat A)), (.int cc)]) (rest := []) (lenOf own_pd2 rfl) rfl (by show 2 * 0 + _ ≤ _; exact Nat.le_of_eq rfl) (hb hby at_406) (fun _ _ => ⟨rfl, e38, (by decide : 9 + 1 ≤ _), (by decide : 110 + 12 ≤ _)⟩)
  dsimp only [Pt.U, Pt.locs, Pt.cells, Pt.slots] at X39 l39 y39 z39 st39 hQ39
  obtain ⟨rfl, N39q, K39⟩ := hQ39
  have N39 : Fr n0 L39 := by rw [l39]; exact Fr.app N38 N39q
  have e39 : T39.heap = T39.heap := rfl
  rw [show k39 = 10 from y39, show n39 = 122 from z39] at X39
  refine go st39 ?_
  show G (T39.setTop (mkF m 409 #[.val (.int p1), .val (.int p2), .val (.int p3), .val (.int p4), .val (.int (Int32.ofNat N)), .val (.int (Int32.ofNat D)), .val (.int (Int32.ofNat A)), .val (.int cc), .val (.ref b1), .val (.int (Int32.ofNat (A + D))), .val (.int (1 : Int32)), .val (.long (Int64.ofNat N)), .second] [(.int (1 : Int32))]))
  have Z39 : n0 ≤ T39.heap.size := Nat.le_trans Z38 K39.1
  have V39 := own_V_keep V38 K39 own_ni_0
  refine go (fun _ kont => XS.ifNo X39.here hx rfl (hb hby at_409) rfl ((if0 _ _).trans (feq (by decide)).1) kont) ?_
  show G (T39.setTop (mkF m 412 #[.val (.int p1), .val (.int p2), .val (.int p3), .val (.int p4), .val (.int (Int32.ofNat N)), .val (.int (Int32.ofNat D)), .val (.int (Int32.ofNat A)), .val (.int cc), .val (.ref b1), .val (.int (Int32.ofNat (A + D))), .val (.int (1 : Int32)), .val (.long (Int64.ofNat N)), .second] []))
  refine go (fun _ kont => XS.iconst X39.here hx rfl (hb hby at_412) kont) ?_
  show G (T39.setTop (mkF m 413 #[.val (.int p1), .val (.int p2), .val (.int p3), .val (.int p4), .val (.int (Int32.ofNat N)), .val (.int (Int32.ofNat D)), .val (.int (Int32.ofNat A)), .val (.int cc), .val (.ref b1), .val (.int (Int32.ofNat (A + D))), .val (.int (1 : Int32)), .val (.long (Int64.ofNat N)), .second] [(.int (1 : Int32))]))
  refine go (fun _ kont => XS.goto X39.here hx rfl (pc0 := 413) (pc' := 417) rfl (hb hby at_413) (by decide) (by decide) kont) ?_
  show G (T39.setTop (mkF m 417 #[.val (.int p1), .val (.int p2), .val (.int p3), .val (.int p4), .val (.int (Int32.ofNat N)), .val (.int (Int32.ofNat D)), .val (.int (Int32.ofNat A)), .val (.int cc), .val (.ref b1), .val (.int (Int32.ofNat (A + D))), .val (.int (1 : Int32)), .val (.long (Int64.ofNat N)), .second] [(.int (1 : Int32))]))
  refine go (fun _ kont => XS.istore X39.here hx rfl (hb hby at_417) rfl (l' := #[.val (.int p1), .val (.int p2), .val (.int p3), .val (.int p4), .val (.int (Int32.ofNat N)), .val (.int (Int32.ofNat D)), .val (.int (Int32.ofNat A)), .val (.int cc), .val (.ref b1), .val (.int (Int32.ofNat (A + D))), .val (.int (1 : Int32)), .val (.long (Int64.ofNat N)), .second]) rfl kont) ?_
  show G (T39.setTop (mkF m 419 #[.val (.int p1), .val (.int p2), .val (.int p3), .val (.int p4), .val (.int (Int32.ofNat N)), .val (.int (Int32.ofNat D)), .val (.int (Int32.ofNat A)), .val (.int cc), .val (.ref b1), .val (.int (Int32.ofNat (A + D))), .val (.int (1 : Int32)), .val (.long (Int64.ofNat N)), .second] []))
  refine go (fun _ kont => XS.iload X39.here hx rfl (hb hby at_419) rfl  kont) ?_
  show G (T39.setTop (mkF m 421 #[.val (.int p1), .val (.int p2), .val (.int p3), .val (.int p4), .val (.int (Int32.ofNat N)), .val (.int (Int32.ofNat D)), .val (.int (Int32.ofNat A)), .val (.int cc), .val (.ref b1), .val (.int (Int32.ofNat (A + D))), .val (.int (1 : Int32)), .val (.long (Int64.ofNat N)), .second] [(.int (1 : Int32))]))
  refine go (fun _ kont => XS.ifNo X39.here hx rfl (hb hby at_421) rfl ((if0 _ _).trans (feq (by decide)).1) kont) ?_
  show G (T39.setTop (mkF m 424 #[.val (.int p1), .val (.int p2), .val (.int p3), .val (.int p4), .val (.int (Int32.ofNat N)), .val (.int (Int32.ofNat D)), .val (.int (Int32.ofNat A)), .val (.int cc), .val (.ref b1), .val (.int (Int32.ofNat (A + D))), .val (.int (1 : Int32)), .val (.long (Int64.ofNat N)), .second] []))
  refine go (fun _ kont => XS.aload X39.here hx rfl (hb hby at_424) rfl rfl kont) ?_
  show G (T39.setTop (mkF m 426 #[.val (.int p1), .val (.int p2), .val (.int p3), .val (.int p4), .val (.int (Int32.ofNat N)), .val (.int (Int32.ofNat D)), .val (.int (Int32.ofNat A)), .val (.int cc), .val (.ref b1), .val (.int (Int32.ofNat (A + D))), .val (.int (1 : Int32)), .val (.long (Int64.ofNat N)), .second] [(.ref b1)]))
  refine go (fun _ kont => XS.bipush X39.here hx rfl (hb hby at_426) kont) ?_
  show G (T39.setTop (mkF m 428 #[.val (.int p1), .val (.int p2), .val (.int p3), .val (.int p4), .val (.int (Int32.ofNat N)), .val (.int (Int32.ofNat D)), .val (.int (Int32.ofNat A)), .val (.int cc), .val (.ref b1), .val (.int (Int32.ofNat (A + D))), .val (.int (1 : Int32)), .val (.long (Int64.ofNat N)), .second] [(.int (9 : Int32)), (.ref b1)]))
  refine go (fun _ kont => XS.lload X39.here hx rfl (hb hby at_428) rfl  kont) ?_
  show G (T39.setTop (mkF m 430 #[.val (.int p1), .val (.int p2), .val (.int p3), .val (.int p4), .val (.int (Int32.ofNat N)), .val (.int (Int32.ofNat D)), .val (.int (Int32.ofNat A)), .val (.int cc), .val (.ref b1), .val (.int (Int32.ofNat (A + D))), .val (.int (1 : Int32)), .val (.long (Int64.ofNat N)), .second] [(.long (Int64.ofNat N)), (.int (9 : Int32)), (.ref b1)]))
  refine go (fun _ kont => XS.iload X39.here hx rfl (hb hby at_430) rfl  kont) ?_
  show G (T39.setTop (mkF m 432 #[.val (.int p1), .val (.int p2), .val (.int p3), .val (.int p4), .val (.int (Int32.ofNat N)), .val (.int (Int32.ofNat D)), .val (.int (Int32.ofNat A)), .val (.int cc), .val (.ref b1), .val (.int (Int32.ofNat (A + D))), .val (.int (1 : Int32)), .val (.long (Int64.ofNat N)), .second] [(.int (Int32.ofNat D)), (.long (Int64.ofNat N)), (.int (9 : Int32)), (.ref b1)]))
  refine go (fun _ kont => XS.iload X39.here hx rfl (hb hby at_432) rfl  kont) ?_
  show G (T39.setTop (mkF m 434 #[.val (.int p1), .val (.int p2), .val (.int p3), .val (.int p4), .val (.int (Int32.ofNat N)), .val (.int (Int32.ofNat D)), .val (.int (Int32.ofNat A)), .val (.int cc), .val (.ref b1), .val (.int (Int32.ofNat (A + D))), .val (.int (1 : Int32)), .val (.long (Int64.ofNat N)), .second] [(.int (Int32.ofNat A)), (.int (Int32.ofNat D)), (.long (Int64.ofNat N)), (.int (9 : Int32)), (.ref b1)]))
  refine go (fun _ kont => XS.iload X39.here hx rfl (hb hby at_434) rfl  kont) ?_
  show G (T39.setTop (mkF m 436 #[.val (.int p1), .val (.int p2), .val (.int p3), .val (.int p4), .val (.int (Int32.ofNat N)), .val (.int (Int32.ofNat D)), .val (.int (Int32.ofNat A)), .val (.int cc), .val (.ref b1), .val (.int (Int32.ofNat (A + D))), .val (.int (1 : Int32)), .val (.long (Int64.ofNat N)), .second] [(.int cc), (.int (Int32.ofNat A)), (.int (Int32.ofNat D)), (.long (Int64.ofNat N)), (.int (9 : Int32)), (.ref b1)]))
  obtain ⟨_, _, ⟨T40, L40, k40, n40⟩, -, X40, ⟨Lc40, hQ40, l40, y40, z40⟩, st40⟩ := Jvm.LawKit.callS X39 hx (y := (⟨"com/example/reckoner/reckoner/core/DigitsWritePinLaw", "check", "([CIJIIC)Z"⟩ : MethodName)) hown (mvT hZ (hw _ (List.mem_of_getElem? (i := 7) rfl))) (mvT hZ (hw _ (List.mem_of_getElem? (i := 8) rfl))) (mvT hZ (hw _ (List.mem_of_getElem? (i := 9) rfl))) (mvT hZ (hw _ (List.mem_of_getElem? (i := 10) rfl))) (by decide) (backOf (W := 0) (own_rm_check l Z a0 hw [] b1 cc T39.heap n0 Z39 9 N D A (by decide) hN (by omega) hAD zs hzl V39 (hz 9 (by decide))) hZ (hw _ (List.mem_of_getElem? (i := 10) rfl)) (hw _ (List.mem_of_getElem? (i := 9) rfl)) (by decide) (by decide)) (g := (mkF m 436 #[.val (.int p1), .val (.int p2), .val (.int p3), .val (.int p4), .val (.int (Int32.ofNat N)), .val (.int (Int32.ofNat D)), .val (.int (Int32.ofNat A)), .val (.int cc), .val (.ref b1), .val (.int (Int32.ofNat (A + D))), .val (.int (1 : Int32)), .val (.long (Int64.ofNat N)), .second] [(.int cc), (.int (Int32.ofNat A)), (.int (Int32.ofNat D)), (.long (Int64.ofNat N)), (.int (9 : Int32)), (.ref b1)])) rfl (by rw [hml]; rfl) (argsL := [(.ref b1), (.int (9 : Int32)), (.long (Int64.ofNat N)), (.int (Int32.ofNat D)), (.int (Int32.ofNat A)), (.int cc)]) (rest := []) (lenOf own_pd2 rfl) rfl (by show 2 * 0 + _ ≤ _; exact Nat.le_of_eq rfl) (hb hby at_436) (fun _ _ => ⟨rfl, e39, (by decide : 10 + 1 ≤ _), (by decide : 122 + 12 ≤ _)⟩)
  dsimp only [Pt.U, Pt.locs, Pt.cells, Pt.slots] at X40 l40 y40 z40 st40 hQ40
  obtain ⟨rfl, N40q, K40⟩ := hQ40
  have N40 : Fr n0 L40 := by rw [l40]; exact Fr.app N39 N40q
  have e40 : T40.heap = T40.heap := rfl
  rw [show k40 = 11 from y40, show n40 = 134 from z40] at X40
  refine go st40 ?_
  show G (T40.setTop (mkF m 439 #[.val (.int p1), .val (.int p2), .val (.int p3), .val (.int p4), .val (.int (Int32.ofNat N)), .val (.int (Int32.ofNat D)), .val (.int (Int32.ofNat A)), .val (.int cc), .val (.ref b1), .val (.int (Int32.ofNat (A + D))), .val (.int (1 : Int32)), .val (.long (Int64.ofNat N)), .second] [(.int (1 : Int32))]))
  have Z40 : n0 ≤ T40.heap.size := Nat.le_trans Z39 K40.1
  have V40 := own_V_keep V39 K40 own_ni_0
  refine go (fun _ kont => XS.ifNo X40.here hx rfl (hb hby at_439) rfl ((if0 _ _).trans (feq (by decide)).1) kont) ?_
  show G (T40.setTop (mkF m 442 #[.val (.int p1), .val (.int p2), .val (.int p3), .val (.int p4), .val (.int (Int32.ofNat N)), .val (.int (Int32.ofNat D)), .val (.int (Int32.ofNat A)), .val (.int cc), .val (.ref b1), .val (.int (Int32.ofNat (A + D))), .val (.int (1 : Int32)), .val (.long (Int64.ofNat N)), .second] []))
  refine go (fun _ kont => XS.iconst X40.here hx rfl (hb hby at_442) kont) ?_
  show G (T40.setTop (mkF m 443 #[.val (.int p1), .val (.int p2), .val (.int p3), .val (.int p4), .val (.int (Int32.ofNat N)), .val (.int (Int32.ofNat D)), .val (.int (Int32.ofNat A)), .val (.int cc), .val (.ref b1), .val (.int (Int32.ofNat (A + D))), .val (.int (1 : Int32)), .val (.long (Int64.ofNat N)), .second] [(.int (1 : Int32))]))
  refine go (fun _ kont => XS.goto X40.here hx rfl (pc0 := 443) (pc' := 447) rfl (hb hby at_443) (by decide) (by decide) kont) ?_
  show G (T40.setTop (mkF m 447 #[.val (.int p1), .val (.int p2), .val (.int p3), .val (.int p4), .val (.int (Int32.ofNat N)), .val (.int (Int32.ofNat D)), .val (.int (Int32.ofNat A)), .val (.int cc), .val (.ref b1), .val (.int (Int32.ofNat (A + D))), .val (.int (1 : Int32)), .val (.long (Int64.ofNat N)), .second] [(.int (1 : Int32))]))
  refine go (fun _ kont => XS.istore X40.here hx rfl (hb hby at_447) rfl (l' := #[.val (.int p1), .val (.int p2), .val (.int p3), .val (.int p4), .val (.int (Int32.ofNat N)), .val (.int (Int32.ofNat D)), .val (.int (Int32.ofNat A)), .val (.int cc), .val (.ref b1), .val (.int (Int32.ofNat (A + D))), .val (.int (1 : Int32)), .val (.long (Int64.ofNat N)), .second]) rfl kont) ?_
  show G (T40.setTop (mkF m 449 #[.val (.int p1), .val (.int p2), .val (.int p3), .val (.int p4), .val (.int (Int32.ofNat N)), .val (.int (Int32.ofNat D)), .val (.int (Int32.ofNat A)), .val (.int cc), .val (.ref b1), .val (.int (Int32.ofNat (A + D))), .val (.int (1 : Int32)), .val (.long (Int64.ofNat N)), .second] []))
  refine go (fun _ kont => XS.iload X40.here hx rfl (hb hby at_449) rfl  kont) ?_
  show G (T40.setTop (mkF m 451 #[.val (.int p1), .val (.int p2), .val (.int p3), .val (.int p4), .val (.int (Int32.ofNat N)), .val (.int (Int32.ofNat D)), .val (.int (Int32.ofNat A)), .val (.int cc), .val (.ref b1), .val (.int (Int32.ofNat (A + D))), .val (.int (1 : Int32)), .val (.long (Int64.ofNat N)), .second] [(.int (1 : Int32))]))
  refine go (fun _ kont => XS.ifNo X40.here hx rfl (hb hby at_451) rfl ((if0 _ _).trans (feq (by decide)).1) kont) ?_
  show G (T40.setTop (mkF m 454 #[.val (.int p1), .val (.int p2), .val (.int p3), .val (.int p4), .val (.int (Int32.ofNat N)), .val (.int (Int32.ofNat D)), .val (.int (Int32.ofNat A)), .val (.int cc), .val (.ref b1), .val (.int (Int32.ofNat (A + D))), .val (.int (1 : Int32)), .val (.long (Int64.ofNat N)), .second] []))
  refine go (fun _ kont => XS.aload X40.here hx rfl (hb hby at_454) rfl rfl kont) ?_
  show G (T40.setTop (mkF m 456 #[.val (.int p1), .val (.int p2), .val (.int p3), .val (.int p4), .val (.int (Int32.ofNat N)), .val (.int (Int32.ofNat D)), .val (.int (Int32.ofNat A)), .val (.int cc), .val (.ref b1), .val (.int (Int32.ofNat (A + D))), .val (.int (1 : Int32)), .val (.long (Int64.ofNat N)), .second] [(.ref b1)]))
  refine go (fun _ kont => XS.bipush X40.here hx rfl (hb hby at_456) kont) ?_
  show G (T40.setTop (mkF m 458 #[.val (.int p1), .val (.int p2), .val (.int p3), .val (.int p4), .val (.int (Int32.ofNat N)), .val (.int (Int32.ofNat D)), .val (.int (Int32.ofNat A)), .val (.int cc), .val (.ref b1), .val (.int (Int32.ofNat (A + D))), .val (.int (1 : Int32)), .val (.long (Int64.ofNat N)), .second] [(.int (10 : Int32)), (.ref b1)]))
  refine go (fun _ kont => XS.lload X40.here hx rfl (hb hby at_458) rfl  kont) ?_
  show G (T40.setTop (mkF m 460 #[.val (.int p1), .val (.int p2), .val (.int p3), .val (.int p4), .val (.int (Int32.ofNat N)), .val (.int (Int32.ofNat D)), .val (.int (Int32.ofNat A)), .val (.int cc), .val (.ref b1), .val (.int (Int32.ofNat (A + D))), .val (.int (1 : Int32)), .val (.long (Int64.ofNat N)), .second] [(.long (Int64.ofNat N)), (.int (10 : Int32)), (.ref b1)]))
  refine go (fun _ kont => XS.iload X40.here hx rfl (hb hby at_460) rfl  kont) ?_
  show G (T40.setTop (mkF m 462 #[.val (.int p1), .val (.int p2), .val (.int p3), .val (.int p4), .val (.int (Int32.ofNat N)), .val (.int (Int32.ofNat D)), .val (.int (Int32.ofNat A)), .val (.int cc), .val (.ref b1), .val (.int (Int32.ofNat (A + D))), .val (.int (1 : Int32)), .val (.long (Int64.ofNat N)), .second] [(.int (Int32.ofNat D)), (.long (Int64.ofNat N)), (.int (10 : Int32)), (.ref b1)]))
  refine go (fun _ kont => XS.iload X40.here hx rfl (hb hby at_462) rfl  kont) ?_
  show G (T40.setTop (mkF m 464 #[.val (.int p1), .val (.int p2), .val (.int p3), .val (.int p4), .val (.int (Int32.ofNat N)), .val (.int (Int32.ofNat D)), .val (.int (Int32.ofNat A)), .val (.int cc), .val (.ref b1), .val (.int (Int32.ofNat (A + D))), .val (.int (1 : Int32)), .val (.long (Int64.ofNat N)), .second] [(.int (Int32.ofNat A)), (.int (Int32.ofNat D)), (.long (Int64.ofNat N)), (.int (10 : Int32)), (.ref b1)]))
  refine go (fun _ kont => XS.iload X40.here hx rfl (hb hby at_464) rfl  kont) ?_
  show G (T40.setTop (mkF m 466 #[.val (.int p1), .val (.int p2), .val (.int p3), .val (.int p4), .val (.int (Int32.ofNat N)), .val (.int (Int32.ofNat D)), .val (.int (Int32.ofNat A)), .val (.int cc), .val (.ref b1), .val (.int (Int32.ofNat (A + D))), .val (.int (1 : Int32)), .val (.long (Int64.ofNat N)), .second] [(.int cc), (.int (Int32.ofNat A)), (.int (Int32.ofNat D)), (.long (Int64.ofNat N)), (.int (10 : Int32)), (.ref b1)]))
  obtain ⟨_, _, ⟨T41, L41, k41, n41⟩, -, X41, ⟨Lc41, hQ41, l41, y41, z41⟩, st41⟩ := Jvm.LawKit.callS X40 hx (y := (⟨"com/example/reckoner/reckoner/core/DigitsWritePinLaw", "check", "([CIJIIC)Z"⟩ : MethodName)) hown (mvT hZ (hw _ (List.mem_of_getElem? (i := 7) rfl))) (mvT hZ (hw _ (List.mem_of_getElem? (i := 8) rfl))) (mvT hZ (hw _ (List.mem_of_getElem? (i := 9) rfl))) (mvT hZ (hw _ (List.mem_of_getElem? (i := 10) rfl))) (by decide) (backOf (W := 0) (own_rm_check l Z a0 hw [] b1 cc T40.heap n0 Z40 10 N D A (by decide) hN (by omega) hAD zs hzl V40 (hz 10 (by decide))) hZ (hw _ (List.mem_of_getElem? (i := 10) rfl)) (hw _ (List.mem_of_getElem? (i := 9) rfl)) (by decide) (by decide)) (g := (mkF m 466 #[.val (.int p1), .val (.int p2), .val (.int p3), .val (.int p4), .val (.int (Int32.ofNat N)), .val (.int (Int32.ofNat D)), .val (.int (Int32.ofNat A)), .val (.int cc), .val (.ref b1), .val (.int (Int32.ofNat (A + D))), .val (.int (1 : Int32)), .val (.long (Int64.ofNat N)), .second] [(.int cc), (.int (Int32.ofNat A)), (.int (Int32.ofNat D)), (.long (Int64.ofNat N)), (.int (10 : Int32)), (.ref b1)])) rfl (by rw [hml]; rfl) (argsL := [(.ref b1), (.int (10 : Int32)), (.long (Int64.ofNat N)), (.int (Int32.ofNat D)), (.int (Int32.ofNat A)), (.int cc)]) (rest := []) (lenOf own_pd2 rfl) rfl (by show 2 * 0 + _ ≤ _; exact Nat.le_of_eq rfl) (hb hby at_466) (fun _ _ => ⟨rfl, e40, (by decide : 11 + 1 ≤ _), (by decide : 134 + 12 ≤ _)⟩)
  dsimp only [Pt.U, Pt.locs, Pt.cells, Pt.slots] at X41 l41 y41 z41 st41 hQ41
  obtain ⟨rfl, N41q, K41⟩ := hQ41
  have N41 : Fr n0 L41 := by rw [l41]; exact Fr.app N40 N41q
  have e41 : T41.heap = T41.heap := rfl
  rw [show k41 = 12 from y41, show n41 = 146 from z41] at X41
  refine go st41 ?_
  show G (T41.setTop (mkF m 469 #[.val (.int p1), .val (.int p2), .val (.int p3), .val (.int p4), .val (.int (Int32.ofNat N)), .val (.int (Int32.ofNat D)), .val (.int (Int32.ofNat A)), .val (.int cc), .val (.ref b1), .val (.int (Int32.ofNat (A + D))), .val (.int (1 : Int32)), .val (.long (Int64.ofNat N)), .second] [(.int (1 : Int32))]))
  have Z41 : n0 ≤ T41.heap.size := Nat.le_trans Z40 K41.1
  have V41 := own_V_keep V40 K41 own_ni_0
  refine go (fun _ kont => XS.ifNo X41.here hx rfl (hb hby at_469) rfl ((if0 _ _).trans (feq (by decide)).1) kont) ?_
  show G (T41.setTop (mkF m 472 #[.val (.int p1), .val (.int p2), .val (.int p3), .val (.int p4), .val (.int (Int32.ofNat N)), .val (.int (Int32.ofNat D)), .val (.int (Int32.ofNat A)), .val (.int cc), .val (.ref b1), .val (.int (Int32.ofNat (A + D))), .val (.int (1 : Int32)), .val (.long (Int64.ofNat N)), .second] []))
  refine go (fun _ kont => XS.iconst X41.here hx rfl (hb hby at_472) kont) ?_
  show G (T41.setTop (mkF m 473 #[.val (.int p1), .val (.int p2), .val (.int p3), .val (.int p4), .val (.int (Int32.ofNat N)), .val (.int (Int32.ofNat D)), .val (.int (Int32.ofNat A)), .val (.int cc), .val (.ref b1), .val (.int (Int32.ofNat (A + D))), .val (.int (1 : Int32)), .val (.long (Int64.ofNat N)), .second] [(.int (1 : Int32))]))
  refine go (fun _ kont => XS.goto X41.here hx rfl (pc0 := 473) (pc' := 477) rfl (hb hby at_473) (by decide) (by decide) kont) ?_
  show G (T41.setTop (mkF m 477 #[.val (.int p1), .val (.int p2), .val (.int p3), .val (.int p4), .val (.int (Int32.ofNat N)), .val (.int (Int32.ofNat D)), .val (.int (Int32.ofNat A)), .val (.int cc), .val (.ref b1), .val (.int (Int32.ofNat (A + D))), .val (.int (1 : Int32)), .val (.long (Int64.ofNat N)), .second] [(.int (1 : Int32))]))
  refine go (fun _ kont => XS.istore X41.here hx rfl (hb hby at_477) rfl (l' := #[.val (.int p1), .val (.int p2), .val (.int p3), .val (.int p4), .val (.int (Int32.ofNat N)), .val (.int (Int32.ofNat D)), .val (.int (Int32.ofNat A)), .val (.int cc), .val (.ref b1), .val (.int (Int32.ofNat (A + D))), .val (.int (1 : Int32)), .val (.long (Int64.ofNat N)), .second]) rfl kont) ?_
  show G (T41.setTop (mkF m 479 #[.val (.int p1), .val (.int p2), .val (.int p3), .val (.int p4), .val (.int (Int32.ofNat N)), .val (.int (Int32.ofNat D)), .val (.int (Int32.ofNat A)), .val (.int cc), .val (.ref b1), .val (.int (Int32.ofNat (A + D))), .val (.int (1 : Int32)), .val (.long (Int64.ofNat N)), .second] []))
  refine go (fun _ kont => XS.iload X41.here hx rfl (hb hby at_479) rfl  kont) ?_
  show G (T41.setTop (mkF m 481 #[.val (.int p1), .val (.int p2), .val (.int p3), .val (.int p4), .val (.int (Int32.ofNat N)), .val (.int (Int32.ofNat D)), .val (.int (Int32.ofNat A)), .val (.int cc), .val (.ref b1), .val (.int (Int32.ofNat (A + D))), .val (.int (1 : Int32)), .val (.long (Int64.ofNat N)), .second] [(.int (1 : Int32))]))
  refine go (fun _ kont => XS.ifNo X41.here hx rfl (hb hby at_481) rfl ((if0 _ _).trans (feq (by decide)).1) kont) ?_
  show G (T41.setTop (mkF m 484 #[.val (.int p1), .val (.int p2), .val (.int p3), .val (.int p4), .val (.int (Int32.ofNat N)), .val (.int (Int32.ofNat D)), .val (.int (Int32.ofNat A)), .val (.int cc), .val (.ref b1), .val (.int (Int32.ofNat (A + D))), .val (.int (1 : Int32)), .val (.long (Int64.ofNat N)), .second] []))
  refine go (fun _ kont => XS.aload X41.here hx rfl (hb hby at_484) rfl rfl kont) ?_
  show G (T41.setTop (mkF m 486 #[.val (.int p1), .val (.int p2), .val (.int p3), .val (.int p4), .val (.int (Int32.ofNat N)), .val (.int (Int32.ofNat D)), .val (.int (Int32.ofNat A)), .val (.int cc), .val (.ref b1), .val (.int (Int32.ofNat (A + D))), .val (.int (1 : Int32)), .val (.long (Int64.ofNat N)), .second] [(.ref b1)]))
  refine go (fun _ kont => XS.bipush X41.here hx rfl (hb hby at_486) kont) ?_
  show G (T41.setTop (mkF m 488 #[.val (.int p1), .val (.int p2), .val (.int p3), .val (.int p4), .val (.int (Int32.ofNat N)), .val (.int (Int32.ofNat D)), .val (.int (Int32.ofNat A)), .val (.int cc), .val (.ref b1), .val (.int (Int32.ofNat (A + D))), .val (.int (1 : Int32)), .val (.long (Int64.ofNat N)), .second] [(.int (11 : Int32)), (.ref b1)]))
  refine go (fun _ kont => XS.lload X41.here hx rfl (hb hby at_488) rfl  kont) ?_
  show G (T41.setTop (mkF m 490 #[.val (.int p1), .val (.int p2), .val (.int p3), .val (.int p4), .val (.int (Int32.ofNat N)), .val (.int (Int32.ofNat D)), .val (.int (Int32.ofNat A)), .val (.int cc), .val (.ref b1), .val (.int (Int32.ofNat (A + D))), .val (.int (1 : Int32)), .val (.long (Int64.ofNat N)), .second] [(.long (Int64.ofNat N)), (.int (11 : Int32)), (.ref b1)]))
  refine go (fun _ kont => XS.iload X41.here hx rfl (hb hby at_490) rfl  kont) ?_
  show G (T41.setTop (mkF m 492 #[.val (.int p1), .val (.int p2), .val (.int p3), .val (.int p4), .val (.int (Int32.ofNat N)), .val (.int (Int32.ofNat D)), .val (.int (Int32.ofNat A)), .val (.int cc), .val (.ref b1), .val (.int (Int32.ofNat (A + D))), .val (.int (1 : Int32)), .val (.long (Int64.ofNat N)), .second] [(.int (Int32.ofNat D)), (.long (Int64.ofNat N)), (.int (11 : Int32)), (.ref b1)]))
  refine go (fun _ kont => XS.iload X41.here hx rfl (hb hby at_492) rfl  kont) ?_
  show G (T41.setTop (mkF m 494 #[.val (.int p1), .val (.int p2), .val (.int p3), .val (.int p4), .val (.int (Int32.ofNat N)), .val (.int (Int32.ofNat D)), .val (.int (Int32.ofNat A)), .val (.int cc), .val (.ref b1), .val (.int (Int32.ofNat (A + D))), .val (.int (1 : Int32)), .val (.long (Int64.ofNat N)), .second] [(.int (Int32.ofNat A)), (.int (Int32.ofNat D)), (.long (Int64.ofNat N)), (.int (11 : Int32)), (.ref b1)]))
  refine go (fun _ kont => XS.iload X41.here hx rfl (hb hby at_494) rfl  kont) ?_
  show G (T41.setTop (mkF m 496 #[.val (.int p1), .val (.int p2), .val (.int p3), .val (.int p4), .val (.int (Int32.ofNat N)), .val (.int (Int32.ofNat D)), .val (.int (Int32.ofNat A)), .val (.int cc), .val (.ref b1), .val (.int (Int32.ofNat (A + D))), .val (.int (1 : Int32)), .val (.long (Int64.ofNat N)), .second] [(.int cc), (.int (Int32.ofNat A)), (.int (Int32.ofNat D)), (.long (Int64.ofNat N)), (.int (11 : Int32)), (.ref b1)]))
  obtain ⟨_, _, ⟨T42, L42, k42, n42⟩, -, X42, ⟨Lc42, hQ42, l42, y42, z42⟩, st42⟩ := Jvm.LawKit.callS X41 hx (y := (⟨"com/example/reckoner/reckoner/core/DigitsWritePinLaw", "check", "([CIJIIC)Z"⟩ : MethodName)) hown (mvT hZ (hw _ (List.mem_of_getElem? (i := 7) rfl))) (mvT hZ (hw _ (List.mem_of_getElem? (i := 8) rfl))) (mvT hZ (hw _ (List.mem_of_getElem? (i := 9) rfl))) (mvT hZ (hw _ (List.mem_of_getElem? (i := 10) rfl))) (by decide) (backOf (W := 0) (own_rm_check l Z a0 hw [] b1 cc T41.heap n0 Z41 11 N D A (by decide) hN (by omega) hAD zs hzl V41 (hz 11 (by decide))) hZ (hw _ (List.mem_of_getElem? (i := 10) rfl)) (hw _ (List.mem_of_getElem? (i := 9) rfl)) (by decide) (by decide)) (g := (mkF m 496 #[.val (.int p1), .val (.int p2), .val (.int p3), .val (.int p4), .val (.int (Int32.ofNat N)), .val (.int (Int32.ofNat D)), .val (.int (Int32.ofNat A)), .val (.int cc), .val (.ref b1), .val (.int (Int32.ofNat (A + D))), .val (.int (1 : Int32)), .val (.long (Int64.ofNat N)), .second] [(.int cc), (.int (Int32.ofNat A)), (.int (Int32.ofNat D)), (.long (Int64.ofNat N)), (.int (11 : Int32)), (.ref b1)])) rfl (by rw [hml]; rfl) (argsL := [(.ref b1), (.int (11 : Int32)), (.long (Int64.ofNat N)), (.int (Int32.ofNat D)), (.int (Int32.ofNat A)), (.int cc)]) (rest := []) (lenOf own_pd2 rfl) rfl (by show 2 * 0 + _ ≤ _; exact Nat.le_of_eq rfl) (hb hby at_496) (fun _ _ => ⟨rfl, e41, (by decide : 12 + 1 ≤ _), (by decide : 146 + 12 ≤ _)⟩)
  dsimp only [Pt.U, Pt.locs, Pt.cells, Pt.slots] at X42 l42 y42 z42 st42 hQ42
  obtain ⟨rfl, N42q, K42⟩ := hQ42
  have N42 : Fr n0 L42 := by rw [l42]; exact Fr.app N41 N42q
  have e42 : T42.heap = T42.heap := rfl
  rw [show k42 = 13 from y42, show n42 = 158 from z42] at X42
  refine go st42 ?_
  show G (T42.setTop (mkF m 499 #[.val (.int p1), .val (.int p2), .val (.int p3), .val (.int p4), .val (.int (Int32.ofNat N)), .val (.int (Int32.ofNat D)), .val (.int (Int32.ofNat A)), .val (.int cc), .val (.ref b1), .val (.int (Int32.ofNat (A + D))), .val (.int (1 : Int32)), .val (.long (Int64.ofNat N)), .second] [(.int (1 : Int32))]))
  have Z42 : n0 ≤ T42.heap.size := Nat.le_trans Z41 K42.1
  have V42 := own_V_keep V41 K42 own_ni_0
  refine go (fun _ kont => XS.ifNo X42.here hx rfl (hb hby at_499) rfl ((if0 _ _).trans (feq (by decide)).1) kont) ?_
  show G (T42.setTop (mkF m 502 #[.val (.int p1), .val (.int p2), .val (.int p3), .val (.int p4), .val (.int (Int32.ofNat N)), .val (.int (Int32.ofNat D)), .val (.int (Int32.ofNat A)), .val (.int cc), .val (.ref b1), .val (.int (Int32.ofNat (A + D))), .val (.int (1 : Int32)), .val (.long (Int64.ofNat N)), .second] []))
  refine go (fun _ kont => XS.iconst X42.here hx rfl (hb hby at_502) kont) ?_
  show G (T42.setTop (mkF m 503 #[.val (.int p1), .val (.int p2), .val (.int p3), .val (.int p4), .val (.int (Int32.ofNat N)), .val (.int (Int32.ofNat D)), .val (.int (Int32.ofNat A)), .val (.int cc), .val (.ref b1), .val (.int (Int32.ofNat (A + D))), .val (.int (1 : Int32)), .val (.long (Int64.ofNat N)), .second] [(.int (1 : Int32))]))
  refine go (fun _ kont => XS.goto X42.here hx rfl (pc0 := 503) (pc' := 507) rfl (hb hby at_503) (by decide) (by decide) kont) ?_
  show G (T42.setTop (mkF m 507 #[.val (.int p1), .val (.int p2), .val (.int p3), .val (.int p4), .val (.int (Int32.ofNat N)), .val (.int (Int32.ofNat D)), .val (.int (Int32.ofNat A)), .val (.int cc), .val (.ref b1), .val (.int (Int32.ofNat (A + D))), .val (.int (1 : Int32)), .val (.long (Int64.ofNat N)), .second] [(.int (1 : Int32))]))
  refine go (fun _ kont => XS.istore X42.here hx rfl (hb hby at_507) rfl (l' := #[.val (.int p1), .val (.int p2), .val (.int p3), .val (.int p4), .val (.int (Int32.ofNat N)), .val (.int (Int32.ofNat D)), .val (.int (Int32.ofNat A)), .val (.int cc), .val (.ref b1), .val (.int (Int32.ofNat (A + D))), .val (.int (1 : Int32)), .val (.long (Int64.ofNat N)), .second]) rfl kont) ?_
  show G (T42.setTop (mkF m 509 #[.val (.int p1), .val (.int p2), .val (.int p3), .val (.int p4), .val (.int (Int32.ofNat N)), .val (.int (Int32.ofNat D)), .val (.int (Int32.ofNat A)), .val (.int cc), .val (.ref b1), .val (.int (Int32.ofNat (A + D))), .val (.int (1 : Int32)), .val (.long (Int64.ofNat N)), .second] []))
  refine go (fun _ kont => XS.iload X42.here hx rfl (hb hby at_509) rfl  kont) ?_
  show G (T42.setTop (mkF m 511 #[.val (.int p1), .val (.int p2), .val (.int p3), .val (.int p4), .val (.int (Int32.ofNat N)), .val (.int (Int32.ofNat D)), .val (.int (Int32.ofNat A)), .val (.int cc), .val (.ref b1), .val (.int (Int32.ofNat (A + D))), .val (.int (1 : Int32)), .val (.long (Int64.ofNat N)), .second] [(.int (1 : Int32))]))
  refine go (fun _ kont => XS.ifNo X42.here hx rfl (hb hby at_511) rfl ((if0 _ _).trans (feq (by decide)).1) kont) ?_
  show G (T42.setTop (mkF m 514 #[.val (.int p1), .val (.int p2), .val (.int p3), .val (.int p4), .val (.int (Int32.ofNat N)), .val (.int (Int32.ofNat D)), .val (.int (Int32.ofNat A)), .val (.int cc), .val (.ref b1), .val (.int (Int32.ofNat (A + D))), .val (.int (1 : Int32)), .val (.long (Int64.ofNat N)), .second] []))
  refine go (fun _ kont => XS.aload X42.here hx rfl (hb hby at_514) rfl rfl kont) ?_
  show G (T42.setTop (mkF m 516 #[.val (.int p1), .val (.int p2), .val (.int p3), .val (.int p4), .val (.int (Int32.ofNat N)), .val (.int (Int32.ofNat D)), .val (.int (Int32.ofNat A)), .val (.int cc), .val (.ref b1), .val (.int (Int32.ofNat (A + D))), .val (.int (1 : Int32)), .val (.long (Int64.ofNat N)), .second] [(.ref b1)]))
  refine go (fun _ kont => XS.bipush X42.here hx rfl (hb hby at_516) kont) ?_
  show G (T42.setTop (mkF m 518 #[.val (.int p1), .val (.int p2), .val (.int p3), .val (.int p4), .val (.int (Int32.ofNat N)), .val (.int (Int32.ofNat D)), .val (.int (Int32.ofNat A)), .val (.int cc), .val (.ref b1), .val (.int (Int32.ofNat (A + D))), .val (.int (1 : Int32)), .val (.long (Int64.ofNat N)), .second] [(.int (12 : Int32)), (.ref b1)]))
  refine go (fun _ kont => XS.lload X42.here hx rfl (hb hby at_518) rfl  kont) ?_
  show G (T42.setTop (mkF m 520 #[.val (.int p1), .val (.int p2), .val (.int p3), .val (.int p4), .val (.int (Int32.ofNat N)), .val (.int (Int32.ofNat D)), .val (.int (Int32.ofNat A)), .val (.int cc), .val (.ref b1), .val (.int (Int32.ofNat (A + D))), .val (.int (1 : Int32)), .val (.long (Int64.ofNat N)), .second] [(.long (Int64.ofNat N)), (.int (12 : Int32)), (.ref b1)]))
  refine go (fun _ kont => XS.iload X42.here hx rfl (hb hby at_520) rfl  kont) ?_
  show G (T42.setTop (mkF m 522 #[.val (.int p1), .val (.int p2), .val (.int p3), .val (.int p4), .val (.int (Int32.ofNat N)), .val (.int (Int32.ofNat D)), .val (.int (Int32.ofNat A)), .val (.int cc), .val (.ref b1), .val (.int (Int32.ofNat (A + D))), .val (.int (1 : Int32)), .val (.long (Int64.ofNat N)), .second] [(.int (Int32.ofNat D)), (.long (Int64.ofNat N)), (.int (12 : Int32)), (.ref b1)]))
  refine go (fun _ kont => XS.iload X42.here hx rfl (hb hby at_522) rfl  kont) ?_
  show G (T42.setTop (mkF m 524 #[.val (.int p1), .val (.int p2), .val (.int p3), .val (.int p4), .val (.int (Int32.ofNat N)), .val (.int (Int32.ofNat D)), .val (.int (Int32.ofNat A)), .val (.int cc), .val (.ref b1), .val (.int (Int32.ofNat (A + D))), .val (.int (1 : Int32)), .val (.long (Int64.ofNat N)), .second] [(.int (Int32.ofNat A)), (.int (Int32.ofNat D)), (.long (Int64.ofNat N)), (.int (12 : Int32)), (.ref b1)]))
  refine go (fun _ kont => XS.iload X42.here hx rfl (hb hby at_524) rfl  kont) ?_
  show G (T42.setTop (mkF m 526 #[.val (.int p1), .val (.int p2), .val (.int p3), .val (.int p4), .val (.int (Int32.ofNat N)), .val (.int (Int32.ofNat D)), .val (.int (Int32.ofNat A)), .val (.int cc), .val (.ref b1), .val (.int (Int32.ofNat (A + D))), .val (.int (1 : Int32)), .val (.long (Int64.ofNat N)), .second] [(.int cc), (.int (Int32.ofNat A)), (.int (Int32.ofNat D)), (.long (Int64.ofNat N)), (.int (12 : Int32)), (.ref b1)]))
  obtain ⟨_, _, ⟨T43, L43, k43, n43⟩, -, X43, ⟨Lc43, hQ43, l43, y43, z43⟩, st43⟩ := Jvm.LawKit.callS X42 hx (y := (⟨"com/example/reckoner/reckoner/core/DigitsWritePinLaw", "check", "([CIJIIC)Z"⟩ : MethodName)) hown (mvT hZ (hw _ (List.mem_of_getElem? (i := 7) rfl))) (mvT hZ (hw _ (List.mem_of_getElem? (i := 8) rfl))) (mvT hZ (hw _ (List.mem_of_getElem? (i := 9) rfl))) (mvT hZ (hw _ (List.mem_of_getElem? (i := 10) rfl))) (by decide) (backOf (W := 0) (own_rm_check l Z a0 hw [] b1 cc T42.heap n0 Z42 12 N D A (by decide) hN (by omega) hAD zs hzl V42 (hz 12 (by decide))) hZ (hw _ (List.mem_of_getElem? (i := 10) rfl)) (hw _ (List.mem_of_getElem? (i := 9) rfl)) (by decide) (by decide)) (g := (mkF m 526 #[.val (.int p1), .val (.int p2), .val (.int p3), .val (.int p4), .val (.int (Int32.ofNat N)), .val (.int (Int32.ofNat D)), .val (.int (Int32.ofNat A)), .val (.int cc), .val (.ref b1), .val (.int (Int32.ofNat (A + D))), .val (.int (1 : Int32)), .val (.long (Int64.ofNat N)), .second] [(.int cc), (.int (Int32.ofNat A)), (.int (Int32.ofNat D)), (.long (Int64.ofNat N)), (.int (12 : Int32)), (.ref b1)])) rfl (by rw [hml]; rfl) (argsL := [(.ref b1), (.int (12 : Int32)), (.long (Int64.ofNat N)), (.int (Int32.ofNat D)), (.int (Int32.ofNat A)), (.int cc)]) (rest := []) (lenOf own_pd2 rfl) rfl (by show 2 * 0 + _ ≤ _; exact Nat.le_of_eq rfl) (hb hby at_526) (fun _ _ => ⟨rfl, e42, (by decide : 13 + 1 ≤ _), (by decide : 158 + 12 ≤ _)⟩)
  dsimp only [Pt.U, Pt.locs, Pt.cells, Pt.slots] at X43 l43 y43 z43 st43 hQ43
  obtain ⟨rfl, N43q, K43⟩ := hQ43
  have N43 : Fr n0 L43 := by rw [l43]; exact Fr.app N42 N43q
  have e43 : T43.heap = T43.heap := rfl
  rw [show k43 = 14 from y43, show n43 = 170 from z43] at X43
  refine go st43 ?_
  show G (T43.setTop (mkF m 529 #[.val (.int p1), .val (.int p2), .val (.int p3), .val (.int p4), .val (.int (Int32.ofNat N)), .val (.int (Int32.ofNat D)), .val (.int (Int32.ofNat A)), .val (.int cc), .val (.ref b1), .val (.int (Int32.ofNat (A + D))), .val (.int (1 : Int32)), .val (.long (Int64.ofNat N)), .second] [(.int (1 : Int32))]))
  have Z43 : n0 ≤ T43.heap.size := Nat.le_trans Z42 K43.1
  have V43 := own_V_keep V42 K43 own_ni_0
  refine go (fun _ kont => XS.ifNo X43.here hx rfl (hb hby at_529) rfl ((if0 _ _).trans (feq (by decide)).1) kont) ?_
  show G (T43.setTop (mkF m 532 #[.val (.int p1), .val (.int p2), .val (.int p3), .val (.int p4), .val (.int (Int32.ofNat N)), .val (.int (Int32.ofNat D)), .val (.int (Int32.ofNat A)), .val (.int cc), .val (.ref b1), .val (.int (Int32.ofNat (A + D))), .val (.int (1 : Int32)), .val (.long (Int64.ofNat N)), .second] []))
  refine go (fun _ kont => XS.iconst X43.here hx rfl (hb hby at_532) kont) ?_
  show G (T43.setTop (mkF m 533 #[.val (.int p1), .val (.int p2), .val (.int p3), .val (.int p4), .val (.int (Int32.ofNat N)), .val (.int (Int32.ofNat D)), .val (.int (Int32.ofNat A)), .val (.int cc), .val (.ref b1), .val (.int (Int32.ofNat (A + D))), .val (.int (1 : Int32)), .val (.long (Int64.ofNat N)), .second] [(.int (1 : Int32))]))
  refine go (fun _ kont => XS.goto X43.here hx rfl (pc0 := 533) (pc' := 537) rfl (hb hby at_533) (by decide) (by decide) kont) ?_
  show G (T43.setTop (mkF m 537 #[.val (.int p1), .val (.int p2), .val (.int p3), .val (.int p4), .val (.int (Int32.ofNat N)), .val (.int (Int32.ofNat D)), .val (.int (Int32.ofNat A)), .val (.int cc), .val (.ref b1), .val (.int (Int32.ofNat (A + D))), .val (.int (1 : Int32)), .val (.long (Int64.ofNat N)), .second] [(.int (1 : Int32))]))
  refine go (fun _ kont => XS.istore X43.here hx rfl (hb hby at_537) rfl (l' := #[.val (.int p1), .val (.int p2), .val (.int p3), .val (.int p4), .val (.int (Int32.ofNat N)), .val (.int (Int32.ofNat D)), .val (.int (Int32.ofNat A)), .val (.int cc), .val (.ref b1), .val (.int (Int32.ofNat (A + D))), .val (.int (1 : Int32)), .val (.long (Int64.ofNat N)), .second]) rfl kont) ?_
  show G (T43.setTop (mkF m 539 #[.val (.int p1), .val (.int p2), .val (.int p3), .val (.int p4), .val (.int (Int32.ofNat N)), .val (.int (Int32.ofNat D)), .val (.int (Int32.ofNat A)), .val (.int cc), .val (.ref b1), .val (.int (Int32.ofNat (A + D))), .val (.int (1 : Int32)), .val (.long (Int64.ofNat N)), .second] []))
  refine go (fun _ kont => XS.iload X43.here hx rfl (hb hby at_539) rfl  kont) ?_
  show G (T43.setTop (mkF m 541 #[.val (.int p1), .val (.int p2), .val (.int p3), .val (.int p4), .val (.int (Int32.ofNat N)), .val (.int (Int32.ofNat D)), .val (.int (Int32.ofNat A)), .val (.int cc), .val (.ref b1), .val (.int (Int32.ofNat (A + D))), .val (.int (1 : Int32)), .val (.long (Int64.ofNat N)), .second] [(.int (1 : Int32))]))
  refine go (fun _ kont => XS.ifNo X43.here hx rfl (hb hby at_541) rfl ((if0 _ _).trans (feq (by decide)).1) kont) ?_
  show G (T43.setTop (mkF m 544 #[.val (.int p1), .val (.int p2), .val (.int p3), .val (.int p4), .val (.int (Int32.ofNat N)), .val (.int (Int32.ofNat D)), .val (.int (Int32.ofNat A)), .val (.int cc), .val (.ref b1), .val (.int (Int32.ofNat (A + D))), .val (.int (1 : Int32)), .val (.long (Int64.ofNat N)), .second] []))
  refine go (fun _ kont => XS.aload X43.here hx rfl (hb hby at_544) rfl rfl kont) ?_
  show G (T43.setTop (mkF m 546 #[.val (.int p1), .val (.int p2), .val (.int p3), .val (.int p4), .val (.int (Int32.ofNat N)), .val (.int (Int32.ofNat D)), .val (.int (Int32.ofNat A)), .val (.int cc), .val (.ref b1), .val (.int (Int32.ofNat (A + D))), .val (.int (1 : Int32)), .val (.long (Int64.ofNat N)), .second] [(.ref b1)]))
  refine go (fun _ kont => XS.bipush X43.here hx rfl (hb hby at_546) kont) ?_
  show G (T43.setTop (mkF m 548 #[.val (.int p1), .val (.int p2), .val (.int p3), .val (.int p4), .val (.int (Int32.ofNat N)), .val (.int (Int32.ofNat D)), .val (.int (Int32.ofNat A)), .val (.int cc), .val (.ref b1), .val (.int (Int32.ofNat (A + D))), .val (.int (1 : Int32)), .val (.long (Int64.ofNat N)), .second] [(.int (13 : Int32)), (.ref b1)]))
  refine go (fun _ kont => XS.lload X43.here hx rfl (hb hby at_548) rfl  kont) ?_
  show G (T43.setTop (mkF m 550 #[.val (.int p1), .val (.int p2), .val (.int p3), .val (.int p4), .val (.int (Int32.ofNat N)), .val (.int (Int32.ofNat D)), .val (.int (Int32.ofNat A)), .val (.int cc), .val (.ref b1), .val (.int (Int32.ofNat (A + D))), .val (.int (1 : Int32)), .val (.long (Int64.ofNat N)), .second] [(.long (Int64.ofNat N)), (.int (13 : Int32)), (.ref b1)]))
  refine go (fun _ kont => XS.iload X43.here hx rfl (hb hby at_550) rfl  kont) ?_
  show G (T43.setTop (mkF m 552 #[.val (.int p1), .val (.int p2), .val (.int p3), .val (.int p4), .val (.int (Int32.ofNat N)), .val (.int (Int32.ofNat D)), .val (.int (Int32.ofNat A)), .val (.int cc), .val (.ref b1), .val (.int (Int32.ofNat (A + D))), .val (.int (1 : Int32)), .val (.long (Int64.ofNat N)), .second] [(.int (Int32.ofNat D)), (.long (Int64.ofNat N)), (.int (13 : Int32)), (.ref b1)]))
  refine go (fun _ kont => XS.iload X43.here hx rfl (hb hby at_552) rfl  kont) ?_
  show G (T43.setTop (mkF m 554 #[.val (.int p1), .val (.int p2), .val (.int p3), .val (.int p4), .val (.int (Int32.ofNat N)), .val (.int (Int32.ofNat D)), .val (.int (Int32.ofNat A)), .val (.int cc), .val (.ref b1), .val (.int (Int32.ofNat (A + D))), .val (.int (1 : Int32)), .val (.long (Int64.ofNat N)), .second] [(.int (Int32.ofNat A)), (.int (Int32.ofNat D)), (.long (Int64.ofNat N)), (.int (13 : Int32)), (.ref b1)]))
  refine go (fun _ kont => XS.iload X43.here hx rfl (hb hby at_554) rfl  kont) ?_
  show G (T43.setTop (mkF m 556 #[.val (.int p1), .val (.int p2), .val (.int p3), .val (.int p4), .val (.int (Int32.ofNat N)), .val (.int (Int32.ofNat D)), .val (.int (Int32.ofNat A)), .val (.int cc), .val (.ref b1), .val (.int (Int32.ofNat (A + D))), .val (.int (1 : Int32)), .val (.long (Int64.ofNat N)), .second] [(.int cc), (.int (Int32.ofNat A)), (.int (Int32.ofNat D)), (.long (Int64.ofNat N)), (.int (13 : Int32)), (.ref b1)]))
  obtain ⟨_, _, ⟨T44, L44, k44, n44⟩, -, X44, ⟨Lc44, hQ44, l44, y44, z44⟩, st44⟩ := Jvm.LawKit.callS X43 hx (y := (⟨"com/example/reckoner/reckoner/core/DigitsWritePinLaw", "check", "([CIJIIC)Z"⟩ : MethodName)) hown (mvT hZ (hw _ (List.mem_of_getElem? (i := 7) rfl))) (mvT hZ (hw _ (List.mem_of_getElem? (i := 8) rfl))) (mvT hZ (hw _ (List.mem_of_getElem? (i := 9) rfl))) (mvT hZ (hw _ (List.mem_of_getElem? (i := 10) rfl))) (by decide) (backOf (W := 0) (own_rm_check l Z a0 hw [] b1 cc T43.heap n0 Z43 13 N D A (by decide) hN (by omega) hAD zs hzl V43 (hz 13 (by decide))) hZ (hw _ (List.mem_of_getElem? (i := 10) rfl)) (hw _ (List.mem_of_getElem? (i := 9) rfl)) (by decide) (by decide)) (g := (mkF m 556 #[.val (.int p1), .val (.int p2), .val (.int p3), .val (.int p4), .val (.int (Int32.ofNat N)), .val (.int (Int32.ofNat D)), .val (.int (Int32.ofNat A)), .val (.int cc), .val (.ref b1), .val (.int (Int32.ofNat (A + D))), .val (.int (1 : Int32)), .val (.long (Int64.ofNat N)), .second] [(.int cc), (.int (Int32.ofNat A)), (.int (Int32.ofNat D)), (.long (Int64.ofNat N)), (.int (13 : Int32)), (.ref b1)])) rfl (by rw [hml]; rfl) (argsL := [(.ref b1), (.int (13 : Int32)), (.long (Int64.ofNat N)), (.int (Int32.ofNat D)), (.int (Int32.ofNat A)), (.int cc)]) (rest := []) (lenOf own_pd2 rfl) rfl (by show 2 * 0 + _ ≤ _; exact Nat.le_of_eq rfl) (hb hby at_556) (fun _ _ => ⟨rfl, e43, (by decide : 14 + 1 ≤ _), (by decide : 170 + 12 ≤ _)⟩)
  dsimp only [Pt.U, Pt.locs, Pt.cells, Pt.slots] at X44 l44 y44 z44 st44 hQ44
  obtain ⟨rfl, N44q, K44⟩ := hQ44
  have N44 : Fr n0 L44 := by rw [l44]; exact Fr.app N43 N44q
  have e44 : T44.heap = T44.heap := rfl
  rw [show k44 = 15 from y44, show n44 = 182 from z44] at X44
  refine go st44 ?_
  show G (T44.setTop (mkF m 559 #[.val (.int p1), .val (.int p2), .val (.int p3), .val (.int p4), .val (.int (Int32.ofNat N)), .val (.int (Int32.ofNat D)), .val (.int (Int32.ofNat A)), .val (.int cc), .val (.ref b1), .val (.int (Int32.ofNat (A + D))), .val (.int (1 : Int32)), .val (.long (Int64.ofNat N)), .second] [(.int (1 : Int32))]))
  have Z44 : n0 ≤ T44.heap.size := Nat.le_trans Z43 K44.1
  have V44 := own_V_keep V43 K44 own_ni_0
  refine go (fun _ kont => XS.ifNo X44.here hx rfl (hb hby at_559) rfl ((if0 _ _).trans (feq (by decide)).1) kont) ?_
  show G (T44.setTop (mkF m 562 #[.val (.int p1), .val (.int p2), .val (.int p3), .val (.int p4), .val (.int (Int32.ofNat N)), .val (.int (Int32.ofNat D)), .val (.int (Int32.ofNat A)), .val (.int cc), .val (.ref b1), .val (.int (Int32.ofNat (A + D))), .val (.int (1 : Int32)), .val (.long (Int64.ofNat N)), .second] []))
  refine go (fun _ kont => XS.iconst X44.here hx rfl (hb hby at_562) kont) ?_
  show G (T44.setTop (mkF m 563 #[.val (.int p1), .val (.int p2), .val (.int p3), .val (.int p4), .val (.int (Int32.ofNat N)), .val (.int (Int32.ofNat D)), .val (.int (Int32.ofNat A)), .val (.int cc), .val (.ref b1), .val (.int (Int32.ofNat (A + D))), .val (.int (1 : Int32)), .val (.long (Int64.ofNat N)), .second] [(.int (1 : Int32))]))
  refine go (fun _ kont => XS.goto X44.here hx rfl (pc0 := 563) (pc' := 567) rfl (hb hby at_563) (by decide) (by decide) kont) ?_
  show G (T44.setTop (mkF m 567 #[.val (.int p1), .val (.int p2), .val (.int p3), .val (.int p4), .val (.int (Int32.ofNat N)), .val (.int (Int32.ofNat D)), .val (.int (Int32.ofNat A)), .val (.int cc), .val (.ref b1), .val (.int (Int32.ofNat (A + D))), .val (.int (1 : Int32)), .val (.long (Int64.ofNat N)), .second] [(.int (1 : Int32))]))
  refine go (fun _ kont => XS.istore X44.here hx rfl (hb hby at_567) rfl (l' := #[.val (.int p1), .val (.int p2), .val (.int p3), .val (.int p4), .val (.int (Int32.ofNat N)), .val (.int (Int32.ofNat D)), .val (.int (Int32.ofNat A)), .val (.int cc), .val (.ref b1), .val (.int (Int32.ofNat (A + D))), .val (.int (1 : Int32)), .val (.long (Int64.ofNat N)), .second]) rfl kont) ?_
  show G (T44.setTop (mkF m 569 #[.val (.int p1), .val (.int p2), .val (.int p3), .val (.int p4), .val (.int (Int32.ofNat N)), .val (.int (Int32.ofNat D)), .val (.int (Int32.ofNat A)), .val (.int cc), .val (.ref b1), .val (.int (Int32.ofNat (A + D))), .val (.int (1 : Int32)), .val (.long (Int64.ofNat N)), .second] []))
  refine go (fun _ kont => XS.iload X44.here hx rfl (hb hby at_569) rfl  kont) ?_
  show G (T44.setTop (mkF m 571 #[.val (.int p1), .val (.int p2), .val (.int p3), .val (.int p4), .val (.int (Int32.ofNat N)), .val (.int (Int32.ofNat D)), .val (.int (Int32.ofNat A)), .val (.int cc), .val (.ref b1), .val (.int (Int32.ofNat (A + D))), .val (.int (1 : Int32)), .val (.long (Int64.ofNat N)), .second] [(.int (1 : Int32))]))
  rw [hG]
  exact own_retN X44 hx (t := .boolean) Bd.returns (by simp) (hb hby at_571) hlk (by decide) (by decide) ⟨rfl, N44⟩
set_option maxRecDepth 65536 in
set_option maxHeartbeats 40000000 in
theorem comes_1 {Post : Tables → Env → Array Value → State → Outcome → State → Prop} (hpost : ∀ tb e args s v u, (limb_1_1.after args s (.returned v) u = true ∧ limb_1_2.after args s (.returned v) u = true ∧ True) → FrameEnd s (.returned v) u (Jvm.fieldLocs frame_1_writes args s ++ Jvm.arrayLocs frame_1_arrays args s ++ Jvm.staticLocs frame_1_statics s) 40 384 → Post tb e args s (.returned v) u) :
    ArmFor flags0 classFile x code maxLocals ret World_1 tables_1 room_1 Calls_1 rest_1 Pre_1 Post := by
  intro l hfl _ _ p e ha hc hk s m args below hf hA hF happ hP
  obtain ⟨hcalls, hrest, hpre⟩ := hP
  obtain ⟨-, -, -, hnamed, -, -, -, hat⟩ := (Spec.applies_iff hf).mp happ
  obtain ⟨hg, hn⟩ := and_e (Cond.before_iff.mp (show (Jvm.Cond.and given_1 narrow_1).before args s = true from hpre))
  obtain ⟨hcnt, ha0⟩ := and_e hg
  obtain ⟨hk0, ha1⟩ := and_e ha0
  obtain ⟨hk1, ha2⟩ := and_e ha1
  obtain ⟨hk2, ha3⟩ := and_e ha2
  have hk3 := ha3
  obtain ⟨w0, w1, w2, w3, rfl⟩ : ∃ w0 w1 w2 w3 : Value, args = #[w0, w1, w2, w3] := by
    have hs : args.size = 4 := by simpa [Cond.value, given_1] using hcnt
    obtain ⟨L⟩ := args
    match L, hs with
    | [w0, w1, w2, w3], _ => exact ⟨w0, w1, w2, w3, rfl⟩
  have hw := fun d (hd : d ∈ tables_1) => atoms_spec (ws := Jvm.Cond.code x code maxLocals ret :: tables_1) hat d (List.mem_cons_of_mem _ hd)
  have hfit : Fit s := fun {y c} hc i hi => by
    obtain ⟨ha, rfl⟩ := Array.getElem?_eq_some_iff.mp hc
    have q := List.all_eq_true.mp ((Array.all_eq_true_iff_forall_mem.mp hF) _ (Array.getElem_mem ha)) i (List.mem_range.mpr hi)
    simpa [Array.getElem?_eq_getElem hi] using q
  obtain ⟨i0, ei0⟩ := is_v hk0
  obtain rfl : w0 = (.int i0) := Option.some.inj ei0
  obtain ⟨i1, ei1⟩ := is_v hk1
  obtain rfl : w1 = (.int i1) := Option.some.inj ei1
  obtain ⟨i2, ei2⟩ := is_v hk2
  obtain rfl : w2 = (.int i2) := Option.some.inj ei2
  obtain ⟨i3, ei3⟩ := is_v hk3
  obtain rfl : w3 = (.int i3) := Option.some.inj ei3
  obtain ⟨n, o, h1, h2, h3, _, L, rfl, ⟨rfl, N⟩, hq⟩ := own_rm_law l s _ hw tables_1 i0 i1 i2 i3 s.heap s.heap.size (Nat.le_refl _)  p e ha hc hk s m _ below hf ((Spec.applies_iff_loose hf).mp happ).1 ⟨rfl, State.Warmed39.refl s, rfl⟩ trivial
  refine ⟨n, _, h1, h2, h3, hpost _ _ _ _ _ _ ⟨Cond.after_iff.mpr rfl, Cond.after_iff.mpr (eq_i res_at (Term.int_eval (1)) rfl), trivial⟩ ⟨hq.1, hq.2.1, (hq.2.2.sift fun y hy => Or.inr (N y hy)).mono (by decide) (by decide)⟩⟩
theorem main_1_1 : Claimed_1_1 := comes_1 fun _ _ _ _ _ _ h hF => ⟨h.1, hF⟩
theorem main_1_2 : Claimed_1_2 := comes_1 fun _ _ _ _ _ _ h hF => ⟨h.2.1, hF⟩
end Jvm.Pilot.@@N@@
namespace Jvm.Pilot.@@N@@
open Jvm Jvm.ClassFile Sem Op Lib Jvm.Free Jvm.Stand Jvm.Pilot.@@N@@.Jvm.D
/-! MADE BY PROGRAM (witnessworld.py) out of the Statement's table words and the real class files: 13 classes; the members and pool entries that the words name. The judged class is class 1, her method 3. -/
namespace start1
open Jvm.ClassFile
def u (s : String) : CpInfo := .utf8 (stringToUtf16 s)
/-- a pool by its gaps: so many unusable entries, then the entry; so many at the end -/
def gap : Nat → List CpInfo → List CpInfo
  | 0, r => r
  | n + 1, r => .unusable :: gap n r
def poolList (es : List (Nat × CpInfo)) (last : Nat) : List CpInfo := es.foldr (fun e r => gap e.1 (e.2 :: r)) (gap last [])
def pool (es : List (Nat × CpInfo)) (last : Nat) : Array CpInfo := ⟨poolList es last⟩
def fileOf (pool : Array CpInfo) (this : Nat) (attrs : Array Attribute := #[]) (ms : Array MethodInfo := #[]) (fl : Nat := 33) (sup : Nat := 0) (ifs : Array Nat := #[]) (fds : Array FieldInfo := #[]) : ClassFile where
  minorVersion := 0
  majorVersion := 65
  constantPool := pool
  accessFlags := fl
  thisClass := this
  superClass := sup
  interfaces := ifs
  fields := fds
  methods := ms
  attributes := attrs
def plain (name : String) (sup : Option ClassId) : Class where
  name := name
  kind := .ordinary
  loader := none
  accessFlags := 33
  super := sup
  interfaces := #[]
  cf := none
  fields := #[]
  methods := #[]
  instanceTypes := #[]
  staticTypes := #[]
  resolved := #[]
  callSites := []
  init := .initialized
  statics := none
  mirror := none

def pool0 : Array CpInfo := pool [(5, u "<init>"), (0, u "()V"), (1, .class_ 10), (1, u "java/lang/Object")] 113

def k0m0 : Method := { name := "<init>", desc := "()V", sig := { parameters := [], returnType := none }, accessFlags := 1, code := none }
/-- java/lang/Object -/
def k0 : Class := { plain "java/lang/Object" none with
  accessFlags := 33
  interfaces := #[]
  cf := some (fileOf pool0 8 #[] #[{ accessFlags := 1, nameIndex := 5, descriptorIndex := 6, attributes := #[] }] 33 0 #[] #[])
  fields := #[]
  methods := #[k0m0]
  instanceTypes := #[]
  staticTypes := #[]
  resolved := Array.replicate 124 none
  statics := none }

def pool1 : Array CpInfo := pool [(2, .class_ 4), (1, u "java/lang/Object"), (0, u "<init>"), (0, u "()V"), (0, .long 10), (1, .long 100), (1, .long 1000), (1, .long 10000), (1, .long 100000), (1, .long 1000000), (1, .long 10000000), (1, .long 100000000), (1, .long 1000000000), (1, .long 10000000000), (1, .long 100000000000), (1, .methodref 30 31), (0, .class_ 32), (0, .nameAndType 33 34), (0, u "com/example/reckoner/reckoner/core/DigitsWritePinLaw"), (0, u "pow10"), (0, u "(I)J"), (0, .integer 2147483647), (0, .integer 65535), (0, .methodref 38 39), (0, .class_ 40), (0, .nameAndType 41 42), (0, u "com/example/reckoner/reckoner/core/Digits"), (0, u "write"), (0, u "(II[CI)I"), (0, .methodref 30 44), (0, .nameAndType 45 46), (0, u "check"), (0, u "([CIJIIC)Z"), (3, u "law"), (0, u "(IIII)Z")] 4

def k1m0 : Method := { name := "<init>", desc := "()V", sig := { parameters := [], returnType := none }, accessFlags := 2, code := none }
def k1c1 : Code := { maxStack := 5, maxLocals := 2, code := method_2_code, exceptionTable := #[], attributes := #[] }
def k1m1 : Method := { name := "pow10", desc := "(I)J", sig := { parameters := [.int], returnType := some .long }, accessFlags := 10, code := some k1c1 }
def k1c2 : Code := { maxStack := 5, maxLocals := 9, code := method_3_code, exceptionTable := #[], attributes := #[] }
def k1m2 : Method := { name := "check", desc := "([CIJIIC)Z", sig := { parameters := [(.array .char), .int, .long, .int, .int, .char], returnType := some .boolean }, accessFlags := 10, code := some k1c2 }
def k1c3 : Code := { maxStack := 7, maxLocals := 13, code := code, exceptionTable := #[], attributes := #[] }
def k1m3 : Method := { name := "law", desc := "(IIII)Z", sig := { parameters := [.int, .int, .int, .int], returnType := some .boolean }, accessFlags := 9, code := some k1c3 }
/-- com/example/reckoner/reckoner/core/DigitsWritePinLaw -/
def k1 : Class := { plain "com/example/reckoner/reckoner/core/DigitsWritePinLaw" (some 0) with
  accessFlags := 49
  interfaces := #[]
  cf := some (fileOf pool1 30 #[] #[{ accessFlags := 2, nameIndex := 5, descriptorIndex := 6, attributes := #[] }, { accessFlags := 10, nameIndex := 33, descriptorIndex := 34, attributes := #[] }, { accessFlags := 10, nameIndex := 45, descriptorIndex := 46, attributes := #[] }, { accessFlags := 9, nameIndex := 50, descriptorIndex := 51, attributes := #[] }] 49 2 #[] #[])
  fields := #[]
  methods := #[k1m0, k1m1, k1m2, k1m3]
  instanceTypes := #[]
  staticTypes := #[]
  resolved := Array.replicate 56 none
  statics := none }

def pool2 : Array CpInfo := pool [(2, .class_ 4), (1, u "java/lang/Object"), (0, u "<init>"), (0, u "()V"), (1, .class_ 10), (1, u "com/example/reckoner/reckoner/core/Digits"), (0, u "POWERS"), (0, u "[J"), (11, u "write"), (0, u "(II[CI)I")] 4

def k2m0 : Method := { name := "<init>", desc := "()V", sig := { parameters := [], returnType := none }, accessFlags := 2, code := none }
def k2c1 : Code := { maxStack := 5, maxLocals := 6, code := prog_23_method_3_code, exceptionTable := #[], attributes := #[] }
def k2m1 : Method := { name := "write", desc := "(II[CI)I", sig := { parameters := [.int, .int, (.array .char), .int], returnType := some .int }, accessFlags := 9, code := some k2c1 }
/-- com/example/reckoner/reckoner/core/Digits -/
def k2 : Class := { plain "com/example/reckoner/reckoner/core/Digits" (some 0) with
  accessFlags := 49
  interfaces := #[]
  cf := some (fileOf pool2 8 #[] #[{ accessFlags := 2, nameIndex := 5, descriptorIndex := 6, attributes := #[] }, { accessFlags := 9, nameIndex := 24, descriptorIndex := 25, attributes := #[] }] 49 2 #[] #[{ accessFlags := 26, nameIndex := 11, descriptorIndex := 12, attributes := #[] }])
  fields := #[{ name := "POWERS", type := (.array .long), accessFlags := 26, slot := 0, constantValue := 0 }]
  methods := #[k2m0, k2m1]
  instanceTypes := #[]
  staticTypes := #[(.array .long)]
  resolved := Array.replicate 30 none
  statics := none }

def pool3 : Array CpInfo := pool [(1, u "java/lang/Cloneable"), (0, .class_ 1), (0, u "java/lang/Object"), (0, .class_ 3)] 3

/-- java/lang/Cloneable -/
def k3 : Class := { plain "java/lang/Cloneable" (some 0) with
  accessFlags := 1537
  interfaces := #[]
  cf := some (fileOf pool3 2 #[] #[] 1537 4 #[] #[])
  fields := #[]
  methods := #[]
  instanceTypes := #[]
  staticTypes := #[]
  resolved := Array.replicate 8 none
  statics := none }

def pool4 : Array CpInfo := pool [(1, u "java/io/Serializable"), (0, .class_ 1), (0, u "java/lang/Object"), (0, .class_ 3)] 3

/-- java/io/Serializable -/
def k4 : Class := { plain "java/io/Serializable" (some 0) with
  accessFlags := 1537
  interfaces := #[]
  cf := some (fileOf pool4 2 #[] #[] 1537 4 #[] #[])
  fields := #[]
  methods := #[]
  instanceTypes := #[]
  staticTypes := #[]
  resolved := Array.replicate 8 none
  statics := none }

/-- the primitive byte -/
def k5 : Class := { plain "byte" none with kind := .primitive 'B', accessFlags := 0x411 }
/-- [B -/
def k6 : Class := { plain "[B" (some 0) with kind := .array 5 .byte, interfaces := #[3, 4], accessFlags := 1041 }

/-- the primitive char -/
def k7 : Class := { plain "char" none with kind := .primitive 'C', accessFlags := 0x411 }
/-- [C -/
def k8 : Class := { plain "[C" (some 0) with kind := .array 7 .char, interfaces := #[3, 4], accessFlags := 1041 }

/-- the primitive int -/
def k9 : Class := { plain "int" none with kind := .primitive 'I', accessFlags := 0x411 }
/-- [I -/
def k10 : Class := { plain "[I" (some 0) with kind := .array 9 .int, interfaces := #[3, 4], accessFlags := 1041 }

/-- the primitive long -/
def k11 : Class := { plain "long" none with kind := .primitive 'J', accessFlags := 0x411 }
/-- [J -/
def k12 : Class := { plain "[J" (some 0) with kind := .array 11 .long, interfaces := #[3, 4], accessFlags := 1041 }

def heap : Heap := #[]
def classes : Array Class := #[k0, k1, k2, k3, k4, k5, k6, k7, k8, k9, k10, k11, k12]
def interned : List (Array UInt16 × Addr) := []
def slotsUsed : Nat := 0
def theMethod : MethodId := ⟨1, 3⟩
def args0 : Array Value := #[.int 5, .int 1, .int 1, .int 65]
def aboutOver (below : List Frame) : State where
  vm := { classes := classes, interned := interned.toArray }
  heap := heap
  slotsUsed := slotsUsed
  threads := #[{ frames := .invoking theMethod args0 :: below }]
def below0 : List Frame := [.native { method := ⟨0, 0⟩, args := #[] }]
def about1 : State := aboutOver below0
def p0 : Program := .bare "" "" ""
def e0 : Env := launch0.env 0 0 0
theorem w_frames : about1.frames = Frame.invoking theMethod args0 :: below0 := rfl
set_option maxRecDepth 65536 in
theorem w_args : argsFit about1.vm theMethod args0 = true := by decide +kernel
set_option maxRecDepth 65536 in
theorem w_heap : heapFits about1 = true := by decide +kernel
set_option maxRecDepth 65536 in
theorem w_runnable : about1.curStatus? = some .runnable := by decide +kernel
set_option maxRecDepth 65536 in
theorem w_alone : about1.alone = true := by decide +kernel
set_option maxRecDepth 65536 in
theorem w_named : about1.methodNamed? x = some theMethod := by decide +kernel
set_option maxRecDepth 65536 in
theorem w_hears : about1.hears theMethod below0 = true := by decide +kernel
set_option maxRecDepth 65536 in
theorem w_ripe : about1.ripe theMethod args0 below0 = true := by decide +kernel
theorem w_running : about1.status = .running := rfl
set_option maxRecDepth 65536 in
theorem w_room : about1.hasRoom e0.platform room_1 = true :=
  launch0.hasRoom_least _ room_1 (by decide +kernel) (by decide +kernel) (by decide +kernel) (by decide +kernel) (by decide +kernel) (by decide +kernel)
theorem allAtoms_all (ts : List Jvm.Cond) (a : Array Jvm.Value) (st : Jvm.State) : (allAtoms ts).before a st = ts.all (fun c => c.before a st) := by
  induction ts with
  | nil => rfl
  | cons c t ih =>
    show (Jvm.Cond.and c (allAtoms t)).before a st = _
    rw [Jvm.Cond.before_and, ih, List.all_cons]
def words1 : List Jvm.Cond := Jvm.Cond.code x code maxLocals ret :: tables_1
/-- a 'code' word, met by the world's own term for the bytes: nothing is compared byte by byte -/
theorem code_word {y : MethodName} {bytes : ByteArray} {mx : Nat} {rt : Option FieldType} {a : Array Value} {s : State} {m : MethodId} {meth : Method} {c : Code} (h1 : s.methodNamed? y = some m) (h2 : s.vm.method? m = some meth) (h3 : meth.code = some c) (h4 : c.code = bytes)
    (h5 : (c.maxLocals == mx && c.exceptionTable.isEmpty && decide (c.maxStack ≤ mostOperands) && decide (meth.sig.returnType = rt) && !meth.locks && decide (parseMethodDescriptor y.desc = some meth.sig)) = true) : (Jvm.Cond.code y bytes mx rt).before a s = true := by
  simp only [Bool.and_eq_true, beq_iff_eq, Bool.not_eq_true', decide_eq_true_eq] at h5
  obtain ⟨⟨⟨⟨⟨g1, g2⟩, g3⟩, g4⟩, g5⟩, g6⟩ := h5
  simp [Cond.before, Cond.holds, Cond.value, h1, h2, h3, h4, g1, g2, g3, g4, g5, g6]
def isCode : Jvm.Cond → Bool
  | .code _ _ _ _ => true
  | _ => false
theorem all_split {L : List Jvm.Cond} {P : Jvm.Cond → Bool} (h1 : L.all (fun c => isCode c || P c) = true) (h2 : ∀ c ∈ L.filter isCode, P c = true) : L.all P = true := by
  refine List.all_eq_true.mpr fun c hc => ?_
  have h := List.all_eq_true.mp h1 c hc
  rcases Bool.eq_false_or_eq_true (isCode c) with hi | hi
  · exact h2 c (List.mem_filter.mpr ⟨hc, hi⟩)
  · simpa [hi] using h
set_option maxRecDepth 65536 in
theorem w_c0 : (Jvm.Cond.code x code maxLocals ret).before args0 about1 = true := code_word (m := ⟨1, 3⟩) (meth := k1m3) (c := k1c3) (by decide +kernel) rfl rfl rfl (by decide +kernel)
set_option maxRecDepth 65536 in
theorem w_c1 : (Jvm.Cond.code ({ cls := "com/example/reckoner/reckoner/core/Digits", name := "write", desc := "(II[CI)I" } : Jvm.MethodName) prog_23_method_3_code (6 : Nat) (Option.some Jvm.ClassFile.FieldType.int)).before args0 about1 = true := code_word (m := ⟨2, 1⟩) (meth := k2m1) (c := k2c1) (by decide +kernel) rfl rfl rfl (by decide +kernel)
set_option maxRecDepth 65536 in
theorem w_c2 : (Jvm.Cond.code ({ cls := "com/example/reckoner/reckoner/core/DigitsWritePinLaw", name := "check", desc := "([CIJIIC)Z" } : Jvm.MethodName) method_3_code (9 : Nat) (Option.some Jvm.ClassFile.FieldType.boolean)).before args0 about1 = true := code_word (m := ⟨1, 2⟩) (meth := k1m2) (c := k1c2) (by decide +kernel) rfl rfl rfl (by decide +kernel)
set_option maxRecDepth 65536 in
theorem w_c3 : (Jvm.Cond.code ({ cls := "com/example/reckoner/reckoner/core/DigitsWritePinLaw", name := "pow10", desc := "(I)J" } : Jvm.MethodName) method_2_code (2 : Nat) (Option.some Jvm.ClassFile.FieldType.long)).before args0 about1 = true := code_word (m := ⟨1, 1⟩) (meth := k1m1) (c := k1c1) (by decide +kernel) rfl rfl rfl (by decide +kernel)
def codes1 : List Jvm.Cond := [Jvm.Cond.code x code maxLocals ret, Jvm.Cond.code ({ cls := "com/example/reckoner/reckoner/core/Digits", name := "write", desc := "(II[CI)I" } : Jvm.MethodName) prog_23_method_3_code (6 : Nat) (Option.some Jvm.ClassFile.FieldType.int), Jvm.Cond.code ({ cls := "com/example/reckoner/reckoner/core/DigitsWritePinLaw", name := "check", desc := "([CIJIIC)Z" } : Jvm.MethodName) method_3_code (9 : Nat) (Option.some Jvm.ClassFile.FieldType.boolean), Jvm.Cond.code ({ cls := "com/example/reckoner/reckoner/core/DigitsWritePinLaw", name := "pow10", desc := "(I)J" } : Jvm.MethodName) method_2_code (2 : Nat) (Option.some Jvm.ClassFile.FieldType.long)]
set_option maxRecDepth 65536 in
theorem codes_eq : words1.filter isCode = codes1 := rfl
theorem w_codes : ∀ c ∈ words1.filter isCode, c.before args0 about1 = true := by
  rw [codes_eq]
  intro c hc
  simp only [codes1, List.mem_cons, List.not_mem_nil, or_false] at hc
  rcases hc with rfl | rfl | rfl | rfl
  · exact w_c0
  · exact w_c1
  · exact w_c2
  · exact w_c3
set_option maxRecDepth 65536 in
theorem w_t1 : (words1.take 24).all (fun c => isCode c || c.before args0 about1) = true := by decide +kernel
set_option maxRecDepth 65536 in
theorem w_t2 : (words1.drop 24).all (fun c => isCode c || c.before args0 about1) = true := by decide +kernel
theorem w_tables : (allAtoms (Jvm.Cond.code x code maxLocals ret :: tables_1)).before args0 about1 = true := by
  rw [allAtoms_all]
  show words1.all (fun c => c.before args0 about1) = true
  refine all_split ?_ w_codes
  rw [← List.take_append_drop 24 words1, List.all_append, w_t1, w_t2]
  rfl
set_option maxRecDepth 65536 in
theorem w_case : (Jvm.Cond.and given_1 narrow_1).before args0 about1 = true := by decide +kernel
theorem w_applies : (headSpec (Jvm.Cond.code x code maxLocals ret :: tables_1) room_1).applies x e0.platform about1 = true :=
  (Spec.applies_iff w_frames).mpr ⟨w_running, w_runnable, w_alone, w_named, w_hears, w_ripe, w_room, w_tables⟩
theorem atStart : AtStart classFile x code maxLocals ret World_1 tables_1 room_1 Calls_1 rest_1 Pre_1 launch0 p0 e0 about1 theMethod args0 below0 :=
  ⟨lists_1, trivial, launch0.admits_env _ _ _, launch0.least_env, fairChoices_fair.cas, fairChoices_fair.clock, w_frames, w_args, w_heap, w_applies, trivial, trivial, w_case⟩
end start1
theorem witness_1 : WitnessClaimed_1 := ⟨start1.p0, start1.e0, start1.about1, start1.theMethod, start1.args0, start1.below0, start1.atStart⟩
end Jvm.Pilot.@@N@@
